import JvmDerived
import JvmDerived.Pilot.@@N@@Statement
import JvmDerived.Pilot.@@N@@Code
set_option linter.unusedVariables false
set_option linter.unusedSimpArgs false
namespace Jvm.RoadKit
open Sem ClassFile Op Lib Jvm.Stand Jvm.Free Jvm.LawKit
section New
variable {p : Program} {l : Launch} {e : Env} {R : Room} {s : State} {m : MethodId} {args : Array Value} {below : List Frame} {meth : Method} {c : Code} {T : State} {locs : List Loc} {cells slots : Nat}
theorem retI (X : Stand p l e R s m args below meth c T locs cells slots) (hx : p.tables.exec = Jvm.exec) {pc : Nat} {Ls : Array Slot} {z : Int32} {rest : List Value} (hret : meth.sig.returnType = some .int) (hd : decode c.code pc = .ok (.ireturn, 1)) {fs : List Frame}
    (hl : ∀ (f : JFrame) (acts : List Action), f.method = m → f.locked = none → f.entered = [] → (doReturn e (T.setTop f) acts (some (.int z))).1 = T.setFrames fs) : Steps p.tables e below (T.setTop (mkF m pc Ls (.int z :: rest))) (T.setFrames fs) := by
  have hm' : T.vm.method? m = some meth := X.method'
  have hn : narrow .int (.int z) = .int z := rfl
  show Steps p.tables e below (T.setTop { method := m, pc := pc, locals := Ls, stack := _ :: rest, locked := none }) _
  jvm_step X.here [X.here.top, hx, hd, hm', hret, hn]
  first | (intro acts; rw [hl _ acts rfl rfl rfl]) | rw [hl _ _ rfl rfl rfl]
  exact Steps.refl _
end New
end Jvm.RoadKit
namespace Jvm.Pilot.@@N@@
open Jvm Jvm.ClassFile Sem Op Lib Jvm.Free Jvm.Stand Jvm.LawKit Jvm.RoadKit Bundle Jvm.Pilot.@@N@@.Jvm.D
theorem own_arrKeep {Z : State} {h h' : Heap} {a : Addr} {c : Cell} {ty : FieldType} {ws : List Addr} (A : Arr Z h a c ty) (K : Keep h h' ws) (q : a ∉ ws) : Arr Z h' a c ty := ⟨K.2.1 _ _ A.1 q, A.2⟩
theorem own_exaPlain {Z : State} {h : Heap} {a : Addr} {C : String} (E : Exa Z h a C) : ∀ c : Cell, h[a]? = some c → c.vm.isStatics = false := fun c hc => by
  obtain ⟨cell, k, h1, -, -, h4, -⟩ := E
  cases h1.symm.trans hc
  exact h4
theorem own_staKeep {Z : State} {h h' : Heap} {C n d : String} {v : Value} {ws : List Addr} (F : Sta Z h C n d v) (K : Keep h h' ws) (q : ∀ x ∈ ws, ∀ c : Cell, h[x]? = some c → c.vm.isStatics = false) : Sta Z h' C n d v := by
  obtain ⟨cf, i, k, f, st, cell, h1, h2, h3, h4, h5, h6, h7⟩ := F
  refine ⟨cf, i, k, f, st, cell, h1, h2, h3, h4, K.2.1 _ _ h5 fun m => ?_, h6, h7⟩
  rw [q st m cell h5] at h6
  cases h6
theorem own_cs {args : Array Value} {s : State} {t : Term} {w : Int32} (ev : t.eval args s none [] s = some (.int w)) (h : (Cond.not (Cond.eq t (Term.int (0 : Int32)))).value args s none s [] = some true) : ¬ (w = (0 : Int32)) := fun q => by
  have e : (Cond.eq t (Term.int (0 : Int32))).value args s none s [] = some (decide (w = (0 : Int32))) := Cond.eq_ints ev (Term.int_eval (0 : Int32))
  simp [Cond.value] at h
  simp [Cond.value] at e
  subst q
  simp_all
def own_EL : List (String × Nat) := [("com/example/partybook/partybook/io/XmlInputIsOneOfPinLaw", 25)]
theorem own_mem : ("com/example/partybook/partybook/io/XmlInputIsOneOfPinLaw", 25) ∈ own_EL := List.mem_cons_self
theorem own_endW {s t : State} {L : List Loc} {k n kX : Nat} {vmX : Vm} {v : Option Value} (hS : s.Since vmX kX) (hk : kX ≤ t.heap.size) (hW : (s.setVm vmX).WarmedH t.vm) (hsame : (s.setVm vmX).sameButNew ({ t with vm := (s.setVm vmX).vm } : State) L k n) : ReturnedEndW s (.returned v) t L k n :=
  have q := hS.trans (hW.since t.heap.size) hk
  ⟨⟨v, rfl⟩, q.1, q.2, hsame.setVm s.vm⟩
theorem own_safeNull {Z : State} {h : Heap} {EL : List (String × Nat)} {vm : Vm} {a : Addr} {a0 : Array Value} {n : Nat} (hZ : Z.Warmed39 vm) (wi : (Cond.instantiable "java/lang/String" n).before a0 Z = true) (E : Exa Z h a "java/lang/String") (F : Fld Z h a "java/lang/String" "value" "[B" .null) : Safe Z EL vm h a := fun B => by
  have hal := hZ.alike
  obtain ⟨p, hp, u, a', hb, q, hqa, S, hy⟩ := B
  obtain ⟨cS, ⟨⟨s1, s2, s3, ⟨cv, kv, iv, s4, s4'⟩, -, s6, -, s8, -, s10, s11, s12, -⟩, -, -⟩, -⟩ := S
  obtain ⟨kv', z4⟩ := Jvm.RoadKit.ff_back (U := Wst Z vm h) hal s4
  rcases hy with rfl | rfl
  · exact Fld.ne F (⟨q.sC, cv, kv', iv, q.fSV, s1, z4, s6, s2, s3, by rw [← hal.assignable]; exact s4', s8⟩ : Fld Z h q.sa "java/lang/String" "value" "[B" (.ref q.sd)) (by simp) rfl
  · obtain ⟨hst, k9, hk9, comp, hkind9⟩ := s11
    obtain ⟨cell, k1, e1, e2, e3, -⟩ := E
    obtain ⟨c2, k2, i1, i2, i3, -⟩ := Cond.instantiable_spec wi
    cases e2.symm.trans i1
    cases e3.symm.trans i2
    have s10' : h[q.sd]? = some q.SA := s10
    cases e1.symm.trans s10'
    obtain ⟨k', q1, q2⟩ := hal.2.2 _ _ e3
    have hk9' : vm.classes[q.SA.cls]? = some k9 := hk9
    cases q1.symm.trans hk9'
    rw [q2] at hkind9
    rw [show ({ k1 with resolved := _, callSites := _, nestHost := _ } : Class).kind = k1.kind from rfl] at hkind9
    rw [i3] at hkind9; cases hkind9
def own_Str (Z : State) (h : Heap) (a : Addr) (L : List Int32) : Prop := Exa Z h a "java/lang/String" ∧ Fld Z h a "java/lang/String" "coder" "B" (.int (0 : Int32)) ∧ ∃ (b : Addr) (k : ClassId), Fld Z h a "java/lang/String" "value" "[B" (.ref b) ∧ Arv Z h b k .byte (Int32.ofNat L.length) (L.map Value.int) (.int (0 : Int32))
theorem own_Str.lt {Z : State} {h : Heap} {a : Addr} {L : List Int32} (F : own_Str Z h a L) : a < h.size := F.1.lt
theorem own_Str.ext {Z : State} {h h' : Heap} {a : Addr} {L : List Int32} (F : own_Str Z h a L) (E : Ext h h') : own_Str Z h' a L := by
  obtain ⟨f1, f2, b, k, f3, f4⟩ := F
  exact ⟨f1.ext E, f2.ext E, b, k, f3.ext E, f4.ext E⟩
theorem own_Str.keep0 {Z : State} {h h' : Heap} {a : Addr} {L : List Int32} (F : own_Str Z h a L) (K : Keep h h' []) : own_Str Z h' a L := by
  obtain ⟨f1, f2, b, k, f3, f4⟩ := F
  exact ⟨f1.keep K, f2.keep K nin0, b, k, f3.keep K nin0, f4.keep K nin0⟩
theorem own_Str.keep1 {Z : State} {h h' : Heap} {a x : Addr} {L : List Int32} {C : String} {a0 : Array Value} {n : Nat} (F : own_Str Z h a L) (K : Keep h h' [x]) (E : Exa Z h x C) (wi : (Cond.instantiable C n).before a0 Z = true) (hn : C ≠ "java/lang/String") : own_Str Z h' a L := by
  obtain ⟨f1, f2, b, k, f3, f4⟩ := F
  have n1 : a ≠ x := fun q => (ne_exa E f1 hn) q.symm
  have n2 : b ≠ x := fun q => (Exa.neArv E f4 wi) q.symm
  exact ⟨f1.keep K, f2.keep K (ninS n1 nin0), b, k, f3.keep K (ninS n1 nin0), f4.keep K (ninS n2 nin0)⟩
theorem own_Str.wr {Z : State} {h h' : Heap} {a x : Addr} {L : List Int32} {c : Cell} {ty : FieldType} {a0 : Array Value} {n sl : Nat} {v : Value} (F : own_Str Z h a L) (W : Wr h h' x sl v) (A : Arr Z h x c ty) (wi : (Cond.instantiable "java/lang/String" n).before a0 Z = true) (ht : ty ≠ .byte) : own_Str Z h' a L := by
  obtain ⟨f1, f2, b, k, f3, f4⟩ := F
  have n1 : a ≠ x := ne_arr f1 wi A
  have n2 : b ≠ x := fun q => by
    subst q
    obtain ⟨c', A', -⟩ := f4
    cases A.1.symm.trans A'.1
    obtain ⟨-, k1, h1, p1, e1⟩ := A.2.1
    obtain ⟨-, k2, h2, p2, e2⟩ := A'.2.1
    cases h1.symm.trans h2
    rw [e1] at e2
    injection e2 with _ e3
    exact ht e3
  exact ⟨f1.wr W, f2.other W (Or.inl n1), b, k, f3.other W (Or.inl n1), f4.other W n2⟩
theorem own_Str.inj {Z : State} {h : Heap} {a : Addr} {L1 L2 : List Int32} (F : own_Str Z h a L1) (G : own_Str Z h a L2) (h1 : L1.length ≤ 3) (h2 : L2.length ≤ 3) : L1 = L2 := by
  obtain ⟨-, -, b, k, f3, f4⟩ := F
  obtain ⟨-, -, b', k', g3, g4⟩ := G
  have eb : b = b' := by
    by_cases q : b = b'
    · exact q
    · exact absurd rfl (Fld.ne f3 g3 (fun e => q (Value.ref.inj e)))
  subst eb
  obtain ⟨c, A, -, S, -, H, -⟩ := f4
  obtain ⟨c', A', -, S', -, H', -⟩ := g4
  cases A.1.symm.trans A'.1
  have t1 : (Int32.ofNat L1.length).toNatClampNeg = L1.length := by
    simp only [Int32.toNatClampNeg]; rw [Int32.toInt_ofNat_of_lt (by omega)]; omega
  have t2 : (Int32.ofNat L2.length).toNatClampNeg = L2.length := by
    simp only [Int32.toNatClampNeg]; rw [Int32.toInt_ofNat_of_lt (by omega)]; omega
  rw [t1] at S
  rw [t2] at S'
  refine List.ext_getElem (by omega) fun i i1 i2 => ?_
  have q1 := H i (by omega)
  have q2 := H' i (by omega)
  rw [q1] at q2
  have q3 := Option.some.inj q2
  rw [List.getD_eq_getElem?_getD, List.getD_eq_getElem?_getD, List.getElem?_map, List.getElem?_map, List.getElem?_eq_getElem i1, List.getElem?_eq_getElem i2] at q3
  exact Value.int.inj q3
theorem own_wS {Z : State} {a0 : Array Value} (hw : ∀ d ∈ tables_1, d.before a0 Z = true) : ∀ a ∈ Bundle.stringAtoms, a.before a0 Z = true := fun d hd => by
  simp only [Bundle.stringAtoms, List.mem_cons, List.not_mem_nil, or_false] at hd
  rcases hd with rfl | rfl | rfl | rfl | rfl | rfl | rfl
  · exact (hw _ (List.mem_of_getElem? (i := 5) rfl))
  · exact (hw _ (List.mem_of_getElem? (i := 6) rfl))
  · exact (hw _ (List.mem_of_getElem? (i := 7) rfl))
  · exact (hw _ (List.mem_of_getElem? (i := 8) rfl))
  · exact (hw _ (List.mem_of_getElem? (i := 9) rfl))
  · exact (hw _ (List.mem_of_getElem? (i := 10) rfl))
  · exact (hw _ (List.mem_of_getElem? (i := 11) rfl))
theorem own_hEL {Z : State} {a0 : Array Value} (hw : ∀ d ∈ tables_1, d.before a0 Z = true) : EW Z a0 own_EL := (EW.cons (text := "") (hw _ (List.mem_of_getElem? (i := 4) rfl)) (by simp) EW.nil)

theorem own_d14_0 : decode jdk_52_method_21_code 0 = .ok (.iconst 0, 1) := by decide +kernel
theorem own_d14_1 : decode jdk_52_method_21_code 1 = .ok (.istore 5, 2) := by decide +kernel
theorem own_d14_3 : decode jdk_52_method_21_code 3 = .ok (.iload 5, 2) := by decide +kernel
theorem own_d14_5 : decode jdk_52_method_21_code 5 = .ok (.iload 4, 2) := by decide +kernel
theorem own_d14_7 : decode jdk_52_method_21_code 7 = .ok (.if_icmp .ge 37, 3) := by decide +kernel
theorem own_d14_10 : decode jdk_52_method_21_code 10 = .ok (.aload_n 0, 1) := by decide +kernel
theorem own_d14_11 : decode jdk_52_method_21_code 11 = .ok (.iload_n 1, 1) := by decide +kernel
theorem own_d14_12 : decode jdk_52_method_21_code 12 = .ok (.caload, 1) := by decide +kernel
theorem own_d14_13 : decode jdk_52_method_21_code 13 = .ok (.istore 6, 2) := by decide +kernel
theorem own_d14_15 : decode jdk_52_method_21_code 15 = .ok (.iload 6, 2) := by decide +kernel
theorem own_d14_17 : decode jdk_52_method_21_code 17 = .ok (.sipush 255, 3) := by decide +kernel
theorem own_d14_20 : decode jdk_52_method_21_code 20 = .ok (.if_icmp .le 6, 3) := by decide +kernel
theorem own_d14_26 : decode jdk_52_method_21_code 26 = .ok (.aload_n 2, 1) := by decide +kernel
theorem own_d14_27 : decode jdk_52_method_21_code 27 = .ok (.iload_n 3, 1) := by decide +kernel
theorem own_d14_28 : decode jdk_52_method_21_code 28 = .ok (.iload 6, 2) := by decide +kernel
theorem own_d14_30 : decode jdk_52_method_21_code 30 = .ok (.i2b, 1) := by decide +kernel
theorem own_d14_31 : decode jdk_52_method_21_code 31 = .ok (.bastore, 1) := by decide +kernel
theorem own_d14_32 : decode jdk_52_method_21_code 32 = .ok (.iinc 1 1, 3) := by decide +kernel
theorem own_d14_35 : decode jdk_52_method_21_code 35 = .ok (.iinc 3 1, 3) := by decide +kernel
theorem own_d14_38 : decode jdk_52_method_21_code 38 = .ok (.iinc 5 1, 3) := by decide +kernel
theorem own_d14_41 : decode jdk_52_method_21_code 41 = .ok (.goto (-38), 3) := by decide +kernel
theorem own_d14_44 : decode jdk_52_method_21_code 44 = .ok (.iload 4, 2) := by decide +kernel
theorem own_d14_46 : decode jdk_52_method_21_code 46 = .ok (.ireturn, 1) := by decide +kernel
theorem own_pn0 : plainName "java/lang/StringUTF16" = true := by first | (simp [plainName, overriddenIn]; done) | decide +kernel
theorem own_ef_rmC5_2 (m : MethodId) (a1 : Addr) (a3 : Addr) : entryFrame m #[(.ref a1), (.int (0 : Int32)), (.ref a3), (.int (0 : Int32)), (.int (2 : Int32))] 7 = mkF m 0 #[.val (.ref a1), .val (.int (0 : Int32)), .val (.ref a3), .val (.int (0 : Int32)), .val (.int (2 : Int32)), .unset, .unset] [] := by first | (simp [entryFrame, mkF, argsToLocals, Value.category]; done) | rfl
def QC5_2 (Z : State) (a1 : Addr) (a3 : Addr) (k1 : ClassId) (k3 : ClassId) (v0 : Int32) (v1 : Int32) (h0 : Heap) (n0 : Nat) (v : Option Value) (h : Heap) (L : List Loc) : Prop := v = some (.int (2 : Int32)) ∧ Fr n0 L ∧ Keep h0 h [a3] ∧ Arv Z h a3 k3 .byte (2 : Int32) [(.int (nar .byte (v0.toInt8.toInt32))), (.int (nar .byte (v1.toInt8.toInt32)))] (.int (0 : Int32))
set_option maxRecDepth 65536 in
set_option maxHeartbeats 40000000 in
theorem rmC5_2 (l : Launch) (Z : State) (a0 : Array Value) (hw : ∀ d ∈ tables_1, d.before a0 Z = true) (ws : List Jvm.Cond) (a1 : Addr) (a3 : Addr) (k1 : ClassId) (k3 : ClassId) (v0 : Int32) (v1 : Int32) (h0 : Heap) (n0 : Nat) (Z0 : n0 ≤ h0.size) (V_a1 : Arv Z h0 a1 k1 .char (2 : Int32) [(.int v0), (.int v1)] (.int (0 : Int32))) (V_a3 : Arv Z h0 a3 k3 .byte (2 : Int32) [(.int (0 : Int32)), (.int (0 : Int32))] (.int (0 : Int32))) (gg_a3 : n0 ≤ a3) (ne_a1_a3 : a1 ≠ a3) (hle_v0 : ¬ ((255 : Int32) < v0)) (hle_v1 : ¬ ((255 : Int32) < v1)) :
    MetFree l (⟨"java/lang/StringUTF16", "compress", "([CI[BII)I"⟩ : MethodName) (head1 (Jvm.Cond.code (⟨"java/lang/StringUTF16", "compress", "([CI[BII)I"⟩ : MethodName) jdk_52_method_21_code 7 (some .int) :: ws) ({ frames := 0, cells := 0, slots := 0, locals := 0 } : Room)) (fun a U => a = #[(.ref a1), (.int (0 : Int32)), (.ref a3), (.int (0 : Int32)), (.int (2 : Int32))] ∧ Z.Warmed39 U.vm ∧ U.heap = h0) (fun _ _ _ _ _ => True) (fun _ U o U' => ∃ v L, o = .returned v ∧ QC5_2 Z a1 a3 k1 k3 v0 v1 h0 n0 v U'.heap L ∧ FrameEnd U o U' L ({ frames := 0, cells := 0, slots := 0, locals := 0 } : Room).cells ({ frames := 0, cells := 0, slots := 0, locals := 0 } : Room).slots) := by
  refine MetFree.of_bodySF (plainFor_of_name own_pn0) hisR ?_
  intro p e s m args below meth c s₁ Bd hml0 hP hK
  obtain ⟨rfl, hZ, hh⟩ := hP
  have hx := Bd.exec
  have hby := Bd.bytes
  have hml : c.maxLocals = 7 := hml0
  have hown : s.vm.findClass "java/lang/StringUTF16" = some m.cls := findClass_of_methodNamed Bd.named
  have hnm := (name_of_methodNamed Bd.named Bd.method).1
  have X0 : Stand p l e ({ frames := 0, cells := 0, slots := 0, locals := 0 } : Room) s m #[(.ref a1), (.int (0 : Int32)), (.ref a3), (.int (0 : Int32)), (.int (2 : Int32))] below meth c s₁ [] 0 0 := Stand.of_body Bd
  have e0 : s₁.heap = h0 := by rw [← hh, Bd.state]; rfl
  have N0 := Fr.nil n0
  have K0 : Keep h0 h0 [a3] := Keep.refl h0 _
  have pre0 : ∀ t, Steps p.tables e below (s₁.setTop (mkF m 0 #[.val (.ref a1), .val (.int (0 : Int32)), .val (.ref a3), .val (.int (0 : Int32)), .val (.int (2 : Int32)), .unset, .unset] [])) t → Steps p.tables e below (s₁.setTop (entryFrame m #[(.ref a1), (.int (0 : Int32)), (.ref a3), (.int (0 : Int32)), (.int (2 : Int32))] 7)) t := fun t k => castTop (own_ef_rmC5_2 m a1 a3) k
  obtain ⟨cl1, Ar1, q1, S1, M1, H1, G1⟩ := id V_a1
  have hin1 : ¬ ((0 : Int32) < 0 ∨ cl1.slots.size ≤ ((0 : Int32)).toNatClampNeg) := inb_of S1 ⟨by decide, by decide⟩
  have hat1 : cl1.slots[((0 : Int32)).toNatClampNeg]? = some (.int v0) := Has.at H1 hin1 rfl
  have hc20_2 : ¬ ((255 : Int32) < v0) := hle_v0
  obtain ⟨cl3, Ar3, q3, S3, M3, H3, G3⟩ := id V_a3
  have hin3 : ¬ ((0 : Int32) < 0 ∨ cl3.slots.size ≤ ((0 : Int32)).toNatClampNeg) := inb_of S3 ⟨by decide, by decide⟩
  obtain ⟨T4, h4, X4, e4, W4, st4⟩ := stB X0 hx hZ e0 Ar3 (j := (0 : Int32)) hin3 (g := (mkF m 31 #[rv a1, iv (0 : Int32), rv a3, iv (0 : Int32), iv (2 : Int32), iv (0 : Int32), iv v0] [(.int (v0.toInt8.toInt32)), (.int (0 : Int32)), (.ref a3)])) rfl rfl (hb hby own_d14_31)
  have V4 : Arv Z h4 a3 k3 .byte (2 : Int32) [(.int (nar .byte (v0.toInt8.toInt32))), (.int (0 : Int32))] (.int (0 : Int32)) := Arv.set Ar3 q3 S3 M3 H3 G3 (fits_nar_byte _) W4 0 rfl (Nat.le_of_ble_eq_true rfl)
  have K4 := K0.wr W4 (Or.inl (List.mem_of_getElem? (i := 0) rfl))
  have N4 := Fr.snoc X4 N0 gg_a3
  have Q6 := (V_a1.other W4 ne_a1_a3)
  obtain ⟨cl5, Ar5, q5, S5, M5, H5, G5⟩ := id Q6
  have hin5 : ¬ ((1 : Int32) < 0 ∨ cl5.slots.size ≤ ((1 : Int32)).toNatClampNeg) := inb_of S5 ⟨by decide, by decide⟩
  have hat5 : cl5.slots[((1 : Int32)).toNatClampNeg]? = some (.int v1) := Has.at H5 hin5 rfl
  have hc20_7 : ¬ ((255 : Int32) < v1) := hle_v1
  obtain ⟨cl8, Ar8, q8, S8, M8, H8, G8⟩ := id V4
  have hin8 : ¬ ((1 : Int32) < 0 ∨ cl8.slots.size ≤ ((1 : Int32)).toNatClampNeg) := inb_of S8 ⟨by decide, by decide⟩
  obtain ⟨T9, h9, X9, e9, W9, st9⟩ := stB X4 hx hZ e4 Ar8 (j := (1 : Int32)) hin8 (g := (mkF m 31 #[rv a1, iv (1 : Int32), rv a3, iv (1 : Int32), iv (2 : Int32), iv (1 : Int32), iv v1] [(.int (v1.toInt8.toInt32)), (.int (1 : Int32)), (.ref a3)])) rfl rfl (hb hby own_d14_31)
  have V9 : Arv Z h9 a3 k3 .byte (2 : Int32) [(.int (nar .byte (v0.toInt8.toInt32))), (.int (nar .byte (v1.toInt8.toInt32)))] (.int (0 : Int32)) := Arv.set Ar8 q8 S8 M8 H8 G8 (fits_nar_byte _) W9 1 rfl (Nat.le_of_ble_eq_true rfl)
  have K9 := K4.wr W9 (Or.inl (List.mem_of_getElem? (i := 0) rfl))
  have N9 := Fr.snoc X9 N4 gg_a3
  obtain ⟨fs, hr, hrun, hended, hW, hsame⟩ := X9.leave (v := some (.int (2 : Int32))) (fun h => by rw [Bd.returns] at h; cases h)
  refine ⟨_, _, pre0 _ ?_, hrun, hended, _, _, rfl, ?_, ⟨_, rfl⟩, hW, hsame.mono (by decide) (by decide)⟩
  · show Steps p.tables e below (s₁.setTop (mkF m 0 #[rv a1, iv (0 : Int32), rv a3, iv (0 : Int32), iv (2 : Int32), .unset, .unset] [])) _
    refine XS.iconst X0.here hx rfl (hb hby own_d14_0) ?_
    show Steps p.tables e below (s₁.setTop (mkF m 1 #[rv a1, iv (0 : Int32), rv a3, iv (0 : Int32), iv (2 : Int32), .unset, .unset] [(.int (0 : Int32))])) _
    refine XS.istore X0.here hx rfl (hb hby own_d14_1) rfl (l' := #[rv a1, iv (0 : Int32), rv a3, iv (0 : Int32), iv (2 : Int32), iv (0 : Int32), .unset]) rfl ?_
    show Steps p.tables e below (s₁.setTop (mkF m 3 #[rv a1, iv (0 : Int32), rv a3, iv (0 : Int32), iv (2 : Int32), iv (0 : Int32), .unset] [])) _
    refine XS.iload X0.here hx rfl (hb hby own_d14_3) rfl ?_
    show Steps p.tables e below (s₁.setTop (mkF m 5 #[rv a1, iv (0 : Int32), rv a3, iv (0 : Int32), iv (2 : Int32), iv (0 : Int32), .unset] [(.int (0 : Int32))])) _
    refine XS.iload X0.here hx rfl (hb hby own_d14_5) rfl ?_
    show Steps p.tables e below (s₁.setTop (mkF m 7 #[rv a1, iv (0 : Int32), rv a3, iv (0 : Int32), iv (2 : Int32), iv (0 : Int32), .unset] [(.int (2 : Int32)), (.int (0 : Int32))])) _
    refine XS.icmpNo X0.here hx rfl (hb hby own_d14_7) rfl (tlt (by decide : ((0 : Int32) < (2 : Int32)))).2.1 ?_
    show Steps p.tables e below (s₁.setTop (mkF m 10 #[rv a1, iv (0 : Int32), rv a3, iv (0 : Int32), iv (2 : Int32), iv (0 : Int32), .unset] [])) _
    refine XS.aloadN X0.here hx rfl (hb hby own_d14_10) rfl rfl ?_
    show Steps p.tables e below (s₁.setTop (mkF m 11 #[rv a1, iv (0 : Int32), rv a3, iv (0 : Int32), iv (2 : Int32), iv (0 : Int32), .unset] [(.ref a1)])) _
    refine XS.iloadN X0.here hx rfl (hb hby own_d14_11) rfl ?_
    show Steps p.tables e below (s₁.setTop (mkF m 12 #[rv a1, iv (0 : Int32), rv a3, iv (0 : Int32), iv (2 : Int32), iv (0 : Int32), .unset] [(.int (0 : Int32)), (.ref a1)])) _
    refine X0.caload hx (j := (0 : Int32)) (v := (.int v0)) (by rw [e0]; exact Ar1.1) (State.isArrayOf_alike hZ.alike Ar1.2.1) Ar1.2.2 hin1 hat1 (g := (mkF m 12 #[rv a1, iv (0 : Int32), rv a3, iv (0 : Int32), iv (2 : Int32), iv (0 : Int32), .unset] [(.int (0 : Int32)), (.ref a1)])) rfl rfl (hb hby own_d14_12) _ ?_
    show Steps p.tables e below (s₁.setTop (mkF m 13 #[rv a1, iv (0 : Int32), rv a3, iv (0 : Int32), iv (2 : Int32), iv (0 : Int32), .unset] [(.int v0)])) _
    refine XS.istore X0.here hx rfl (hb hby own_d14_13) rfl (l' := #[rv a1, iv (0 : Int32), rv a3, iv (0 : Int32), iv (2 : Int32), iv (0 : Int32), iv v0]) rfl ?_
    show Steps p.tables e below (s₁.setTop (mkF m 15 #[rv a1, iv (0 : Int32), rv a3, iv (0 : Int32), iv (2 : Int32), iv (0 : Int32), iv v0] [])) _
    refine XS.iload X0.here hx rfl (hb hby own_d14_15) rfl ?_
    show Steps p.tables e below (s₁.setTop (mkF m 17 #[rv a1, iv (0 : Int32), rv a3, iv (0 : Int32), iv (2 : Int32), iv (0 : Int32), iv v0] [(.int v0)])) _
    refine XS.sipush X0.here hx rfl (hb hby own_d14_17) ?_
    show Steps p.tables e below (s₁.setTop (mkF m 20 #[rv a1, iv (0 : Int32), rv a3, iv (0 : Int32), iv (2 : Int32), iv (0 : Int32), iv v0] [(.int (255 : Int32)), (.int v0)])) _
    refine XS.icmpYes X0.here hx rfl (pc0 := 20) (pc' := 26) rfl (hb hby own_d14_20) rfl (flt hc20_2).2.2.2 (by decide) (by decide) ?_
    show Steps p.tables e below (s₁.setTop (mkF m 26 #[rv a1, iv (0 : Int32), rv a3, iv (0 : Int32), iv (2 : Int32), iv (0 : Int32), iv v0] [])) _
    refine XS.aloadN X0.here hx rfl (hb hby own_d14_26) rfl rfl ?_
    show Steps p.tables e below (s₁.setTop (mkF m 27 #[rv a1, iv (0 : Int32), rv a3, iv (0 : Int32), iv (2 : Int32), iv (0 : Int32), iv v0] [(.ref a3)])) _
    refine XS.iloadN X0.here hx rfl (hb hby own_d14_27) rfl ?_
    show Steps p.tables e below (s₁.setTop (mkF m 28 #[rv a1, iv (0 : Int32), rv a3, iv (0 : Int32), iv (2 : Int32), iv (0 : Int32), iv v0] [(.int (0 : Int32)), (.ref a3)])) _
    refine XS.iload X0.here hx rfl (hb hby own_d14_28) rfl ?_
    show Steps p.tables e below (s₁.setTop (mkF m 30 #[rv a1, iv (0 : Int32), rv a3, iv (0 : Int32), iv (2 : Int32), iv (0 : Int32), iv v0] [(.int v0), (.int (0 : Int32)), (.ref a3)])) _
    refine XS.i2b X0.here hx rfl (hb hby own_d14_30) rfl ?_
    show Steps p.tables e below (s₁.setTop (mkF m 31 #[rv a1, iv (0 : Int32), rv a3, iv (0 : Int32), iv (2 : Int32), iv (0 : Int32), iv v0] [(.int (v0.toInt8.toInt32)), (.int (0 : Int32)), (.ref a3)])) _
    refine st4 _ ?_
    show Steps p.tables e below (T4.setTop (mkF m 32 #[rv a1, iv (0 : Int32), rv a3, iv (0 : Int32), iv (2 : Int32), iv (0 : Int32), iv v0] [])) _
    refine XS.iinc X4.here hx rfl (hb hby own_d14_32) rfl (l' := #[rv a1, iv (1 : Int32), rv a3, iv (0 : Int32), iv (2 : Int32), iv (0 : Int32), iv v0]) rfl ?_
    show Steps p.tables e below (T4.setTop (mkF m 35 #[rv a1, iv (1 : Int32), rv a3, iv (0 : Int32), iv (2 : Int32), iv (0 : Int32), iv v0] [])) _
    refine XS.iinc X4.here hx rfl (hb hby own_d14_35) rfl (l' := #[rv a1, iv (1 : Int32), rv a3, iv (1 : Int32), iv (2 : Int32), iv (0 : Int32), iv v0]) rfl ?_
    show Steps p.tables e below (T4.setTop (mkF m 38 #[rv a1, iv (1 : Int32), rv a3, iv (1 : Int32), iv (2 : Int32), iv (0 : Int32), iv v0] [])) _
    refine XS.iinc X4.here hx rfl (hb hby own_d14_38) rfl (l' := #[rv a1, iv (1 : Int32), rv a3, iv (1 : Int32), iv (2 : Int32), iv (1 : Int32), iv v0]) rfl ?_
    show Steps p.tables e below (T4.setTop (mkF m 41 #[rv a1, iv (1 : Int32), rv a3, iv (1 : Int32), iv (2 : Int32), iv (1 : Int32), iv v0] [])) _
    refine XS.goto X4.here hx rfl (pc0 := 41) (pc' := 3) rfl (hb hby own_d14_41) (by decide) (by decide) ?_
    show Steps p.tables e below (T4.setTop (mkF m 3 #[rv a1, iv (1 : Int32), rv a3, iv (1 : Int32), iv (2 : Int32), iv (1 : Int32), iv v0] [])) _
    refine XS.iload X4.here hx rfl (hb hby own_d14_3) rfl ?_
    show Steps p.tables e below (T4.setTop (mkF m 5 #[rv a1, iv (1 : Int32), rv a3, iv (1 : Int32), iv (2 : Int32), iv (1 : Int32), iv v0] [(.int (1 : Int32))])) _
    refine XS.iload X4.here hx rfl (hb hby own_d14_5) rfl ?_
    show Steps p.tables e below (T4.setTop (mkF m 7 #[rv a1, iv (1 : Int32), rv a3, iv (1 : Int32), iv (2 : Int32), iv (1 : Int32), iv v0] [(.int (2 : Int32)), (.int (1 : Int32))])) _
    refine XS.icmpNo X4.here hx rfl (hb hby own_d14_7) rfl (tlt (by decide : ((1 : Int32) < (2 : Int32)))).2.1 ?_
    show Steps p.tables e below (T4.setTop (mkF m 10 #[rv a1, iv (1 : Int32), rv a3, iv (1 : Int32), iv (2 : Int32), iv (1 : Int32), iv v0] [])) _
    refine XS.aloadN X4.here hx rfl (hb hby own_d14_10) rfl rfl ?_
    show Steps p.tables e below (T4.setTop (mkF m 11 #[rv a1, iv (1 : Int32), rv a3, iv (1 : Int32), iv (2 : Int32), iv (1 : Int32), iv v0] [(.ref a1)])) _
    refine XS.iloadN X4.here hx rfl (hb hby own_d14_11) rfl ?_
    show Steps p.tables e below (T4.setTop (mkF m 12 #[rv a1, iv (1 : Int32), rv a3, iv (1 : Int32), iv (2 : Int32), iv (1 : Int32), iv v0] [(.int (1 : Int32)), (.ref a1)])) _
    refine X4.caload hx (j := (1 : Int32)) (v := (.int v1)) (by rw [e4]; exact Ar5.1) (State.isArrayOf_alike hZ.alike Ar5.2.1) Ar5.2.2 hin5 hat5 (g := (mkF m 12 #[rv a1, iv (1 : Int32), rv a3, iv (1 : Int32), iv (2 : Int32), iv (1 : Int32), iv v0] [(.int (1 : Int32)), (.ref a1)])) rfl rfl (hb hby own_d14_12) _ ?_
    show Steps p.tables e below (T4.setTop (mkF m 13 #[rv a1, iv (1 : Int32), rv a3, iv (1 : Int32), iv (2 : Int32), iv (1 : Int32), iv v0] [(.int v1)])) _
    refine XS.istore X4.here hx rfl (hb hby own_d14_13) rfl (l' := #[rv a1, iv (1 : Int32), rv a3, iv (1 : Int32), iv (2 : Int32), iv (1 : Int32), iv v1]) rfl ?_
    show Steps p.tables e below (T4.setTop (mkF m 15 #[rv a1, iv (1 : Int32), rv a3, iv (1 : Int32), iv (2 : Int32), iv (1 : Int32), iv v1] [])) _
    refine XS.iload X4.here hx rfl (hb hby own_d14_15) rfl ?_
    show Steps p.tables e below (T4.setTop (mkF m 17 #[rv a1, iv (1 : Int32), rv a3, iv (1 : Int32), iv (2 : Int32), iv (1 : Int32), iv v1] [(.int v1)])) _
    refine XS.sipush X4.here hx rfl (hb hby own_d14_17) ?_
    show Steps p.tables e below (T4.setTop (mkF m 20 #[rv a1, iv (1 : Int32), rv a3, iv (1 : Int32), iv (2 : Int32), iv (1 : Int32), iv v1] [(.int (255 : Int32)), (.int v1)])) _
    refine XS.icmpYes X4.here hx rfl (pc0 := 20) (pc' := 26) rfl (hb hby own_d14_20) rfl (flt hc20_7).2.2.2 (by decide) (by decide) ?_
    show Steps p.tables e below (T4.setTop (mkF m 26 #[rv a1, iv (1 : Int32), rv a3, iv (1 : Int32), iv (2 : Int32), iv (1 : Int32), iv v1] [])) _
    refine XS.aloadN X4.here hx rfl (hb hby own_d14_26) rfl rfl ?_
    show Steps p.tables e below (T4.setTop (mkF m 27 #[rv a1, iv (1 : Int32), rv a3, iv (1 : Int32), iv (2 : Int32), iv (1 : Int32), iv v1] [(.ref a3)])) _
    refine XS.iloadN X4.here hx rfl (hb hby own_d14_27) rfl ?_
    show Steps p.tables e below (T4.setTop (mkF m 28 #[rv a1, iv (1 : Int32), rv a3, iv (1 : Int32), iv (2 : Int32), iv (1 : Int32), iv v1] [(.int (1 : Int32)), (.ref a3)])) _
    refine XS.iload X4.here hx rfl (hb hby own_d14_28) rfl ?_
    show Steps p.tables e below (T4.setTop (mkF m 30 #[rv a1, iv (1 : Int32), rv a3, iv (1 : Int32), iv (2 : Int32), iv (1 : Int32), iv v1] [(.int v1), (.int (1 : Int32)), (.ref a3)])) _
    refine XS.i2b X4.here hx rfl (hb hby own_d14_30) rfl ?_
    show Steps p.tables e below (T4.setTop (mkF m 31 #[rv a1, iv (1 : Int32), rv a3, iv (1 : Int32), iv (2 : Int32), iv (1 : Int32), iv v1] [(.int (v1.toInt8.toInt32)), (.int (1 : Int32)), (.ref a3)])) _
    refine st9 _ ?_
    show Steps p.tables e below (T9.setTop (mkF m 32 #[rv a1, iv (1 : Int32), rv a3, iv (1 : Int32), iv (2 : Int32), iv (1 : Int32), iv v1] [])) _
    refine XS.iinc X9.here hx rfl (hb hby own_d14_32) rfl (l' := #[rv a1, iv (2 : Int32), rv a3, iv (1 : Int32), iv (2 : Int32), iv (1 : Int32), iv v1]) rfl ?_
    show Steps p.tables e below (T9.setTop (mkF m 35 #[rv a1, iv (2 : Int32), rv a3, iv (1 : Int32), iv (2 : Int32), iv (1 : Int32), iv v1] [])) _
    refine XS.iinc X9.here hx rfl (hb hby own_d14_35) rfl (l' := #[rv a1, iv (2 : Int32), rv a3, iv (2 : Int32), iv (2 : Int32), iv (1 : Int32), iv v1]) rfl ?_
    show Steps p.tables e below (T9.setTop (mkF m 38 #[rv a1, iv (2 : Int32), rv a3, iv (2 : Int32), iv (2 : Int32), iv (1 : Int32), iv v1] [])) _
    refine XS.iinc X9.here hx rfl (hb hby own_d14_38) rfl (l' := #[rv a1, iv (2 : Int32), rv a3, iv (2 : Int32), iv (2 : Int32), iv (2 : Int32), iv v1]) rfl ?_
    show Steps p.tables e below (T9.setTop (mkF m 41 #[rv a1, iv (2 : Int32), rv a3, iv (2 : Int32), iv (2 : Int32), iv (2 : Int32), iv v1] [])) _
    refine XS.goto X9.here hx rfl (pc0 := 41) (pc' := 3) rfl (hb hby own_d14_41) (by decide) (by decide) ?_
    show Steps p.tables e below (T9.setTop (mkF m 3 #[rv a1, iv (2 : Int32), rv a3, iv (2 : Int32), iv (2 : Int32), iv (2 : Int32), iv v1] [])) _
    refine XS.iload X9.here hx rfl (hb hby own_d14_3) rfl ?_
    show Steps p.tables e below (T9.setTop (mkF m 5 #[rv a1, iv (2 : Int32), rv a3, iv (2 : Int32), iv (2 : Int32), iv (2 : Int32), iv v1] [(.int (2 : Int32))])) _
    refine XS.iload X9.here hx rfl (hb hby own_d14_5) rfl ?_
    show Steps p.tables e below (T9.setTop (mkF m 7 #[rv a1, iv (2 : Int32), rv a3, iv (2 : Int32), iv (2 : Int32), iv (2 : Int32), iv v1] [(.int (2 : Int32)), (.int (2 : Int32))])) _
    refine XS.icmpYes X9.here hx rfl (pc0 := 7) (pc' := 44) rfl (hb hby own_d14_7) rfl (flt (by decide : ¬ ((2 : Int32) < (2 : Int32)))).2.1 (by decide) (by decide) ?_
    show Steps p.tables e below (T9.setTop (mkF m 44 #[rv a1, iv (2 : Int32), rv a3, iv (2 : Int32), iv (2 : Int32), iv (2 : Int32), iv v1] [])) _
    refine XS.iload X9.here hx rfl (hb hby own_d14_44) rfl ?_
    show Steps p.tables e below (T9.setTop (mkF m 46 #[rv a1, iv (2 : Int32), rv a3, iv (2 : Int32), iv (2 : Int32), iv (2 : Int32), iv v1] [(.int (2 : Int32))])) _
    exact retI X9 hx Bd.returns (hb hby own_d14_46) hr
  · show QC5_2 Z a1 a3 k1 k3 v0 v1 h0 n0 _ T9.heap _
    rw [e9]
    exact ⟨rfl, N9, K9, V9⟩
theorem own_d13_0 : decode jdk_52_method_16_code 0 = .ok (.iload_n 2, 1) := by decide +kernel
theorem own_d13_1 : decode jdk_52_method_16_code 1 = .ok (.newarray .byte, 2) := by decide +kernel
theorem own_d13_3 : decode jdk_52_method_16_code 3 = .ok (.astore_n 3, 1) := by decide +kernel
theorem own_d13_4 : decode jdk_52_method_16_code 4 = .ok (.aload_n 0, 1) := by decide +kernel
theorem own_d13_5 : decode jdk_52_method_16_code 5 = .ok (.iload_n 1, 1) := by decide +kernel
theorem own_d13_6 : decode jdk_52_method_16_code 6 = .ok (.aload_n 3, 1) := by decide +kernel
theorem own_d13_7 : decode jdk_52_method_16_code 7 = .ok (.iconst 0, 1) := by decide +kernel
theorem own_d13_8 : decode jdk_52_method_16_code 8 = .ok (.iload_n 2, 1) := by decide +kernel
theorem own_d13_9 : decode jdk_52_method_16_code 9 = .ok (.invokestatic 115, 3) := by decide +kernel
theorem own_pd0 : parseMethodDescriptor "([CI[BII)I" = some ⟨[(.array .char), .int, (.array .byte), .int, .int], some .int⟩ := by decide +kernel
theorem own_d13_12 : decode jdk_52_method_16_code 12 = .ok (.istore 4, 2) := by decide +kernel
theorem own_d13_14 : decode jdk_52_method_16_code 14 = .ok (.iload 4, 2) := by decide +kernel
theorem own_d13_16 : decode jdk_52_method_16_code 16 = .ok (.iload_n 2, 1) := by decide +kernel
theorem own_d13_17 : decode jdk_52_method_16_code 17 = .ok (.if_icmp .eq 40, 3) := by decide +kernel
theorem own_d13_57 : decode jdk_52_method_16_code 57 = .ok (.aload_n 3, 1) := by decide +kernel
theorem own_d13_58 : decode jdk_52_method_16_code 58 = .ok (.areturn, 1) := by decide +kernel
theorem own_ef_rmC3_2 (m : MethodId) (a1 : Addr) : entryFrame m #[(.ref a1), (.int (0 : Int32)), (.int (2 : Int32))] 6 = mkF m 0 #[.val (.ref a1), .val (.int (0 : Int32)), .val (.int (2 : Int32)), .unset, .unset, .unset] [] := by first | (simp [entryFrame, mkF, argsToLocals, Value.category]; done) | rfl
def QC3_2 (Z : State) (a1 : Addr) (k1 : ClassId) (v0 : Int32) (v1 : Int32) (h0 : Heap) (n0 : Nat) (v : Option Value) (h : Heap) (L : List Loc) : Prop := ∃ b : Addr, ∃ kb : ClassId, v = some (.ref b) ∧ Fr n0 L ∧ Keep h0 h [] ∧ h0.size ≤ b ∧ Arv Z h b kb .byte (2 : Int32) [(.int (nar .byte (v0.toInt8.toInt32))), (.int (nar .byte (v1.toInt8.toInt32)))] (.int (0 : Int32))
set_option maxRecDepth 65536 in
set_option maxHeartbeats 40000000 in
theorem rmC3_2 (l : Launch) (Z : State) (a0 : Array Value) (hw : ∀ d ∈ tables_1, d.before a0 Z = true) (ws : List Jvm.Cond) (a1 : Addr) (k1 : ClassId) (v0 : Int32) (v1 : Int32) (h0 : Heap) (n0 : Nat) (Z0 : n0 ≤ h0.size) (V_a1 : Arv Z h0 a1 k1 .char (2 : Int32) [(.int v0), (.int v1)] (.int (0 : Int32))) (hle_v0 : ¬ ((255 : Int32) < v0)) (hle_v1 : ¬ ((255 : Int32) < v1)) :
    MetFree l (⟨"java/lang/StringUTF16", "compress", "([CII)[B"⟩ : MethodName) (head1 (Jvm.Cond.code (⟨"java/lang/StringUTF16", "compress", "([CII)[B"⟩ : MethodName) jdk_52_method_16_code 6 (some (.array .byte)) :: ws) ({ frames := 1, cells := 1, slots := 2, locals := 18 } : Room)) (fun a U => a = #[(.ref a1), (.int (0 : Int32)), (.int (2 : Int32))] ∧ Z.Warmed39 U.vm ∧ U.heap = h0) (fun _ _ _ _ _ => True) (fun _ U o U' => ∃ v L, o = .returned v ∧ QC3_2 Z a1 k1 v0 v1 h0 n0 v U'.heap L ∧ FrameEnd U o U' L ({ frames := 1, cells := 1, slots := 2, locals := 18 } : Room).cells ({ frames := 1, cells := 1, slots := 2, locals := 18 } : Room).slots) := by
  refine MetFree.of_bodySF (plainFor_of_name own_pn0) hisR ?_
  intro p e s m args below meth c s₁ Bd hml0 hP hK
  obtain ⟨rfl, hZ, hh⟩ := hP
  have hx := Bd.exec
  have hby := Bd.bytes
  have hml : c.maxLocals = 6 := hml0
  have hown : s.vm.findClass "java/lang/StringUTF16" = some m.cls := findClass_of_methodNamed Bd.named
  have hnm := (name_of_methodNamed Bd.named Bd.method).1
  have X0 : Stand p l e ({ frames := 1, cells := 1, slots := 2, locals := 18 } : Room) s m #[(.ref a1), (.int (0 : Int32)), (.int (2 : Int32))] below meth c s₁ [] 0 0 := Stand.of_body Bd
  have e0 : s₁.heap = h0 := by rw [← hh, Bd.state]; rfl
  have N0 := Fr.nil n0
  have K0 : Keep h0 h0 [] := Keep.refl h0 _
  have pre0 : ∀ t, Steps p.tables e below (s₁.setTop (mkF m 0 #[.val (.ref a1), .val (.int (0 : Int32)), .val (.int (2 : Int32)), .unset, .unset, .unset] [])) t → Steps p.tables e below (s₁.setTop (entryFrame m #[(.ref a1), (.int (0 : Int32)), (.int (2 : Int32))] 6)) t := fun t k => castTop (own_ef_rmC3_2 m a1) k
  obtain ⟨T10, h10, k10, X10, e10, E10, A10, st10⟩ := newP X0 hx hZ (hw _ (List.mem_of_getElem? (i := 7) rfl)) e0 (g := (mkF m 1 #[rv a1, iv (0 : Int32), iv (2 : Int32), .unset, .unset, .unset] [(.int (2 : Int32))])) rfl (hb hby own_d13_1) rfl (by decide) (cap := 2) (by decide) (by decide) (by decide) (by decide)
  obtain ⟨b10, g10⟩ : ∃ z, z = h0.size := ⟨_, rfl⟩
  rw [← g10] at A10 st10
  have ne_a1_b10 : a1 ≠ b10 := Nat.ne_of_lt (Nat.lt_of_lt_of_le V_a1.lt (Nat.le_of_eq g10.symm))
  have gg_b10 : n0 ≤ b10 := Nat.le_trans (Nat.le_trans Z0 K0.1) (Nat.le_of_eq g10.symm)
  have sz_b10 : h0.size ≤ b10 := Nat.le_trans K0.1 (Nat.le_of_eq g10.symm)
  have K10 := K0.ext E10
  have V10 : Arv Z h10 b10 k10 .byte (2 : Int32) [(.int (0 : Int32)), (.int (0 : Int32))] (.int (0 : Int32)) := (Arv.new A10 (by decide)).pad (pad_rep [] (.int (0 : Int32)) 2)
  have Q11 := (V_a1.ext E10)
  obtain ⟨_, _, ⟨T12, L12, k12, n12⟩, -, X12, ⟨Lc12, hQ12, l12, y12, z12⟩, st12⟩ := Jvm.LawKit.callS X10 hx (y := (⟨"java/lang/StringUTF16", "compress", "([CI[BII)I"⟩ : MethodName)) hown (mvT hZ (hw _ (List.mem_of_getElem? (i := 61) rfl))) (mvT hZ (hw _ (List.mem_of_getElem? (i := 62) rfl))) (mvT hZ (hw _ (List.mem_of_getElem? (i := 59) rfl))) (mvT hZ (hw _ (List.mem_of_getElem? (i := 63) rfl))) (by decide) (backOf (W := 0) (rmC5_2 l Z a0 hw [] a1 b10 k1 k10 v0 v1 h10 n0 (Nat.le_trans Z0 K10.1) Q11 V10 gg_b10 ne_a1_b10 hle_v0 hle_v1) hZ (hw _ (List.mem_of_getElem? (i := 63) rfl)) (hw _ (List.mem_of_getElem? (i := 59) rfl)) (by decide) (by decide)) (g := (mkF m 9 #[rv a1, iv (0 : Int32), iv (2 : Int32), rv b10, .unset, .unset] [(.int (2 : Int32)), (.int (0 : Int32)), (.ref b10), (.int (0 : Int32)), (.ref a1)])) rfl (by rw [hml]; rfl) (argsL := [(.ref a1), (.int (0 : Int32)), (.ref b10), (.int (0 : Int32)), (.int (2 : Int32))]) (rest := []) (lenOf own_pd0 rfl) rfl (by show 2 * 0 + _ ≤ _; exact Nat.le_of_eq rfl) (hb hby own_d13_9) (fun _ _ => ⟨rfl, e10, (by decide : 1 + 0 ≤ _), (by decide : 2 + 0 ≤ _)⟩)
  dsimp only [Pt.U, Pt.locs, Pt.cells, Pt.slots] at X12 l12 y12 z12 st12 hQ12
  subst l12 y12 z12
  obtain ⟨rfl, N12q, i12_2, i12_3⟩ := hQ12
  have N12 := Fr.app N0 N12q
  have K12 := K10.trans i12_2 (allS (Or.inr sz_b10) all0)
  obtain ⟨fs, hr, hrun, hended, hW, hsame⟩ := X12.leave (v := some (.ref b10)) (fun h => by rw [Bd.returns] at h; cases h)
  refine ⟨_, _, pre0 _ ?_, hrun, hended, _, _, rfl, ?_, ⟨_, rfl⟩, hW, hsame.mono (by decide) (by decide)⟩
  · show Steps p.tables e below (s₁.setTop (mkF m 0 #[rv a1, iv (0 : Int32), iv (2 : Int32), .unset, .unset, .unset] [])) _
    refine XS.iloadN X0.here hx rfl (hb hby own_d13_0) rfl ?_
    show Steps p.tables e below (s₁.setTop (mkF m 1 #[rv a1, iv (0 : Int32), iv (2 : Int32), .unset, .unset, .unset] [(.int (2 : Int32))])) _
    refine st10 _ ?_
    show Steps p.tables e below (T10.setTop (mkF m 3 #[rv a1, iv (0 : Int32), iv (2 : Int32), .unset, .unset, .unset] [(.ref b10)])) _
    refine XS.astoreN X10.here hx rfl (hb hby own_d13_3) rfl rfl (l' := #[rv a1, iv (0 : Int32), iv (2 : Int32), rv b10, .unset, .unset]) rfl ?_
    show Steps p.tables e below (T10.setTop (mkF m 4 #[rv a1, iv (0 : Int32), iv (2 : Int32), rv b10, .unset, .unset] [])) _
    refine XS.aloadN X10.here hx rfl (hb hby own_d13_4) rfl rfl ?_
    show Steps p.tables e below (T10.setTop (mkF m 5 #[rv a1, iv (0 : Int32), iv (2 : Int32), rv b10, .unset, .unset] [(.ref a1)])) _
    refine XS.iloadN X10.here hx rfl (hb hby own_d13_5) rfl ?_
    show Steps p.tables e below (T10.setTop (mkF m 6 #[rv a1, iv (0 : Int32), iv (2 : Int32), rv b10, .unset, .unset] [(.int (0 : Int32)), (.ref a1)])) _
    refine XS.aloadN X10.here hx rfl (hb hby own_d13_6) rfl rfl ?_
    show Steps p.tables e below (T10.setTop (mkF m 7 #[rv a1, iv (0 : Int32), iv (2 : Int32), rv b10, .unset, .unset] [(.ref b10), (.int (0 : Int32)), (.ref a1)])) _
    refine XS.iconst X10.here hx rfl (hb hby own_d13_7) ?_
    show Steps p.tables e below (T10.setTop (mkF m 8 #[rv a1, iv (0 : Int32), iv (2 : Int32), rv b10, .unset, .unset] [(.int (0 : Int32)), (.ref b10), (.int (0 : Int32)), (.ref a1)])) _
    refine XS.iloadN X10.here hx rfl (hb hby own_d13_8) rfl ?_
    show Steps p.tables e below (T10.setTop (mkF m 9 #[rv a1, iv (0 : Int32), iv (2 : Int32), rv b10, .unset, .unset] [(.int (2 : Int32)), (.int (0 : Int32)), (.ref b10), (.int (0 : Int32)), (.ref a1)])) _
    refine st12 _ ?_
    show Steps p.tables e below (T12.setTop (mkF m 12 #[rv a1, iv (0 : Int32), iv (2 : Int32), rv b10, .unset, .unset] [(.int (2 : Int32))])) _
    refine XS.istore X12.here hx rfl (hb hby own_d13_12) rfl (l' := #[rv a1, iv (0 : Int32), iv (2 : Int32), rv b10, iv (2 : Int32), .unset]) rfl ?_
    show Steps p.tables e below (T12.setTop (mkF m 14 #[rv a1, iv (0 : Int32), iv (2 : Int32), rv b10, iv (2 : Int32), .unset] [])) _
    refine XS.iload X12.here hx rfl (hb hby own_d13_14) rfl ?_
    show Steps p.tables e below (T12.setTop (mkF m 16 #[rv a1, iv (0 : Int32), iv (2 : Int32), rv b10, iv (2 : Int32), .unset] [(.int (2 : Int32))])) _
    refine XS.iloadN X12.here hx rfl (hb hby own_d13_16) rfl ?_
    show Steps p.tables e below (T12.setTop (mkF m 17 #[rv a1, iv (0 : Int32), iv (2 : Int32), rv b10, iv (2 : Int32), .unset] [(.int (2 : Int32)), (.int (2 : Int32))])) _
    refine XS.icmpYes X12.here hx rfl (pc0 := 17) (pc' := 57) rfl (hb hby own_d13_17) rfl (teq (by decide : ((2 : Int32) = (2 : Int32)))).1 (by decide) (by decide) ?_
    show Steps p.tables e below (T12.setTop (mkF m 57 #[rv a1, iv (0 : Int32), iv (2 : Int32), rv b10, iv (2 : Int32), .unset] [])) _
    refine XS.aloadN X12.here hx rfl (hb hby own_d13_57) rfl rfl ?_
    show Steps p.tables e below (T12.setTop (mkF m 58 #[rv a1, iv (0 : Int32), iv (2 : Int32), rv b10, iv (2 : Int32), .unset] [(.ref b10)])) _
    jvm_step X12.here [X12.here.top, hx, (hb hby own_d13_58), X12.method', Bd.returns, Value.isRef, FieldType.isReference]
    first | (intro acts; rw [hr _ acts rfl rfl rfl]) | rw [hr _ _ rfl rfl rfl]
    exact Steps.refl _
  · show QC3_2 Z a1 k1 v0 v1 h0 n0 _ T12.heap _
    exact ⟨b10, k10, rfl, N12, K12, sz_b10, i12_3⟩
theorem own_d15_0 : decode jdk_52_method_15_code 0 = .ok (.iload_n 1, 1) := by decide +kernel
theorem own_d15_1 : decode jdk_52_method_15_code 1 = .ok (.aload_n 0, 1) := by decide +kernel
theorem own_d15_2 : decode jdk_52_method_15_code 2 = .ok (.arraylength, 1) := by decide +kernel
theorem own_d15_3 : decode jdk_52_method_15_code 3 = .ok (.isub, 1) := by decide +kernel
theorem own_d15_4 : decode jdk_52_method_15_code 4 = .ok (.bipush 31, 2) := by decide +kernel
theorem own_d15_6 : decode jdk_52_method_15_code 6 = .ok (.iushr, 1) := by decide +kernel
theorem own_d15_7 : decode jdk_52_method_15_code 7 = .ok (.i2b, 1) := by decide +kernel
theorem own_d15_8 : decode jdk_52_method_15_code 8 = .ok (.ireturn, 1) := by decide +kernel
theorem own_ef_rmCo_2 (m : MethodId) (a1 : Addr) : entryFrame m #[(.ref a1), (.int (2 : Int32))] 2 = mkF m 0 #[.val (.ref a1), .val (.int (2 : Int32))] [] := by first | (simp [entryFrame, mkF, argsToLocals, Value.category]; done) | rfl
def QCo_2 (Z : State) (a1 : Addr) (k1 : ClassId) (v0 : Int32) (v1 : Int32) (h0 : Heap) (n0 : Nat) (v : Option Value) (h : Heap) (L : List Loc) : Prop := v = some (.int (0 : Int32)) ∧ Fr n0 L ∧ h = h0
set_option maxRecDepth 65536 in
set_option maxHeartbeats 40000000 in
theorem rmCo_2 (l : Launch) (Z : State) (a0 : Array Value) (hw : ∀ d ∈ tables_1, d.before a0 Z = true) (ws : List Jvm.Cond) (a1 : Addr) (k1 : ClassId) (v0 : Int32) (v1 : Int32) (h0 : Heap) (n0 : Nat) (Z0 : n0 ≤ h0.size) (V_a1 : Arv Z h0 a1 k1 .byte (2 : Int32) [(.int v0), (.int v1)] (.int (0 : Int32))) :
    MetFree l (⟨"java/lang/StringUTF16", "coderFromArrayLen", "([BI)B"⟩ : MethodName) (head1 (Jvm.Cond.code (⟨"java/lang/StringUTF16", "coderFromArrayLen", "([BI)B"⟩ : MethodName) jdk_52_method_15_code 2 (some .byte) :: ws) ({ frames := 0, cells := 0, slots := 0, locals := 0 } : Room)) (fun a U => a = #[(.ref a1), (.int (2 : Int32))] ∧ Z.Warmed39 U.vm ∧ U.heap = h0) (fun _ _ _ _ _ => True) (fun _ U o U' => ∃ v L, o = .returned v ∧ QCo_2 Z a1 k1 v0 v1 h0 n0 v U'.heap L ∧ FrameEnd U o U' L ({ frames := 0, cells := 0, slots := 0, locals := 0 } : Room).cells ({ frames := 0, cells := 0, slots := 0, locals := 0 } : Room).slots) := by
  refine MetFree.of_bodySF (plainFor_of_name own_pn0) hisR ?_
  intro p e s m args below meth c s₁ Bd hml0 hP hK
  obtain ⟨rfl, hZ, hh⟩ := hP
  have hx := Bd.exec
  have hby := Bd.bytes
  have hml : c.maxLocals = 2 := hml0
  have hown : s.vm.findClass "java/lang/StringUTF16" = some m.cls := findClass_of_methodNamed Bd.named
  have hnm := (name_of_methodNamed Bd.named Bd.method).1
  have X0 : Stand p l e ({ frames := 0, cells := 0, slots := 0, locals := 0 } : Room) s m #[(.ref a1), (.int (2 : Int32))] below meth c s₁ [] 0 0 := Stand.of_body Bd
  have e0 : s₁.heap = h0 := by rw [← hh, Bd.state]; rfl
  have N0 := Fr.nil n0
  have K0 : Keep h0 h0 [] := Keep.refl h0 _
  have pre0 : ∀ t, Steps p.tables e below (s₁.setTop (mkF m 0 #[.val (.ref a1), .val (.int (2 : Int32))] [])) t → Steps p.tables e below (s₁.setTop (entryFrame m #[(.ref a1), (.int (2 : Int32))] 2)) t := fun t k => castTop (own_ef_rmCo_2 m a1) k
  obtain ⟨cl13, Ar13, q13, S13, M13, H13, G13⟩ := id V_a1
  obtain ⟨fs, hr, hrun, hended, hW, hsame⟩ := X0.leave (v := some (.int (0 : Int32))) (fun h => by rw [Bd.returns] at h; cases h)
  refine ⟨_, _, pre0 _ ?_, hrun, hended, _, _, rfl, ?_, ⟨_, rfl⟩, hW, hsame.mono (by decide) (by decide)⟩
  · show Steps p.tables e below (s₁.setTop (mkF m 0 #[rv a1, iv (2 : Int32)] [])) _
    refine XS.iloadN X0.here hx rfl (hb hby own_d15_0) rfl ?_
    show Steps p.tables e below (s₁.setTop (mkF m 1 #[rv a1, iv (2 : Int32)] [(.int (2 : Int32))])) _
    refine XS.aloadN X0.here hx rfl (hb hby own_d15_1) rfl rfl ?_
    show Steps p.tables e below (s₁.setTop (mkF m 2 #[rv a1, iv (2 : Int32)] [(.ref a1), (.int (2 : Int32))])) _
    refine X0.arraylength hx (by rw [e0]; exact Ar13.1) (State.isArrayOf_alike hZ.alike Ar13.2.1) (g := (mkF m 2 #[rv a1, iv (2 : Int32)] [(.ref a1), (.int (2 : Int32))])) rfl rfl (hb hby own_d15_2) _ ?_
    rw [len_of S13 M13]
    show Steps p.tables e below (s₁.setTop (mkF m 3 #[rv a1, iv (2 : Int32)] [(.int (2 : Int32)), (.int (2 : Int32))])) _
    refine XS.isub X0.here hx rfl (hb hby own_d15_3) rfl ?_
    show Steps p.tables e below (s₁.setTop (mkF m 4 #[rv a1, iv (2 : Int32)] [(.int (0 : Int32))])) _
    refine XS.bipush X0.here hx rfl (hb hby own_d15_4) ?_
    show Steps p.tables e below (s₁.setTop (mkF m 6 #[rv a1, iv (2 : Int32)] [(.int (31 : Int32)), (.int (0 : Int32))])) _
    refine XS.iushr X0.here hx rfl (hb hby own_d15_6) rfl ?_
    show Steps p.tables e below (s₁.setTop (mkF m 7 #[rv a1, iv (2 : Int32)] [(.int (0 : Int32))])) _
    refine XS.i2b X0.here hx rfl (hb hby own_d15_7) rfl ?_
    show Steps p.tables e below (s₁.setTop (mkF m 8 #[rv a1, iv (2 : Int32)] [(.int (0 : Int32))])) _
    exact retN X0 hx (t := .byte) Bd.returns (by simp) (hb hby own_d15_8) hr
  · show QCo_2 Z a1 k1 v0 v1 h0 n0 _ s₁.heap _
    rw [e0]
    exact ⟨rfl, N0, rfl⟩
theorem own_d12_0 : decode jdk_42_method_149_code 0 = .ok (.aload_n 0, 1) := by decide +kernel
theorem own_d12_1 : decode jdk_42_method_149_code 1 = .ok (.invokespecial 1, 3) := by decide +kernel
theorem own_d12_4 : decode jdk_42_method_149_code 4 = .ok (.iload_n 3, 1) := by decide +kernel
theorem own_d12_5 : decode jdk_42_method_149_code 5 = .ok (.ifCond .ne 22, 3) := by decide +kernel
theorem own_d12_27 : decode jdk_42_method_149_code 27 = .ok (.getstatic 38, 3) := by decide +kernel
theorem own_d12_30 : decode jdk_42_method_149_code 30 = .ok (.ifCond .eq 28, 3) := by decide +kernel
theorem own_d12_33 : decode jdk_42_method_149_code 33 = .ok (.aload_n 1, 1) := by decide +kernel
theorem own_d12_34 : decode jdk_42_method_149_code 34 = .ok (.iload_n 2, 1) := by decide +kernel
theorem own_d12_35 : decode jdk_42_method_149_code 35 = .ok (.iload_n 3, 1) := by decide +kernel
theorem own_d12_36 : decode jdk_42_method_149_code 36 = .ok (.invokestatic 177, 3) := by decide +kernel
theorem own_pd1 : parseMethodDescriptor "([CII)[B" = some ⟨[(.array .char), .int, .int], some (.array .byte)⟩ := by decide +kernel
theorem own_d12_39 : decode jdk_42_method_149_code 39 = .ok (.astore 5, 2) := by decide +kernel
theorem own_d12_41 : decode jdk_42_method_149_code 41 = .ok (.aload_n 0, 1) := by decide +kernel
theorem own_d12_42 : decode jdk_42_method_149_code 42 = .ok (.aload 5, 2) := by decide +kernel
theorem own_d12_44 : decode jdk_42_method_149_code 44 = .ok (.iload_n 3, 1) := by decide +kernel
theorem own_d12_45 : decode jdk_42_method_149_code 45 = .ok (.invokestatic 47, 3) := by decide +kernel
theorem own_pd2 : parseMethodDescriptor "([BI)B" = some ⟨[(.array .byte), .int], some .byte⟩ := by decide +kernel
theorem own_d12_48 : decode jdk_42_method_149_code 48 = .ok (.putfield 15, 3) := by decide +kernel
theorem own_d12_51 : decode jdk_42_method_149_code 51 = .ok (.aload_n 0, 1) := by decide +kernel
theorem own_d12_52 : decode jdk_42_method_149_code 52 = .ok (.aload 5, 2) := by decide +kernel
theorem own_d12_54 : decode jdk_42_method_149_code 54 = .ok (.putfield 9, 3) := by decide +kernel
theorem own_d12_57 : decode jdk_42_method_149_code 57 = .ok (.return_, 1) := by decide +kernel
theorem own_pn1 : plainName "java/lang/String" = true := by first | (simp [plainName, overriddenIn]; done) | decide +kernel
theorem own_ef_rmI4_2 (m : MethodId) (a1 : Addr) (a2 : Addr) : entryFrame m #[(.ref a1), (.ref a2), (.int (0 : Int32)), (.int (2 : Int32)), .null] 6 = mkF m 0 #[.val (.ref a1), .val (.ref a2), .val (.int (0 : Int32)), .val (.int (2 : Int32)), .val .null, .unset] [] := by first | (simp [entryFrame, mkF, argsToLocals, Value.category]; done) | rfl
def QI4_2 (Z : State) (a1 : Addr) (a2 : Addr) (cw : Int32) (k2 : ClassId) (v0 : Int32) (v1 : Int32) (h0 : Heap) (n0 : Nat) (v : Option Value) (h : Heap) (L : List Loc) : Prop := ∃ b : Addr, ∃ kb : ClassId, v = none ∧ Fr n0 L ∧ Keep h0 h [a1] ∧ h0.size ≤ b ∧ Exa Z h a1 "java/lang/String" ∧ Fld Z h a1 "java/lang/String" "coder" "B" (.int (0 : Int32)) ∧ Fld Z h a1 "java/lang/String" "value" "[B" (.ref b) ∧ Arv Z h b kb .byte (2 : Int32) [(.int (nar .byte (v0.toInt8.toInt32))), (.int (nar .byte (v1.toInt8.toInt32)))] (.int (0 : Int32))
set_option maxRecDepth 65536 in
set_option maxHeartbeats 40000000 in
theorem rmI4_2 (l : Launch) (Z : State) (a0 : Array Value) (hw : ∀ d ∈ tables_1, d.before a0 Z = true) (ws : List Jvm.Cond) (a1 : Addr) (a2 : Addr) (cw : Int32) (k2 : ClassId) (v0 : Int32) (v1 : Int32) (h0 : Heap) (n0 : Nat) (Z0 : n0 ≤ h0.size) (E_a1 : Exa Z h0 a1 "java/lang/String") (F_a1_value : Fld Z h0 a1 "java/lang/String" "value" "[B" .null) (F_a1_coder : Fld Z h0 a1 "java/lang/String" "coder" "B" (.int (0 : Int32))) (gg_a1 : n0 ≤ a1) (S_COMPACT_STRINGS : Sta Z h0 "java/lang/String" "COMPACT_STRINGS" "Z" (.int cw)) (hw0 : ¬ (cw = (0 : Int32))) (V_a2 : Arv Z h0 a2 k2 .char (2 : Int32) [(.int v0), (.int v1)] (.int (0 : Int32))) (hle_v0 : ¬ ((255 : Int32) < v0)) (hle_v1 : ¬ ((255 : Int32) < v1)) :
    MetFree l (⟨"java/lang/String", "<init>", "([CIILjava/lang/Void;)V"⟩ : MethodName) (head1 (Jvm.Cond.code (⟨"java/lang/String", "<init>", "([CIILjava/lang/Void;)V"⟩ : MethodName) jdk_42_method_149_code 6 none :: ws) ({ frames := 2, cells := 1, slots := 2, locals := 35 } : Room)) (fun a U => a = #[(.ref a1), (.ref a2), (.int (0 : Int32)), (.int (2 : Int32)), .null] ∧ Z.Warmed39 U.vm ∧ U.heap = h0) (fun _ _ _ _ _ => True) (fun _ U o U' => ∃ v L, o = .returned v ∧ QI4_2 Z a1 a2 cw k2 v0 v1 h0 n0 v U'.heap L ∧ FrameEnd U o U' L ({ frames := 2, cells := 1, slots := 2, locals := 35 } : Room).cells ({ frames := 2, cells := 1, slots := 2, locals := 35 } : Room).slots) := by
  refine MetFree.of_bodySF (plainFor_of_name own_pn1) hisR ?_
  intro p e s m args below meth c s₁ Bd hml0 hP hK
  obtain ⟨rfl, hZ, hh⟩ := hP
  have hx := Bd.exec
  have hby := Bd.bytes
  have hml : c.maxLocals = 6 := hml0
  have hown : s.vm.findClass "java/lang/String" = some m.cls := findClass_of_methodNamed Bd.named
  have hnm := (name_of_methodNamed Bd.named Bd.method).1
  have X0 : Stand p l e ({ frames := 2, cells := 1, slots := 2, locals := 35 } : Room) s m #[(.ref a1), (.ref a2), (.int (0 : Int32)), (.int (2 : Int32)), .null] below meth c s₁ [] 0 0 := Stand.of_body Bd
  have e0 : s₁.heap = h0 := by rw [← hh, Bd.state]; rfl
  have N0 := Fr.nil n0
  have K0 : Keep h0 h0 [a1] := Keep.refl h0 _
  have pre0 : ∀ t, Steps p.tables e below (s₁.setTop (mkF m 0 #[.val (.ref a1), .val (.ref a2), .val (.int (0 : Int32)), .val (.int (2 : Int32)), .val .null, .unset] [])) t → Steps p.tables e below (s₁.setTop (entryFrame m #[(.ref a1), (.ref a2), (.int (0 : Int32)), (.int (2 : Int32)), .null] 6)) t := fun t k => castTop (own_ef_rmI4_2 m a1 a2) k
  obtain ⟨T14, X14, e14, st14⟩ := initO X0 hx hZ hown (hw _ (List.mem_of_getElem? (i := 34) rfl)) (hw _ (List.mem_of_getElem? (i := 35) rfl)) (hw _ (List.mem_of_getElem? (i := 36) rfl)) e0 (g := (mkF m 1 #[rv a1, rv a2, iv (0 : Int32), iv (2 : Int32), .val .null, .unset] [(.ref a1)])) rfl (by rw [hml]; rfl) rfl (hb hby own_d12_1) (by decide) (W := 0) (by show 2 * 0 + _ ≤ _; exact Nat.le_of_eq rfl) (by decide)
  obtain ⟨T15, X15, e15, st15⟩ := getS2 X14 hx hZ hown (host := "") (Or.inl (hw _ (List.mem_of_getElem? (i := 21) rfl))) Via.refl e14 S_COMPACT_STRINGS (g := (mkF m 27 #[rv a1, rv a2, iv (0 : Int32), iv (2 : Int32), .val .null, .unset] [])) rfl (hb hby own_d12_27)
  have hc30_16 : ¬ (cw = (0 : Int32)) := hw0
  obtain ⟨_, _, ⟨T17, L17, k17, n17⟩, -, X17, ⟨Lc17, hQ17, l17, y17, z17⟩, st17⟩ := Jvm.LawKit.callS X15 hx (y := (⟨"java/lang/StringUTF16", "compress", "([CII)[B"⟩ : MethodName)) hown (mvT hZ (hw _ (List.mem_of_getElem? (i := 57) rfl))) (mvT hZ (hw _ (List.mem_of_getElem? (i := 58) rfl))) (mvT hZ (hw _ (List.mem_of_getElem? (i := 59) rfl))) (mvT hZ (hw _ (List.mem_of_getElem? (i := 60) rfl))) (by decide) (backOf (W := 0) (rmC3_2 l Z a0 hw [] a2 k2 v0 v1 h0 n0 (Nat.le_trans Z0 K0.1) V_a2 hle_v0 hle_v1) hZ (hw _ (List.mem_of_getElem? (i := 60) rfl)) (hw _ (List.mem_of_getElem? (i := 59) rfl)) (by decide) (by decide)) (g := (mkF m 36 #[rv a1, rv a2, iv (0 : Int32), iv (2 : Int32), .val .null, .unset] [(.int (2 : Int32)), (.int (0 : Int32)), (.ref a2)])) rfl (by rw [hml]; rfl) (argsL := [(.ref a2), (.int (0 : Int32)), (.int (2 : Int32))]) (rest := []) (lenOf own_pd1 rfl) rfl (by show 2 * 0 + _ ≤ _; exact Nat.le_of_eq rfl) (hb hby own_d12_36) (fun _ _ => ⟨rfl, e15, (by decide : 0 + 1 ≤ _), (by decide : 0 + 2 ≤ _)⟩)
  dsimp only [Pt.U, Pt.locs, Pt.cells, Pt.slots] at X17 l17 y17 z17 st17 hQ17
  subst l17 y17 z17
  obtain ⟨b_17, kb_17, rfl, N17q, i17_4, i17_5, i17_6⟩ := hQ17
  have N17 := Fr.app N0 N17q
  have ne_a1_b_17 : a1 ≠ b_17 := Nat.ne_of_lt (Nat.lt_of_lt_of_le E_a1.lt i17_5)
  have ne_a2_b_17 : a2 ≠ b_17 := Nat.ne_of_lt (Nat.lt_of_lt_of_le V_a2.lt i17_5)
  have gg_b_17 : n0 ≤ b_17 := Nat.le_trans (Nat.le_trans Z0 K0.1) i17_5
  have sz_b_17 : h0.size ≤ b_17 := Nat.le_trans K0.1 i17_5
  have K17 := K0.trans i17_4 all0
  obtain ⟨_, _, ⟨T18, L18, k18, n18⟩, -, X18, ⟨Lc18, hQ18, l18, y18, z18⟩, st18⟩ := Jvm.LawKit.callS X17 hx (y := (⟨"java/lang/StringUTF16", "coderFromArrayLen", "([BI)B"⟩ : MethodName)) hown (mvT hZ (hw _ (List.mem_of_getElem? (i := 64) rfl))) (mvT hZ (hw _ (List.mem_of_getElem? (i := 65) rfl))) (mvT hZ (hw _ (List.mem_of_getElem? (i := 59) rfl))) (mvT hZ (hw _ (List.mem_of_getElem? (i := 66) rfl))) (by decide) (backOf (W := 1) (rmCo_2 l Z a0 hw [] b_17 kb_17 (nar .byte (v0.toInt8.toInt32)) (nar .byte (v1.toInt8.toInt32)) T17.heap n0 (Nat.le_trans Z0 K17.1) i17_6) hZ (hw _ (List.mem_of_getElem? (i := 66) rfl)) (hw _ (List.mem_of_getElem? (i := 59) rfl)) (by decide) (by decide)) (g := (mkF m 45 #[rv a1, rv a2, iv (0 : Int32), iv (2 : Int32), .val .null, rv b_17] [(.int (2 : Int32)), (.ref b_17), (.ref a1)])) rfl (by rw [hml]; rfl) (argsL := [(.ref b_17), (.int (2 : Int32))]) (rest := [(.ref a1)]) (lenOf own_pd2 rfl) rfl (by show 2 * 0 + _ ≤ _; exact Nat.le_of_eq rfl) (hb hby own_d12_45) (fun _ _ => ⟨rfl, rfl, (by decide : 1 + 0 ≤ _), (by decide : 2 + 0 ≤ _)⟩)
  dsimp only [Pt.U, Pt.locs, Pt.cells, Pt.slots] at X18 l18 y18 z18 st18 hQ18
  subst l18 y18 z18
  obtain ⟨rfl, N18q, e18⟩ := hQ18
  have N18 := Fr.app N17 N18q
  have Q19 := (E_a1.keep i17_4)
  have Q20 := (F_a1_coder.keep i17_4 nin0)
  obtain ⟨T21, h21, X21, e21, W21, st21⟩ := putFN X18 hx hZ hown (hw _ (List.mem_of_getElem? (i := 38) rfl)) Via.refl e18 Q20 Q19 (Or.inr ⟨(hw _ (List.mem_of_getElem? (i := 9) rfl)), rfl, hnm⟩) (hw _ (List.mem_of_getElem? (i := 6) rfl)) (ty := .byte) (v' := (.int (0 : Int32))) (by decide) rfl (by decide) (g := (mkF m 48 #[rv a1, rv a2, iv (0 : Int32), iv (2 : Int32), .val .null, rv b_17] [(.int (0 : Int32)), (.ref a1)])) rfl rfl (hb hby own_d12_48)
  have Fw21 := Q20.same W21
  have K21 := K17.wr W21 (Or.inl (List.mem_of_getElem? (i := 0) rfl))
  have N21 := Fr.snoc X21 N18 gg_a1
  have Q22 := (Q19.wr W21)
  have Q23 := ((F_a1_value.keep i17_4 nin0).other W21 (Or.inr (slot_ne (Or.inr (hw _ (List.mem_of_getElem? (i := 8) rfl))) (Or.inr (hw _ (List.mem_of_getElem? (i := 9) rfl))) (by decide) (t := (.array .byte)) (t' := .byte) (by decide) (by decide))))
  obtain ⟨T24, h24, X24, e24, W24, st24⟩ := putF X21 hx hZ hown (host := "") (Or.inl (hw _ (List.mem_of_getElem? (i := 37) rfl))) Via.refl e21 Q23 Q22 (Or.inr ⟨(hw _ (List.mem_of_getElem? (i := 8) rfl)), rfl, hnm⟩) (hw _ (List.mem_of_getElem? (i := 6) rfl)) (ty := (.array .byte)) (by decide) rfl rfl (g := (mkF m 54 #[rv a1, rv a2, iv (0 : Int32), iv (2 : Int32), .val .null, rv b_17] [(.ref b_17), (.ref a1)])) rfl rfl (hb hby own_d12_54)
  have Fw24 := Q23.same W24
  have K24 := K21.wr W24 (Or.inl (List.mem_of_getElem? (i := 0) rfl))
  have N24 := Fr.snoc X24 N21 gg_a1
  have Q25 := (Q22.wr W24)
  have Q26 := (Fw21.other W24 (Or.inr (slot_ne (Or.inr (hw _ (List.mem_of_getElem? (i := 9) rfl))) (Or.inr (hw _ (List.mem_of_getElem? (i := 8) rfl))) (by decide) (t := .byte) (t' := (.array .byte)) (by decide) (by decide))))
  have Q27 := ((i17_6.other W21 (Ne.symm ne_a1_b_17)).other W24 (Ne.symm ne_a1_b_17))
  obtain ⟨fs, hr, hrun, hended, hW, hsame⟩ := X24.leave (v := none) (fun _ => rfl)
  refine ⟨_, _, pre0 _ ?_, hrun, hended, _, _, rfl, ?_, ⟨_, rfl⟩, hW, hsame.mono (by decide) (by decide)⟩
  · show Steps p.tables e below (s₁.setTop (mkF m 0 #[rv a1, rv a2, iv (0 : Int32), iv (2 : Int32), .val .null, .unset] [])) _
    refine XS.aloadN X0.here hx rfl (hb hby own_d12_0) rfl rfl ?_
    show Steps p.tables e below (s₁.setTop (mkF m 1 #[rv a1, rv a2, iv (0 : Int32), iv (2 : Int32), .val .null, .unset] [(.ref a1)])) _
    refine st14 _ ?_
    show Steps p.tables e below (T14.setTop (mkF m 4 #[rv a1, rv a2, iv (0 : Int32), iv (2 : Int32), .val .null, .unset] [])) _
    refine XS.iloadN X14.here hx rfl (hb hby own_d12_4) rfl ?_
    show Steps p.tables e below (T14.setTop (mkF m 5 #[rv a1, rv a2, iv (0 : Int32), iv (2 : Int32), .val .null, .unset] [(.int (2 : Int32))])) _
    refine XS.ifYes X14.here hx rfl (pc0 := 5) (pc' := 27) rfl (hb hby own_d12_5) rfl ((if0 _ _).trans (feq (by decide : ¬ ((2 : Int32) = (0 : Int32)))).2) (by decide) (by decide) ?_
    show Steps p.tables e below (T14.setTop (mkF m 27 #[rv a1, rv a2, iv (0 : Int32), iv (2 : Int32), .val .null, .unset] [])) _
    refine st15 _ ?_
    show Steps p.tables e below (T15.setTop (mkF m 30 #[rv a1, rv a2, iv (0 : Int32), iv (2 : Int32), .val .null, .unset] [(.int cw)])) _
    refine XS.ifNo X15.here hx rfl (hb hby own_d12_30) rfl ((if0 _ _).trans (feq hc30_16).1) ?_
    show Steps p.tables e below (T15.setTop (mkF m 33 #[rv a1, rv a2, iv (0 : Int32), iv (2 : Int32), .val .null, .unset] [])) _
    refine XS.aloadN X15.here hx rfl (hb hby own_d12_33) rfl rfl ?_
    show Steps p.tables e below (T15.setTop (mkF m 34 #[rv a1, rv a2, iv (0 : Int32), iv (2 : Int32), .val .null, .unset] [(.ref a2)])) _
    refine XS.iloadN X15.here hx rfl (hb hby own_d12_34) rfl ?_
    show Steps p.tables e below (T15.setTop (mkF m 35 #[rv a1, rv a2, iv (0 : Int32), iv (2 : Int32), .val .null, .unset] [(.int (0 : Int32)), (.ref a2)])) _
    refine XS.iloadN X15.here hx rfl (hb hby own_d12_35) rfl ?_
    show Steps p.tables e below (T15.setTop (mkF m 36 #[rv a1, rv a2, iv (0 : Int32), iv (2 : Int32), .val .null, .unset] [(.int (2 : Int32)), (.int (0 : Int32)), (.ref a2)])) _
    refine st17 _ ?_
    show Steps p.tables e below (T17.setTop (mkF m 39 #[rv a1, rv a2, iv (0 : Int32), iv (2 : Int32), .val .null, .unset] [(.ref b_17)])) _
    refine XS.astore X17.here hx rfl (hb hby own_d12_39) rfl rfl (l' := #[rv a1, rv a2, iv (0 : Int32), iv (2 : Int32), .val .null, rv b_17]) rfl ?_
    show Steps p.tables e below (T17.setTop (mkF m 41 #[rv a1, rv a2, iv (0 : Int32), iv (2 : Int32), .val .null, rv b_17] [])) _
    refine XS.aloadN X17.here hx rfl (hb hby own_d12_41) rfl rfl ?_
    show Steps p.tables e below (T17.setTop (mkF m 42 #[rv a1, rv a2, iv (0 : Int32), iv (2 : Int32), .val .null, rv b_17] [(.ref a1)])) _
    refine XS.aload X17.here hx rfl (hb hby own_d12_42) rfl rfl ?_
    show Steps p.tables e below (T17.setTop (mkF m 44 #[rv a1, rv a2, iv (0 : Int32), iv (2 : Int32), .val .null, rv b_17] [(.ref b_17), (.ref a1)])) _
    refine XS.iloadN X17.here hx rfl (hb hby own_d12_44) rfl ?_
    show Steps p.tables e below (T17.setTop (mkF m 45 #[rv a1, rv a2, iv (0 : Int32), iv (2 : Int32), .val .null, rv b_17] [(.int (2 : Int32)), (.ref b_17), (.ref a1)])) _
    refine st18 _ ?_
    show Steps p.tables e below (T18.setTop (mkF m 48 #[rv a1, rv a2, iv (0 : Int32), iv (2 : Int32), .val .null, rv b_17] [(.int (0 : Int32)), (.ref a1)])) _
    refine st21 _ ?_
    show Steps p.tables e below (T21.setTop (mkF m 51 #[rv a1, rv a2, iv (0 : Int32), iv (2 : Int32), .val .null, rv b_17] [])) _
    refine XS.aloadN X21.here hx rfl (hb hby own_d12_51) rfl rfl ?_
    show Steps p.tables e below (T21.setTop (mkF m 52 #[rv a1, rv a2, iv (0 : Int32), iv (2 : Int32), .val .null, rv b_17] [(.ref a1)])) _
    refine XS.aload X21.here hx rfl (hb hby own_d12_52) rfl rfl ?_
    show Steps p.tables e below (T21.setTop (mkF m 54 #[rv a1, rv a2, iv (0 : Int32), iv (2 : Int32), .val .null, rv b_17] [(.ref b_17), (.ref a1)])) _
    refine st24 _ ?_
    show Steps p.tables e below (T24.setTop (mkF m 57 #[rv a1, rv a2, iv (0 : Int32), iv (2 : Int32), .val .null, rv b_17] [])) _
    exact X24.returnOut hx Bd.returns (hb hby own_d12_57) hr
  · show QI4_2 Z a1 a2 cw k2 v0 v1 h0 n0 _ T24.heap _
    rw [e24]
    exact ⟨b_17, kb_17, rfl, N24, K24, sz_b_17, Q25, Q26, Fw24, Q27⟩
theorem own_d11_0 : decode jdk_42_method_3_code 0 = .ok (.aload_n 0, 1) := by decide +kernel
theorem own_d11_1 : decode jdk_42_method_3_code 1 = .ok (.aload_n 1, 1) := by decide +kernel
theorem own_d11_2 : decode jdk_42_method_3_code 2 = .ok (.iconst 0, 1) := by decide +kernel
theorem own_d11_3 : decode jdk_42_method_3_code 3 = .ok (.aload_n 1, 1) := by decide +kernel
theorem own_d11_4 : decode jdk_42_method_3_code 4 = .ok (.arraylength, 1) := by decide +kernel
theorem own_d11_5 : decode jdk_42_method_3_code 5 = .ok (.aconst_null, 1) := by decide +kernel
theorem own_d11_6 : decode jdk_42_method_3_code 6 = .ok (.invokespecial 27, 3) := by decide +kernel
theorem own_pd3 : parseMethodDescriptor "([CIILjava/lang/Void;)V" = some ⟨[(.array .char), .int, .int, (.object "java/lang/Void")], none⟩ := by decide +kernel
theorem own_d11_9 : decode jdk_42_method_3_code 9 = .ok (.return_, 1) := by decide +kernel
theorem own_ef_rmI1_2 (m : MethodId) (a1 : Addr) (a2 : Addr) : entryFrame m #[(.ref a1), (.ref a2)] 2 = mkF m 0 #[.val (.ref a1), .val (.ref a2)] [] := by first | (simp [entryFrame, mkF, argsToLocals, Value.category]; done) | rfl
def QI1_2 (Z : State) (a1 : Addr) (a2 : Addr) (cw : Int32) (k2 : ClassId) (v0 : Int32) (v1 : Int32) (h0 : Heap) (n0 : Nat) (v : Option Value) (h : Heap) (L : List Loc) : Prop := ∃ b : Addr, ∃ kb : ClassId, v = none ∧ Fr n0 L ∧ Keep h0 h [a1] ∧ h0.size ≤ b ∧ Exa Z h a1 "java/lang/String" ∧ Fld Z h a1 "java/lang/String" "coder" "B" (.int (0 : Int32)) ∧ Fld Z h a1 "java/lang/String" "value" "[B" (.ref b) ∧ Arv Z h b kb .byte (2 : Int32) [(.int (nar .byte (v0.toInt8.toInt32))), (.int (nar .byte (v1.toInt8.toInt32)))] (.int (0 : Int32))
set_option maxRecDepth 65536 in
set_option maxHeartbeats 40000000 in
theorem rmI1_2 (l : Launch) (Z : State) (a0 : Array Value) (hw : ∀ d ∈ tables_1, d.before a0 Z = true) (ws : List Jvm.Cond) (a1 : Addr) (a2 : Addr) (cw : Int32) (k2 : ClassId) (v0 : Int32) (v1 : Int32) (h0 : Heap) (n0 : Nat) (Z0 : n0 ≤ h0.size) (E_a1 : Exa Z h0 a1 "java/lang/String") (F_a1_value : Fld Z h0 a1 "java/lang/String" "value" "[B" .null) (F_a1_coder : Fld Z h0 a1 "java/lang/String" "coder" "B" (.int (0 : Int32))) (gg_a1 : n0 ≤ a1) (S_COMPACT_STRINGS : Sta Z h0 "java/lang/String" "COMPACT_STRINGS" "Z" (.int cw)) (hw0 : ¬ (cw = (0 : Int32))) (V_a2 : Arv Z h0 a2 k2 .char (2 : Int32) [(.int v0), (.int v1)] (.int (0 : Int32))) (hle_v0 : ¬ ((255 : Int32) < v0)) (hle_v1 : ¬ ((255 : Int32) < v1)) :
    MetFree l (⟨"java/lang/String", "<init>", "([C)V"⟩ : MethodName) (head1 (Jvm.Cond.code (⟨"java/lang/String", "<init>", "([C)V"⟩ : MethodName) jdk_42_method_3_code 2 none :: ws) ({ frames := 3, cells := 1, slots := 2, locals := 52 } : Room)) (fun a U => a = #[(.ref a1), (.ref a2)] ∧ Z.Warmed39 U.vm ∧ U.heap = h0) (fun _ _ _ _ _ => True) (fun _ U o U' => ∃ v L, o = .returned v ∧ QI1_2 Z a1 a2 cw k2 v0 v1 h0 n0 v U'.heap L ∧ FrameEnd U o U' L ({ frames := 3, cells := 1, slots := 2, locals := 52 } : Room).cells ({ frames := 3, cells := 1, slots := 2, locals := 52 } : Room).slots) := by
  refine MetFree.of_bodySF (plainFor_of_name own_pn1) hisR ?_
  intro p e s m args below meth c s₁ Bd hml0 hP hK
  obtain ⟨rfl, hZ, hh⟩ := hP
  have hx := Bd.exec
  have hby := Bd.bytes
  have hml : c.maxLocals = 2 := hml0
  have hown : s.vm.findClass "java/lang/String" = some m.cls := findClass_of_methodNamed Bd.named
  have hnm := (name_of_methodNamed Bd.named Bd.method).1
  have X0 : Stand p l e ({ frames := 3, cells := 1, slots := 2, locals := 52 } : Room) s m #[(.ref a1), (.ref a2)] below meth c s₁ [] 0 0 := Stand.of_body Bd
  have e0 : s₁.heap = h0 := by rw [← hh, Bd.state]; rfl
  have N0 := Fr.nil n0
  have K0 : Keep h0 h0 [a1] := Keep.refl h0 _
  have pre0 : ∀ t, Steps p.tables e below (s₁.setTop (mkF m 0 #[.val (.ref a1), .val (.ref a2)] [])) t → Steps p.tables e below (s₁.setTop (entryFrame m #[(.ref a1), (.ref a2)] 2)) t := fun t k => castTop (own_ef_rmI1_2 m a1 a2) k
  obtain ⟨cl28, Ar28, q28, S28, M28, H28, G28⟩ := id V_a2
  obtain ⟨_, _, ⟨T29, L29, k29, n29⟩, -, X29, ⟨Lc29, hQ29, l29, y29, z29⟩, st29⟩ := X0.specialBack hx (y := (⟨"java/lang/String", "<init>", "([CIILjava/lang/Void;)V"⟩ : MethodName)) rfl hown (mvT hZ (hw _ (List.mem_of_getElem? (i := 54) rfl))) (mvT hZ (hw _ (List.mem_of_getElem? (i := 55) rfl))) (mvT hZ (hw _ (List.mem_of_getElem? (i := 56) rfl))) (by decide) (backOf (W := 0) (rmI4_2 l Z a0 hw [] a1 a2 cw k2 v0 v1 h0 n0 (Nat.le_trans Z0 K0.1) E_a1 F_a1_value F_a1_coder gg_a1 S_COMPACT_STRINGS hw0 V_a2 hle_v0 hle_v1) hZ (hw _ (List.mem_of_getElem? (i := 56) rfl)) (hw _ (List.mem_of_getElem? (i := 5) rfl)) (by decide) (by decide)) (g := (mkF m 6 #[rv a1, rv a2] [.null, (.int (2 : Int32)), (.int (0 : Int32)), (.ref a2), (.ref a1)])) rfl (by rw [hml]; rfl) (Steps.refl _) (a := a1) (argsL := [(.ref a2), (.int (0 : Int32)), (.int (2 : Int32)), .null]) (rest := []) (lenOf own_pd3 rfl) rfl (by show 2 * 0 + _ ≤ _; exact Nat.le_of_eq rfl) (hb hby own_d11_6) (fun _ _ => ⟨rfl, e0, (by decide : 0 + 1 ≤ _), (by decide : 0 + 2 ≤ _)⟩)
  dsimp only [Pt.U, Pt.locs, Pt.cells, Pt.slots] at X29 l29 y29 z29 st29 hQ29
  subst l29 y29 z29
  obtain ⟨b_29, kb_29, rfl, N29q, i29_4, i29_5, i29_6, i29_7, i29_8, i29_9⟩ := hQ29
  have N29 := Fr.app N0 N29q
  have ne_a1_b_29 : a1 ≠ b_29 := Nat.ne_of_lt (Nat.lt_of_lt_of_le E_a1.lt i29_5)
  have ne_a2_b_29 : a2 ≠ b_29 := Nat.ne_of_lt (Nat.lt_of_lt_of_le V_a2.lt i29_5)
  have gg_b_29 : n0 ≤ b_29 := Nat.le_trans (Nat.le_trans Z0 K0.1) i29_5
  have sz_b_29 : h0.size ≤ b_29 := Nat.le_trans K0.1 i29_5
  have K29 := K0.trans i29_4 (allS (Or.inl (List.mem_of_getElem? (i := 0) rfl)) all0)
  obtain ⟨fs, hr, hrun, hended, hW, hsame⟩ := X29.leave (v := none) (fun _ => rfl)
  refine ⟨_, _, pre0 _ ?_, hrun, hended, _, _, rfl, ?_, ⟨_, rfl⟩, hW, hsame.mono (by decide) (by decide)⟩
  · show Steps p.tables e below (s₁.setTop (mkF m 0 #[rv a1, rv a2] [])) _
    refine XS.aloadN X0.here hx rfl (hb hby own_d11_0) rfl rfl ?_
    show Steps p.tables e below (s₁.setTop (mkF m 1 #[rv a1, rv a2] [(.ref a1)])) _
    refine XS.aloadN X0.here hx rfl (hb hby own_d11_1) rfl rfl ?_
    show Steps p.tables e below (s₁.setTop (mkF m 2 #[rv a1, rv a2] [(.ref a2), (.ref a1)])) _
    refine XS.iconst X0.here hx rfl (hb hby own_d11_2) ?_
    show Steps p.tables e below (s₁.setTop (mkF m 3 #[rv a1, rv a2] [(.int (0 : Int32)), (.ref a2), (.ref a1)])) _
    refine XS.aloadN X0.here hx rfl (hb hby own_d11_3) rfl rfl ?_
    show Steps p.tables e below (s₁.setTop (mkF m 4 #[rv a1, rv a2] [(.ref a2), (.int (0 : Int32)), (.ref a2), (.ref a1)])) _
    refine X0.arraylength hx (by rw [e0]; exact Ar28.1) (State.isArrayOf_alike hZ.alike Ar28.2.1) (g := (mkF m 4 #[rv a1, rv a2] [(.ref a2), (.int (0 : Int32)), (.ref a2), (.ref a1)])) rfl rfl (hb hby own_d11_4) _ ?_
    rw [len_of S28 M28]
    show Steps p.tables e below (s₁.setTop (mkF m 5 #[rv a1, rv a2] [(.int (2 : Int32)), (.int (0 : Int32)), (.ref a2), (.ref a1)])) _
    refine XS.aconstNull X0.here hx rfl (hb hby own_d11_5) ?_
    show Steps p.tables e below (s₁.setTop (mkF m 6 #[rv a1, rv a2] [.null, (.int (2 : Int32)), (.int (0 : Int32)), (.ref a2), (.ref a1)])) _
    refine st29.trans ?_
    show Steps p.tables e below (T29.setTop (mkF m 9 #[rv a1, rv a2] [])) _
    exact X29.returnOut hx Bd.returns (hb hby own_d11_9) hr
  · show QI1_2 Z a1 a2 cw k2 v0 v1 h0 n0 _ T29.heap _
    exact ⟨b_29, kb_29, rfl, N29, K29, sz_b_29, i29_6, i29_7, i29_8, i29_9⟩
theorem own_ef_rmC5_3 (m : MethodId) (a1 : Addr) (a3 : Addr) : entryFrame m #[(.ref a1), (.int (0 : Int32)), (.ref a3), (.int (0 : Int32)), (.int (3 : Int32))] 7 = mkF m 0 #[.val (.ref a1), .val (.int (0 : Int32)), .val (.ref a3), .val (.int (0 : Int32)), .val (.int (3 : Int32)), .unset, .unset] [] := by first | (simp [entryFrame, mkF, argsToLocals, Value.category]; done) | rfl
def QC5_3 (Z : State) (a1 : Addr) (a3 : Addr) (k1 : ClassId) (k3 : ClassId) (v0 : Int32) (v1 : Int32) (v2 : Int32) (h0 : Heap) (n0 : Nat) (v : Option Value) (h : Heap) (L : List Loc) : Prop := v = some (.int (3 : Int32)) ∧ Fr n0 L ∧ Keep h0 h [a3] ∧ Arv Z h a3 k3 .byte (3 : Int32) [(.int (nar .byte (v0.toInt8.toInt32))), (.int (nar .byte (v1.toInt8.toInt32))), (.int (nar .byte (v2.toInt8.toInt32)))] (.int (0 : Int32))
set_option maxRecDepth 65536 in
set_option maxHeartbeats 40000000 in
theorem rmC5_3 (l : Launch) (Z : State) (a0 : Array Value) (hw : ∀ d ∈ tables_1, d.before a0 Z = true) (ws : List Jvm.Cond) (a1 : Addr) (a3 : Addr) (k1 : ClassId) (k3 : ClassId) (v0 : Int32) (v1 : Int32) (v2 : Int32) (h0 : Heap) (n0 : Nat) (Z0 : n0 ≤ h0.size) (V_a1 : Arv Z h0 a1 k1 .char (3 : Int32) [(.int v0), (.int v1), (.int v2)] (.int (0 : Int32))) (V_a3 : Arv Z h0 a3 k3 .byte (3 : Int32) [(.int (0 : Int32)), (.int (0 : Int32)), (.int (0 : Int32))] (.int (0 : Int32))) (gg_a3 : n0 ≤ a3) (ne_a1_a3 : a1 ≠ a3) (hle_v0 : ¬ ((255 : Int32) < v0)) (hle_v1 : ¬ ((255 : Int32) < v1)) (hle_v2 : ¬ ((255 : Int32) < v2)) :
    MetFree l (⟨"java/lang/StringUTF16", "compress", "([CI[BII)I"⟩ : MethodName) (head1 (Jvm.Cond.code (⟨"java/lang/StringUTF16", "compress", "([CI[BII)I"⟩ : MethodName) jdk_52_method_21_code 7 (some .int) :: ws) ({ frames := 0, cells := 0, slots := 0, locals := 0 } : Room)) (fun a U => a = #[(.ref a1), (.int (0 : Int32)), (.ref a3), (.int (0 : Int32)), (.int (3 : Int32))] ∧ Z.Warmed39 U.vm ∧ U.heap = h0) (fun _ _ _ _ _ => True) (fun _ U o U' => ∃ v L, o = .returned v ∧ QC5_3 Z a1 a3 k1 k3 v0 v1 v2 h0 n0 v U'.heap L ∧ FrameEnd U o U' L ({ frames := 0, cells := 0, slots := 0, locals := 0 } : Room).cells ({ frames := 0, cells := 0, slots := 0, locals := 0 } : Room).slots) := by
  refine MetFree.of_bodySF (plainFor_of_name own_pn0) hisR ?_
  intro p e s m args below meth c s₁ Bd hml0 hP hK
  obtain ⟨rfl, hZ, hh⟩ := hP
  have hx := Bd.exec
  have hby := Bd.bytes
  have hml : c.maxLocals = 7 := hml0
  have hown : s.vm.findClass "java/lang/StringUTF16" = some m.cls := findClass_of_methodNamed Bd.named
  have hnm := (name_of_methodNamed Bd.named Bd.method).1
  have X0 : Stand p l e ({ frames := 0, cells := 0, slots := 0, locals := 0 } : Room) s m #[(.ref a1), (.int (0 : Int32)), (.ref a3), (.int (0 : Int32)), (.int (3 : Int32))] below meth c s₁ [] 0 0 := Stand.of_body Bd
  have e0 : s₁.heap = h0 := by rw [← hh, Bd.state]; rfl
  have N0 := Fr.nil n0
  have K0 : Keep h0 h0 [a3] := Keep.refl h0 _
  have pre0 : ∀ t, Steps p.tables e below (s₁.setTop (mkF m 0 #[.val (.ref a1), .val (.int (0 : Int32)), .val (.ref a3), .val (.int (0 : Int32)), .val (.int (3 : Int32)), .unset, .unset] [])) t → Steps p.tables e below (s₁.setTop (entryFrame m #[(.ref a1), (.int (0 : Int32)), (.ref a3), (.int (0 : Int32)), (.int (3 : Int32))] 7)) t := fun t k => castTop (own_ef_rmC5_3 m a1 a3) k
  obtain ⟨cl30, Ar30, q30, S30, M30, H30, G30⟩ := id V_a1
  have hin30 : ¬ ((0 : Int32) < 0 ∨ cl30.slots.size ≤ ((0 : Int32)).toNatClampNeg) := inb_of S30 ⟨by decide, by decide⟩
  have hat30 : cl30.slots[((0 : Int32)).toNatClampNeg]? = some (.int v0) := Has.at H30 hin30 rfl
  have hc20_31 : ¬ ((255 : Int32) < v0) := hle_v0
  obtain ⟨cl32, Ar32, q32, S32, M32, H32, G32⟩ := id V_a3
  have hin32 : ¬ ((0 : Int32) < 0 ∨ cl32.slots.size ≤ ((0 : Int32)).toNatClampNeg) := inb_of S32 ⟨by decide, by decide⟩
  obtain ⟨T33, h33, X33, e33, W33, st33⟩ := stB X0 hx hZ e0 Ar32 (j := (0 : Int32)) hin32 (g := (mkF m 31 #[rv a1, iv (0 : Int32), rv a3, iv (0 : Int32), iv (3 : Int32), iv (0 : Int32), iv v0] [(.int (v0.toInt8.toInt32)), (.int (0 : Int32)), (.ref a3)])) rfl rfl (hb hby own_d14_31)
  have V33 : Arv Z h33 a3 k3 .byte (3 : Int32) [(.int (nar .byte (v0.toInt8.toInt32))), (.int (0 : Int32)), (.int (0 : Int32))] (.int (0 : Int32)) := Arv.set Ar32 q32 S32 M32 H32 G32 (fits_nar_byte _) W33 0 rfl (Nat.le_of_ble_eq_true rfl)
  have K33 := K0.wr W33 (Or.inl (List.mem_of_getElem? (i := 0) rfl))
  have N33 := Fr.snoc X33 N0 gg_a3
  have Q35 := (V_a1.other W33 ne_a1_a3)
  obtain ⟨cl34, Ar34, q34, S34, M34, H34, G34⟩ := id Q35
  have hin34 : ¬ ((1 : Int32) < 0 ∨ cl34.slots.size ≤ ((1 : Int32)).toNatClampNeg) := inb_of S34 ⟨by decide, by decide⟩
  have hat34 : cl34.slots[((1 : Int32)).toNatClampNeg]? = some (.int v1) := Has.at H34 hin34 rfl
  have hc20_36 : ¬ ((255 : Int32) < v1) := hle_v1
  obtain ⟨cl37, Ar37, q37, S37, M37, H37, G37⟩ := id V33
  have hin37 : ¬ ((1 : Int32) < 0 ∨ cl37.slots.size ≤ ((1 : Int32)).toNatClampNeg) := inb_of S37 ⟨by decide, by decide⟩
  obtain ⟨T38, h38, X38, e38, W38, st38⟩ := stB X33 hx hZ e33 Ar37 (j := (1 : Int32)) hin37 (g := (mkF m 31 #[rv a1, iv (1 : Int32), rv a3, iv (1 : Int32), iv (3 : Int32), iv (1 : Int32), iv v1] [(.int (v1.toInt8.toInt32)), (.int (1 : Int32)), (.ref a3)])) rfl rfl (hb hby own_d14_31)
  have V38 : Arv Z h38 a3 k3 .byte (3 : Int32) [(.int (nar .byte (v0.toInt8.toInt32))), (.int (nar .byte (v1.toInt8.toInt32))), (.int (0 : Int32))] (.int (0 : Int32)) := Arv.set Ar37 q37 S37 M37 H37 G37 (fits_nar_byte _) W38 1 rfl (Nat.le_of_ble_eq_true rfl)
  have K38 := K33.wr W38 (Or.inl (List.mem_of_getElem? (i := 0) rfl))
  have N38 := Fr.snoc X38 N33 gg_a3
  have Q40 := (Q35.other W38 ne_a1_a3)
  obtain ⟨cl39, Ar39, q39, S39, M39, H39, G39⟩ := id Q40
  have hin39 : ¬ ((2 : Int32) < 0 ∨ cl39.slots.size ≤ ((2 : Int32)).toNatClampNeg) := inb_of S39 ⟨by decide, by decide⟩
  have hat39 : cl39.slots[((2 : Int32)).toNatClampNeg]? = some (.int v2) := Has.at H39 hin39 rfl
  have hc20_41 : ¬ ((255 : Int32) < v2) := hle_v2
  obtain ⟨cl42, Ar42, q42, S42, M42, H42, G42⟩ := id V38
  have hin42 : ¬ ((2 : Int32) < 0 ∨ cl42.slots.size ≤ ((2 : Int32)).toNatClampNeg) := inb_of S42 ⟨by decide, by decide⟩
  obtain ⟨T43, h43, X43, e43, W43, st43⟩ := stB X38 hx hZ e38 Ar42 (j := (2 : Int32)) hin42 (g := (mkF m 31 #[rv a1, iv (2 : Int32), rv a3, iv (2 : Int32), iv (3 : Int32), iv (2 : Int32), iv v2] [(.int (v2.toInt8.toInt32)), (.int (2 : Int32)), (.ref a3)])) rfl rfl (hb hby own_d14_31)
  have V43 : Arv Z h43 a3 k3 .byte (3 : Int32) [(.int (nar .byte (v0.toInt8.toInt32))), (.int (nar .byte (v1.toInt8.toInt32))), (.int (nar .byte (v2.toInt8.toInt32)))] (.int (0 : Int32)) := Arv.set Ar42 q42 S42 M42 H42 G42 (fits_nar_byte _) W43 2 rfl (Nat.le_of_ble_eq_true rfl)
  have K43 := K38.wr W43 (Or.inl (List.mem_of_getElem? (i := 0) rfl))
  have N43 := Fr.snoc X43 N38 gg_a3
  obtain ⟨fs, hr, hrun, hended, hW, hsame⟩ := X43.leave (v := some (.int (3 : Int32))) (fun h => by rw [Bd.returns] at h; cases h)
  refine ⟨_, _, pre0 _ ?_, hrun, hended, _, _, rfl, ?_, ⟨_, rfl⟩, hW, hsame.mono (by decide) (by decide)⟩
  · show Steps p.tables e below (s₁.setTop (mkF m 0 #[rv a1, iv (0 : Int32), rv a3, iv (0 : Int32), iv (3 : Int32), .unset, .unset] [])) _
    refine XS.iconst X0.here hx rfl (hb hby own_d14_0) ?_
    show Steps p.tables e below (s₁.setTop (mkF m 1 #[rv a1, iv (0 : Int32), rv a3, iv (0 : Int32), iv (3 : Int32), .unset, .unset] [(.int (0 : Int32))])) _
    refine XS.istore X0.here hx rfl (hb hby own_d14_1) rfl (l' := #[rv a1, iv (0 : Int32), rv a3, iv (0 : Int32), iv (3 : Int32), iv (0 : Int32), .unset]) rfl ?_
    show Steps p.tables e below (s₁.setTop (mkF m 3 #[rv a1, iv (0 : Int32), rv a3, iv (0 : Int32), iv (3 : Int32), iv (0 : Int32), .unset] [])) _
    refine XS.iload X0.here hx rfl (hb hby own_d14_3) rfl ?_
    show Steps p.tables e below (s₁.setTop (mkF m 5 #[rv a1, iv (0 : Int32), rv a3, iv (0 : Int32), iv (3 : Int32), iv (0 : Int32), .unset] [(.int (0 : Int32))])) _
    refine XS.iload X0.here hx rfl (hb hby own_d14_5) rfl ?_
    show Steps p.tables e below (s₁.setTop (mkF m 7 #[rv a1, iv (0 : Int32), rv a3, iv (0 : Int32), iv (3 : Int32), iv (0 : Int32), .unset] [(.int (3 : Int32)), (.int (0 : Int32))])) _
    refine XS.icmpNo X0.here hx rfl (hb hby own_d14_7) rfl (tlt (by decide : ((0 : Int32) < (3 : Int32)))).2.1 ?_
    show Steps p.tables e below (s₁.setTop (mkF m 10 #[rv a1, iv (0 : Int32), rv a3, iv (0 : Int32), iv (3 : Int32), iv (0 : Int32), .unset] [])) _
    refine XS.aloadN X0.here hx rfl (hb hby own_d14_10) rfl rfl ?_
    show Steps p.tables e below (s₁.setTop (mkF m 11 #[rv a1, iv (0 : Int32), rv a3, iv (0 : Int32), iv (3 : Int32), iv (0 : Int32), .unset] [(.ref a1)])) _
    refine XS.iloadN X0.here hx rfl (hb hby own_d14_11) rfl ?_
    show Steps p.tables e below (s₁.setTop (mkF m 12 #[rv a1, iv (0 : Int32), rv a3, iv (0 : Int32), iv (3 : Int32), iv (0 : Int32), .unset] [(.int (0 : Int32)), (.ref a1)])) _
    refine X0.caload hx (j := (0 : Int32)) (v := (.int v0)) (by rw [e0]; exact Ar30.1) (State.isArrayOf_alike hZ.alike Ar30.2.1) Ar30.2.2 hin30 hat30 (g := (mkF m 12 #[rv a1, iv (0 : Int32), rv a3, iv (0 : Int32), iv (3 : Int32), iv (0 : Int32), .unset] [(.int (0 : Int32)), (.ref a1)])) rfl rfl (hb hby own_d14_12) _ ?_
    show Steps p.tables e below (s₁.setTop (mkF m 13 #[rv a1, iv (0 : Int32), rv a3, iv (0 : Int32), iv (3 : Int32), iv (0 : Int32), .unset] [(.int v0)])) _
    refine XS.istore X0.here hx rfl (hb hby own_d14_13) rfl (l' := #[rv a1, iv (0 : Int32), rv a3, iv (0 : Int32), iv (3 : Int32), iv (0 : Int32), iv v0]) rfl ?_
    show Steps p.tables e below (s₁.setTop (mkF m 15 #[rv a1, iv (0 : Int32), rv a3, iv (0 : Int32), iv (3 : Int32), iv (0 : Int32), iv v0] [])) _
    refine XS.iload X0.here hx rfl (hb hby own_d14_15) rfl ?_
    show Steps p.tables e below (s₁.setTop (mkF m 17 #[rv a1, iv (0 : Int32), rv a3, iv (0 : Int32), iv (3 : Int32), iv (0 : Int32), iv v0] [(.int v0)])) _
    refine XS.sipush X0.here hx rfl (hb hby own_d14_17) ?_
    show Steps p.tables e below (s₁.setTop (mkF m 20 #[rv a1, iv (0 : Int32), rv a3, iv (0 : Int32), iv (3 : Int32), iv (0 : Int32), iv v0] [(.int (255 : Int32)), (.int v0)])) _
    refine XS.icmpYes X0.here hx rfl (pc0 := 20) (pc' := 26) rfl (hb hby own_d14_20) rfl (flt hc20_31).2.2.2 (by decide) (by decide) ?_
    show Steps p.tables e below (s₁.setTop (mkF m 26 #[rv a1, iv (0 : Int32), rv a3, iv (0 : Int32), iv (3 : Int32), iv (0 : Int32), iv v0] [])) _
    refine XS.aloadN X0.here hx rfl (hb hby own_d14_26) rfl rfl ?_
    show Steps p.tables e below (s₁.setTop (mkF m 27 #[rv a1, iv (0 : Int32), rv a3, iv (0 : Int32), iv (3 : Int32), iv (0 : Int32), iv v0] [(.ref a3)])) _
    refine XS.iloadN X0.here hx rfl (hb hby own_d14_27) rfl ?_
    show Steps p.tables e below (s₁.setTop (mkF m 28 #[rv a1, iv (0 : Int32), rv a3, iv (0 : Int32), iv (3 : Int32), iv (0 : Int32), iv v0] [(.int (0 : Int32)), (.ref a3)])) _
    refine XS.iload X0.here hx rfl (hb hby own_d14_28) rfl ?_
    show Steps p.tables e below (s₁.setTop (mkF m 30 #[rv a1, iv (0 : Int32), rv a3, iv (0 : Int32), iv (3 : Int32), iv (0 : Int32), iv v0] [(.int v0), (.int (0 : Int32)), (.ref a3)])) _
    refine XS.i2b X0.here hx rfl (hb hby own_d14_30) rfl ?_
    show Steps p.tables e below (s₁.setTop (mkF m 31 #[rv a1, iv (0 : Int32), rv a3, iv (0 : Int32), iv (3 : Int32), iv (0 : Int32), iv v0] [(.int (v0.toInt8.toInt32)), (.int (0 : Int32)), (.ref a3)])) _
    refine st33 _ ?_
    show Steps p.tables e below (T33.setTop (mkF m 32 #[rv a1, iv (0 : Int32), rv a3, iv (0 : Int32), iv (3 : Int32), iv (0 : Int32), iv v0] [])) _
    refine XS.iinc X33.here hx rfl (hb hby own_d14_32) rfl (l' := #[rv a1, iv (1 : Int32), rv a3, iv (0 : Int32), iv (3 : Int32), iv (0 : Int32), iv v0]) rfl ?_
    show Steps p.tables e below (T33.setTop (mkF m 35 #[rv a1, iv (1 : Int32), rv a3, iv (0 : Int32), iv (3 : Int32), iv (0 : Int32), iv v0] [])) _
    refine XS.iinc X33.here hx rfl (hb hby own_d14_35) rfl (l' := #[rv a1, iv (1 : Int32), rv a3, iv (1 : Int32), iv (3 : Int32), iv (0 : Int32), iv v0]) rfl ?_
    show Steps p.tables e below (T33.setTop (mkF m 38 #[rv a1, iv (1 : Int32), rv a3, iv (1 : Int32), iv (3 : Int32), iv (0 : Int32), iv v0] [])) _
    refine XS.iinc X33.here hx rfl (hb hby own_d14_38) rfl (l' := #[rv a1, iv (1 : Int32), rv a3, iv (1 : Int32), iv (3 : Int32), iv (1 : Int32), iv v0]) rfl ?_
    show Steps p.tables e below (T33.setTop (mkF m 41 #[rv a1, iv (1 : Int32), rv a3, iv (1 : Int32), iv (3 : Int32), iv (1 : Int32), iv v0] [])) _
    refine XS.goto X33.here hx rfl (pc0 := 41) (pc' := 3) rfl (hb hby own_d14_41) (by decide) (by decide) ?_
    show Steps p.tables e below (T33.setTop (mkF m 3 #[rv a1, iv (1 : Int32), rv a3, iv (1 : Int32), iv (3 : Int32), iv (1 : Int32), iv v0] [])) _
    refine XS.iload X33.here hx rfl (hb hby own_d14_3) rfl ?_
    show Steps p.tables e below (T33.setTop (mkF m 5 #[rv a1, iv (1 : Int32), rv a3, iv (1 : Int32), iv (3 : Int32), iv (1 : Int32), iv v0] [(.int (1 : Int32))])) _
    refine XS.iload X33.here hx rfl (hb hby own_d14_5) rfl ?_
    show Steps p.tables e below (T33.setTop (mkF m 7 #[rv a1, iv (1 : Int32), rv a3, iv (1 : Int32), iv (3 : Int32), iv (1 : Int32), iv v0] [(.int (3 : Int32)), (.int (1 : Int32))])) _
    refine XS.icmpNo X33.here hx rfl (hb hby own_d14_7) rfl (tlt (by decide : ((1 : Int32) < (3 : Int32)))).2.1 ?_
    show Steps p.tables e below (T33.setTop (mkF m 10 #[rv a1, iv (1 : Int32), rv a3, iv (1 : Int32), iv (3 : Int32), iv (1 : Int32), iv v0] [])) _
    refine XS.aloadN X33.here hx rfl (hb hby own_d14_10) rfl rfl ?_
    show Steps p.tables e below (T33.setTop (mkF m 11 #[rv a1, iv (1 : Int32), rv a3, iv (1 : Int32), iv (3 : Int32), iv (1 : Int32), iv v0] [(.ref a1)])) _
    refine XS.iloadN X33.here hx rfl (hb hby own_d14_11) rfl ?_
    show Steps p.tables e below (T33.setTop (mkF m 12 #[rv a1, iv (1 : Int32), rv a3, iv (1 : Int32), iv (3 : Int32), iv (1 : Int32), iv v0] [(.int (1 : Int32)), (.ref a1)])) _
    refine X33.caload hx (j := (1 : Int32)) (v := (.int v1)) (by rw [e33]; exact Ar34.1) (State.isArrayOf_alike hZ.alike Ar34.2.1) Ar34.2.2 hin34 hat34 (g := (mkF m 12 #[rv a1, iv (1 : Int32), rv a3, iv (1 : Int32), iv (3 : Int32), iv (1 : Int32), iv v0] [(.int (1 : Int32)), (.ref a1)])) rfl rfl (hb hby own_d14_12) _ ?_
    show Steps p.tables e below (T33.setTop (mkF m 13 #[rv a1, iv (1 : Int32), rv a3, iv (1 : Int32), iv (3 : Int32), iv (1 : Int32), iv v0] [(.int v1)])) _
    refine XS.istore X33.here hx rfl (hb hby own_d14_13) rfl (l' := #[rv a1, iv (1 : Int32), rv a3, iv (1 : Int32), iv (3 : Int32), iv (1 : Int32), iv v1]) rfl ?_
    show Steps p.tables e below (T33.setTop (mkF m 15 #[rv a1, iv (1 : Int32), rv a3, iv (1 : Int32), iv (3 : Int32), iv (1 : Int32), iv v1] [])) _
    refine XS.iload X33.here hx rfl (hb hby own_d14_15) rfl ?_
    show Steps p.tables e below (T33.setTop (mkF m 17 #[rv a1, iv (1 : Int32), rv a3, iv (1 : Int32), iv (3 : Int32), iv (1 : Int32), iv v1] [(.int v1)])) _
    refine XS.sipush X33.here hx rfl (hb hby own_d14_17) ?_
    show Steps p.tables e below (T33.setTop (mkF m 20 #[rv a1, iv (1 : Int32), rv a3, iv (1 : Int32), iv (3 : Int32), iv (1 : Int32), iv v1] [(.int (255 : Int32)), (.int v1)])) _
    refine XS.icmpYes X33.here hx rfl (pc0 := 20) (pc' := 26) rfl (hb hby own_d14_20) rfl (flt hc20_36).2.2.2 (by decide) (by decide) ?_
    show Steps p.tables e below (T33.setTop (mkF m 26 #[rv a1, iv (1 : Int32), rv a3, iv (1 : Int32), iv (3 : Int32), iv (1 : Int32), iv v1] [])) _
    refine XS.aloadN X33.here hx rfl (hb hby own_d14_26) rfl rfl ?_
    show Steps p.tables e below (T33.setTop (mkF m 27 #[rv a1, iv (1 : Int32), rv a3, iv (1 : Int32), iv (3 : Int32), iv (1 : Int32), iv v1] [(.ref a3)])) _
    refine XS.iloadN X33.here hx rfl (hb hby own_d14_27) rfl ?_
    show Steps p.tables e below (T33.setTop (mkF m 28 #[rv a1, iv (1 : Int32), rv a3, iv (1 : Int32), iv (3 : Int32), iv (1 : Int32), iv v1] [(.int (1 : Int32)), (.ref a3)])) _
    refine XS.iload X33.here hx rfl (hb hby own_d14_28) rfl ?_
    show Steps p.tables e below (T33.setTop (mkF m 30 #[rv a1, iv (1 : Int32), rv a3, iv (1 : Int32), iv (3 : Int32), iv (1 : Int32), iv v1] [(.int v1), (.int (1 : Int32)), (.ref a3)])) _
    refine XS.i2b X33.here hx rfl (hb hby own_d14_30) rfl ?_
    show Steps p.tables e below (T33.setTop (mkF m 31 #[rv a1, iv (1 : Int32), rv a3, iv (1 : Int32), iv (3 : Int32), iv (1 : Int32), iv v1] [(.int (v1.toInt8.toInt32)), (.int (1 : Int32)), (.ref a3)])) _
    refine st38 _ ?_
    show Steps p.tables e below (T38.setTop (mkF m 32 #[rv a1, iv (1 : Int32), rv a3, iv (1 : Int32), iv (3 : Int32), iv (1 : Int32), iv v1] [])) _
    refine XS.iinc X38.here hx rfl (hb hby own_d14_32) rfl (l' := #[rv a1, iv (2 : Int32), rv a3, iv (1 : Int32), iv (3 : Int32), iv (1 : Int32), iv v1]) rfl ?_
    show Steps p.tables e below (T38.setTop (mkF m 35 #[rv a1, iv (2 : Int32), rv a3, iv (1 : Int32), iv (3 : Int32), iv (1 : Int32), iv v1] [])) _
    refine XS.iinc X38.here hx rfl (hb hby own_d14_35) rfl (l' := #[rv a1, iv (2 : Int32), rv a3, iv (2 : Int32), iv (3 : Int32), iv (1 : Int32), iv v1]) rfl ?_
    show Steps p.tables e below (T38.setTop (mkF m 38 #[rv a1, iv (2 : Int32), rv a3, iv (2 : Int32), iv (3 : Int32), iv (1 : Int32), iv v1] [])) _
    refine XS.iinc X38.here hx rfl (hb hby own_d14_38) rfl (l' := #[rv a1, iv (2 : Int32), rv a3, iv (2 : Int32), iv (3 : Int32), iv (2 : Int32), iv v1]) rfl ?_
    show Steps p.tables e below (T38.setTop (mkF m 41 #[rv a1, iv (2 : Int32), rv a3, iv (2 : Int32), iv (3 : Int32), iv (2 : Int32), iv v1] [])) _
    refine XS.goto X38.here hx rfl (pc0 := 41) (pc' := 3) rfl (hb hby own_d14_41) (by decide) (by decide) ?_
    show Steps p.tables e below (T38.setTop (mkF m 3 #[rv a1, iv (2 : Int32), rv a3, iv (2 : Int32), iv (3 : Int32), iv (2 : Int32), iv v1] [])) _
    refine XS.iload X38.here hx rfl (hb hby own_d14_3) rfl ?_
    show Steps p.tables e below (T38.setTop (mkF m 5 #[rv a1, iv (2 : Int32), rv a3, iv (2 : Int32), iv (3 : Int32), iv (2 : Int32), iv v1] [(.int (2 : Int32))])) _
    refine XS.iload X38.here hx rfl (hb hby own_d14_5) rfl ?_
    show Steps p.tables e below (T38.setTop (mkF m 7 #[rv a1, iv (2 : Int32), rv a3, iv (2 : Int32), iv (3 : Int32), iv (2 : Int32), iv v1] [(.int (3 : Int32)), (.int (2 : Int32))])) _
    refine XS.icmpNo X38.here hx rfl (hb hby own_d14_7) rfl (tlt (by decide : ((2 : Int32) < (3 : Int32)))).2.1 ?_
    show Steps p.tables e below (T38.setTop (mkF m 10 #[rv a1, iv (2 : Int32), rv a3, iv (2 : Int32), iv (3 : Int32), iv (2 : Int32), iv v1] [])) _
    refine XS.aloadN X38.here hx rfl (hb hby own_d14_10) rfl rfl ?_
    show Steps p.tables e below (T38.setTop (mkF m 11 #[rv a1, iv (2 : Int32), rv a3, iv (2 : Int32), iv (3 : Int32), iv (2 : Int32), iv v1] [(.ref a1)])) _
    refine XS.iloadN X38.here hx rfl (hb hby own_d14_11) rfl ?_
    show Steps p.tables e below (T38.setTop (mkF m 12 #[rv a1, iv (2 : Int32), rv a3, iv (2 : Int32), iv (3 : Int32), iv (2 : Int32), iv v1] [(.int (2 : Int32)), (.ref a1)])) _
    refine X38.caload hx (j := (2 : Int32)) (v := (.int v2)) (by rw [e38]; exact Ar39.1) (State.isArrayOf_alike hZ.alike Ar39.2.1) Ar39.2.2 hin39 hat39 (g := (mkF m 12 #[rv a1, iv (2 : Int32), rv a3, iv (2 : Int32), iv (3 : Int32), iv (2 : Int32), iv v1] [(.int (2 : Int32)), (.ref a1)])) rfl rfl (hb hby own_d14_12) _ ?_
    show Steps p.tables e below (T38.setTop (mkF m 13 #[rv a1, iv (2 : Int32), rv a3, iv (2 : Int32), iv (3 : Int32), iv (2 : Int32), iv v1] [(.int v2)])) _
    refine XS.istore X38.here hx rfl (hb hby own_d14_13) rfl (l' := #[rv a1, iv (2 : Int32), rv a3, iv (2 : Int32), iv (3 : Int32), iv (2 : Int32), iv v2]) rfl ?_
    show Steps p.tables e below (T38.setTop (mkF m 15 #[rv a1, iv (2 : Int32), rv a3, iv (2 : Int32), iv (3 : Int32), iv (2 : Int32), iv v2] [])) _
    refine XS.iload X38.here hx rfl (hb hby own_d14_15) rfl ?_
    show Steps p.tables e below (T38.setTop (mkF m 17 #[rv a1, iv (2 : Int32), rv a3, iv (2 : Int32), iv (3 : Int32), iv (2 : Int32), iv v2] [(.int v2)])) _
    refine XS.sipush X38.here hx rfl (hb hby own_d14_17) ?_
    show Steps p.tables e below (T38.setTop (mkF m 20 #[rv a1, iv (2 : Int32), rv a3, iv (2 : Int32), iv (3 : Int32), iv (2 : Int32), iv v2] [(.int (255 : Int32)), (.int v2)])) _
    refine XS.icmpYes X38.here hx rfl (pc0 := 20) (pc' := 26) rfl (hb hby own_d14_20) rfl (flt hc20_41).2.2.2 (by decide) (by decide) ?_
    show Steps p.tables e below (T38.setTop (mkF m 26 #[rv a1, iv (2 : Int32), rv a3, iv (2 : Int32), iv (3 : Int32), iv (2 : Int32), iv v2] [])) _
    refine XS.aloadN X38.here hx rfl (hb hby own_d14_26) rfl rfl ?_
    show Steps p.tables e below (T38.setTop (mkF m 27 #[rv a1, iv (2 : Int32), rv a3, iv (2 : Int32), iv (3 : Int32), iv (2 : Int32), iv v2] [(.ref a3)])) _
    refine XS.iloadN X38.here hx rfl (hb hby own_d14_27) rfl ?_
    show Steps p.tables e below (T38.setTop (mkF m 28 #[rv a1, iv (2 : Int32), rv a3, iv (2 : Int32), iv (3 : Int32), iv (2 : Int32), iv v2] [(.int (2 : Int32)), (.ref a3)])) _
    refine XS.iload X38.here hx rfl (hb hby own_d14_28) rfl ?_
    show Steps p.tables e below (T38.setTop (mkF m 30 #[rv a1, iv (2 : Int32), rv a3, iv (2 : Int32), iv (3 : Int32), iv (2 : Int32), iv v2] [(.int v2), (.int (2 : Int32)), (.ref a3)])) _
    refine XS.i2b X38.here hx rfl (hb hby own_d14_30) rfl ?_
    show Steps p.tables e below (T38.setTop (mkF m 31 #[rv a1, iv (2 : Int32), rv a3, iv (2 : Int32), iv (3 : Int32), iv (2 : Int32), iv v2] [(.int (v2.toInt8.toInt32)), (.int (2 : Int32)), (.ref a3)])) _
    refine st43 _ ?_
    show Steps p.tables e below (T43.setTop (mkF m 32 #[rv a1, iv (2 : Int32), rv a3, iv (2 : Int32), iv (3 : Int32), iv (2 : Int32), iv v2] [])) _
    refine XS.iinc X43.here hx rfl (hb hby own_d14_32) rfl (l' := #[rv a1, iv (3 : Int32), rv a3, iv (2 : Int32), iv (3 : Int32), iv (2 : Int32), iv v2]) rfl ?_
    show Steps p.tables e below (T43.setTop (mkF m 35 #[rv a1, iv (3 : Int32), rv a3, iv (2 : Int32), iv (3 : Int32), iv (2 : Int32), iv v2] [])) _
    refine XS.iinc X43.here hx rfl (hb hby own_d14_35) rfl (l' := #[rv a1, iv (3 : Int32), rv a3, iv (3 : Int32), iv (3 : Int32), iv (2 : Int32), iv v2]) rfl ?_
    show Steps p.tables e below (T43.setTop (mkF m 38 #[rv a1, iv (3 : Int32), rv a3, iv (3 : Int32), iv (3 : Int32), iv (2 : Int32), iv v2] [])) _
    refine XS.iinc X43.here hx rfl (hb hby own_d14_38) rfl (l' := #[rv a1, iv (3 : Int32), rv a3, iv (3 : Int32), iv (3 : Int32), iv (3 : Int32), iv v2]) rfl ?_
    show Steps p.tables e below (T43.setTop (mkF m 41 #[rv a1, iv (3 : Int32), rv a3, iv (3 : Int32), iv (3 : Int32), iv (3 : Int32), iv v2] [])) _
    refine XS.goto X43.here hx rfl (pc0 := 41) (pc' := 3) rfl (hb hby own_d14_41) (by decide) (by decide) ?_
    show Steps p.tables e below (T43.setTop (mkF m 3 #[rv a1, iv (3 : Int32), rv a3, iv (3 : Int32), iv (3 : Int32), iv (3 : Int32), iv v2] [])) _
    refine XS.iload X43.here hx rfl (hb hby own_d14_3) rfl ?_
    show Steps p.tables e below (T43.setTop (mkF m 5 #[rv a1, iv (3 : Int32), rv a3, iv (3 : Int32), iv (3 : Int32), iv (3 : Int32), iv v2] [(.int (3 : Int32))])) _
    refine XS.iload X43.here hx rfl (hb hby own_d14_5) rfl ?_
    show Steps p.tables e below (T43.setTop (mkF m 7 #[rv a1, iv (3 : Int32), rv a3, iv (3 : Int32), iv (3 : Int32), iv (3 : Int32), iv v2] [(.int (3 : Int32)), (.int (3 : Int32))])) _
    refine XS.icmpYes X43.here hx rfl (pc0 := 7) (pc' := 44) rfl (hb hby own_d14_7) rfl (flt (by decide : ¬ ((3 : Int32) < (3 : Int32)))).2.1 (by decide) (by decide) ?_
    show Steps p.tables e below (T43.setTop (mkF m 44 #[rv a1, iv (3 : Int32), rv a3, iv (3 : Int32), iv (3 : Int32), iv (3 : Int32), iv v2] [])) _
    refine XS.iload X43.here hx rfl (hb hby own_d14_44) rfl ?_
    show Steps p.tables e below (T43.setTop (mkF m 46 #[rv a1, iv (3 : Int32), rv a3, iv (3 : Int32), iv (3 : Int32), iv (3 : Int32), iv v2] [(.int (3 : Int32))])) _
    exact retI X43 hx Bd.returns (hb hby own_d14_46) hr
  · show QC5_3 Z a1 a3 k1 k3 v0 v1 v2 h0 n0 _ T43.heap _
    rw [e43]
    exact ⟨rfl, N43, K43, V43⟩
theorem own_ef_rmC3_3 (m : MethodId) (a1 : Addr) : entryFrame m #[(.ref a1), (.int (0 : Int32)), (.int (3 : Int32))] 6 = mkF m 0 #[.val (.ref a1), .val (.int (0 : Int32)), .val (.int (3 : Int32)), .unset, .unset, .unset] [] := by first | (simp [entryFrame, mkF, argsToLocals, Value.category]; done) | rfl
def QC3_3 (Z : State) (a1 : Addr) (k1 : ClassId) (v0 : Int32) (v1 : Int32) (v2 : Int32) (h0 : Heap) (n0 : Nat) (v : Option Value) (h : Heap) (L : List Loc) : Prop := ∃ b : Addr, ∃ kb : ClassId, v = some (.ref b) ∧ Fr n0 L ∧ Keep h0 h [] ∧ h0.size ≤ b ∧ Arv Z h b kb .byte (3 : Int32) [(.int (nar .byte (v0.toInt8.toInt32))), (.int (nar .byte (v1.toInt8.toInt32))), (.int (nar .byte (v2.toInt8.toInt32)))] (.int (0 : Int32))
set_option maxRecDepth 65536 in
set_option maxHeartbeats 40000000 in
theorem rmC3_3 (l : Launch) (Z : State) (a0 : Array Value) (hw : ∀ d ∈ tables_1, d.before a0 Z = true) (ws : List Jvm.Cond) (a1 : Addr) (k1 : ClassId) (v0 : Int32) (v1 : Int32) (v2 : Int32) (h0 : Heap) (n0 : Nat) (Z0 : n0 ≤ h0.size) (V_a1 : Arv Z h0 a1 k1 .char (3 : Int32) [(.int v0), (.int v1), (.int v2)] (.int (0 : Int32))) (hle_v0 : ¬ ((255 : Int32) < v0)) (hle_v1 : ¬ ((255 : Int32) < v1)) (hle_v2 : ¬ ((255 : Int32) < v2)) :
    MetFree l (⟨"java/lang/StringUTF16", "compress", "([CII)[B"⟩ : MethodName) (head1 (Jvm.Cond.code (⟨"java/lang/StringUTF16", "compress", "([CII)[B"⟩ : MethodName) jdk_52_method_16_code 6 (some (.array .byte)) :: ws) ({ frames := 1, cells := 1, slots := 3, locals := 18 } : Room)) (fun a U => a = #[(.ref a1), (.int (0 : Int32)), (.int (3 : Int32))] ∧ Z.Warmed39 U.vm ∧ U.heap = h0) (fun _ _ _ _ _ => True) (fun _ U o U' => ∃ v L, o = .returned v ∧ QC3_3 Z a1 k1 v0 v1 v2 h0 n0 v U'.heap L ∧ FrameEnd U o U' L ({ frames := 1, cells := 1, slots := 3, locals := 18 } : Room).cells ({ frames := 1, cells := 1, slots := 3, locals := 18 } : Room).slots) := by
  refine MetFree.of_bodySF (plainFor_of_name own_pn0) hisR ?_
  intro p e s m args below meth c s₁ Bd hml0 hP hK
  obtain ⟨rfl, hZ, hh⟩ := hP
  have hx := Bd.exec
  have hby := Bd.bytes
  have hml : c.maxLocals = 6 := hml0
  have hown : s.vm.findClass "java/lang/StringUTF16" = some m.cls := findClass_of_methodNamed Bd.named
  have hnm := (name_of_methodNamed Bd.named Bd.method).1
  have X0 : Stand p l e ({ frames := 1, cells := 1, slots := 3, locals := 18 } : Room) s m #[(.ref a1), (.int (0 : Int32)), (.int (3 : Int32))] below meth c s₁ [] 0 0 := Stand.of_body Bd
  have e0 : s₁.heap = h0 := by rw [← hh, Bd.state]; rfl
  have N0 := Fr.nil n0
  have K0 : Keep h0 h0 [] := Keep.refl h0 _
  have pre0 : ∀ t, Steps p.tables e below (s₁.setTop (mkF m 0 #[.val (.ref a1), .val (.int (0 : Int32)), .val (.int (3 : Int32)), .unset, .unset, .unset] [])) t → Steps p.tables e below (s₁.setTop (entryFrame m #[(.ref a1), (.int (0 : Int32)), (.int (3 : Int32))] 6)) t := fun t k => castTop (own_ef_rmC3_3 m a1) k
  obtain ⟨T44, h44, k44, X44, e44, E44, A44, st44⟩ := newP X0 hx hZ (hw _ (List.mem_of_getElem? (i := 7) rfl)) e0 (g := (mkF m 1 #[rv a1, iv (0 : Int32), iv (3 : Int32), .unset, .unset, .unset] [(.int (3 : Int32))])) rfl (hb hby own_d13_1) rfl (by decide) (cap := 3) (by decide) (by decide) (by decide) (by decide)
  obtain ⟨b44, g44⟩ : ∃ z, z = h0.size := ⟨_, rfl⟩
  rw [← g44] at A44 st44
  have ne_a1_b44 : a1 ≠ b44 := Nat.ne_of_lt (Nat.lt_of_lt_of_le V_a1.lt (Nat.le_of_eq g44.symm))
  have gg_b44 : n0 ≤ b44 := Nat.le_trans (Nat.le_trans Z0 K0.1) (Nat.le_of_eq g44.symm)
  have sz_b44 : h0.size ≤ b44 := Nat.le_trans K0.1 (Nat.le_of_eq g44.symm)
  have K44 := K0.ext E44
  have V44 : Arv Z h44 b44 k44 .byte (3 : Int32) [(.int (0 : Int32)), (.int (0 : Int32)), (.int (0 : Int32))] (.int (0 : Int32)) := (Arv.new A44 (by decide)).pad (pad_rep [] (.int (0 : Int32)) 3)
  have Q45 := (V_a1.ext E44)
  obtain ⟨_, _, ⟨T46, L46, k46, n46⟩, -, X46, ⟨Lc46, hQ46, l46, y46, z46⟩, st46⟩ := Jvm.LawKit.callS X44 hx (y := (⟨"java/lang/StringUTF16", "compress", "([CI[BII)I"⟩ : MethodName)) hown (mvT hZ (hw _ (List.mem_of_getElem? (i := 61) rfl))) (mvT hZ (hw _ (List.mem_of_getElem? (i := 62) rfl))) (mvT hZ (hw _ (List.mem_of_getElem? (i := 59) rfl))) (mvT hZ (hw _ (List.mem_of_getElem? (i := 63) rfl))) (by decide) (backOf (W := 0) (rmC5_3 l Z a0 hw [] a1 b44 k1 k44 v0 v1 v2 h44 n0 (Nat.le_trans Z0 K44.1) Q45 V44 gg_b44 ne_a1_b44 hle_v0 hle_v1 hle_v2) hZ (hw _ (List.mem_of_getElem? (i := 63) rfl)) (hw _ (List.mem_of_getElem? (i := 59) rfl)) (by decide) (by decide)) (g := (mkF m 9 #[rv a1, iv (0 : Int32), iv (3 : Int32), rv b44, .unset, .unset] [(.int (3 : Int32)), (.int (0 : Int32)), (.ref b44), (.int (0 : Int32)), (.ref a1)])) rfl (by rw [hml]; rfl) (argsL := [(.ref a1), (.int (0 : Int32)), (.ref b44), (.int (0 : Int32)), (.int (3 : Int32))]) (rest := []) (lenOf own_pd0 rfl) rfl (by show 2 * 0 + _ ≤ _; exact Nat.le_of_eq rfl) (hb hby own_d13_9) (fun _ _ => ⟨rfl, e44, (by decide : 1 + 0 ≤ _), (by decide : 3 + 0 ≤ _)⟩)
  dsimp only [Pt.U, Pt.locs, Pt.cells, Pt.slots] at X46 l46 y46 z46 st46 hQ46
  subst l46 y46 z46
  obtain ⟨rfl, N46q, i46_2, i46_3⟩ := hQ46
  have N46 := Fr.app N0 N46q
  have K46 := K44.trans i46_2 (allS (Or.inr sz_b44) all0)
  obtain ⟨fs, hr, hrun, hended, hW, hsame⟩ := X46.leave (v := some (.ref b44)) (fun h => by rw [Bd.returns] at h; cases h)
  refine ⟨_, _, pre0 _ ?_, hrun, hended, _, _, rfl, ?_, ⟨_, rfl⟩, hW, hsame.mono (by decide) (by decide)⟩
  · show Steps p.tables e below (s₁.setTop (mkF m 0 #[rv a1, iv (0 : Int32), iv (3 : Int32), .unset, .unset, .unset] [])) _
    refine XS.iloadN X0.here hx rfl (hb hby own_d13_0) rfl ?_
    show Steps p.tables e below (s₁.setTop (mkF m 1 #[rv a1, iv (0 : Int32), iv (3 : Int32), .unset, .unset, .unset] [(.int (3 : Int32))])) _
    refine st44 _ ?_
    show Steps p.tables e below (T44.setTop (mkF m 3 #[rv a1, iv (0 : Int32), iv (3 : Int32), .unset, .unset, .unset] [(.ref b44)])) _
    refine XS.astoreN X44.here hx rfl (hb hby own_d13_3) rfl rfl (l' := #[rv a1, iv (0 : Int32), iv (3 : Int32), rv b44, .unset, .unset]) rfl ?_
    show Steps p.tables e below (T44.setTop (mkF m 4 #[rv a1, iv (0 : Int32), iv (3 : Int32), rv b44, .unset, .unset] [])) _
    refine XS.aloadN X44.here hx rfl (hb hby own_d13_4) rfl rfl ?_
    show Steps p.tables e below (T44.setTop (mkF m 5 #[rv a1, iv (0 : Int32), iv (3 : Int32), rv b44, .unset, .unset] [(.ref a1)])) _
    refine XS.iloadN X44.here hx rfl (hb hby own_d13_5) rfl ?_
    show Steps p.tables e below (T44.setTop (mkF m 6 #[rv a1, iv (0 : Int32), iv (3 : Int32), rv b44, .unset, .unset] [(.int (0 : Int32)), (.ref a1)])) _
    refine XS.aloadN X44.here hx rfl (hb hby own_d13_6) rfl rfl ?_
    show Steps p.tables e below (T44.setTop (mkF m 7 #[rv a1, iv (0 : Int32), iv (3 : Int32), rv b44, .unset, .unset] [(.ref b44), (.int (0 : Int32)), (.ref a1)])) _
    refine XS.iconst X44.here hx rfl (hb hby own_d13_7) ?_
    show Steps p.tables e below (T44.setTop (mkF m 8 #[rv a1, iv (0 : Int32), iv (3 : Int32), rv b44, .unset, .unset] [(.int (0 : Int32)), (.ref b44), (.int (0 : Int32)), (.ref a1)])) _
    refine XS.iloadN X44.here hx rfl (hb hby own_d13_8) rfl ?_
    show Steps p.tables e below (T44.setTop (mkF m 9 #[rv a1, iv (0 : Int32), iv (3 : Int32), rv b44, .unset, .unset] [(.int (3 : Int32)), (.int (0 : Int32)), (.ref b44), (.int (0 : Int32)), (.ref a1)])) _
    refine st46 _ ?_
    show Steps p.tables e below (T46.setTop (mkF m 12 #[rv a1, iv (0 : Int32), iv (3 : Int32), rv b44, .unset, .unset] [(.int (3 : Int32))])) _
    refine XS.istore X46.here hx rfl (hb hby own_d13_12) rfl (l' := #[rv a1, iv (0 : Int32), iv (3 : Int32), rv b44, iv (3 : Int32), .unset]) rfl ?_
    show Steps p.tables e below (T46.setTop (mkF m 14 #[rv a1, iv (0 : Int32), iv (3 : Int32), rv b44, iv (3 : Int32), .unset] [])) _
    refine XS.iload X46.here hx rfl (hb hby own_d13_14) rfl ?_
    show Steps p.tables e below (T46.setTop (mkF m 16 #[rv a1, iv (0 : Int32), iv (3 : Int32), rv b44, iv (3 : Int32), .unset] [(.int (3 : Int32))])) _
    refine XS.iloadN X46.here hx rfl (hb hby own_d13_16) rfl ?_
    show Steps p.tables e below (T46.setTop (mkF m 17 #[rv a1, iv (0 : Int32), iv (3 : Int32), rv b44, iv (3 : Int32), .unset] [(.int (3 : Int32)), (.int (3 : Int32))])) _
    refine XS.icmpYes X46.here hx rfl (pc0 := 17) (pc' := 57) rfl (hb hby own_d13_17) rfl (teq (by decide : ((3 : Int32) = (3 : Int32)))).1 (by decide) (by decide) ?_
    show Steps p.tables e below (T46.setTop (mkF m 57 #[rv a1, iv (0 : Int32), iv (3 : Int32), rv b44, iv (3 : Int32), .unset] [])) _
    refine XS.aloadN X46.here hx rfl (hb hby own_d13_57) rfl rfl ?_
    show Steps p.tables e below (T46.setTop (mkF m 58 #[rv a1, iv (0 : Int32), iv (3 : Int32), rv b44, iv (3 : Int32), .unset] [(.ref b44)])) _
    jvm_step X46.here [X46.here.top, hx, (hb hby own_d13_58), X46.method', Bd.returns, Value.isRef, FieldType.isReference]
    first | (intro acts; rw [hr _ acts rfl rfl rfl]) | rw [hr _ _ rfl rfl rfl]
    exact Steps.refl _
  · show QC3_3 Z a1 k1 v0 v1 v2 h0 n0 _ T46.heap _
    exact ⟨b44, k44, rfl, N46, K46, sz_b44, i46_3⟩
theorem own_ef_rmCo_3 (m : MethodId) (a1 : Addr) : entryFrame m #[(.ref a1), (.int (3 : Int32))] 2 = mkF m 0 #[.val (.ref a1), .val (.int (3 : Int32))] [] := by first | (simp [entryFrame, mkF, argsToLocals, Value.category]; done) | rfl
def QCo_3 (Z : State) (a1 : Addr) (k1 : ClassId) (v0 : Int32) (v1 : Int32) (v2 : Int32) (h0 : Heap) (n0 : Nat) (v : Option Value) (h : Heap) (L : List Loc) : Prop := v = some (.int (0 : Int32)) ∧ Fr n0 L ∧ h = h0
set_option maxRecDepth 65536 in
set_option maxHeartbeats 40000000 in
theorem rmCo_3 (l : Launch) (Z : State) (a0 : Array Value) (hw : ∀ d ∈ tables_1, d.before a0 Z = true) (ws : List Jvm.Cond) (a1 : Addr) (k1 : ClassId) (v0 : Int32) (v1 : Int32) (v2 : Int32) (h0 : Heap) (n0 : Nat) (Z0 : n0 ≤ h0.size) (V_a1 : Arv Z h0 a1 k1 .byte (3 : Int32) [(.int v0), (.int v1), (.int v2)] (.int (0 : Int32))) :
    MetFree l (⟨"java/lang/StringUTF16", "coderFromArrayLen", "([BI)B"⟩ : MethodName) (head1 (Jvm.Cond.code (⟨"java/lang/StringUTF16", "coderFromArrayLen", "([BI)B"⟩ : MethodName) jdk_52_method_15_code 2 (some .byte) :: ws) ({ frames := 0, cells := 0, slots := 0, locals := 0 } : Room)) (fun a U => a = #[(.ref a1), (.int (3 : Int32))] ∧ Z.Warmed39 U.vm ∧ U.heap = h0) (fun _ _ _ _ _ => True) (fun _ U o U' => ∃ v L, o = .returned v ∧ QCo_3 Z a1 k1 v0 v1 v2 h0 n0 v U'.heap L ∧ FrameEnd U o U' L ({ frames := 0, cells := 0, slots := 0, locals := 0 } : Room).cells ({ frames := 0, cells := 0, slots := 0, locals := 0 } : Room).slots) := by
  refine MetFree.of_bodySF (plainFor_of_name own_pn0) hisR ?_
  intro p e s m args below meth c s₁ Bd hml0 hP hK
  obtain ⟨rfl, hZ, hh⟩ := hP
  have hx := Bd.exec
  have hby := Bd.bytes
  have hml : c.maxLocals = 2 := hml0
  have hown : s.vm.findClass "java/lang/StringUTF16" = some m.cls := findClass_of_methodNamed Bd.named
  have hnm := (name_of_methodNamed Bd.named Bd.method).1
  have X0 : Stand p l e ({ frames := 0, cells := 0, slots := 0, locals := 0 } : Room) s m #[(.ref a1), (.int (3 : Int32))] below meth c s₁ [] 0 0 := Stand.of_body Bd
  have e0 : s₁.heap = h0 := by rw [← hh, Bd.state]; rfl
  have N0 := Fr.nil n0
  have K0 : Keep h0 h0 [] := Keep.refl h0 _
  have pre0 : ∀ t, Steps p.tables e below (s₁.setTop (mkF m 0 #[.val (.ref a1), .val (.int (3 : Int32))] [])) t → Steps p.tables e below (s₁.setTop (entryFrame m #[(.ref a1), (.int (3 : Int32))] 2)) t := fun t k => castTop (own_ef_rmCo_3 m a1) k
  obtain ⟨cl47, Ar47, q47, S47, M47, H47, G47⟩ := id V_a1
  obtain ⟨fs, hr, hrun, hended, hW, hsame⟩ := X0.leave (v := some (.int (0 : Int32))) (fun h => by rw [Bd.returns] at h; cases h)
  refine ⟨_, _, pre0 _ ?_, hrun, hended, _, _, rfl, ?_, ⟨_, rfl⟩, hW, hsame.mono (by decide) (by decide)⟩
  · show Steps p.tables e below (s₁.setTop (mkF m 0 #[rv a1, iv (3 : Int32)] [])) _
    refine XS.iloadN X0.here hx rfl (hb hby own_d15_0) rfl ?_
    show Steps p.tables e below (s₁.setTop (mkF m 1 #[rv a1, iv (3 : Int32)] [(.int (3 : Int32))])) _
    refine XS.aloadN X0.here hx rfl (hb hby own_d15_1) rfl rfl ?_
    show Steps p.tables e below (s₁.setTop (mkF m 2 #[rv a1, iv (3 : Int32)] [(.ref a1), (.int (3 : Int32))])) _
    refine X0.arraylength hx (by rw [e0]; exact Ar47.1) (State.isArrayOf_alike hZ.alike Ar47.2.1) (g := (mkF m 2 #[rv a1, iv (3 : Int32)] [(.ref a1), (.int (3 : Int32))])) rfl rfl (hb hby own_d15_2) _ ?_
    rw [len_of S47 M47]
    show Steps p.tables e below (s₁.setTop (mkF m 3 #[rv a1, iv (3 : Int32)] [(.int (3 : Int32)), (.int (3 : Int32))])) _
    refine XS.isub X0.here hx rfl (hb hby own_d15_3) rfl ?_
    show Steps p.tables e below (s₁.setTop (mkF m 4 #[rv a1, iv (3 : Int32)] [(.int (0 : Int32))])) _
    refine XS.bipush X0.here hx rfl (hb hby own_d15_4) ?_
    show Steps p.tables e below (s₁.setTop (mkF m 6 #[rv a1, iv (3 : Int32)] [(.int (31 : Int32)), (.int (0 : Int32))])) _
    refine XS.iushr X0.here hx rfl (hb hby own_d15_6) rfl ?_
    show Steps p.tables e below (s₁.setTop (mkF m 7 #[rv a1, iv (3 : Int32)] [(.int (0 : Int32))])) _
    refine XS.i2b X0.here hx rfl (hb hby own_d15_7) rfl ?_
    show Steps p.tables e below (s₁.setTop (mkF m 8 #[rv a1, iv (3 : Int32)] [(.int (0 : Int32))])) _
    exact retN X0 hx (t := .byte) Bd.returns (by simp) (hb hby own_d15_8) hr
  · show QCo_3 Z a1 k1 v0 v1 v2 h0 n0 _ s₁.heap _
    rw [e0]
    exact ⟨rfl, N0, rfl⟩
theorem own_ef_rmI4_3 (m : MethodId) (a1 : Addr) (a2 : Addr) : entryFrame m #[(.ref a1), (.ref a2), (.int (0 : Int32)), (.int (3 : Int32)), .null] 6 = mkF m 0 #[.val (.ref a1), .val (.ref a2), .val (.int (0 : Int32)), .val (.int (3 : Int32)), .val .null, .unset] [] := by first | (simp [entryFrame, mkF, argsToLocals, Value.category]; done) | rfl
def QI4_3 (Z : State) (a1 : Addr) (a2 : Addr) (cw : Int32) (k2 : ClassId) (v0 : Int32) (v1 : Int32) (v2 : Int32) (h0 : Heap) (n0 : Nat) (v : Option Value) (h : Heap) (L : List Loc) : Prop := ∃ b : Addr, ∃ kb : ClassId, v = none ∧ Fr n0 L ∧ Keep h0 h [a1] ∧ h0.size ≤ b ∧ Exa Z h a1 "java/lang/String" ∧ Fld Z h a1 "java/lang/String" "coder" "B" (.int (0 : Int32)) ∧ Fld Z h a1 "java/lang/String" "value" "[B" (.ref b) ∧ Arv Z h b kb .byte (3 : Int32) [(.int (nar .byte (v0.toInt8.toInt32))), (.int (nar .byte (v1.toInt8.toInt32))), (.int (nar .byte (v2.toInt8.toInt32)))] (.int (0 : Int32))
set_option maxRecDepth 65536 in
set_option maxHeartbeats 40000000 in
theorem rmI4_3 (l : Launch) (Z : State) (a0 : Array Value) (hw : ∀ d ∈ tables_1, d.before a0 Z = true) (ws : List Jvm.Cond) (a1 : Addr) (a2 : Addr) (cw : Int32) (k2 : ClassId) (v0 : Int32) (v1 : Int32) (v2 : Int32) (h0 : Heap) (n0 : Nat) (Z0 : n0 ≤ h0.size) (E_a1 : Exa Z h0 a1 "java/lang/String") (F_a1_value : Fld Z h0 a1 "java/lang/String" "value" "[B" .null) (F_a1_coder : Fld Z h0 a1 "java/lang/String" "coder" "B" (.int (0 : Int32))) (gg_a1 : n0 ≤ a1) (S_COMPACT_STRINGS : Sta Z h0 "java/lang/String" "COMPACT_STRINGS" "Z" (.int cw)) (hw0 : ¬ (cw = (0 : Int32))) (V_a2 : Arv Z h0 a2 k2 .char (3 : Int32) [(.int v0), (.int v1), (.int v2)] (.int (0 : Int32))) (hle_v0 : ¬ ((255 : Int32) < v0)) (hle_v1 : ¬ ((255 : Int32) < v1)) (hle_v2 : ¬ ((255 : Int32) < v2)) :
    MetFree l (⟨"java/lang/String", "<init>", "([CIILjava/lang/Void;)V"⟩ : MethodName) (head1 (Jvm.Cond.code (⟨"java/lang/String", "<init>", "([CIILjava/lang/Void;)V"⟩ : MethodName) jdk_42_method_149_code 6 none :: ws) ({ frames := 2, cells := 1, slots := 3, locals := 35 } : Room)) (fun a U => a = #[(.ref a1), (.ref a2), (.int (0 : Int32)), (.int (3 : Int32)), .null] ∧ Z.Warmed39 U.vm ∧ U.heap = h0) (fun _ _ _ _ _ => True) (fun _ U o U' => ∃ v L, o = .returned v ∧ QI4_3 Z a1 a2 cw k2 v0 v1 v2 h0 n0 v U'.heap L ∧ FrameEnd U o U' L ({ frames := 2, cells := 1, slots := 3, locals := 35 } : Room).cells ({ frames := 2, cells := 1, slots := 3, locals := 35 } : Room).slots) := by
  refine MetFree.of_bodySF (plainFor_of_name own_pn1) hisR ?_
  intro p e s m args below meth c s₁ Bd hml0 hP hK
  obtain ⟨rfl, hZ, hh⟩ := hP
  have hx := Bd.exec
  have hby := Bd.bytes
  have hml : c.maxLocals = 6 := hml0
  have hown : s.vm.findClass "java/lang/String" = some m.cls := findClass_of_methodNamed Bd.named
  have hnm := (name_of_methodNamed Bd.named Bd.method).1
  have X0 : Stand p l e ({ frames := 2, cells := 1, slots := 3, locals := 35 } : Room) s m #[(.ref a1), (.ref a2), (.int (0 : Int32)), (.int (3 : Int32)), .null] below meth c s₁ [] 0 0 := Stand.of_body Bd
  have e0 : s₁.heap = h0 := by rw [← hh, Bd.state]; rfl
  have N0 := Fr.nil n0
  have K0 : Keep h0 h0 [a1] := Keep.refl h0 _
  have pre0 : ∀ t, Steps p.tables e below (s₁.setTop (mkF m 0 #[.val (.ref a1), .val (.ref a2), .val (.int (0 : Int32)), .val (.int (3 : Int32)), .val .null, .unset] [])) t → Steps p.tables e below (s₁.setTop (entryFrame m #[(.ref a1), (.ref a2), (.int (0 : Int32)), (.int (3 : Int32)), .null] 6)) t := fun t k => castTop (own_ef_rmI4_3 m a1 a2) k
  obtain ⟨T48, X48, e48, st48⟩ := initO X0 hx hZ hown (hw _ (List.mem_of_getElem? (i := 34) rfl)) (hw _ (List.mem_of_getElem? (i := 35) rfl)) (hw _ (List.mem_of_getElem? (i := 36) rfl)) e0 (g := (mkF m 1 #[rv a1, rv a2, iv (0 : Int32), iv (3 : Int32), .val .null, .unset] [(.ref a1)])) rfl (by rw [hml]; rfl) rfl (hb hby own_d12_1) (by decide) (W := 0) (by show 2 * 0 + _ ≤ _; exact Nat.le_of_eq rfl) (by decide)
  obtain ⟨T49, X49, e49, st49⟩ := getS2 X48 hx hZ hown (host := "") (Or.inl (hw _ (List.mem_of_getElem? (i := 21) rfl))) Via.refl e48 S_COMPACT_STRINGS (g := (mkF m 27 #[rv a1, rv a2, iv (0 : Int32), iv (3 : Int32), .val .null, .unset] [])) rfl (hb hby own_d12_27)
  have hc30_50 : ¬ (cw = (0 : Int32)) := hw0
  obtain ⟨_, _, ⟨T51, L51, k51, n51⟩, -, X51, ⟨Lc51, hQ51, l51, y51, z51⟩, st51⟩ := Jvm.LawKit.callS X49 hx (y := (⟨"java/lang/StringUTF16", "compress", "([CII)[B"⟩ : MethodName)) hown (mvT hZ (hw _ (List.mem_of_getElem? (i := 57) rfl))) (mvT hZ (hw _ (List.mem_of_getElem? (i := 58) rfl))) (mvT hZ (hw _ (List.mem_of_getElem? (i := 59) rfl))) (mvT hZ (hw _ (List.mem_of_getElem? (i := 60) rfl))) (by decide) (backOf (W := 0) (rmC3_3 l Z a0 hw [] a2 k2 v0 v1 v2 h0 n0 (Nat.le_trans Z0 K0.1) V_a2 hle_v0 hle_v1 hle_v2) hZ (hw _ (List.mem_of_getElem? (i := 60) rfl)) (hw _ (List.mem_of_getElem? (i := 59) rfl)) (by decide) (by decide)) (g := (mkF m 36 #[rv a1, rv a2, iv (0 : Int32), iv (3 : Int32), .val .null, .unset] [(.int (3 : Int32)), (.int (0 : Int32)), (.ref a2)])) rfl (by rw [hml]; rfl) (argsL := [(.ref a2), (.int (0 : Int32)), (.int (3 : Int32))]) (rest := []) (lenOf own_pd1 rfl) rfl (by show 2 * 0 + _ ≤ _; exact Nat.le_of_eq rfl) (hb hby own_d12_36) (fun _ _ => ⟨rfl, e49, (by decide : 0 + 1 ≤ _), (by decide : 0 + 3 ≤ _)⟩)
  dsimp only [Pt.U, Pt.locs, Pt.cells, Pt.slots] at X51 l51 y51 z51 st51 hQ51
  subst l51 y51 z51
  obtain ⟨b_51, kb_51, rfl, N51q, i51_4, i51_5, i51_6⟩ := hQ51
  have N51 := Fr.app N0 N51q
  have ne_a1_b_51 : a1 ≠ b_51 := Nat.ne_of_lt (Nat.lt_of_lt_of_le E_a1.lt i51_5)
  have ne_a2_b_51 : a2 ≠ b_51 := Nat.ne_of_lt (Nat.lt_of_lt_of_le V_a2.lt i51_5)
  have gg_b_51 : n0 ≤ b_51 := Nat.le_trans (Nat.le_trans Z0 K0.1) i51_5
  have sz_b_51 : h0.size ≤ b_51 := Nat.le_trans K0.1 i51_5
  have K51 := K0.trans i51_4 all0
  obtain ⟨_, _, ⟨T52, L52, k52, n52⟩, -, X52, ⟨Lc52, hQ52, l52, y52, z52⟩, st52⟩ := Jvm.LawKit.callS X51 hx (y := (⟨"java/lang/StringUTF16", "coderFromArrayLen", "([BI)B"⟩ : MethodName)) hown (mvT hZ (hw _ (List.mem_of_getElem? (i := 64) rfl))) (mvT hZ (hw _ (List.mem_of_getElem? (i := 65) rfl))) (mvT hZ (hw _ (List.mem_of_getElem? (i := 59) rfl))) (mvT hZ (hw _ (List.mem_of_getElem? (i := 66) rfl))) (by decide) (backOf (W := 1) (rmCo_3 l Z a0 hw [] b_51 kb_51 (nar .byte (v0.toInt8.toInt32)) (nar .byte (v1.toInt8.toInt32)) (nar .byte (v2.toInt8.toInt32)) T51.heap n0 (Nat.le_trans Z0 K51.1) i51_6) hZ (hw _ (List.mem_of_getElem? (i := 66) rfl)) (hw _ (List.mem_of_getElem? (i := 59) rfl)) (by decide) (by decide)) (g := (mkF m 45 #[rv a1, rv a2, iv (0 : Int32), iv (3 : Int32), .val .null, rv b_51] [(.int (3 : Int32)), (.ref b_51), (.ref a1)])) rfl (by rw [hml]; rfl) (argsL := [(.ref b_51), (.int (3 : Int32))]) (rest := [(.ref a1)]) (lenOf own_pd2 rfl) rfl (by show 2 * 0 + _ ≤ _; exact Nat.le_of_eq rfl) (hb hby own_d12_45) (fun _ _ => ⟨rfl, rfl, (by decide : 1 + 0 ≤ _), (by decide : 3 + 0 ≤ _)⟩)
  dsimp only [Pt.U, Pt.locs, Pt.cells, Pt.slots] at X52 l52 y52 z52 st52 hQ52
  subst l52 y52 z52
  obtain ⟨rfl, N52q, e52⟩ := hQ52
  have N52 := Fr.app N51 N52q
  have Q53 := (E_a1.keep i51_4)
  have Q54 := (F_a1_coder.keep i51_4 nin0)
  obtain ⟨T55, h55, X55, e55, W55, st55⟩ := putFN X52 hx hZ hown (hw _ (List.mem_of_getElem? (i := 38) rfl)) Via.refl e52 Q54 Q53 (Or.inr ⟨(hw _ (List.mem_of_getElem? (i := 9) rfl)), rfl, hnm⟩) (hw _ (List.mem_of_getElem? (i := 6) rfl)) (ty := .byte) (v' := (.int (0 : Int32))) (by decide) rfl (by decide) (g := (mkF m 48 #[rv a1, rv a2, iv (0 : Int32), iv (3 : Int32), .val .null, rv b_51] [(.int (0 : Int32)), (.ref a1)])) rfl rfl (hb hby own_d12_48)
  have Fw55 := Q54.same W55
  have K55 := K51.wr W55 (Or.inl (List.mem_of_getElem? (i := 0) rfl))
  have N55 := Fr.snoc X55 N52 gg_a1
  have Q56 := (Q53.wr W55)
  have Q57 := ((F_a1_value.keep i51_4 nin0).other W55 (Or.inr (slot_ne (Or.inr (hw _ (List.mem_of_getElem? (i := 8) rfl))) (Or.inr (hw _ (List.mem_of_getElem? (i := 9) rfl))) (by decide) (t := (.array .byte)) (t' := .byte) (by decide) (by decide))))
  obtain ⟨T58, h58, X58, e58, W58, st58⟩ := putF X55 hx hZ hown (host := "") (Or.inl (hw _ (List.mem_of_getElem? (i := 37) rfl))) Via.refl e55 Q57 Q56 (Or.inr ⟨(hw _ (List.mem_of_getElem? (i := 8) rfl)), rfl, hnm⟩) (hw _ (List.mem_of_getElem? (i := 6) rfl)) (ty := (.array .byte)) (by decide) rfl rfl (g := (mkF m 54 #[rv a1, rv a2, iv (0 : Int32), iv (3 : Int32), .val .null, rv b_51] [(.ref b_51), (.ref a1)])) rfl rfl (hb hby own_d12_54)
  have Fw58 := Q57.same W58
  have K58 := K55.wr W58 (Or.inl (List.mem_of_getElem? (i := 0) rfl))
  have N58 := Fr.snoc X58 N55 gg_a1
  have Q59 := (Q56.wr W58)
  have Q60 := (Fw55.other W58 (Or.inr (slot_ne (Or.inr (hw _ (List.mem_of_getElem? (i := 9) rfl))) (Or.inr (hw _ (List.mem_of_getElem? (i := 8) rfl))) (by decide) (t := .byte) (t' := (.array .byte)) (by decide) (by decide))))
  have Q61 := ((i51_6.other W55 (Ne.symm ne_a1_b_51)).other W58 (Ne.symm ne_a1_b_51))
  obtain ⟨fs, hr, hrun, hended, hW, hsame⟩ := X58.leave (v := none) (fun _ => rfl)
  refine ⟨_, _, pre0 _ ?_, hrun, hended, _, _, rfl, ?_, ⟨_, rfl⟩, hW, hsame.mono (by decide) (by decide)⟩
  · show Steps p.tables e below (s₁.setTop (mkF m 0 #[rv a1, rv a2, iv (0 : Int32), iv (3 : Int32), .val .null, .unset] [])) _
    refine XS.aloadN X0.here hx rfl (hb hby own_d12_0) rfl rfl ?_
    show Steps p.tables e below (s₁.setTop (mkF m 1 #[rv a1, rv a2, iv (0 : Int32), iv (3 : Int32), .val .null, .unset] [(.ref a1)])) _
    refine st48 _ ?_
    show Steps p.tables e below (T48.setTop (mkF m 4 #[rv a1, rv a2, iv (0 : Int32), iv (3 : Int32), .val .null, .unset] [])) _
    refine XS.iloadN X48.here hx rfl (hb hby own_d12_4) rfl ?_
    show Steps p.tables e below (T48.setTop (mkF m 5 #[rv a1, rv a2, iv (0 : Int32), iv (3 : Int32), .val .null, .unset] [(.int (3 : Int32))])) _
    refine XS.ifYes X48.here hx rfl (pc0 := 5) (pc' := 27) rfl (hb hby own_d12_5) rfl ((if0 _ _).trans (feq (by decide : ¬ ((3 : Int32) = (0 : Int32)))).2) (by decide) (by decide) ?_
    show Steps p.tables e below (T48.setTop (mkF m 27 #[rv a1, rv a2, iv (0 : Int32), iv (3 : Int32), .val .null, .unset] [])) _
    refine st49 _ ?_
    show Steps p.tables e below (T49.setTop (mkF m 30 #[rv a1, rv a2, iv (0 : Int32), iv (3 : Int32), .val .null, .unset] [(.int cw)])) _
    refine XS.ifNo X49.here hx rfl (hb hby own_d12_30) rfl ((if0 _ _).trans (feq hc30_50).1) ?_
    show Steps p.tables e below (T49.setTop (mkF m 33 #[rv a1, rv a2, iv (0 : Int32), iv (3 : Int32), .val .null, .unset] [])) _
    refine XS.aloadN X49.here hx rfl (hb hby own_d12_33) rfl rfl ?_
    show Steps p.tables e below (T49.setTop (mkF m 34 #[rv a1, rv a2, iv (0 : Int32), iv (3 : Int32), .val .null, .unset] [(.ref a2)])) _
    refine XS.iloadN X49.here hx rfl (hb hby own_d12_34) rfl ?_
    show Steps p.tables e below (T49.setTop (mkF m 35 #[rv a1, rv a2, iv (0 : Int32), iv (3 : Int32), .val .null, .unset] [(.int (0 : Int32)), (.ref a2)])) _
    refine XS.iloadN X49.here hx rfl (hb hby own_d12_35) rfl ?_
    show Steps p.tables e below (T49.setTop (mkF m 36 #[rv a1, rv a2, iv (0 : Int32), iv (3 : Int32), .val .null, .unset] [(.int (3 : Int32)), (.int (0 : Int32)), (.ref a2)])) _
    refine st51 _ ?_
    show Steps p.tables e below (T51.setTop (mkF m 39 #[rv a1, rv a2, iv (0 : Int32), iv (3 : Int32), .val .null, .unset] [(.ref b_51)])) _
    refine XS.astore X51.here hx rfl (hb hby own_d12_39) rfl rfl (l' := #[rv a1, rv a2, iv (0 : Int32), iv (3 : Int32), .val .null, rv b_51]) rfl ?_
    show Steps p.tables e below (T51.setTop (mkF m 41 #[rv a1, rv a2, iv (0 : Int32), iv (3 : Int32), .val .null, rv b_51] [])) _
    refine XS.aloadN X51.here hx rfl (hb hby own_d12_41) rfl rfl ?_
    show Steps p.tables e below (T51.setTop (mkF m 42 #[rv a1, rv a2, iv (0 : Int32), iv (3 : Int32), .val .null, rv b_51] [(.ref a1)])) _
    refine XS.aload X51.here hx rfl (hb hby own_d12_42) rfl rfl ?_
    show Steps p.tables e below (T51.setTop (mkF m 44 #[rv a1, rv a2, iv (0 : Int32), iv (3 : Int32), .val .null, rv b_51] [(.ref b_51), (.ref a1)])) _
    refine XS.iloadN X51.here hx rfl (hb hby own_d12_44) rfl ?_
    show Steps p.tables e below (T51.setTop (mkF m 45 #[rv a1, rv a2, iv (0 : Int32), iv (3 : Int32), .val .null, rv b_51] [(.int (3 : Int32)), (.ref b_51), (.ref a1)])) _
    refine st52 _ ?_
    show Steps p.tables e below (T52.setTop (mkF m 48 #[rv a1, rv a2, iv (0 : Int32), iv (3 : Int32), .val .null, rv b_51] [(.int (0 : Int32)), (.ref a1)])) _
    refine st55 _ ?_
    show Steps p.tables e below (T55.setTop (mkF m 51 #[rv a1, rv a2, iv (0 : Int32), iv (3 : Int32), .val .null, rv b_51] [])) _
    refine XS.aloadN X55.here hx rfl (hb hby own_d12_51) rfl rfl ?_
    show Steps p.tables e below (T55.setTop (mkF m 52 #[rv a1, rv a2, iv (0 : Int32), iv (3 : Int32), .val .null, rv b_51] [(.ref a1)])) _
    refine XS.aload X55.here hx rfl (hb hby own_d12_52) rfl rfl ?_
    show Steps p.tables e below (T55.setTop (mkF m 54 #[rv a1, rv a2, iv (0 : Int32), iv (3 : Int32), .val .null, rv b_51] [(.ref b_51), (.ref a1)])) _
    refine st58 _ ?_
    show Steps p.tables e below (T58.setTop (mkF m 57 #[rv a1, rv a2, iv (0 : Int32), iv (3 : Int32), .val .null, rv b_51] [])) _
    exact X58.returnOut hx Bd.returns (hb hby own_d12_57) hr
  · show QI4_3 Z a1 a2 cw k2 v0 v1 v2 h0 n0 _ T58.heap _
    rw [e58]
    exact ⟨b_51, kb_51, rfl, N58, K58, sz_b_51, Q59, Q60, Fw58, Q61⟩
theorem own_ef_rmI1_3 (m : MethodId) (a1 : Addr) (a2 : Addr) : entryFrame m #[(.ref a1), (.ref a2)] 2 = mkF m 0 #[.val (.ref a1), .val (.ref a2)] [] := by first | (simp [entryFrame, mkF, argsToLocals, Value.category]; done) | rfl
def QI1_3 (Z : State) (a1 : Addr) (a2 : Addr) (cw : Int32) (k2 : ClassId) (v0 : Int32) (v1 : Int32) (v2 : Int32) (h0 : Heap) (n0 : Nat) (v : Option Value) (h : Heap) (L : List Loc) : Prop := ∃ b : Addr, ∃ kb : ClassId, v = none ∧ Fr n0 L ∧ Keep h0 h [a1] ∧ h0.size ≤ b ∧ Exa Z h a1 "java/lang/String" ∧ Fld Z h a1 "java/lang/String" "coder" "B" (.int (0 : Int32)) ∧ Fld Z h a1 "java/lang/String" "value" "[B" (.ref b) ∧ Arv Z h b kb .byte (3 : Int32) [(.int (nar .byte (v0.toInt8.toInt32))), (.int (nar .byte (v1.toInt8.toInt32))), (.int (nar .byte (v2.toInt8.toInt32)))] (.int (0 : Int32))
set_option maxRecDepth 65536 in
set_option maxHeartbeats 40000000 in
theorem rmI1_3 (l : Launch) (Z : State) (a0 : Array Value) (hw : ∀ d ∈ tables_1, d.before a0 Z = true) (ws : List Jvm.Cond) (a1 : Addr) (a2 : Addr) (cw : Int32) (k2 : ClassId) (v0 : Int32) (v1 : Int32) (v2 : Int32) (h0 : Heap) (n0 : Nat) (Z0 : n0 ≤ h0.size) (E_a1 : Exa Z h0 a1 "java/lang/String") (F_a1_value : Fld Z h0 a1 "java/lang/String" "value" "[B" .null) (F_a1_coder : Fld Z h0 a1 "java/lang/String" "coder" "B" (.int (0 : Int32))) (gg_a1 : n0 ≤ a1) (S_COMPACT_STRINGS : Sta Z h0 "java/lang/String" "COMPACT_STRINGS" "Z" (.int cw)) (hw0 : ¬ (cw = (0 : Int32))) (V_a2 : Arv Z h0 a2 k2 .char (3 : Int32) [(.int v0), (.int v1), (.int v2)] (.int (0 : Int32))) (hle_v0 : ¬ ((255 : Int32) < v0)) (hle_v1 : ¬ ((255 : Int32) < v1)) (hle_v2 : ¬ ((255 : Int32) < v2)) :
    MetFree l (⟨"java/lang/String", "<init>", "([C)V"⟩ : MethodName) (head1 (Jvm.Cond.code (⟨"java/lang/String", "<init>", "([C)V"⟩ : MethodName) jdk_42_method_3_code 2 none :: ws) ({ frames := 3, cells := 1, slots := 3, locals := 52 } : Room)) (fun a U => a = #[(.ref a1), (.ref a2)] ∧ Z.Warmed39 U.vm ∧ U.heap = h0) (fun _ _ _ _ _ => True) (fun _ U o U' => ∃ v L, o = .returned v ∧ QI1_3 Z a1 a2 cw k2 v0 v1 v2 h0 n0 v U'.heap L ∧ FrameEnd U o U' L ({ frames := 3, cells := 1, slots := 3, locals := 52 } : Room).cells ({ frames := 3, cells := 1, slots := 3, locals := 52 } : Room).slots) := by
  refine MetFree.of_bodySF (plainFor_of_name own_pn1) hisR ?_
  intro p e s m args below meth c s₁ Bd hml0 hP hK
  obtain ⟨rfl, hZ, hh⟩ := hP
  have hx := Bd.exec
  have hby := Bd.bytes
  have hml : c.maxLocals = 2 := hml0
  have hown : s.vm.findClass "java/lang/String" = some m.cls := findClass_of_methodNamed Bd.named
  have hnm := (name_of_methodNamed Bd.named Bd.method).1
  have X0 : Stand p l e ({ frames := 3, cells := 1, slots := 3, locals := 52 } : Room) s m #[(.ref a1), (.ref a2)] below meth c s₁ [] 0 0 := Stand.of_body Bd
  have e0 : s₁.heap = h0 := by rw [← hh, Bd.state]; rfl
  have N0 := Fr.nil n0
  have K0 : Keep h0 h0 [a1] := Keep.refl h0 _
  have pre0 : ∀ t, Steps p.tables e below (s₁.setTop (mkF m 0 #[.val (.ref a1), .val (.ref a2)] [])) t → Steps p.tables e below (s₁.setTop (entryFrame m #[(.ref a1), (.ref a2)] 2)) t := fun t k => castTop (own_ef_rmI1_3 m a1 a2) k
  obtain ⟨cl62, Ar62, q62, S62, M62, H62, G62⟩ := id V_a2
  obtain ⟨_, _, ⟨T63, L63, k63, n63⟩, -, X63, ⟨Lc63, hQ63, l63, y63, z63⟩, st63⟩ := X0.specialBack hx (y := (⟨"java/lang/String", "<init>", "([CIILjava/lang/Void;)V"⟩ : MethodName)) rfl hown (mvT hZ (hw _ (List.mem_of_getElem? (i := 54) rfl))) (mvT hZ (hw _ (List.mem_of_getElem? (i := 55) rfl))) (mvT hZ (hw _ (List.mem_of_getElem? (i := 56) rfl))) (by decide) (backOf (W := 0) (rmI4_3 l Z a0 hw [] a1 a2 cw k2 v0 v1 v2 h0 n0 (Nat.le_trans Z0 K0.1) E_a1 F_a1_value F_a1_coder gg_a1 S_COMPACT_STRINGS hw0 V_a2 hle_v0 hle_v1 hle_v2) hZ (hw _ (List.mem_of_getElem? (i := 56) rfl)) (hw _ (List.mem_of_getElem? (i := 5) rfl)) (by decide) (by decide)) (g := (mkF m 6 #[rv a1, rv a2] [.null, (.int (3 : Int32)), (.int (0 : Int32)), (.ref a2), (.ref a1)])) rfl (by rw [hml]; rfl) (Steps.refl _) (a := a1) (argsL := [(.ref a2), (.int (0 : Int32)), (.int (3 : Int32)), .null]) (rest := []) (lenOf own_pd3 rfl) rfl (by show 2 * 0 + _ ≤ _; exact Nat.le_of_eq rfl) (hb hby own_d11_6) (fun _ _ => ⟨rfl, e0, (by decide : 0 + 1 ≤ _), (by decide : 0 + 3 ≤ _)⟩)
  dsimp only [Pt.U, Pt.locs, Pt.cells, Pt.slots] at X63 l63 y63 z63 st63 hQ63
  subst l63 y63 z63
  obtain ⟨b_63, kb_63, rfl, N63q, i63_4, i63_5, i63_6, i63_7, i63_8, i63_9⟩ := hQ63
  have N63 := Fr.app N0 N63q
  have ne_a1_b_63 : a1 ≠ b_63 := Nat.ne_of_lt (Nat.lt_of_lt_of_le E_a1.lt i63_5)
  have ne_a2_b_63 : a2 ≠ b_63 := Nat.ne_of_lt (Nat.lt_of_lt_of_le V_a2.lt i63_5)
  have gg_b_63 : n0 ≤ b_63 := Nat.le_trans (Nat.le_trans Z0 K0.1) i63_5
  have sz_b_63 : h0.size ≤ b_63 := Nat.le_trans K0.1 i63_5
  have K63 := K0.trans i63_4 (allS (Or.inl (List.mem_of_getElem? (i := 0) rfl)) all0)
  obtain ⟨fs, hr, hrun, hended, hW, hsame⟩ := X63.leave (v := none) (fun _ => rfl)
  refine ⟨_, _, pre0 _ ?_, hrun, hended, _, _, rfl, ?_, ⟨_, rfl⟩, hW, hsame.mono (by decide) (by decide)⟩
  · show Steps p.tables e below (s₁.setTop (mkF m 0 #[rv a1, rv a2] [])) _
    refine XS.aloadN X0.here hx rfl (hb hby own_d11_0) rfl rfl ?_
    show Steps p.tables e below (s₁.setTop (mkF m 1 #[rv a1, rv a2] [(.ref a1)])) _
    refine XS.aloadN X0.here hx rfl (hb hby own_d11_1) rfl rfl ?_
    show Steps p.tables e below (s₁.setTop (mkF m 2 #[rv a1, rv a2] [(.ref a2), (.ref a1)])) _
    refine XS.iconst X0.here hx rfl (hb hby own_d11_2) ?_
    show Steps p.tables e below (s₁.setTop (mkF m 3 #[rv a1, rv a2] [(.int (0 : Int32)), (.ref a2), (.ref a1)])) _
    refine XS.aloadN X0.here hx rfl (hb hby own_d11_3) rfl rfl ?_
    show Steps p.tables e below (s₁.setTop (mkF m 4 #[rv a1, rv a2] [(.ref a2), (.int (0 : Int32)), (.ref a2), (.ref a1)])) _
    refine X0.arraylength hx (by rw [e0]; exact Ar62.1) (State.isArrayOf_alike hZ.alike Ar62.2.1) (g := (mkF m 4 #[rv a1, rv a2] [(.ref a2), (.int (0 : Int32)), (.ref a2), (.ref a1)])) rfl rfl (hb hby own_d11_4) _ ?_
    rw [len_of S62 M62]
    show Steps p.tables e below (s₁.setTop (mkF m 5 #[rv a1, rv a2] [(.int (3 : Int32)), (.int (0 : Int32)), (.ref a2), (.ref a1)])) _
    refine XS.aconstNull X0.here hx rfl (hb hby own_d11_5) ?_
    show Steps p.tables e below (s₁.setTop (mkF m 6 #[rv a1, rv a2] [.null, (.int (3 : Int32)), (.int (0 : Int32)), (.ref a2), (.ref a1)])) _
    refine st63.trans ?_
    show Steps p.tables e below (T63.setTop (mkF m 9 #[rv a1, rv a2] [])) _
    exact X63.returnOut hx Bd.returns (hb hby own_d11_9) hr
  · show QI1_3 Z a1 a2 cw k2 v0 v1 v2 h0 n0 _ T63.heap _
    exact ⟨b_63, kb_63, rfl, N63, K63, sz_b_63, i63_6, i63_7, i63_8, i63_9⟩
theorem own_d4_0 : decode jdk_43_method_3_code 0 = .ok (.iload_n 0, 1) := by decide +kernel
theorem own_d4_1 : decode jdk_43_method_3_code 1 = .ok (.sipush 255, 3) := by decide +kernel
theorem own_d4_4 : decode jdk_43_method_3_code 4 = .ok (.if_icmp .gt 7, 3) := by decide +kernel
theorem own_d4_11 : decode jdk_43_method_3_code 11 = .ok (.iconst 0, 1) := by decide +kernel
theorem own_d4_12 : decode jdk_43_method_3_code 12 = .ok (.ireturn, 1) := by decide +kernel
theorem own_d4_7 : decode jdk_43_method_3_code 7 = .ok (.iconst 1, 1) := by decide +kernel
theorem own_d4_8 : decode jdk_43_method_3_code 8 = .ok (.goto 4, 3) := by decide +kernel
def own_f_rmV1 (p1 : Int32) : Int32 := if (255 : Int32) < p1 then (0 : Int32) else (1 : Int32)
theorem own_pn2 : plainName "java/lang/StringLatin1" = true := by first | (simp [plainName, overriddenIn]; done) | decide +kernel
theorem own_ef_rmV1 (m : MethodId) (p1 : Int32) : entryFrame m #[(.int p1)] 1 = mkF m 0 #[.val (.int p1)] [] := by first | (simp [entryFrame, mkF, argsToLocals, Value.category]; done) | rfl
def QV1 (Z : State) (p1 : Int32) (h0 : Heap) (n0 : Nat) (v : Option Value) (h : Heap) (L : List Loc) : Prop := v = some (.int (own_f_rmV1 p1)) ∧ Fr n0 L ∧ h = h0
set_option maxRecDepth 65536 in
set_option maxHeartbeats 40000000 in
theorem rmV1 (l : Launch) (Z : State) (a0 : Array Value) (hw : ∀ d ∈ tables_1, d.before a0 Z = true) (ws : List Jvm.Cond) (p1 : Int32) (h0 : Heap) (n0 : Nat) (Z0 : n0 ≤ h0.size) :
    MetFree l (⟨"java/lang/StringLatin1", "canEncode", "(C)Z"⟩ : MethodName) (head1 (Jvm.Cond.code (⟨"java/lang/StringLatin1", "canEncode", "(C)Z"⟩ : MethodName) jdk_43_method_3_code 1 (some .boolean) :: ws) ({ frames := 0, cells := 0, slots := 0, locals := 0 } : Room)) (fun a U => a = #[(.int p1)] ∧ Z.Warmed39 U.vm ∧ U.heap = h0) (fun _ _ _ _ _ => True) (fun _ U o U' => ∃ v L, o = .returned v ∧ QV1 Z p1 h0 n0 v U'.heap L ∧ FrameEnd U o U' L ({ frames := 0, cells := 0, slots := 0, locals := 0 } : Room).cells ({ frames := 0, cells := 0, slots := 0, locals := 0 } : Room).slots) := by
  refine MetFree.of_bodySF (plainFor_of_name own_pn2) hisR ?_
  intro p e s m args below meth c s₁ Bd hml0 hP hK
  obtain ⟨rfl, hZ, hh⟩ := hP
  have hx := Bd.exec
  have hby := Bd.bytes
  have hml : c.maxLocals = 1 := hml0
  have hown : s.vm.findClass "java/lang/StringLatin1" = some m.cls := findClass_of_methodNamed Bd.named
  have hnm := (name_of_methodNamed Bd.named Bd.method).1
  have X0 : Stand p l e ({ frames := 0, cells := 0, slots := 0, locals := 0 } : Room) s m #[(.int p1)] below meth c s₁ [] 0 0 := Stand.of_body Bd
  have e0 : s₁.heap = h0 := by rw [← hh, Bd.state]; rfl
  have N0 := Fr.nil n0
  have K0 : Keep h0 h0 [] := Keep.refl h0 _
  have pre0 : ∀ t, Steps p.tables e below (s₁.setTop (mkF m 0 #[.val (.int p1)] [])) t → Steps p.tables e below (s₁.setTop (entryFrame m #[(.int p1)] 1)) t := fun t k => castTop (own_ef_rmV1 m p1) k
  have pre65 : ∀ t, Steps p.tables e below (s₁.setTop (mkF m 4 #[iv p1] [(.int (255 : Int32)), (.int p1)])) t → Steps p.tables e below (s₁.setTop (entryFrame m #[(.int p1)] 1)) t := fun t k => by
    refine pre0 _ ?_
    show Steps p.tables e below (s₁.setTop (mkF m 0 #[iv p1] [])) _
    refine XS.iloadN X0.here hx rfl (hb hby own_d4_0) rfl ?_
    show Steps p.tables e below (s₁.setTop (mkF m 1 #[iv p1] [(.int p1)])) _
    refine XS.sipush X0.here hx rfl (hb hby own_d4_1) ?_
    exact k
  by_cases hc4 : (255 : Int32) < p1
  · obtain ⟨fs, hr, hrun, hended, hW, hsame⟩ := X0.leave (v := some (.int (0 : Int32))) (fun h => by rw [Bd.returns] at h; cases h)
    refine ⟨_, _, pre65 _ ?_, hrun, hended, _, _, rfl, ?_, ⟨_, rfl⟩, hW, hsame.mono (by decide) (by decide)⟩
    · show Steps p.tables e below (s₁.setTop (mkF m 4 #[iv p1] [(.int (255 : Int32)), (.int p1)])) _
      refine XS.icmpYes X0.here hx rfl (pc0 := 4) (pc' := 11) rfl (hb hby own_d4_4) rfl (tlt hc4).2.2.1 (by decide) (by decide) ?_
      show Steps p.tables e below (s₁.setTop (mkF m 11 #[iv p1] [])) _
      refine XS.iconst X0.here hx rfl (hb hby own_d4_11) ?_
      show Steps p.tables e below (s₁.setTop (mkF m 12 #[iv p1] [(.int (0 : Int32))])) _
      exact retN X0 hx (t := .boolean) Bd.returns (by simp) (hb hby own_d4_12) hr
    · show QV1 Z p1 h0 n0 _ s₁.heap _
      rw [e0]
      exact ⟨(congrArg (fun z => some (Value.int z)) (by unfold own_f_rmV1; rw [if_pos hc4] : (0 : Int32) = (own_f_rmV1 p1))), N0, rfl⟩
  · obtain ⟨fs, hr, hrun, hended, hW, hsame⟩ := X0.leave (v := some (.int (1 : Int32))) (fun h => by rw [Bd.returns] at h; cases h)
    refine ⟨_, _, pre65 _ ?_, hrun, hended, _, _, rfl, ?_, ⟨_, rfl⟩, hW, hsame.mono (by decide) (by decide)⟩
    · show Steps p.tables e below (s₁.setTop (mkF m 4 #[iv p1] [(.int (255 : Int32)), (.int p1)])) _
      refine XS.icmpNo X0.here hx rfl (hb hby own_d4_4) rfl (flt hc4).2.2.1 ?_
      show Steps p.tables e below (s₁.setTop (mkF m 7 #[iv p1] [])) _
      refine XS.iconst X0.here hx rfl (hb hby own_d4_7) ?_
      show Steps p.tables e below (s₁.setTop (mkF m 8 #[iv p1] [(.int (1 : Int32))])) _
      refine XS.goto X0.here hx rfl (pc0 := 8) (pc' := 12) rfl (hb hby own_d4_8) (by decide) (by decide) ?_
      show Steps p.tables e below (s₁.setTop (mkF m 12 #[iv p1] [(.int (1 : Int32))])) _
      exact retN X0 hx (t := .boolean) Bd.returns (by simp) (hb hby own_d4_12) hr
    · show QV1 Z p1 h0 n0 _ s₁.heap _
      rw [e0]
      exact ⟨(congrArg (fun z => some (Value.int z)) (by unfold own_f_rmV1; rw [if_neg hc4] : (1 : Int32) = (own_f_rmV1 p1))), N0, rfl⟩
theorem own_d5_0 : decode jdk_43_method_46_code 0 = .ok (.iconst 1, 1) := by decide +kernel
theorem own_d5_1 : decode jdk_43_method_46_code 1 = .ok (.newarray .byte, 2) := by decide +kernel
theorem own_d5_3 : decode jdk_43_method_46_code 3 = .ok (.dup, 1) := by decide +kernel
theorem own_d5_4 : decode jdk_43_method_46_code 4 = .ok (.iconst 0, 1) := by decide +kernel
theorem own_d5_5 : decode jdk_43_method_46_code 5 = .ok (.iload_n 0, 1) := by decide +kernel
theorem own_d5_6 : decode jdk_43_method_46_code 6 = .ok (.i2b, 1) := by decide +kernel
theorem own_d5_7 : decode jdk_43_method_46_code 7 = .ok (.bastore, 1) := by decide +kernel
theorem own_d5_8 : decode jdk_43_method_46_code 8 = .ok (.areturn, 1) := by decide +kernel
theorem own_ef_rmV2 (m : MethodId) (p1 : Int32) : entryFrame m #[(.int p1)] 1 = mkF m 0 #[.val (.int p1)] [] := by first | (simp [entryFrame, mkF, argsToLocals, Value.category]; done) | rfl
def QV2 (Z : State) (p1 : Int32) (h0 : Heap) (n0 : Nat) (v : Option Value) (h : Heap) (L : List Loc) : Prop := ∃ b : Addr, ∃ kb : ClassId, v = some (.ref b) ∧ Fr n0 L ∧ Keep h0 h [] ∧ h0.size ≤ b ∧ Arv Z h b kb .byte (1 : Int32) [(.int (nar .byte (p1.toInt8.toInt32)))] (.int (0 : Int32))
set_option maxRecDepth 65536 in
set_option maxHeartbeats 40000000 in
theorem rmV2 (l : Launch) (Z : State) (a0 : Array Value) (hw : ∀ d ∈ tables_1, d.before a0 Z = true) (ws : List Jvm.Cond) (p1 : Int32) (h0 : Heap) (n0 : Nat) (Z0 : n0 ≤ h0.size) :
    MetFree l (⟨"java/lang/StringLatin1", "toBytes", "(C)[B"⟩ : MethodName) (head1 (Jvm.Cond.code (⟨"java/lang/StringLatin1", "toBytes", "(C)[B"⟩ : MethodName) jdk_43_method_46_code 1 (some (.array .byte)) :: ws) ({ frames := 0, cells := 1, slots := 1, locals := 0 } : Room)) (fun a U => a = #[(.int p1)] ∧ Z.Warmed39 U.vm ∧ U.heap = h0) (fun _ _ _ _ _ => True) (fun _ U o U' => ∃ v L, o = .returned v ∧ QV2 Z p1 h0 n0 v U'.heap L ∧ FrameEnd U o U' L ({ frames := 0, cells := 1, slots := 1, locals := 0 } : Room).cells ({ frames := 0, cells := 1, slots := 1, locals := 0 } : Room).slots) := by
  refine MetFree.of_bodySF (plainFor_of_name own_pn2) hisR ?_
  intro p e s m args below meth c s₁ Bd hml0 hP hK
  obtain ⟨rfl, hZ, hh⟩ := hP
  have hx := Bd.exec
  have hby := Bd.bytes
  have hml : c.maxLocals = 1 := hml0
  have hown : s.vm.findClass "java/lang/StringLatin1" = some m.cls := findClass_of_methodNamed Bd.named
  have hnm := (name_of_methodNamed Bd.named Bd.method).1
  have X0 : Stand p l e ({ frames := 0, cells := 1, slots := 1, locals := 0 } : Room) s m #[(.int p1)] below meth c s₁ [] 0 0 := Stand.of_body Bd
  have e0 : s₁.heap = h0 := by rw [← hh, Bd.state]; rfl
  have N0 := Fr.nil n0
  have K0 : Keep h0 h0 [] := Keep.refl h0 _
  have pre0 : ∀ t, Steps p.tables e below (s₁.setTop (mkF m 0 #[.val (.int p1)] [])) t → Steps p.tables e below (s₁.setTop (entryFrame m #[(.int p1)] 1)) t := fun t k => castTop (own_ef_rmV2 m p1) k
  obtain ⟨T66, h66, k66, X66, e66, E66, A66, st66⟩ := newP X0 hx hZ (hw _ (List.mem_of_getElem? (i := 7) rfl)) e0 (g := (mkF m 1 #[iv p1] [(.int (1 : Int32))])) rfl (hb hby own_d5_1) rfl (by decide) (cap := 1) (by decide) (by decide) (by decide) (by decide)
  obtain ⟨b66, g66⟩ : ∃ z, z = h0.size := ⟨_, rfl⟩
  rw [← g66] at A66 st66
  have gg_b66 : n0 ≤ b66 := Nat.le_trans (Nat.le_trans Z0 K0.1) (Nat.le_of_eq g66.symm)
  have sz_b66 : h0.size ≤ b66 := Nat.le_trans K0.1 (Nat.le_of_eq g66.symm)
  have K66 := K0.ext E66
  have V66 : Arv Z h66 b66 k66 .byte (1 : Int32) [(.int (0 : Int32))] (.int (0 : Int32)) := (Arv.new A66 (by decide)).pad (pad_rep [] (.int (0 : Int32)) 1)
  obtain ⟨cl67, Ar67, q67, S67, M67, H67, G67⟩ := id V66
  have hin67 : ¬ ((0 : Int32) < 0 ∨ cl67.slots.size ≤ ((0 : Int32)).toNatClampNeg) := inb_of S67 ⟨by decide, by decide⟩
  obtain ⟨T68, h68, X68, e68, W68, st68⟩ := stB X66 hx hZ e66 Ar67 (j := (0 : Int32)) hin67 (g := (mkF m 7 #[iv p1] [(.int (p1.toInt8.toInt32)), (.int (0 : Int32)), (.ref b66), (.ref b66)])) rfl rfl (hb hby own_d5_7)
  have V68 : Arv Z h68 b66 k66 .byte (1 : Int32) [(.int (nar .byte (p1.toInt8.toInt32)))] (.int (0 : Int32)) := Arv.set Ar67 q67 S67 M67 H67 G67 (fits_nar_byte _) W68 0 rfl (Nat.le_of_ble_eq_true rfl)
  have K68 := K66.wr W68 (Or.inr sz_b66)
  have N68 := Fr.snoc X68 N0 gg_b66
  obtain ⟨fs, hr, hrun, hended, hW, hsame⟩ := X68.leave (v := some (.ref b66)) (fun h => by rw [Bd.returns] at h; cases h)
  refine ⟨_, _, pre0 _ ?_, hrun, hended, _, _, rfl, ?_, ⟨_, rfl⟩, hW, hsame.mono (by decide) (by decide)⟩
  · show Steps p.tables e below (s₁.setTop (mkF m 0 #[iv p1] [])) _
    refine XS.iconst X0.here hx rfl (hb hby own_d5_0) ?_
    show Steps p.tables e below (s₁.setTop (mkF m 1 #[iv p1] [(.int (1 : Int32))])) _
    refine st66 _ ?_
    show Steps p.tables e below (T66.setTop (mkF m 3 #[iv p1] [(.ref b66)])) _
    refine XS.dup X66.here hx rfl (hb hby own_d5_3) rfl rfl ?_
    show Steps p.tables e below (T66.setTop (mkF m 4 #[iv p1] [(.ref b66), (.ref b66)])) _
    refine XS.iconst X66.here hx rfl (hb hby own_d5_4) ?_
    show Steps p.tables e below (T66.setTop (mkF m 5 #[iv p1] [(.int (0 : Int32)), (.ref b66), (.ref b66)])) _
    refine XS.iloadN X66.here hx rfl (hb hby own_d5_5) rfl ?_
    show Steps p.tables e below (T66.setTop (mkF m 6 #[iv p1] [(.int p1), (.int (0 : Int32)), (.ref b66), (.ref b66)])) _
    refine XS.i2b X66.here hx rfl (hb hby own_d5_6) rfl ?_
    show Steps p.tables e below (T66.setTop (mkF m 7 #[iv p1] [(.int (p1.toInt8.toInt32)), (.int (0 : Int32)), (.ref b66), (.ref b66)])) _
    refine st68 _ ?_
    show Steps p.tables e below (T68.setTop (mkF m 8 #[iv p1] [(.ref b66)])) _
    jvm_step X68.here [X68.here.top, hx, (hb hby own_d5_8), X68.method', Bd.returns, Value.isRef, FieldType.isReference]
    first | (intro acts; rw [hr _ acts rfl rfl rfl]) | rw [hr _ _ rfl rfl rfl]
    exact Steps.refl _
  · show QV2 Z p1 h0 n0 _ T68.heap _
    rw [e68]
    exact ⟨b66, k66, rfl, N68, K68, sz_b66, V68⟩
theorem own_d6_0 : decode jdk_42_method_151_code 0 = .ok (.aload_n 0, 1) := by decide +kernel
theorem own_d6_1 : decode jdk_42_method_151_code 1 = .ok (.invokespecial 1, 3) := by decide +kernel
theorem own_d6_4 : decode jdk_42_method_151_code 4 = .ok (.aload_n 0, 1) := by decide +kernel
theorem own_d6_5 : decode jdk_42_method_151_code 5 = .ok (.aload_n 1, 1) := by decide +kernel
theorem own_d6_6 : decode jdk_42_method_151_code 6 = .ok (.putfield 9, 3) := by decide +kernel
theorem own_d6_9 : decode jdk_42_method_151_code 9 = .ok (.aload_n 0, 1) := by decide +kernel
theorem own_d6_10 : decode jdk_42_method_151_code 10 = .ok (.iload_n 2, 1) := by decide +kernel
theorem own_d6_11 : decode jdk_42_method_151_code 11 = .ok (.putfield 15, 3) := by decide +kernel
theorem own_d6_14 : decode jdk_42_method_151_code 14 = .ok (.return_, 1) := by decide +kernel
theorem own_ef_rmV3 (m : MethodId) (a1 : Addr) (a2 : Addr) : entryFrame m #[(.ref a1), (.ref a2), (.int (0 : Int32))] 3 = mkF m 0 #[.val (.ref a1), .val (.ref a2), .val (.int (0 : Int32))] [] := by first | (simp [entryFrame, mkF, argsToLocals, Value.category]; done) | rfl
def QV3 (Z : State) (a1 : Addr) (a2 : Addr) (h0 : Heap) (n0 : Nat) (v : Option Value) (h : Heap) (L : List Loc) : Prop := v = none ∧ Fr n0 L ∧ Keep h0 h [a1] ∧ Exa Z h a1 "java/lang/String" ∧ Fld Z h a1 "java/lang/String" "coder" "B" (.int (0 : Int32)) ∧ Fld Z h a1 "java/lang/String" "value" "[B" (.ref a2)
set_option maxRecDepth 65536 in
set_option maxHeartbeats 40000000 in
theorem rmV3 (l : Launch) (Z : State) (a0 : Array Value) (hw : ∀ d ∈ tables_1, d.before a0 Z = true) (ws : List Jvm.Cond) (a1 : Addr) (a2 : Addr) (h0 : Heap) (n0 : Nat) (Z0 : n0 ≤ h0.size) (E_a1 : Exa Z h0 a1 "java/lang/String") (F_a1_value : Fld Z h0 a1 "java/lang/String" "value" "[B" .null) (F_a1_coder : Fld Z h0 a1 "java/lang/String" "coder" "B" (.int (0 : Int32))) (gg_a1 : n0 ≤ a1) :
    MetFree l (⟨"java/lang/String", "<init>", "([BB)V"⟩ : MethodName) (head1 (Jvm.Cond.code (⟨"java/lang/String", "<init>", "([BB)V"⟩ : MethodName) jdk_42_method_151_code 3 none :: ws) ({ frames := 1, cells := 0, slots := 0, locals := 12 } : Room)) (fun a U => a = #[(.ref a1), (.ref a2), (.int (0 : Int32))] ∧ Z.Warmed39 U.vm ∧ U.heap = h0) (fun _ _ _ _ _ => True) (fun _ U o U' => ∃ v L, o = .returned v ∧ QV3 Z a1 a2 h0 n0 v U'.heap L ∧ FrameEnd U o U' L ({ frames := 1, cells := 0, slots := 0, locals := 12 } : Room).cells ({ frames := 1, cells := 0, slots := 0, locals := 12 } : Room).slots) := by
  refine MetFree.of_bodySF (plainFor_of_name own_pn1) hisR ?_
  intro p e s m args below meth c s₁ Bd hml0 hP hK
  obtain ⟨rfl, hZ, hh⟩ := hP
  have hx := Bd.exec
  have hby := Bd.bytes
  have hml : c.maxLocals = 3 := hml0
  have hown : s.vm.findClass "java/lang/String" = some m.cls := findClass_of_methodNamed Bd.named
  have hnm := (name_of_methodNamed Bd.named Bd.method).1
  have X0 : Stand p l e ({ frames := 1, cells := 0, slots := 0, locals := 12 } : Room) s m #[(.ref a1), (.ref a2), (.int (0 : Int32))] below meth c s₁ [] 0 0 := Stand.of_body Bd
  have e0 : s₁.heap = h0 := by rw [← hh, Bd.state]; rfl
  have N0 := Fr.nil n0
  have K0 : Keep h0 h0 [a1] := Keep.refl h0 _
  have pre0 : ∀ t, Steps p.tables e below (s₁.setTop (mkF m 0 #[.val (.ref a1), .val (.ref a2), .val (.int (0 : Int32))] [])) t → Steps p.tables e below (s₁.setTop (entryFrame m #[(.ref a1), (.ref a2), (.int (0 : Int32))] 3)) t := fun t k => castTop (own_ef_rmV3 m a1 a2) k
  obtain ⟨T69, X69, e69, st69⟩ := initO X0 hx hZ hown (hw _ (List.mem_of_getElem? (i := 34) rfl)) (hw _ (List.mem_of_getElem? (i := 35) rfl)) (hw _ (List.mem_of_getElem? (i := 36) rfl)) e0 (g := (mkF m 1 #[rv a1, rv a2, iv (0 : Int32)] [(.ref a1)])) rfl (by rw [hml]; rfl) rfl (hb hby own_d6_1) (by decide) (W := 0) (by show 2 * 0 + _ ≤ _; exact Nat.le_of_eq rfl) (by decide)
  obtain ⟨T70, h70, X70, e70, W70, st70⟩ := putF X69 hx hZ hown (host := "") (Or.inl (hw _ (List.mem_of_getElem? (i := 37) rfl))) Via.refl e69 F_a1_value E_a1 (Or.inr ⟨(hw _ (List.mem_of_getElem? (i := 8) rfl)), rfl, hnm⟩) (hw _ (List.mem_of_getElem? (i := 6) rfl)) (ty := (.array .byte)) (by decide) rfl rfl (g := (mkF m 6 #[rv a1, rv a2, iv (0 : Int32)] [(.ref a2), (.ref a1)])) rfl rfl (hb hby own_d6_6)
  have Fw70 := F_a1_value.same W70
  have K70 := K0.wr W70 (Or.inl (List.mem_of_getElem? (i := 0) rfl))
  have N70 := Fr.snoc X70 N0 gg_a1
  have Q71 := (E_a1.wr W70)
  have Q72 := (F_a1_coder.other W70 (Or.inr (slot_ne (Or.inr (hw _ (List.mem_of_getElem? (i := 9) rfl))) (Or.inr (hw _ (List.mem_of_getElem? (i := 8) rfl))) (by decide) (t := .byte) (t' := (.array .byte)) (by decide) (by decide))))
  obtain ⟨T73, h73, X73, e73, W73, st73⟩ := putFN X70 hx hZ hown (hw _ (List.mem_of_getElem? (i := 38) rfl)) Via.refl e70 Q72 Q71 (Or.inr ⟨(hw _ (List.mem_of_getElem? (i := 9) rfl)), rfl, hnm⟩) (hw _ (List.mem_of_getElem? (i := 6) rfl)) (ty := .byte) (v' := (.int (0 : Int32))) (by decide) rfl (by decide) (g := (mkF m 11 #[rv a1, rv a2, iv (0 : Int32)] [(.int (0 : Int32)), (.ref a1)])) rfl rfl (hb hby own_d6_11)
  have Fw73 := Q72.same W73
  have K73 := K70.wr W73 (Or.inl (List.mem_of_getElem? (i := 0) rfl))
  have N73 := Fr.snoc X73 N70 gg_a1
  have Q74 := (Q71.wr W73)
  have Q75 := (Fw70.other W73 (Or.inr (slot_ne (Or.inr (hw _ (List.mem_of_getElem? (i := 8) rfl))) (Or.inr (hw _ (List.mem_of_getElem? (i := 9) rfl))) (by decide) (t := (.array .byte)) (t' := .byte) (by decide) (by decide))))
  obtain ⟨fs, hr, hrun, hended, hW, hsame⟩ := X73.leave (v := none) (fun _ => rfl)
  refine ⟨_, _, pre0 _ ?_, hrun, hended, _, _, rfl, ?_, ⟨_, rfl⟩, hW, hsame.mono (by decide) (by decide)⟩
  · show Steps p.tables e below (s₁.setTop (mkF m 0 #[rv a1, rv a2, iv (0 : Int32)] [])) _
    refine XS.aloadN X0.here hx rfl (hb hby own_d6_0) rfl rfl ?_
    show Steps p.tables e below (s₁.setTop (mkF m 1 #[rv a1, rv a2, iv (0 : Int32)] [(.ref a1)])) _
    refine st69 _ ?_
    show Steps p.tables e below (T69.setTop (mkF m 4 #[rv a1, rv a2, iv (0 : Int32)] [])) _
    refine XS.aloadN X69.here hx rfl (hb hby own_d6_4) rfl rfl ?_
    show Steps p.tables e below (T69.setTop (mkF m 5 #[rv a1, rv a2, iv (0 : Int32)] [(.ref a1)])) _
    refine XS.aloadN X69.here hx rfl (hb hby own_d6_5) rfl rfl ?_
    show Steps p.tables e below (T69.setTop (mkF m 6 #[rv a1, rv a2, iv (0 : Int32)] [(.ref a2), (.ref a1)])) _
    refine st70 _ ?_
    show Steps p.tables e below (T70.setTop (mkF m 9 #[rv a1, rv a2, iv (0 : Int32)] [])) _
    refine XS.aloadN X70.here hx rfl (hb hby own_d6_9) rfl rfl ?_
    show Steps p.tables e below (T70.setTop (mkF m 10 #[rv a1, rv a2, iv (0 : Int32)] [(.ref a1)])) _
    refine XS.iloadN X70.here hx rfl (hb hby own_d6_10) rfl ?_
    show Steps p.tables e below (T70.setTop (mkF m 11 #[rv a1, rv a2, iv (0 : Int32)] [(.int (0 : Int32)), (.ref a1)])) _
    refine st73 _ ?_
    show Steps p.tables e below (T73.setTop (mkF m 14 #[rv a1, rv a2, iv (0 : Int32)] [])) _
    exact X73.returnOut hx Bd.returns (hb hby own_d6_14) hr
  · show QV3 Z a1 a2 h0 n0 _ T73.heap _
    rw [e73]
    exact ⟨rfl, N73, K73, Q74, Fw73, Q75⟩
theorem own_d3_0 : decode jdk_42_method_139_code 0 = .ok (.getstatic 38, 3) := by decide +kernel
theorem own_d3_3 : decode jdk_42_method_139_code 3 = .ok (.ifCond .eq 23, 3) := by decide +kernel
theorem own_d3_6 : decode jdk_42_method_139_code 6 = .ok (.iload_n 0, 1) := by decide +kernel
theorem own_d3_7 : decode jdk_42_method_139_code 7 = .ok (.invokestatic 1015, 3) := by decide +kernel
theorem own_pd4 : parseMethodDescriptor "(C)Z" = some ⟨[.char], some .boolean⟩ := by decide +kernel
theorem own_d3_10 : decode jdk_42_method_139_code 10 = .ok (.ifCond .eq 16, 3) := by decide +kernel
theorem own_d3_13 : decode jdk_42_method_139_code 13 = .ok (.new 10, 3) := by decide +kernel
theorem own_d3_16 : decode jdk_42_method_139_code 16 = .ok (.dup, 1) := by decide +kernel
theorem own_d3_17 : decode jdk_42_method_139_code 17 = .ok (.iload_n 0, 1) := by decide +kernel
theorem own_d3_18 : decode jdk_42_method_139_code 18 = .ok (.invokestatic 1018, 3) := by decide +kernel
theorem own_pd5 : parseMethodDescriptor "(C)[B" = some ⟨[.char], some (.array .byte)⟩ := by decide +kernel
theorem own_d3_21 : decode jdk_42_method_139_code 21 = .ok (.iconst 0, 1) := by decide +kernel
theorem own_d3_22 : decode jdk_42_method_139_code 22 = .ok (.invokespecial 209, 3) := by decide +kernel
theorem own_pd6 : parseMethodDescriptor "([BB)V" = some ⟨[(.array .byte), .byte], none⟩ := by decide +kernel
theorem own_d3_25 : decode jdk_42_method_139_code 25 = .ok (.areturn, 1) := by decide +kernel
theorem own_ef_rmV4 (m : MethodId) (p1 : Int32) : entryFrame m #[(.int p1)] 1 = mkF m 0 #[.val (.int p1)] [] := by first | (simp [entryFrame, mkF, argsToLocals, Value.category]; done) | rfl
def QV4 (Z : State) (p1 : Int32) (cw : Int32) (h0 : Heap) (n0 : Nat) (v : Option Value) (h : Heap) (L : List Loc) : Prop := ∃ r : Addr, ∃ b : Addr, ∃ kb : ClassId, v = some (.ref r) ∧ Fr n0 L ∧ Keep h0 h [] ∧ h0.size ≤ r ∧ Exa Z h r "java/lang/String" ∧ Fld Z h r "java/lang/String" "coder" "B" (.int (0 : Int32)) ∧ Fld Z h r "java/lang/String" "value" "[B" (.ref b) ∧ Arv Z h b kb .byte (1 : Int32) [(.int (nar .byte (p1.toInt8.toInt32)))] (.int (0 : Int32))
set_option maxRecDepth 65536 in
set_option maxHeartbeats 40000000 in
theorem rmV4 (l : Launch) (Z : State) (a0 : Array Value) (hw : ∀ d ∈ tables_1, d.before a0 Z = true) (ws : List Jvm.Cond) (p1 : Int32) (cw : Int32) (h0 : Heap) (n0 : Nat) (Z0 : n0 ≤ h0.size) (S_COMPACT_STRINGS : Sta Z h0 "java/lang/String" "COMPACT_STRINGS" "Z" (.int cw)) (hw0 : ¬ (cw = (0 : Int32))) (hp : ¬ ((255 : Int32) < p1)) :
    MetFree l (⟨"java/lang/String", "valueOf", "(C)Ljava/lang/String;"⟩ : MethodName) (head1 (Jvm.Cond.code (⟨"java/lang/String", "valueOf", "(C)Ljava/lang/String;"⟩ : MethodName) jdk_42_method_139_code 1 (some (.object "java/lang/String")) :: ws) ({ frames := 2, cells := 2, slots := 5, locals := 27 } : Room)) (fun a U => a = #[(.int p1)] ∧ Z.Warmed39 U.vm ∧ U.heap = h0) (fun _ _ _ _ _ => True) (fun _ U o U' => ∃ v L, o = .returned v ∧ QV4 Z p1 cw h0 n0 v U'.heap L ∧ FrameEnd U o U' L ({ frames := 2, cells := 2, slots := 5, locals := 27 } : Room).cells ({ frames := 2, cells := 2, slots := 5, locals := 27 } : Room).slots) := by
  refine MetFree.of_bodySF (plainFor_of_name own_pn1) hisR ?_
  intro p e s m args below meth c s₁ Bd hml0 hP hK
  obtain ⟨rfl, hZ, hh⟩ := hP
  have hx := Bd.exec
  have hby := Bd.bytes
  have hml : c.maxLocals = 1 := hml0
  have hown : s.vm.findClass "java/lang/String" = some m.cls := findClass_of_methodNamed Bd.named
  have hnm := (name_of_methodNamed Bd.named Bd.method).1
  have X0 : Stand p l e ({ frames := 2, cells := 2, slots := 5, locals := 27 } : Room) s m #[(.int p1)] below meth c s₁ [] 0 0 := Stand.of_body Bd
  have e0 : s₁.heap = h0 := by rw [← hh, Bd.state]; rfl
  have N0 := Fr.nil n0
  have K0 : Keep h0 h0 [] := Keep.refl h0 _
  have pre0 : ∀ t, Steps p.tables e below (s₁.setTop (mkF m 0 #[.val (.int p1)] [])) t → Steps p.tables e below (s₁.setTop (entryFrame m #[(.int p1)] 1)) t := fun t k => castTop (own_ef_rmV4 m p1) k
  obtain ⟨T76, X76, e76, st76⟩ := getS2 X0 hx hZ hown (host := "") (Or.inl (hw _ (List.mem_of_getElem? (i := 21) rfl))) Via.refl e0 S_COMPACT_STRINGS (g := (mkF m 0 #[iv p1] [])) rfl (hb hby own_d3_0)
  have hc3_77 : ¬ (cw = (0 : Int32)) := hw0
  obtain ⟨_, _, ⟨T78, L78, k78, n78⟩, -, X78, ⟨Lc78, hQ78, l78, y78, z78⟩, st78⟩ := Jvm.LawKit.callS X76 hx (y := (⟨"java/lang/StringLatin1", "canEncode", "(C)Z"⟩ : MethodName)) hown (mvT hZ (hw _ (List.mem_of_getElem? (i := 22) rfl))) (mvT hZ (hw _ (List.mem_of_getElem? (i := 23) rfl))) (mvT hZ (hw _ (List.mem_of_getElem? (i := 24) rfl))) (mvT hZ (hw _ (List.mem_of_getElem? (i := 25) rfl))) (by decide) (backOf (W := 0) (rmV1 l Z a0 hw [] p1 h0 n0 (Nat.le_trans Z0 K0.1) ) hZ (hw _ (List.mem_of_getElem? (i := 25) rfl)) (hw _ (List.mem_of_getElem? (i := 24) rfl)) (by decide) (by decide)) (g := (mkF m 7 #[iv p1] [(.int p1)])) rfl (by rw [hml]; rfl) (argsL := [(.int p1)]) (rest := []) (lenOf own_pd4 rfl) rfl (by show 2 * 0 + _ ≤ _; exact Nat.le_of_eq rfl) (hb hby own_d3_7) (fun _ _ => ⟨rfl, e76, (by decide : 0 + 0 ≤ _), (by decide : 0 + 0 ≤ _)⟩)
  dsimp only [Pt.U, Pt.locs, Pt.cells, Pt.slots] at X78 l78 y78 z78 st78 hQ78
  subst l78 y78 z78
  obtain ⟨rfl, N78q, e78⟩ := hQ78
  have N78 := Fr.app N0 N78q
  have hc10_79 : ¬ ((own_f_rmV1 p1) = (0 : Int32)) := by unfold own_f_rmV1; rw [if_neg hp]; decide
  obtain ⟨T80, h80, X80, e80, E80, A80, D80, -, st80⟩ := newO X78 hx hZ hown (hw _ (List.mem_of_getElem? (i := 26) rfl)) (hw _ (List.mem_of_getElem? (i := 6) rfl)) (hw _ (List.mem_of_getElem? (i := 5) rfl)) e78 (g := (mkF m 13 #[iv p1] [])) rfl (hb hby own_d3_13) (by decide) (by decide)
  obtain ⟨b80, g80⟩ : ∃ z, z = h0.size := ⟨_, rfl⟩
  rw [← g80] at A80 D80 st80
  have gg_b80 : n0 ≤ b80 := Nat.le_trans (Nat.le_trans Z0 K0.1) (Nat.le_of_eq g80.symm)
  have sz_b80 : h0.size ≤ b80 := Nat.le_trans K0.1 (Nat.le_of_eq g80.symm)
  have K80 := K0.ext E80
  have F80_value : Fld Z h80 b80 "java/lang/String" "value" "[B" .null := D80 (Or.inr (hw _ (List.mem_of_getElem? (i := 8) rfl))) (ty := (.array .byte)) (by decide)
  have F80_coder : Fld Z h80 b80 "java/lang/String" "coder" "B" (.int (0 : Int32)) := D80 (Or.inr (hw _ (List.mem_of_getElem? (i := 9) rfl))) (ty := .byte) (by decide)
  obtain ⟨_, _, ⟨T81, L81, k81, n81⟩, -, X81, ⟨Lc81, hQ81, l81, y81, z81⟩, st81⟩ := Jvm.LawKit.callS X80 hx (y := (⟨"java/lang/StringLatin1", "toBytes", "(C)[B"⟩ : MethodName)) hown (mvT hZ (hw _ (List.mem_of_getElem? (i := 27) rfl))) (mvT hZ (hw _ (List.mem_of_getElem? (i := 28) rfl))) (mvT hZ (hw _ (List.mem_of_getElem? (i := 24) rfl))) (mvT hZ (hw _ (List.mem_of_getElem? (i := 29) rfl))) (by decide) (backOf (W := 2) (rmV2 l Z a0 hw [] p1 h80 n0 (Nat.le_trans Z0 K80.1) ) hZ (hw _ (List.mem_of_getElem? (i := 29) rfl)) (hw _ (List.mem_of_getElem? (i := 24) rfl)) (by decide) (by decide)) (g := (mkF m 18 #[iv p1] [(.int p1), (.ref b80), (.ref b80)])) rfl (by rw [hml]; rfl) (argsL := [(.int p1)]) (rest := [(.ref b80), (.ref b80)]) (lenOf own_pd5 rfl) rfl (by show 2 * 0 + _ ≤ _; exact Nat.le_of_eq rfl) (hb hby own_d3_18) (fun _ _ => ⟨rfl, e80, (by decide : 1 + 1 ≤ _), (by decide : 4 + 1 ≤ _)⟩)
  dsimp only [Pt.U, Pt.locs, Pt.cells, Pt.slots] at X81 l81 y81 z81 st81 hQ81
  subst l81 y81 z81
  obtain ⟨b_81, kb_81, rfl, N81q, i81_4, i81_5, i81_6⟩ := hQ81
  have N81 := Fr.app N78 N81q
  have ne_b80_b_81 : b80 ≠ b_81 := Nat.ne_of_lt (Nat.lt_of_lt_of_le A80.lt i81_5)
  have gg_b_81 : n0 ≤ b_81 := Nat.le_trans (Nat.le_trans Z0 K80.1) i81_5
  have sz_b_81 : h0.size ≤ b_81 := Nat.le_trans K80.1 i81_5
  have K81 := K80.trans i81_4 all0
  have Q82 := (A80.keep i81_4)
  have Q83 := (F80_value.keep i81_4 nin0)
  have Q84 := (F80_coder.keep i81_4 nin0)
  obtain ⟨_, _, ⟨T85, L85, k85, n85⟩, -, X85, ⟨Lc85, hQ85, l85, y85, z85⟩, st85⟩ := X81.specialBack hx (y := (⟨"java/lang/String", "<init>", "([BB)V"⟩ : MethodName)) rfl hown (mvT hZ (hw _ (List.mem_of_getElem? (i := 30) rfl))) (mvT hZ (hw _ (List.mem_of_getElem? (i := 31) rfl))) (mvT hZ (hw _ (List.mem_of_getElem? (i := 33) rfl))) (by decide) (backOf (W := 1) (rmV3 l Z a0 hw [] b80 b_81 T81.heap n0 (Nat.le_trans Z0 K81.1) Q82 Q83 Q84 gg_b80) hZ (hw _ (List.mem_of_getElem? (i := 33) rfl)) (hw _ (List.mem_of_getElem? (i := 5) rfl)) (by decide) (by decide)) (g := (mkF m 22 #[iv p1] [(.int (0 : Int32)), (.ref b_81), (.ref b80), (.ref b80)])) rfl (by rw [hml]; rfl) (Steps.refl _) (a := b80) (argsL := [(.ref b_81), (.int (0 : Int32))]) (rest := [(.ref b80)]) (lenOf own_pd6 rfl) rfl (by show 2 * 0 + _ ≤ _; exact Nat.le_of_eq rfl) (hb hby own_d3_22) (fun _ _ => ⟨rfl, rfl, (by decide : 2 + 0 ≤ _), (by decide : 5 + 0 ≤ _)⟩)
  dsimp only [Pt.U, Pt.locs, Pt.cells, Pt.slots] at X85 l85 y85 z85 st85 hQ85
  subst l85 y85 z85
  obtain ⟨rfl, N85q, i85_2, i85_3, i85_4, i85_5⟩ := hQ85
  have N85 := Fr.app N81 N85q
  have K85 := K81.trans i85_2 (allS (Or.inr sz_b80) all0)
  have Q86 := (i81_6.keep i85_2 (ninS (Ne.symm ne_b80_b_81) nin0))
  obtain ⟨fs, hr, hrun, hended, hW, hsame⟩ := X85.leave (v := some (.ref b80)) (fun h => by rw [Bd.returns] at h; cases h)
  refine ⟨_, _, pre0 _ ?_, hrun, hended, _, _, rfl, ?_, ⟨_, rfl⟩, hW, hsame.mono (by decide) (by decide)⟩
  · show Steps p.tables e below (s₁.setTop (mkF m 0 #[iv p1] [])) _
    refine st76 _ ?_
    show Steps p.tables e below (T76.setTop (mkF m 3 #[iv p1] [(.int cw)])) _
    refine XS.ifNo X76.here hx rfl (hb hby own_d3_3) rfl ((if0 _ _).trans (feq hc3_77).1) ?_
    show Steps p.tables e below (T76.setTop (mkF m 6 #[iv p1] [])) _
    refine XS.iloadN X76.here hx rfl (hb hby own_d3_6) rfl ?_
    show Steps p.tables e below (T76.setTop (mkF m 7 #[iv p1] [(.int p1)])) _
    refine st78 _ ?_
    show Steps p.tables e below (T78.setTop (mkF m 10 #[iv p1] [(.int (own_f_rmV1 p1))])) _
    refine XS.ifNo X78.here hx rfl (hb hby own_d3_10) rfl ((if0 _ _).trans (feq hc10_79).1) ?_
    show Steps p.tables e below (T78.setTop (mkF m 13 #[iv p1] [])) _
    refine st80 _ ?_
    show Steps p.tables e below (T80.setTop (mkF m 16 #[iv p1] [(.ref b80)])) _
    refine XS.dup X80.here hx rfl (hb hby own_d3_16) rfl rfl ?_
    show Steps p.tables e below (T80.setTop (mkF m 17 #[iv p1] [(.ref b80), (.ref b80)])) _
    refine XS.iloadN X80.here hx rfl (hb hby own_d3_17) rfl ?_
    show Steps p.tables e below (T80.setTop (mkF m 18 #[iv p1] [(.int p1), (.ref b80), (.ref b80)])) _
    refine st81 _ ?_
    show Steps p.tables e below (T81.setTop (mkF m 21 #[iv p1] [(.ref b_81), (.ref b80), (.ref b80)])) _
    refine XS.iconst X81.here hx rfl (hb hby own_d3_21) ?_
    show Steps p.tables e below (T81.setTop (mkF m 22 #[iv p1] [(.int (0 : Int32)), (.ref b_81), (.ref b80), (.ref b80)])) _
    refine st85.trans ?_
    show Steps p.tables e below (T85.setTop (mkF m 25 #[iv p1] [(.ref b80)])) _
    jvm_step X85.here [X85.here.top, hx, (hb hby own_d3_25), X85.method', Bd.returns, Value.isRef, FieldType.isReference]
    first | (intro acts; rw [hr _ acts rfl rfl rfl]) | rw [hr _ _ rfl rfl rfl]
    exact Steps.refl _
  · show QV4 Z p1 cw h0 n0 _ T85.heap _
    exact ⟨b80, b_81, kb_81, rfl, N85, K85, sz_b80, i85_3, i85_4, i85_5, Q86⟩
def own_v0 (b : Int32) : Int32 := (nar .byte (((b &&& (255 : Int32)).toUInt32.toUInt16.toUInt32.toInt32).toInt8.toInt32))
def own_c0 (b : Int32) : Int32 := (nar .byte ((nar .char ((b &&& (255 : Int32)).toUInt32.toUInt16.toUInt32.toInt32)).toInt8.toInt32))
def own_c1 (b : Int32) : Int32 := (nar .byte ((nar .char ((((b.toUInt32 >>> ((8 : Int32) &&& 31).toUInt32).toInt32) &&& (255 : Int32)).toUInt32.toUInt16.toUInt32.toInt32)).toInt8.toInt32))
def own_c2 (b : Int32) : Int32 := (nar .byte ((nar .char ((((b.toUInt32 >>> ((16 : Int32) &&& 31).toUInt32).toInt32) &&& (255 : Int32)).toUInt32.toUInt16.toUInt32.toInt32)).toInt8.toInt32))
def own_mk (b l : Int32) : List Int32 := if l = (0 : Int32) then [] else if l = (1 : Int32) then [own_v0 b] else if l = (2 : Int32) then [own_c0 b, own_c1 b] else [own_c0 b, own_c1 b, own_c2 b]
theorem own_mk0 {b l : Int32} (h : l = (0 : Int32)) : own_mk b l = [] := by unfold own_mk; rw [if_pos h]
theorem own_mk1 {b l : Int32} (h0 : ¬ l = (0 : Int32)) (h : l = (1 : Int32)) : own_mk b l = [own_v0 b] := by unfold own_mk; rw [if_neg h0, if_pos h]
theorem own_mk2 {b l : Int32} (h0 : ¬ l = (0 : Int32)) (h1 : ¬ l = (1 : Int32)) (h : l = (2 : Int32)) : own_mk b l = [own_c0 b, own_c1 b] := by unfold own_mk; rw [if_neg h0, if_neg h1, if_pos h]
theorem own_mk3 {b l : Int32} (h0 : ¬ l = (0 : Int32)) (h1 : ¬ l = (1 : Int32)) (h : ¬ l = (2 : Int32)) : own_mk b l = [own_c0 b, own_c1 b, own_c2 b] := by unfold own_mk; rw [if_neg h0, if_neg h1, if_neg h]
theorem own_mkLen (b l : Int32) : (own_mk b l).length ≤ 3 := by unfold own_mk; split <;> (try split) <;> (try split) <;> simp
theorem own_chle0 (x : Int32) : ¬ (255 : Int32) < ((x &&& (255 : Int32)).toUInt32.toUInt16.toUInt32.toInt32) := by
  have h1 := c_mask x 255 8 (by decide) (by decide)
  have h2 := c_i2c (x &&& (255 : Int32))
  have e : (255 : Int32).toInt = 255 := by decide
  rw [Int32.lt_iff_toInt_lt]
  omega
theorem own_chle (x : Int32) : ¬ (255 : Int32) < (nar .char ((x &&& (255 : Int32)).toUInt32.toUInt16.toUInt32.toInt32)) := by
  have h1 := c_mask x 255 8 (by decide) (by decide)
  have h2 := c_i2c (x &&& (255 : Int32))
  have h3 := c_i2c ((x &&& (255 : Int32)).toUInt32.toUInt16.toUInt32.toInt32)
  have e : (255 : Int32).toInt = 255 := by decide
  rw [Int32.lt_iff_toInt_lt]
  show ¬ _ < ((x &&& (255 : Int32)).toUInt32.toUInt16.toUInt32.toInt32.toUInt32.toUInt16.toUInt32.toInt32).toInt
  omega
theorem own_d1_0 : decode method_3_code 0 = .ok (.iload_n 0, 1) := by decide +kernel
theorem own_d1_1 : decode method_3_code 1 = .ok (.sipush 255, 3) := by decide +kernel
theorem own_d1_4 : decode method_3_code 4 = .ok (.iand, 1) := by decide +kernel
theorem own_d1_5 : decode method_3_code 5 = .ok (.i2c, 1) := by decide +kernel
theorem own_d1_6 : decode method_3_code 6 = .ok (.istore_n 2, 1) := by decide +kernel
theorem own_d1_7 : decode method_3_code 7 = .ok (.iload_n 0, 1) := by decide +kernel
theorem own_d1_8 : decode method_3_code 8 = .ok (.bipush 8, 2) := by decide +kernel
theorem own_d1_10 : decode method_3_code 10 = .ok (.iushr, 1) := by decide +kernel
theorem own_d1_11 : decode method_3_code 11 = .ok (.sipush 255, 3) := by decide +kernel
theorem own_d1_14 : decode method_3_code 14 = .ok (.iand, 1) := by decide +kernel
theorem own_d1_15 : decode method_3_code 15 = .ok (.i2c, 1) := by decide +kernel
theorem own_d1_16 : decode method_3_code 16 = .ok (.istore_n 3, 1) := by decide +kernel
theorem own_d1_17 : decode method_3_code 17 = .ok (.iload_n 0, 1) := by decide +kernel
theorem own_d1_18 : decode method_3_code 18 = .ok (.bipush 16, 2) := by decide +kernel
theorem own_d1_20 : decode method_3_code 20 = .ok (.iushr, 1) := by decide +kernel
theorem own_d1_21 : decode method_3_code 21 = .ok (.sipush 255, 3) := by decide +kernel
theorem own_d1_24 : decode method_3_code 24 = .ok (.iand, 1) := by decide +kernel
theorem own_d1_25 : decode method_3_code 25 = .ok (.i2c, 1) := by decide +kernel
theorem own_d1_26 : decode method_3_code 26 = .ok (.istore 4, 2) := by decide +kernel
theorem own_d1_28 : decode method_3_code 28 = .ok (.iload_n 1, 1) := by decide +kernel
theorem own_d1_29 : decode method_3_code 29 = .ok (.ifCond .ne 6, 3) := by decide +kernel
theorem own_d1_32 : decode method_3_code 32 = .ok (.ldc 25, 2) := by decide +kernel
theorem own_d1_34 : decode method_3_code 34 = .ok (.areturn, 1) := by decide +kernel
theorem own_d1_35 : decode method_3_code 35 = .ok (.iload_n 1, 1) := by decide +kernel
theorem own_d1_36 : decode method_3_code 36 = .ok (.iconst 1, 1) := by decide +kernel
theorem own_d1_37 : decode method_3_code 37 = .ok (.if_icmp .ne 8, 3) := by decide +kernel
theorem own_d1_40 : decode method_3_code 40 = .ok (.iload_n 2, 1) := by decide +kernel
theorem own_d1_41 : decode method_3_code 41 = .ok (.invokestatic 27, 3) := by decide +kernel
theorem own_pd7 : parseMethodDescriptor "(C)Ljava/lang/String;" = some ⟨[.char], some (.object "java/lang/String")⟩ := by decide +kernel
theorem own_d1_44 : decode method_3_code 44 = .ok (.areturn, 1) := by decide +kernel
theorem own_d1_45 : decode method_3_code 45 = .ok (.iload_n 1, 1) := by decide +kernel
theorem own_d1_46 : decode method_3_code 46 = .ok (.iconst 2, 1) := by decide +kernel
theorem own_d1_47 : decode method_3_code 47 = .ok (.if_icmp .ne 22, 3) := by decide +kernel
theorem own_d1_50 : decode method_3_code 50 = .ok (.new 13, 3) := by decide +kernel
theorem own_d1_53 : decode method_3_code 53 = .ok (.dup, 1) := by decide +kernel
theorem own_d1_54 : decode method_3_code 54 = .ok (.iconst 2, 1) := by decide +kernel
theorem own_d1_55 : decode method_3_code 55 = .ok (.newarray .char, 2) := by decide +kernel
theorem own_d1_57 : decode method_3_code 57 = .ok (.dup, 1) := by decide +kernel
theorem own_d1_58 : decode method_3_code 58 = .ok (.iconst 0, 1) := by decide +kernel
theorem own_d1_59 : decode method_3_code 59 = .ok (.iload_n 2, 1) := by decide +kernel
theorem own_d1_60 : decode method_3_code 60 = .ok (.castore, 1) := by decide +kernel
theorem own_d1_61 : decode method_3_code 61 = .ok (.dup, 1) := by decide +kernel
theorem own_d1_62 : decode method_3_code 62 = .ok (.iconst 1, 1) := by decide +kernel
theorem own_d1_63 : decode method_3_code 63 = .ok (.iload_n 3, 1) := by decide +kernel
theorem own_d1_64 : decode method_3_code 64 = .ok (.castore, 1) := by decide +kernel
theorem own_d1_65 : decode method_3_code 65 = .ok (.invokespecial 31, 3) := by decide +kernel
theorem own_pd8 : parseMethodDescriptor "([C)V" = some ⟨[(.array .char)], none⟩ := by decide +kernel
theorem own_d1_68 : decode method_3_code 68 = .ok (.areturn, 1) := by decide +kernel
theorem own_d1_69 : decode method_3_code 69 = .ok (.new 13, 3) := by decide +kernel
theorem own_d1_72 : decode method_3_code 72 = .ok (.dup, 1) := by decide +kernel
theorem own_d1_73 : decode method_3_code 73 = .ok (.iconst 3, 1) := by decide +kernel
theorem own_d1_74 : decode method_3_code 74 = .ok (.newarray .char, 2) := by decide +kernel
theorem own_d1_76 : decode method_3_code 76 = .ok (.dup, 1) := by decide +kernel
theorem own_d1_77 : decode method_3_code 77 = .ok (.iconst 0, 1) := by decide +kernel
theorem own_d1_78 : decode method_3_code 78 = .ok (.iload_n 2, 1) := by decide +kernel
theorem own_d1_79 : decode method_3_code 79 = .ok (.castore, 1) := by decide +kernel
theorem own_d1_80 : decode method_3_code 80 = .ok (.dup, 1) := by decide +kernel
theorem own_d1_81 : decode method_3_code 81 = .ok (.iconst 1, 1) := by decide +kernel
theorem own_d1_82 : decode method_3_code 82 = .ok (.iload_n 3, 1) := by decide +kernel
theorem own_d1_83 : decode method_3_code 83 = .ok (.castore, 1) := by decide +kernel
theorem own_d1_84 : decode method_3_code 84 = .ok (.dup, 1) := by decide +kernel
theorem own_d1_85 : decode method_3_code 85 = .ok (.iconst 2, 1) := by decide +kernel
theorem own_d1_86 : decode method_3_code 86 = .ok (.iload 4, 2) := by decide +kernel
theorem own_d1_88 : decode method_3_code 88 = .ok (.castore, 1) := by decide +kernel
theorem own_d1_89 : decode method_3_code 89 = .ok (.invokespecial 31, 3) := by decide +kernel
theorem own_d1_92 : decode method_3_code 92 = .ok (.areturn, 1) := by decide +kernel
theorem own_pn3 : plainName "com/example/partybook/partybook/io/XmlInputIsOneOfPinLaw" = true := by first | (simp [plainName, overriddenIn]; done) | decide +kernel
theorem own_ef_rmM (m : MethodId) (p1 : Int32) (p2 : Int32) : entryFrame m #[(.int p1), (.int p2)] 5 = mkF m 0 #[.val (.int p1), .val (.int p2), .unset, .unset, .unset] [] := by first | (simp [entryFrame, mkF, argsToLocals, Value.category]; done) | rfl
def QM (Z : State) (p1 : Int32) (p2 : Int32) (cw : Int32) (h0 : Heap) (n0 : Nat) (v : Option Value) (h : Heap) (L : List Loc) : Prop := ∃ r : Addr, v = some (.ref r) ∧ Fr n0 L ∧ Keep h0 h [] ∧ own_Str Z h r (own_mk p1 p2)
set_option maxRecDepth 65536 in
set_option maxHeartbeats 40000000 in
theorem rmM (l : Launch) (Z : State) (a0 : Array Value) (hw : ∀ d ∈ tables_1, d.before a0 Z = true) (ws : List Jvm.Cond) (p1 : Int32) (p2 : Int32) (cw : Int32) (h0 : Heap) (n0 : Nat) (Z0 : n0 ≤ h0.size) (S_COMPACT_STRINGS : Sta Z h0 "java/lang/String" "COMPACT_STRINGS" "Z" (.int cw)) (hw0 : ¬ (cw = (0 : Int32))) :
    MetFree l (⟨"com/example/partybook/partybook/io/XmlInputIsOneOfPinLaw", "mk", "(II)Ljava/lang/String;"⟩ : MethodName) (head1 (Jvm.Cond.code (⟨"com/example/partybook/partybook/io/XmlInputIsOneOfPinLaw", "mk", "(II)Ljava/lang/String;"⟩ : MethodName) method_3_code 5 (some (.object "java/lang/String")) :: ws) ({ frames := 4, cells := 3, slots := 10, locals := 66 } : Room)) (fun a U => a = #[(.int p1), (.int p2)] ∧ Z.Warmed39 U.vm ∧ U.heap = h0 ∧ CHv Z own_EL U.vm h0) (fun _ _ _ _ _ => True) (fun _ U o U' => ∃ v L, o = .returned v ∧ QM Z p1 p2 cw h0 n0 v U'.heap L ∧ CHr Z own_EL U.vm U.heap U'.vm U'.heap ∧ ReturnedEndW U o U' L ({ frames := 4, cells := 3, slots := 10, locals := 66 } : Room).cells ({ frames := 4, cells := 3, slots := 10, locals := 66 } : Room).slots) := by
  refine MetFree.of_bodySF (plainFor_of_name own_pn3) hisR ?_
  intro p e s m args below meth c s₁ Bd hml0 hP hK
  obtain ⟨rfl, hZ, hh, hCH⟩ := hP
  have hx := Bd.exec
  have hby := Bd.bytes
  have hml : c.maxLocals = 5 := hml0
  have hown : s.vm.findClass "com/example/partybook/partybook/io/XmlInputIsOneOfPinLaw" = some m.cls := findClass_of_methodNamed Bd.named
  have hnm := (name_of_methodNamed Bd.named Bd.method).1
  have X0 : Stand p l e ({ frames := 4, cells := 3, slots := 10, locals := 66 } : Room) (s.setVm s.vm) m #[(.int p1), (.int p2)] below meth c s₁ [] 0 0 := Stand.of_body Bd
  have e0 : s₁.heap = h0 := by rw [← hh, Bd.state]; rfl
  have N0 := Fr.nil n0
  have K0 : Keep h0 h0 [] := Keep.refl h0 _
  have pre0 : ∀ t, Steps p.tables e below (s₁.setTop (mkF m 0 #[.val (.int p1), .val (.int p2), .unset, .unset, .unset] [])) t → Steps p.tables e below (s₁.setTop (entryFrame m #[(.int p1), (.int p2)] 5)) t := fun t k => castTop (own_ef_rmM m p1 p2) k
  have hS : s.Since s.vm 0 := (State.WarmedH.refl s).since 0
  have hk : 0 ≤ h0.size := Nat.zero_le _
  have CH0 := CHr.refl hCH
  have hEL := own_hEL hw
  have wS := own_wS hw
  have pre87 : ∀ t, Steps p.tables e below (s₁.setTop (mkF m 29 #[iv p1, iv p2, iv ((p1 &&& (255 : Int32)).toUInt32.toUInt16.toUInt32.toInt32), iv ((((p1.toUInt32 >>> ((8 : Int32) &&& 31).toUInt32).toInt32) &&& (255 : Int32)).toUInt32.toUInt16.toUInt32.toInt32), iv ((((p1.toUInt32 >>> ((16 : Int32) &&& 31).toUInt32).toInt32) &&& (255 : Int32)).toUInt32.toUInt16.toUInt32.toInt32)] [(.int p2)])) t → Steps p.tables e below (s₁.setTop (entryFrame m #[(.int p1), (.int p2)] 5)) t := fun t k => by
    refine pre0 _ ?_
    show Steps p.tables e below (s₁.setTop (mkF m 0 #[iv p1, iv p2, .unset, .unset, .unset] [])) _
    refine XS.iloadN X0.here hx rfl (hb hby own_d1_0) rfl ?_
    show Steps p.tables e below (s₁.setTop (mkF m 1 #[iv p1, iv p2, .unset, .unset, .unset] [(.int p1)])) _
    refine XS.sipush X0.here hx rfl (hb hby own_d1_1) ?_
    show Steps p.tables e below (s₁.setTop (mkF m 4 #[iv p1, iv p2, .unset, .unset, .unset] [(.int (255 : Int32)), (.int p1)])) _
    refine XS.iand X0.here hx rfl (hb hby own_d1_4) rfl ?_
    show Steps p.tables e below (s₁.setTop (mkF m 5 #[iv p1, iv p2, .unset, .unset, .unset] [(.int (p1 &&& (255 : Int32)))])) _
    refine XS.i2c X0.here hx rfl (hb hby own_d1_5) rfl ?_
    show Steps p.tables e below (s₁.setTop (mkF m 6 #[iv p1, iv p2, .unset, .unset, .unset] [(.int ((p1 &&& (255 : Int32)).toUInt32.toUInt16.toUInt32.toInt32))])) _
    refine XS.istoreN X0.here hx rfl (hb hby own_d1_6) rfl (l' := #[iv p1, iv p2, iv ((p1 &&& (255 : Int32)).toUInt32.toUInt16.toUInt32.toInt32), .unset, .unset]) rfl ?_
    show Steps p.tables e below (s₁.setTop (mkF m 7 #[iv p1, iv p2, iv ((p1 &&& (255 : Int32)).toUInt32.toUInt16.toUInt32.toInt32), .unset, .unset] [])) _
    refine XS.iloadN X0.here hx rfl (hb hby own_d1_7) rfl ?_
    show Steps p.tables e below (s₁.setTop (mkF m 8 #[iv p1, iv p2, iv ((p1 &&& (255 : Int32)).toUInt32.toUInt16.toUInt32.toInt32), .unset, .unset] [(.int p1)])) _
    refine XS.bipush X0.here hx rfl (hb hby own_d1_8) ?_
    show Steps p.tables e below (s₁.setTop (mkF m 10 #[iv p1, iv p2, iv ((p1 &&& (255 : Int32)).toUInt32.toUInt16.toUInt32.toInt32), .unset, .unset] [(.int (8 : Int32)), (.int p1)])) _
    refine XS.iushr X0.here hx rfl (hb hby own_d1_10) rfl ?_
    show Steps p.tables e below (s₁.setTop (mkF m 11 #[iv p1, iv p2, iv ((p1 &&& (255 : Int32)).toUInt32.toUInt16.toUInt32.toInt32), .unset, .unset] [(.int ((p1.toUInt32 >>> ((8 : Int32) &&& 31).toUInt32).toInt32))])) _
    refine XS.sipush X0.here hx rfl (hb hby own_d1_11) ?_
    show Steps p.tables e below (s₁.setTop (mkF m 14 #[iv p1, iv p2, iv ((p1 &&& (255 : Int32)).toUInt32.toUInt16.toUInt32.toInt32), .unset, .unset] [(.int (255 : Int32)), (.int ((p1.toUInt32 >>> ((8 : Int32) &&& 31).toUInt32).toInt32))])) _
    refine XS.iand X0.here hx rfl (hb hby own_d1_14) rfl ?_
    show Steps p.tables e below (s₁.setTop (mkF m 15 #[iv p1, iv p2, iv ((p1 &&& (255 : Int32)).toUInt32.toUInt16.toUInt32.toInt32), .unset, .unset] [(.int (((p1.toUInt32 >>> ((8 : Int32) &&& 31).toUInt32).toInt32) &&& (255 : Int32)))])) _
    refine XS.i2c X0.here hx rfl (hb hby own_d1_15) rfl ?_
    show Steps p.tables e below (s₁.setTop (mkF m 16 #[iv p1, iv p2, iv ((p1 &&& (255 : Int32)).toUInt32.toUInt16.toUInt32.toInt32), .unset, .unset] [(.int ((((p1.toUInt32 >>> ((8 : Int32) &&& 31).toUInt32).toInt32) &&& (255 : Int32)).toUInt32.toUInt16.toUInt32.toInt32))])) _
    refine XS.istoreN X0.here hx rfl (hb hby own_d1_16) rfl (l' := #[iv p1, iv p2, iv ((p1 &&& (255 : Int32)).toUInt32.toUInt16.toUInt32.toInt32), iv ((((p1.toUInt32 >>> ((8 : Int32) &&& 31).toUInt32).toInt32) &&& (255 : Int32)).toUInt32.toUInt16.toUInt32.toInt32), .unset]) rfl ?_
    show Steps p.tables e below (s₁.setTop (mkF m 17 #[iv p1, iv p2, iv ((p1 &&& (255 : Int32)).toUInt32.toUInt16.toUInt32.toInt32), iv ((((p1.toUInt32 >>> ((8 : Int32) &&& 31).toUInt32).toInt32) &&& (255 : Int32)).toUInt32.toUInt16.toUInt32.toInt32), .unset] [])) _
    refine XS.iloadN X0.here hx rfl (hb hby own_d1_17) rfl ?_
    show Steps p.tables e below (s₁.setTop (mkF m 18 #[iv p1, iv p2, iv ((p1 &&& (255 : Int32)).toUInt32.toUInt16.toUInt32.toInt32), iv ((((p1.toUInt32 >>> ((8 : Int32) &&& 31).toUInt32).toInt32) &&& (255 : Int32)).toUInt32.toUInt16.toUInt32.toInt32), .unset] [(.int p1)])) _
    refine XS.bipush X0.here hx rfl (hb hby own_d1_18) ?_
    show Steps p.tables e below (s₁.setTop (mkF m 20 #[iv p1, iv p2, iv ((p1 &&& (255 : Int32)).toUInt32.toUInt16.toUInt32.toInt32), iv ((((p1.toUInt32 >>> ((8 : Int32) &&& 31).toUInt32).toInt32) &&& (255 : Int32)).toUInt32.toUInt16.toUInt32.toInt32), .unset] [(.int (16 : Int32)), (.int p1)])) _
    refine XS.iushr X0.here hx rfl (hb hby own_d1_20) rfl ?_
    show Steps p.tables e below (s₁.setTop (mkF m 21 #[iv p1, iv p2, iv ((p1 &&& (255 : Int32)).toUInt32.toUInt16.toUInt32.toInt32), iv ((((p1.toUInt32 >>> ((8 : Int32) &&& 31).toUInt32).toInt32) &&& (255 : Int32)).toUInt32.toUInt16.toUInt32.toInt32), .unset] [(.int ((p1.toUInt32 >>> ((16 : Int32) &&& 31).toUInt32).toInt32))])) _
    refine XS.sipush X0.here hx rfl (hb hby own_d1_21) ?_
    show Steps p.tables e below (s₁.setTop (mkF m 24 #[iv p1, iv p2, iv ((p1 &&& (255 : Int32)).toUInt32.toUInt16.toUInt32.toInt32), iv ((((p1.toUInt32 >>> ((8 : Int32) &&& 31).toUInt32).toInt32) &&& (255 : Int32)).toUInt32.toUInt16.toUInt32.toInt32), .unset] [(.int (255 : Int32)), (.int ((p1.toUInt32 >>> ((16 : Int32) &&& 31).toUInt32).toInt32))])) _
    refine XS.iand X0.here hx rfl (hb hby own_d1_24) rfl ?_
    show Steps p.tables e below (s₁.setTop (mkF m 25 #[iv p1, iv p2, iv ((p1 &&& (255 : Int32)).toUInt32.toUInt16.toUInt32.toInt32), iv ((((p1.toUInt32 >>> ((8 : Int32) &&& 31).toUInt32).toInt32) &&& (255 : Int32)).toUInt32.toUInt16.toUInt32.toInt32), .unset] [(.int (((p1.toUInt32 >>> ((16 : Int32) &&& 31).toUInt32).toInt32) &&& (255 : Int32)))])) _
    refine XS.i2c X0.here hx rfl (hb hby own_d1_25) rfl ?_
    show Steps p.tables e below (s₁.setTop (mkF m 26 #[iv p1, iv p2, iv ((p1 &&& (255 : Int32)).toUInt32.toUInt16.toUInt32.toInt32), iv ((((p1.toUInt32 >>> ((8 : Int32) &&& 31).toUInt32).toInt32) &&& (255 : Int32)).toUInt32.toUInt16.toUInt32.toInt32), .unset] [(.int ((((p1.toUInt32 >>> ((16 : Int32) &&& 31).toUInt32).toInt32) &&& (255 : Int32)).toUInt32.toUInt16.toUInt32.toInt32))])) _
    refine XS.istore X0.here hx rfl (hb hby own_d1_26) rfl (l' := #[iv p1, iv p2, iv ((p1 &&& (255 : Int32)).toUInt32.toUInt16.toUInt32.toInt32), iv ((((p1.toUInt32 >>> ((8 : Int32) &&& 31).toUInt32).toInt32) &&& (255 : Int32)).toUInt32.toUInt16.toUInt32.toInt32), iv ((((p1.toUInt32 >>> ((16 : Int32) &&& 31).toUInt32).toInt32) &&& (255 : Int32)).toUInt32.toUInt16.toUInt32.toInt32)]) rfl ?_
    show Steps p.tables e below (s₁.setTop (mkF m 28 #[iv p1, iv p2, iv ((p1 &&& (255 : Int32)).toUInt32.toUInt16.toUInt32.toInt32), iv ((((p1.toUInt32 >>> ((8 : Int32) &&& 31).toUInt32).toInt32) &&& (255 : Int32)).toUInt32.toUInt16.toUInt32.toInt32), iv ((((p1.toUInt32 >>> ((16 : Int32) &&& 31).toUInt32).toInt32) &&& (255 : Int32)).toUInt32.toUInt16.toUInt32.toInt32)] [])) _
    refine XS.iloadN X0.here hx rfl (hb hby own_d1_28) rfl ?_
    exact k
  by_cases hc29 : p2 = (0 : Int32)
  · have pre88 : ∀ t, Steps p.tables e below (s₁.setTop (mkF m 32 #[iv p1, iv p2, iv ((p1 &&& (255 : Int32)).toUInt32.toUInt16.toUInt32.toInt32), iv ((((p1.toUInt32 >>> ((8 : Int32) &&& 31).toUInt32).toInt32) &&& (255 : Int32)).toUInt32.toUInt16.toUInt32.toInt32), iv ((((p1.toUInt32 >>> ((16 : Int32) &&& 31).toUInt32).toInt32) &&& (255 : Int32)).toUInt32.toUInt16.toUInt32.toInt32)] [])) t → Steps p.tables e below (s₁.setTop (entryFrame m #[(.int p1), (.int p2)] 5)) t := fun t k => by
      refine pre87 _ ?_
      show Steps p.tables e below (s₁.setTop (mkF m 29 #[iv p1, iv p2, iv ((p1 &&& (255 : Int32)).toUInt32.toUInt16.toUInt32.toInt32), iv ((((p1.toUInt32 >>> ((8 : Int32) &&& 31).toUInt32).toInt32) &&& (255 : Int32)).toUInt32.toUInt16.toUInt32.toInt32), iv ((((p1.toUInt32 >>> ((16 : Int32) &&& 31).toUInt32).toInt32) &&& (255 : Int32)).toUInt32.toUInt16.toUInt32.toInt32)] [(.int p2)])) _
      refine XS.ifNo X0.here hx rfl (hb hby own_d1_29) rfl ((if0 _ _).trans (teq hc29).2) ?_
      exact k
    obtain ⟨la89, T89, h89, kk89, lb89, lk89, X89, e89, E89, hS, hk, hZ, hown, LE89, LC89, LV89, LA89, -, -, CR89, -, LS89, st89⟩ := ldcCH X0 hx hZ hown (hw _ (List.mem_of_getElem? (i := 4) rfl)) wS e0 hS hk hEL own_mem CH0.1 (vs := []) (z := (0 : Int32)) ⟨by simp, rfl⟩ (by decide) rfl (g := (mkF m 32 #[iv p1, iv p2, iv ((p1 &&& (255 : Int32)).toUInt32.toUInt16.toUInt32.toInt32), iv ((((p1.toUInt32 >>> ((8 : Int32) &&& 31).toUInt32).toInt32) &&& (255 : Int32)).toUInt32.toUInt16.toUInt32.toInt32), iv ((((p1.toUInt32 >>> ((16 : Int32) &&& 31).toUInt32).toInt32) &&& (255 : Int32)).toUInt32.toUInt16.toUInt32.toInt32)] [])) rfl (hb hby own_d1_32) (n := 0) (by decide) (by decide) (by decide) (by decide)
    have CH89 := CH0.trans CR89
    have K89 := K0.ext E89
    obtain ⟨fs, hr, hrun, hended, hW, hsame⟩ := X89.leave (v := some (.ref la89)) (fun h => by rw [Bd.returns] at h; cases h)
    refine ⟨_, _, pre88 _ ?_, hrun, hended, _, _, rfl, ?_, (by show CHr Z own_EL s.vm s.heap T89.vm T89.heap; rw [hh, e89]; exact CH89.trans (CHv.at X89 hZ hEL CH89.1)), own_endW hS (by show _ ≤ T89.heap.size; rw [e89]; exact hk) hW (hsame.mono (by decide) (by decide))⟩
    · show Steps p.tables e below (s₁.setTop (mkF m 32 #[iv p1, iv p2, iv ((p1 &&& (255 : Int32)).toUInt32.toUInt16.toUInt32.toInt32), iv ((((p1.toUInt32 >>> ((8 : Int32) &&& 31).toUInt32).toInt32) &&& (255 : Int32)).toUInt32.toUInt16.toUInt32.toInt32), iv ((((p1.toUInt32 >>> ((16 : Int32) &&& 31).toUInt32).toInt32) &&& (255 : Int32)).toUInt32.toUInt16.toUInt32.toInt32)] [])) _
      refine st89 _ ?_
      show Steps p.tables e below (T89.setTop (mkF m 34 #[iv p1, iv p2, iv ((p1 &&& (255 : Int32)).toUInt32.toUInt16.toUInt32.toInt32), iv ((((p1.toUInt32 >>> ((8 : Int32) &&& 31).toUInt32).toInt32) &&& (255 : Int32)).toUInt32.toUInt16.toUInt32.toInt32), iv ((((p1.toUInt32 >>> ((16 : Int32) &&& 31).toUInt32).toInt32) &&& (255 : Int32)).toUInt32.toUInt16.toUInt32.toInt32)] [(.ref la89)])) _
      jvm_step X89.here [X89.here.top, hx, (hb hby own_d1_34), X89.method', Bd.returns, Value.isRef, FieldType.isReference]
      first | (intro acts; rw [hr _ acts rfl rfl rfl]) | rw [hr _ _ rfl rfl rfl]
      exact Steps.refl _
    · show QM Z p1 p2 cw h0 n0 _ T89.heap _
      rw [e89]
      exact ⟨la89, rfl, N0, K89, (by rw [own_mk0 hc29]; exact ⟨LE89, LC89, lb89, lk89, LV89, LA89⟩)⟩
  · have pre90 : ∀ t, Steps p.tables e below (s₁.setTop (mkF m 37 #[iv p1, iv p2, iv ((p1 &&& (255 : Int32)).toUInt32.toUInt16.toUInt32.toInt32), iv ((((p1.toUInt32 >>> ((8 : Int32) &&& 31).toUInt32).toInt32) &&& (255 : Int32)).toUInt32.toUInt16.toUInt32.toInt32), iv ((((p1.toUInt32 >>> ((16 : Int32) &&& 31).toUInt32).toInt32) &&& (255 : Int32)).toUInt32.toUInt16.toUInt32.toInt32)] [(.int (1 : Int32)), (.int p2)])) t → Steps p.tables e below (s₁.setTop (entryFrame m #[(.int p1), (.int p2)] 5)) t := fun t k => by
      refine pre87 _ ?_
      show Steps p.tables e below (s₁.setTop (mkF m 29 #[iv p1, iv p2, iv ((p1 &&& (255 : Int32)).toUInt32.toUInt16.toUInt32.toInt32), iv ((((p1.toUInt32 >>> ((8 : Int32) &&& 31).toUInt32).toInt32) &&& (255 : Int32)).toUInt32.toUInt16.toUInt32.toInt32), iv ((((p1.toUInt32 >>> ((16 : Int32) &&& 31).toUInt32).toInt32) &&& (255 : Int32)).toUInt32.toUInt16.toUInt32.toInt32)] [(.int p2)])) _
      refine XS.ifYes X0.here hx rfl (pc0 := 29) (pc' := 35) rfl (hb hby own_d1_29) rfl ((if0 _ _).trans (feq hc29).2) (by decide) (by decide) ?_
      show Steps p.tables e below (s₁.setTop (mkF m 35 #[iv p1, iv p2, iv ((p1 &&& (255 : Int32)).toUInt32.toUInt16.toUInt32.toInt32), iv ((((p1.toUInt32 >>> ((8 : Int32) &&& 31).toUInt32).toInt32) &&& (255 : Int32)).toUInt32.toUInt16.toUInt32.toInt32), iv ((((p1.toUInt32 >>> ((16 : Int32) &&& 31).toUInt32).toInt32) &&& (255 : Int32)).toUInt32.toUInt16.toUInt32.toInt32)] [])) _
      refine XS.iloadN X0.here hx rfl (hb hby own_d1_35) rfl ?_
      show Steps p.tables e below (s₁.setTop (mkF m 36 #[iv p1, iv p2, iv ((p1 &&& (255 : Int32)).toUInt32.toUInt16.toUInt32.toInt32), iv ((((p1.toUInt32 >>> ((8 : Int32) &&& 31).toUInt32).toInt32) &&& (255 : Int32)).toUInt32.toUInt16.toUInt32.toInt32), iv ((((p1.toUInt32 >>> ((16 : Int32) &&& 31).toUInt32).toInt32) &&& (255 : Int32)).toUInt32.toUInt16.toUInt32.toInt32)] [(.int p2)])) _
      refine XS.iconst X0.here hx rfl (hb hby own_d1_36) ?_
      exact k
    by_cases hc37 : p2 = (1 : Int32)
    · obtain ⟨_, _, ⟨T91, L91, k91, n91⟩, -, X91, ⟨Lc91, hQ91, l91, y91, z91⟩, st91⟩ := Jvm.LawKit.callS X0 hx (y := (⟨"java/lang/String", "valueOf", "(C)Ljava/lang/String;"⟩ : MethodName)) hown (mvT hZ (hw _ (List.mem_of_getElem? (i := 18) rfl))) (mvT hZ (hw _ (List.mem_of_getElem? (i := 19) rfl))) (mvT hZ (hw _ (List.mem_of_getElem? (i := 5) rfl))) (mvT hZ (hw _ (List.mem_of_getElem? (i := 20) rfl))) (by decide) (backOf (W := 0) (rmV4 l Z a0 hw [] ((p1 &&& (255 : Int32)).toUInt32.toUInt16.toUInt32.toInt32) cw h0 n0 (Nat.le_trans Z0 K0.1) S_COMPACT_STRINGS hw0 (own_chle0 _)) hZ (hw _ (List.mem_of_getElem? (i := 20) rfl)) (hw _ (List.mem_of_getElem? (i := 5) rfl)) (by decide) (by decide)) (g := (mkF m 41 #[iv p1, iv p2, iv ((p1 &&& (255 : Int32)).toUInt32.toUInt16.toUInt32.toInt32), iv ((((p1.toUInt32 >>> ((8 : Int32) &&& 31).toUInt32).toInt32) &&& (255 : Int32)).toUInt32.toUInt16.toUInt32.toInt32), iv ((((p1.toUInt32 >>> ((16 : Int32) &&& 31).toUInt32).toInt32) &&& (255 : Int32)).toUInt32.toUInt16.toUInt32.toInt32)] [(.int ((p1 &&& (255 : Int32)).toUInt32.toUInt16.toUInt32.toInt32))])) rfl (by rw [hml]; rfl) (argsL := [(.int ((p1 &&& (255 : Int32)).toUInt32.toUInt16.toUInt32.toInt32))]) (rest := []) (lenOf own_pd7 rfl) rfl (by show 2 * 0 + _ ≤ _; exact Nat.le_of_eq rfl) (hb hby own_d1_41) (fun _ _ => ⟨rfl, e0, (by decide : 0 + 2 ≤ _), (by decide : 0 + 5 ≤ _)⟩)
      dsimp only [Pt.U, Pt.locs, Pt.cells, Pt.slots] at X91 l91 y91 z91 st91 hQ91
      subst l91 y91 z91
      obtain ⟨r_91, b_91, kb_91, rfl, N91q, i91_5, i91_6, i91_7, i91_8, i91_9, i91_10⟩ := hQ91
      have N91 := Fr.app N0 N91q
      have gg_r_91 : n0 ≤ r_91 := Nat.le_trans (Nat.le_trans Z0 K0.1) i91_6
      have sz_r_91 : h0.size ≤ r_91 := Nat.le_trans K0.1 i91_6
      have CH91 := CH0.trans (CHr.keep i91_5 sf0 CH0.1)
      have hk := Nat.le_trans hk i91_5.1
      have K91 := K0.trans i91_5 all0
      obtain ⟨fs, hr, hrun, hended, hW, hsame⟩ := X91.leave (v := some (.ref r_91)) (fun h => by rw [Bd.returns] at h; cases h)
      refine ⟨_, _, pre90 _ ?_, hrun, hended, _, _, rfl, ?_, (by show CHr Z own_EL s.vm s.heap T91.vm T91.heap; rw [hh]; exact CH91.trans (CHv.at X91 hZ hEL CH91.1)), own_endW hS hk hW (hsame.mono (by decide) (by decide))⟩
      · show Steps p.tables e below (s₁.setTop (mkF m 37 #[iv p1, iv p2, iv ((p1 &&& (255 : Int32)).toUInt32.toUInt16.toUInt32.toInt32), iv ((((p1.toUInt32 >>> ((8 : Int32) &&& 31).toUInt32).toInt32) &&& (255 : Int32)).toUInt32.toUInt16.toUInt32.toInt32), iv ((((p1.toUInt32 >>> ((16 : Int32) &&& 31).toUInt32).toInt32) &&& (255 : Int32)).toUInt32.toUInt16.toUInt32.toInt32)] [(.int (1 : Int32)), (.int p2)])) _
        refine XS.icmpNo X0.here hx rfl (hb hby own_d1_37) rfl (teq hc37).2 ?_
        show Steps p.tables e below (s₁.setTop (mkF m 40 #[iv p1, iv p2, iv ((p1 &&& (255 : Int32)).toUInt32.toUInt16.toUInt32.toInt32), iv ((((p1.toUInt32 >>> ((8 : Int32) &&& 31).toUInt32).toInt32) &&& (255 : Int32)).toUInt32.toUInt16.toUInt32.toInt32), iv ((((p1.toUInt32 >>> ((16 : Int32) &&& 31).toUInt32).toInt32) &&& (255 : Int32)).toUInt32.toUInt16.toUInt32.toInt32)] [])) _
        refine XS.iloadN X0.here hx rfl (hb hby own_d1_40) rfl ?_
        show Steps p.tables e below (s₁.setTop (mkF m 41 #[iv p1, iv p2, iv ((p1 &&& (255 : Int32)).toUInt32.toUInt16.toUInt32.toInt32), iv ((((p1.toUInt32 >>> ((8 : Int32) &&& 31).toUInt32).toInt32) &&& (255 : Int32)).toUInt32.toUInt16.toUInt32.toInt32), iv ((((p1.toUInt32 >>> ((16 : Int32) &&& 31).toUInt32).toInt32) &&& (255 : Int32)).toUInt32.toUInt16.toUInt32.toInt32)] [(.int ((p1 &&& (255 : Int32)).toUInt32.toUInt16.toUInt32.toInt32))])) _
        refine st91 _ ?_
        show Steps p.tables e below (T91.setTop (mkF m 44 #[iv p1, iv p2, iv ((p1 &&& (255 : Int32)).toUInt32.toUInt16.toUInt32.toInt32), iv ((((p1.toUInt32 >>> ((8 : Int32) &&& 31).toUInt32).toInt32) &&& (255 : Int32)).toUInt32.toUInt16.toUInt32.toInt32), iv ((((p1.toUInt32 >>> ((16 : Int32) &&& 31).toUInt32).toInt32) &&& (255 : Int32)).toUInt32.toUInt16.toUInt32.toInt32)] [(.ref r_91)])) _
        jvm_step X91.here [X91.here.top, hx, (hb hby own_d1_44), X91.method', Bd.returns, Value.isRef, FieldType.isReference]
        first | (intro acts; rw [hr _ acts rfl rfl rfl]) | rw [hr _ _ rfl rfl rfl]
        exact Steps.refl _
      · show QM Z p1 p2 cw h0 n0 _ T91.heap _
        exact ⟨r_91, rfl, N91, K91, (by rw [own_mk1 hc29 hc37]; exact ⟨i91_7, i91_8, b_91, kb_91, i91_9, i91_10⟩)⟩
    · have pre92 : ∀ t, Steps p.tables e below (s₁.setTop (mkF m 47 #[iv p1, iv p2, iv ((p1 &&& (255 : Int32)).toUInt32.toUInt16.toUInt32.toInt32), iv ((((p1.toUInt32 >>> ((8 : Int32) &&& 31).toUInt32).toInt32) &&& (255 : Int32)).toUInt32.toUInt16.toUInt32.toInt32), iv ((((p1.toUInt32 >>> ((16 : Int32) &&& 31).toUInt32).toInt32) &&& (255 : Int32)).toUInt32.toUInt16.toUInt32.toInt32)] [(.int (2 : Int32)), (.int p2)])) t → Steps p.tables e below (s₁.setTop (entryFrame m #[(.int p1), (.int p2)] 5)) t := fun t k => by
        refine pre90 _ ?_
        show Steps p.tables e below (s₁.setTop (mkF m 37 #[iv p1, iv p2, iv ((p1 &&& (255 : Int32)).toUInt32.toUInt16.toUInt32.toInt32), iv ((((p1.toUInt32 >>> ((8 : Int32) &&& 31).toUInt32).toInt32) &&& (255 : Int32)).toUInt32.toUInt16.toUInt32.toInt32), iv ((((p1.toUInt32 >>> ((16 : Int32) &&& 31).toUInt32).toInt32) &&& (255 : Int32)).toUInt32.toUInt16.toUInt32.toInt32)] [(.int (1 : Int32)), (.int p2)])) _
        refine XS.icmpYes X0.here hx rfl (pc0 := 37) (pc' := 45) rfl (hb hby own_d1_37) rfl (feq hc37).2 (by decide) (by decide) ?_
        show Steps p.tables e below (s₁.setTop (mkF m 45 #[iv p1, iv p2, iv ((p1 &&& (255 : Int32)).toUInt32.toUInt16.toUInt32.toInt32), iv ((((p1.toUInt32 >>> ((8 : Int32) &&& 31).toUInt32).toInt32) &&& (255 : Int32)).toUInt32.toUInt16.toUInt32.toInt32), iv ((((p1.toUInt32 >>> ((16 : Int32) &&& 31).toUInt32).toInt32) &&& (255 : Int32)).toUInt32.toUInt16.toUInt32.toInt32)] [])) _
        refine XS.iloadN X0.here hx rfl (hb hby own_d1_45) rfl ?_
        show Steps p.tables e below (s₁.setTop (mkF m 46 #[iv p1, iv p2, iv ((p1 &&& (255 : Int32)).toUInt32.toUInt16.toUInt32.toInt32), iv ((((p1.toUInt32 >>> ((8 : Int32) &&& 31).toUInt32).toInt32) &&& (255 : Int32)).toUInt32.toUInt16.toUInt32.toInt32), iv ((((p1.toUInt32 >>> ((16 : Int32) &&& 31).toUInt32).toInt32) &&& (255 : Int32)).toUInt32.toUInt16.toUInt32.toInt32)] [(.int p2)])) _
        refine XS.iconst X0.here hx rfl (hb hby own_d1_46) ?_
        exact k
      by_cases hc47 : p2 = (2 : Int32)
      · obtain ⟨T93, h93, X93, e93, E93, A93, D93, -, st93⟩ := newO X0 hx hZ hown (hw _ (List.mem_of_getElem? (i := 12) rfl)) (hw _ (List.mem_of_getElem? (i := 6) rfl)) (hw _ (List.mem_of_getElem? (i := 5) rfl)) e0 (g := (mkF m 50 #[iv p1, iv p2, iv ((p1 &&& (255 : Int32)).toUInt32.toUInt16.toUInt32.toInt32), iv ((((p1.toUInt32 >>> ((8 : Int32) &&& 31).toUInt32).toInt32) &&& (255 : Int32)).toUInt32.toUInt16.toUInt32.toInt32), iv ((((p1.toUInt32 >>> ((16 : Int32) &&& 31).toUInt32).toInt32) &&& (255 : Int32)).toUInt32.toUInt16.toUInt32.toInt32)] [])) rfl (hb hby own_d1_50) (by decide) (by decide)
        obtain ⟨b93, g93⟩ : ∃ z, z = h0.size := ⟨_, rfl⟩
        rw [← g93] at A93 D93 st93
        have gg_b93 : n0 ≤ b93 := Nat.le_trans (Nat.le_trans Z0 K0.1) (Nat.le_of_eq g93.symm)
        have sz_b93 : h0.size ≤ b93 := Nat.le_trans K0.1 (Nat.le_of_eq g93.symm)
        have K93 := K0.ext E93
        have sf93_b93 := Safe.ext E93 CH0.1 (Safe.new (Nat.le_of_eq g93.symm) : Safe Z own_EL _ _ b93)
        have CH93 := CH0.trans (CHr.ext E93 CH0.1)
        have hk := Nat.le_trans hk E93.1
        have F93_value : Fld Z h93 b93 "java/lang/String" "value" "[B" .null := D93 (Or.inr (hw _ (List.mem_of_getElem? (i := 8) rfl))) (ty := (.array .byte)) (by decide)
        have F93_coder : Fld Z h93 b93 "java/lang/String" "coder" "B" (.int (0 : Int32)) := D93 (Or.inr (hw _ (List.mem_of_getElem? (i := 9) rfl))) (ty := .byte) (by decide)
        obtain ⟨T94, h94, k94, X94, e94, E94, A94, st94⟩ := newP X93 hx hZ (hw _ (List.mem_of_getElem? (i := 50) rfl)) e93 (g := (mkF m 55 #[iv p1, iv p2, iv ((p1 &&& (255 : Int32)).toUInt32.toUInt16.toUInt32.toInt32), iv ((((p1.toUInt32 >>> ((8 : Int32) &&& 31).toUInt32).toInt32) &&& (255 : Int32)).toUInt32.toUInt16.toUInt32.toInt32), iv ((((p1.toUInt32 >>> ((16 : Int32) &&& 31).toUInt32).toInt32) &&& (255 : Int32)).toUInt32.toUInt16.toUInt32.toInt32)] [(.int (2 : Int32)), (.ref b93), (.ref b93)])) rfl (hb hby own_d1_55) rfl (by decide) (cap := 2) (by decide) (by decide) (by decide) (by decide)
        obtain ⟨b94, g94⟩ : ∃ z, z = h93.size := ⟨_, rfl⟩
        rw [← g94] at A94 st94
        have ne_b93_b94 : b93 ≠ b94 := Nat.ne_of_lt (Nat.lt_of_lt_of_le A93.lt (Nat.le_of_eq g94.symm))
        have gg_b94 : n0 ≤ b94 := Nat.le_trans (Nat.le_trans Z0 K93.1) (Nat.le_of_eq g94.symm)
        have sz_b94 : h0.size ≤ b94 := Nat.le_trans K93.1 (Nat.le_of_eq g94.symm)
        have K94 := K93.ext E94
        have sf94_b94 := Safe.ext E94 CH93.1 (Safe.new (Nat.le_of_eq g94.symm) : Safe Z own_EL _ _ b94)
        have sf94_b93 := Safe.ext E94 CH93.1 sf93_b93
        have CH94 := CH93.trans (CHr.ext E94 CH93.1)
        have hk := Nat.le_trans hk E94.1
        have V94 : Arv Z h94 b94 k94 .char (2 : Int32) [(.int (0 : Int32)), (.int (0 : Int32))] (.int (0 : Int32)) := (Arv.new A94 (by decide)).pad (pad_rep [] (.int (0 : Int32)) 2)
        obtain ⟨cl95, Ar95, q95, S95, M95, H95, G95⟩ := id V94
        have hin95 : ¬ ((0 : Int32) < 0 ∨ cl95.slots.size ≤ ((0 : Int32)).toNatClampNeg) := inb_of S95 ⟨by decide, by decide⟩
        obtain ⟨T96, h96, X96, e96, W96, st96⟩ := stC X94 hx hZ e94 Ar95 (j := (0 : Int32)) hin95 (g := (mkF m 60 #[iv p1, iv p2, iv ((p1 &&& (255 : Int32)).toUInt32.toUInt16.toUInt32.toInt32), iv ((((p1.toUInt32 >>> ((8 : Int32) &&& 31).toUInt32).toInt32) &&& (255 : Int32)).toUInt32.toUInt16.toUInt32.toInt32), iv ((((p1.toUInt32 >>> ((16 : Int32) &&& 31).toUInt32).toInt32) &&& (255 : Int32)).toUInt32.toUInt16.toUInt32.toInt32)] [(.int ((p1 &&& (255 : Int32)).toUInt32.toUInt16.toUInt32.toInt32)), (.int (0 : Int32)), (.ref b94), (.ref b94), (.ref b93), (.ref b93)])) rfl rfl (hb hby own_d1_60)
        have V96 : Arv Z h96 b94 k94 .char (2 : Int32) [(.int (nar .char ((p1 &&& (255 : Int32)).toUInt32.toUInt16.toUInt32.toInt32))), (.int (0 : Int32))] (.int (0 : Int32)) := Arv.set Ar95 q95 S95 M95 H95 G95 (fits_nar_char _) W96 0 rfl (Nat.le_of_ble_eq_true rfl)
        have K96 := K94.wr W96 (Or.inr sz_b94)
        have N96 := Fr.snoc X96 N0 gg_b94
        have sf96_b93 := Safe.wr W96 sf94_b94 CH94.1 sf94_b93
        have sf96_b94 := Safe.wr W96 sf94_b94 CH94.1 sf94_b94
        have CH96 := CH94.trans (CHr.wr W96 sf94_b94 CH94.1)
        have hk := Nat.le_trans hk (Keep.of_wr W96).1
        obtain ⟨cl97, Ar97, q97, S97, M97, H97, G97⟩ := id V96
        have hin97 : ¬ ((1 : Int32) < 0 ∨ cl97.slots.size ≤ ((1 : Int32)).toNatClampNeg) := inb_of S97 ⟨by decide, by decide⟩
        obtain ⟨T98, h98, X98, e98, W98, st98⟩ := stC X96 hx hZ e96 Ar97 (j := (1 : Int32)) hin97 (g := (mkF m 64 #[iv p1, iv p2, iv ((p1 &&& (255 : Int32)).toUInt32.toUInt16.toUInt32.toInt32), iv ((((p1.toUInt32 >>> ((8 : Int32) &&& 31).toUInt32).toInt32) &&& (255 : Int32)).toUInt32.toUInt16.toUInt32.toInt32), iv ((((p1.toUInt32 >>> ((16 : Int32) &&& 31).toUInt32).toInt32) &&& (255 : Int32)).toUInt32.toUInt16.toUInt32.toInt32)] [(.int ((((p1.toUInt32 >>> ((8 : Int32) &&& 31).toUInt32).toInt32) &&& (255 : Int32)).toUInt32.toUInt16.toUInt32.toInt32)), (.int (1 : Int32)), (.ref b94), (.ref b94), (.ref b93), (.ref b93)])) rfl rfl (hb hby own_d1_64)
        have V98 : Arv Z h98 b94 k94 .char (2 : Int32) [(.int (nar .char ((p1 &&& (255 : Int32)).toUInt32.toUInt16.toUInt32.toInt32))), (.int (nar .char ((((p1.toUInt32 >>> ((8 : Int32) &&& 31).toUInt32).toInt32) &&& (255 : Int32)).toUInt32.toUInt16.toUInt32.toInt32)))] (.int (0 : Int32)) := Arv.set Ar97 q97 S97 M97 H97 G97 (fits_nar_char _) W98 1 rfl (Nat.le_of_ble_eq_true rfl)
        have K98 := K96.wr W98 (Or.inr sz_b94)
        have N98 := Fr.snoc X98 N96 gg_b94
        have sf98_b93 := Safe.wr W98 sf96_b94 CH96.1 sf96_b93
        have sf98_b94 := Safe.wr W98 sf96_b94 CH96.1 sf96_b94
        have CH98 := CH96.trans (CHr.wr W98 sf96_b94 CH96.1)
        have hk := Nat.le_trans hk (Keep.of_wr W98).1
        have Q99 := (((A93.ext E94).wr W96).wr W98)
        have Q100 := (((F93_value.ext E94).other W96 (Or.inl ne_b93_b94)).other W98 (Or.inl ne_b93_b94))
        have Q101 := (((F93_coder.ext E94).other W96 (Or.inl ne_b93_b94)).other W98 (Or.inl ne_b93_b94))
        have Q102 := ((((S_COMPACT_STRINGS.ext E93).ext E94).wr W96).wr W98)
        obtain ⟨_, _, ⟨T103, L103, k103, n103⟩, -, X103, ⟨Lc103, hQ103, l103, y103, z103⟩, st103⟩ := X98.specialBack hx (y := (⟨"java/lang/String", "<init>", "([C)V"⟩ : MethodName)) rfl hown (mvT hZ (hw _ (List.mem_of_getElem? (i := 51) rfl))) (mvT hZ (hw _ (List.mem_of_getElem? (i := 52) rfl))) (mvT hZ (hw _ (List.mem_of_getElem? (i := 53) rfl))) (by decide) (backOf (W := 1) (rmI1_2 l Z a0 hw [] b93 b94 cw k94 (nar .char ((p1 &&& (255 : Int32)).toUInt32.toUInt16.toUInt32.toInt32)) (nar .char ((((p1.toUInt32 >>> ((8 : Int32) &&& 31).toUInt32).toInt32) &&& (255 : Int32)).toUInt32.toUInt16.toUInt32.toInt32)) h98 n0 (Nat.le_trans Z0 K98.1) Q99 Q100 Q101 gg_b93 Q102 hw0 V98 (own_chle _) (own_chle _)) hZ (hw _ (List.mem_of_getElem? (i := 53) rfl)) (hw _ (List.mem_of_getElem? (i := 5) rfl)) (by decide) (by decide)) (g := (mkF m 65 #[iv p1, iv p2, iv ((p1 &&& (255 : Int32)).toUInt32.toUInt16.toUInt32.toInt32), iv ((((p1.toUInt32 >>> ((8 : Int32) &&& 31).toUInt32).toInt32) &&& (255 : Int32)).toUInt32.toUInt16.toUInt32.toInt32), iv ((((p1.toUInt32 >>> ((16 : Int32) &&& 31).toUInt32).toInt32) &&& (255 : Int32)).toUInt32.toUInt16.toUInt32.toInt32)] [(.ref b94), (.ref b93), (.ref b93)])) rfl (by rw [hml]; rfl) (Steps.refl _) (a := b93) (argsL := [(.ref b94)]) (rest := [(.ref b93)]) (lenOf own_pd8 rfl) rfl (by show 2 * 0 + _ ≤ _; exact Nat.le_of_eq rfl) (hb hby own_d1_65) (fun _ _ => ⟨rfl, e98, (by decide : 2 + 1 ≤ _), (by decide : 6 + 2 ≤ _)⟩)
        dsimp only [Pt.U, Pt.locs, Pt.cells, Pt.slots] at X103 l103 y103 z103 st103 hQ103
        subst l103 y103 z103
        obtain ⟨b_103, kb_103, rfl, N103q, i103_4, i103_5, i103_6, i103_7, i103_8, i103_9⟩ := hQ103
        have N103 := Fr.app N98 N103q
        have ne_b93_b_103 : b93 ≠ b_103 := Nat.ne_of_lt (Nat.lt_of_lt_of_le Q99.lt i103_5)
        have ne_b94_b_103 : b94 ≠ b_103 := Nat.ne_of_lt (Nat.lt_of_lt_of_le V98.lt i103_5)
        have gg_b_103 : n0 ≤ b_103 := Nat.le_trans (Nat.le_trans Z0 K98.1) i103_5
        have sz_b_103 : h0.size ≤ b_103 := Nat.le_trans K98.1 i103_5
        have sf103_b93 := Safe.keep i103_4 (sfS sf98_b93 sf0) CH98.1 sf98_b93
        have sf103_b94 := Safe.keep i103_4 (sfS sf98_b93 sf0) CH98.1 sf98_b94
        have CH103 := CH98.trans (CHr.keep i103_4 (sfS sf98_b93 sf0) CH98.1)
        have hk := Nat.le_trans hk i103_4.1
        have K103 := K98.trans i103_4 (allS (Or.inr sz_b93) all0)
        obtain ⟨fs, hr, hrun, hended, hW, hsame⟩ := X103.leave (v := some (.ref b93)) (fun h => by rw [Bd.returns] at h; cases h)
        refine ⟨_, _, pre92 _ ?_, hrun, hended, _, _, rfl, ?_, (by show CHr Z own_EL s.vm s.heap T103.vm T103.heap; rw [hh]; exact CH103.trans (CHv.at X103 hZ hEL CH103.1)), own_endW hS hk hW (hsame.mono (by decide) (by decide))⟩
        · show Steps p.tables e below (s₁.setTop (mkF m 47 #[iv p1, iv p2, iv ((p1 &&& (255 : Int32)).toUInt32.toUInt16.toUInt32.toInt32), iv ((((p1.toUInt32 >>> ((8 : Int32) &&& 31).toUInt32).toInt32) &&& (255 : Int32)).toUInt32.toUInt16.toUInt32.toInt32), iv ((((p1.toUInt32 >>> ((16 : Int32) &&& 31).toUInt32).toInt32) &&& (255 : Int32)).toUInt32.toUInt16.toUInt32.toInt32)] [(.int (2 : Int32)), (.int p2)])) _
          refine XS.icmpNo X0.here hx rfl (hb hby own_d1_47) rfl (teq hc47).2 ?_
          show Steps p.tables e below (s₁.setTop (mkF m 50 #[iv p1, iv p2, iv ((p1 &&& (255 : Int32)).toUInt32.toUInt16.toUInt32.toInt32), iv ((((p1.toUInt32 >>> ((8 : Int32) &&& 31).toUInt32).toInt32) &&& (255 : Int32)).toUInt32.toUInt16.toUInt32.toInt32), iv ((((p1.toUInt32 >>> ((16 : Int32) &&& 31).toUInt32).toInt32) &&& (255 : Int32)).toUInt32.toUInt16.toUInt32.toInt32)] [])) _
          refine st93 _ ?_
          show Steps p.tables e below (T93.setTop (mkF m 53 #[iv p1, iv p2, iv ((p1 &&& (255 : Int32)).toUInt32.toUInt16.toUInt32.toInt32), iv ((((p1.toUInt32 >>> ((8 : Int32) &&& 31).toUInt32).toInt32) &&& (255 : Int32)).toUInt32.toUInt16.toUInt32.toInt32), iv ((((p1.toUInt32 >>> ((16 : Int32) &&& 31).toUInt32).toInt32) &&& (255 : Int32)).toUInt32.toUInt16.toUInt32.toInt32)] [(.ref b93)])) _
          refine XS.dup X93.here hx rfl (hb hby own_d1_53) rfl rfl ?_
          show Steps p.tables e below (T93.setTop (mkF m 54 #[iv p1, iv p2, iv ((p1 &&& (255 : Int32)).toUInt32.toUInt16.toUInt32.toInt32), iv ((((p1.toUInt32 >>> ((8 : Int32) &&& 31).toUInt32).toInt32) &&& (255 : Int32)).toUInt32.toUInt16.toUInt32.toInt32), iv ((((p1.toUInt32 >>> ((16 : Int32) &&& 31).toUInt32).toInt32) &&& (255 : Int32)).toUInt32.toUInt16.toUInt32.toInt32)] [(.ref b93), (.ref b93)])) _
          refine XS.iconst X93.here hx rfl (hb hby own_d1_54) ?_
          show Steps p.tables e below (T93.setTop (mkF m 55 #[iv p1, iv p2, iv ((p1 &&& (255 : Int32)).toUInt32.toUInt16.toUInt32.toInt32), iv ((((p1.toUInt32 >>> ((8 : Int32) &&& 31).toUInt32).toInt32) &&& (255 : Int32)).toUInt32.toUInt16.toUInt32.toInt32), iv ((((p1.toUInt32 >>> ((16 : Int32) &&& 31).toUInt32).toInt32) &&& (255 : Int32)).toUInt32.toUInt16.toUInt32.toInt32)] [(.int (2 : Int32)), (.ref b93), (.ref b93)])) _
          refine st94 _ ?_
          show Steps p.tables e below (T94.setTop (mkF m 57 #[iv p1, iv p2, iv ((p1 &&& (255 : Int32)).toUInt32.toUInt16.toUInt32.toInt32), iv ((((p1.toUInt32 >>> ((8 : Int32) &&& 31).toUInt32).toInt32) &&& (255 : Int32)).toUInt32.toUInt16.toUInt32.toInt32), iv ((((p1.toUInt32 >>> ((16 : Int32) &&& 31).toUInt32).toInt32) &&& (255 : Int32)).toUInt32.toUInt16.toUInt32.toInt32)] [(.ref b94), (.ref b93), (.ref b93)])) _
          refine XS.dup X94.here hx rfl (hb hby own_d1_57) rfl rfl ?_
          show Steps p.tables e below (T94.setTop (mkF m 58 #[iv p1, iv p2, iv ((p1 &&& (255 : Int32)).toUInt32.toUInt16.toUInt32.toInt32), iv ((((p1.toUInt32 >>> ((8 : Int32) &&& 31).toUInt32).toInt32) &&& (255 : Int32)).toUInt32.toUInt16.toUInt32.toInt32), iv ((((p1.toUInt32 >>> ((16 : Int32) &&& 31).toUInt32).toInt32) &&& (255 : Int32)).toUInt32.toUInt16.toUInt32.toInt32)] [(.ref b94), (.ref b94), (.ref b93), (.ref b93)])) _
          refine XS.iconst X94.here hx rfl (hb hby own_d1_58) ?_
          show Steps p.tables e below (T94.setTop (mkF m 59 #[iv p1, iv p2, iv ((p1 &&& (255 : Int32)).toUInt32.toUInt16.toUInt32.toInt32), iv ((((p1.toUInt32 >>> ((8 : Int32) &&& 31).toUInt32).toInt32) &&& (255 : Int32)).toUInt32.toUInt16.toUInt32.toInt32), iv ((((p1.toUInt32 >>> ((16 : Int32) &&& 31).toUInt32).toInt32) &&& (255 : Int32)).toUInt32.toUInt16.toUInt32.toInt32)] [(.int (0 : Int32)), (.ref b94), (.ref b94), (.ref b93), (.ref b93)])) _
          refine XS.iloadN X94.here hx rfl (hb hby own_d1_59) rfl ?_
          show Steps p.tables e below (T94.setTop (mkF m 60 #[iv p1, iv p2, iv ((p1 &&& (255 : Int32)).toUInt32.toUInt16.toUInt32.toInt32), iv ((((p1.toUInt32 >>> ((8 : Int32) &&& 31).toUInt32).toInt32) &&& (255 : Int32)).toUInt32.toUInt16.toUInt32.toInt32), iv ((((p1.toUInt32 >>> ((16 : Int32) &&& 31).toUInt32).toInt32) &&& (255 : Int32)).toUInt32.toUInt16.toUInt32.toInt32)] [(.int ((p1 &&& (255 : Int32)).toUInt32.toUInt16.toUInt32.toInt32)), (.int (0 : Int32)), (.ref b94), (.ref b94), (.ref b93), (.ref b93)])) _
          refine st96 _ ?_
          show Steps p.tables e below (T96.setTop (mkF m 61 #[iv p1, iv p2, iv ((p1 &&& (255 : Int32)).toUInt32.toUInt16.toUInt32.toInt32), iv ((((p1.toUInt32 >>> ((8 : Int32) &&& 31).toUInt32).toInt32) &&& (255 : Int32)).toUInt32.toUInt16.toUInt32.toInt32), iv ((((p1.toUInt32 >>> ((16 : Int32) &&& 31).toUInt32).toInt32) &&& (255 : Int32)).toUInt32.toUInt16.toUInt32.toInt32)] [(.ref b94), (.ref b93), (.ref b93)])) _
          refine XS.dup X96.here hx rfl (hb hby own_d1_61) rfl rfl ?_
          show Steps p.tables e below (T96.setTop (mkF m 62 #[iv p1, iv p2, iv ((p1 &&& (255 : Int32)).toUInt32.toUInt16.toUInt32.toInt32), iv ((((p1.toUInt32 >>> ((8 : Int32) &&& 31).toUInt32).toInt32) &&& (255 : Int32)).toUInt32.toUInt16.toUInt32.toInt32), iv ((((p1.toUInt32 >>> ((16 : Int32) &&& 31).toUInt32).toInt32) &&& (255 : Int32)).toUInt32.toUInt16.toUInt32.toInt32)] [(.ref b94), (.ref b94), (.ref b93), (.ref b93)])) _
          refine XS.iconst X96.here hx rfl (hb hby own_d1_62) ?_
          show Steps p.tables e below (T96.setTop (mkF m 63 #[iv p1, iv p2, iv ((p1 &&& (255 : Int32)).toUInt32.toUInt16.toUInt32.toInt32), iv ((((p1.toUInt32 >>> ((8 : Int32) &&& 31).toUInt32).toInt32) &&& (255 : Int32)).toUInt32.toUInt16.toUInt32.toInt32), iv ((((p1.toUInt32 >>> ((16 : Int32) &&& 31).toUInt32).toInt32) &&& (255 : Int32)).toUInt32.toUInt16.toUInt32.toInt32)] [(.int (1 : Int32)), (.ref b94), (.ref b94), (.ref b93), (.ref b93)])) _
          refine XS.iloadN X96.here hx rfl (hb hby own_d1_63) rfl ?_
          show Steps p.tables e below (T96.setTop (mkF m 64 #[iv p1, iv p2, iv ((p1 &&& (255 : Int32)).toUInt32.toUInt16.toUInt32.toInt32), iv ((((p1.toUInt32 >>> ((8 : Int32) &&& 31).toUInt32).toInt32) &&& (255 : Int32)).toUInt32.toUInt16.toUInt32.toInt32), iv ((((p1.toUInt32 >>> ((16 : Int32) &&& 31).toUInt32).toInt32) &&& (255 : Int32)).toUInt32.toUInt16.toUInt32.toInt32)] [(.int ((((p1.toUInt32 >>> ((8 : Int32) &&& 31).toUInt32).toInt32) &&& (255 : Int32)).toUInt32.toUInt16.toUInt32.toInt32)), (.int (1 : Int32)), (.ref b94), (.ref b94), (.ref b93), (.ref b93)])) _
          refine st98 _ ?_
          show Steps p.tables e below (T98.setTop (mkF m 65 #[iv p1, iv p2, iv ((p1 &&& (255 : Int32)).toUInt32.toUInt16.toUInt32.toInt32), iv ((((p1.toUInt32 >>> ((8 : Int32) &&& 31).toUInt32).toInt32) &&& (255 : Int32)).toUInt32.toUInt16.toUInt32.toInt32), iv ((((p1.toUInt32 >>> ((16 : Int32) &&& 31).toUInt32).toInt32) &&& (255 : Int32)).toUInt32.toUInt16.toUInt32.toInt32)] [(.ref b94), (.ref b93), (.ref b93)])) _
          refine st103.trans ?_
          show Steps p.tables e below (T103.setTop (mkF m 68 #[iv p1, iv p2, iv ((p1 &&& (255 : Int32)).toUInt32.toUInt16.toUInt32.toInt32), iv ((((p1.toUInt32 >>> ((8 : Int32) &&& 31).toUInt32).toInt32) &&& (255 : Int32)).toUInt32.toUInt16.toUInt32.toInt32), iv ((((p1.toUInt32 >>> ((16 : Int32) &&& 31).toUInt32).toInt32) &&& (255 : Int32)).toUInt32.toUInt16.toUInt32.toInt32)] [(.ref b93)])) _
          jvm_step X103.here [X103.here.top, hx, (hb hby own_d1_68), X103.method', Bd.returns, Value.isRef, FieldType.isReference]
          first | (intro acts; rw [hr _ acts rfl rfl rfl]) | rw [hr _ _ rfl rfl rfl]
          exact Steps.refl _
        · show QM Z p1 p2 cw h0 n0 _ T103.heap _
          exact ⟨b93, rfl, N103, K103, (by rw [own_mk2 hc29 hc37 hc47]; exact ⟨i103_6, i103_7, b_103, kb_103, i103_8, i103_9⟩)⟩
      · obtain ⟨T104, h104, X104, e104, E104, A104, D104, -, st104⟩ := newO X0 hx hZ hown (hw _ (List.mem_of_getElem? (i := 12) rfl)) (hw _ (List.mem_of_getElem? (i := 6) rfl)) (hw _ (List.mem_of_getElem? (i := 5) rfl)) e0 (g := (mkF m 69 #[iv p1, iv p2, iv ((p1 &&& (255 : Int32)).toUInt32.toUInt16.toUInt32.toInt32), iv ((((p1.toUInt32 >>> ((8 : Int32) &&& 31).toUInt32).toInt32) &&& (255 : Int32)).toUInt32.toUInt16.toUInt32.toInt32), iv ((((p1.toUInt32 >>> ((16 : Int32) &&& 31).toUInt32).toInt32) &&& (255 : Int32)).toUInt32.toUInt16.toUInt32.toInt32)] [])) rfl (hb hby own_d1_69) (by decide) (by decide)
        obtain ⟨b104, g104⟩ : ∃ z, z = h0.size := ⟨_, rfl⟩
        rw [← g104] at A104 D104 st104
        have gg_b104 : n0 ≤ b104 := Nat.le_trans (Nat.le_trans Z0 K0.1) (Nat.le_of_eq g104.symm)
        have sz_b104 : h0.size ≤ b104 := Nat.le_trans K0.1 (Nat.le_of_eq g104.symm)
        have K104 := K0.ext E104
        have sf104_b104 := Safe.ext E104 CH0.1 (Safe.new (Nat.le_of_eq g104.symm) : Safe Z own_EL _ _ b104)
        have CH104 := CH0.trans (CHr.ext E104 CH0.1)
        have hk := Nat.le_trans hk E104.1
        have F104_value : Fld Z h104 b104 "java/lang/String" "value" "[B" .null := D104 (Or.inr (hw _ (List.mem_of_getElem? (i := 8) rfl))) (ty := (.array .byte)) (by decide)
        have F104_coder : Fld Z h104 b104 "java/lang/String" "coder" "B" (.int (0 : Int32)) := D104 (Or.inr (hw _ (List.mem_of_getElem? (i := 9) rfl))) (ty := .byte) (by decide)
        obtain ⟨T105, h105, k105, X105, e105, E105, A105, st105⟩ := newP X104 hx hZ (hw _ (List.mem_of_getElem? (i := 50) rfl)) e104 (g := (mkF m 74 #[iv p1, iv p2, iv ((p1 &&& (255 : Int32)).toUInt32.toUInt16.toUInt32.toInt32), iv ((((p1.toUInt32 >>> ((8 : Int32) &&& 31).toUInt32).toInt32) &&& (255 : Int32)).toUInt32.toUInt16.toUInt32.toInt32), iv ((((p1.toUInt32 >>> ((16 : Int32) &&& 31).toUInt32).toInt32) &&& (255 : Int32)).toUInt32.toUInt16.toUInt32.toInt32)] [(.int (3 : Int32)), (.ref b104), (.ref b104)])) rfl (hb hby own_d1_74) rfl (by decide) (cap := 3) (by decide) (by decide) (by decide) (by decide)
        obtain ⟨b105, g105⟩ : ∃ z, z = h104.size := ⟨_, rfl⟩
        rw [← g105] at A105 st105
        have ne_b104_b105 : b104 ≠ b105 := Nat.ne_of_lt (Nat.lt_of_lt_of_le A104.lt (Nat.le_of_eq g105.symm))
        have gg_b105 : n0 ≤ b105 := Nat.le_trans (Nat.le_trans Z0 K104.1) (Nat.le_of_eq g105.symm)
        have sz_b105 : h0.size ≤ b105 := Nat.le_trans K104.1 (Nat.le_of_eq g105.symm)
        have K105 := K104.ext E105
        have sf105_b105 := Safe.ext E105 CH104.1 (Safe.new (Nat.le_of_eq g105.symm) : Safe Z own_EL _ _ b105)
        have sf105_b104 := Safe.ext E105 CH104.1 sf104_b104
        have CH105 := CH104.trans (CHr.ext E105 CH104.1)
        have hk := Nat.le_trans hk E105.1
        have V105 : Arv Z h105 b105 k105 .char (3 : Int32) [(.int (0 : Int32)), (.int (0 : Int32)), (.int (0 : Int32))] (.int (0 : Int32)) := (Arv.new A105 (by decide)).pad (pad_rep [] (.int (0 : Int32)) 3)
        obtain ⟨cl106, Ar106, q106, S106, M106, H106, G106⟩ := id V105
        have hin106 : ¬ ((0 : Int32) < 0 ∨ cl106.slots.size ≤ ((0 : Int32)).toNatClampNeg) := inb_of S106 ⟨by decide, by decide⟩
        obtain ⟨T107, h107, X107, e107, W107, st107⟩ := stC X105 hx hZ e105 Ar106 (j := (0 : Int32)) hin106 (g := (mkF m 79 #[iv p1, iv p2, iv ((p1 &&& (255 : Int32)).toUInt32.toUInt16.toUInt32.toInt32), iv ((((p1.toUInt32 >>> ((8 : Int32) &&& 31).toUInt32).toInt32) &&& (255 : Int32)).toUInt32.toUInt16.toUInt32.toInt32), iv ((((p1.toUInt32 >>> ((16 : Int32) &&& 31).toUInt32).toInt32) &&& (255 : Int32)).toUInt32.toUInt16.toUInt32.toInt32)] [(.int ((p1 &&& (255 : Int32)).toUInt32.toUInt16.toUInt32.toInt32)), (.int (0 : Int32)), (.ref b105), (.ref b105), (.ref b104), (.ref b104)])) rfl rfl (hb hby own_d1_79)
        have V107 : Arv Z h107 b105 k105 .char (3 : Int32) [(.int (nar .char ((p1 &&& (255 : Int32)).toUInt32.toUInt16.toUInt32.toInt32))), (.int (0 : Int32)), (.int (0 : Int32))] (.int (0 : Int32)) := Arv.set Ar106 q106 S106 M106 H106 G106 (fits_nar_char _) W107 0 rfl (Nat.le_of_ble_eq_true rfl)
        have K107 := K105.wr W107 (Or.inr sz_b105)
        have N107 := Fr.snoc X107 N0 gg_b105
        have sf107_b104 := Safe.wr W107 sf105_b105 CH105.1 sf105_b104
        have sf107_b105 := Safe.wr W107 sf105_b105 CH105.1 sf105_b105
        have CH107 := CH105.trans (CHr.wr W107 sf105_b105 CH105.1)
        have hk := Nat.le_trans hk (Keep.of_wr W107).1
        obtain ⟨cl108, Ar108, q108, S108, M108, H108, G108⟩ := id V107
        have hin108 : ¬ ((1 : Int32) < 0 ∨ cl108.slots.size ≤ ((1 : Int32)).toNatClampNeg) := inb_of S108 ⟨by decide, by decide⟩
        obtain ⟨T109, h109, X109, e109, W109, st109⟩ := stC X107 hx hZ e107 Ar108 (j := (1 : Int32)) hin108 (g := (mkF m 83 #[iv p1, iv p2, iv ((p1 &&& (255 : Int32)).toUInt32.toUInt16.toUInt32.toInt32), iv ((((p1.toUInt32 >>> ((8 : Int32) &&& 31).toUInt32).toInt32) &&& (255 : Int32)).toUInt32.toUInt16.toUInt32.toInt32), iv ((((p1.toUInt32 >>> ((16 : Int32) &&& 31).toUInt32).toInt32) &&& (255 : Int32)).toUInt32.toUInt16.toUInt32.toInt32)] [(.int ((((p1.toUInt32 >>> ((8 : Int32) &&& 31).toUInt32).toInt32) &&& (255 : Int32)).toUInt32.toUInt16.toUInt32.toInt32)), (.int (1 : Int32)), (.ref b105), (.ref b105), (.ref b104), (.ref b104)])) rfl rfl (hb hby own_d1_83)
        have V109 : Arv Z h109 b105 k105 .char (3 : Int32) [(.int (nar .char ((p1 &&& (255 : Int32)).toUInt32.toUInt16.toUInt32.toInt32))), (.int (nar .char ((((p1.toUInt32 >>> ((8 : Int32) &&& 31).toUInt32).toInt32) &&& (255 : Int32)).toUInt32.toUInt16.toUInt32.toInt32))), (.int (0 : Int32))] (.int (0 : Int32)) := Arv.set Ar108 q108 S108 M108 H108 G108 (fits_nar_char _) W109 1 rfl (Nat.le_of_ble_eq_true rfl)
        have K109 := K107.wr W109 (Or.inr sz_b105)
        have N109 := Fr.snoc X109 N107 gg_b105
        have sf109_b104 := Safe.wr W109 sf107_b105 CH107.1 sf107_b104
        have sf109_b105 := Safe.wr W109 sf107_b105 CH107.1 sf107_b105
        have CH109 := CH107.trans (CHr.wr W109 sf107_b105 CH107.1)
        have hk := Nat.le_trans hk (Keep.of_wr W109).1
        obtain ⟨cl110, Ar110, q110, S110, M110, H110, G110⟩ := id V109
        have hin110 : ¬ ((2 : Int32) < 0 ∨ cl110.slots.size ≤ ((2 : Int32)).toNatClampNeg) := inb_of S110 ⟨by decide, by decide⟩
        obtain ⟨T111, h111, X111, e111, W111, st111⟩ := stC X109 hx hZ e109 Ar110 (j := (2 : Int32)) hin110 (g := (mkF m 88 #[iv p1, iv p2, iv ((p1 &&& (255 : Int32)).toUInt32.toUInt16.toUInt32.toInt32), iv ((((p1.toUInt32 >>> ((8 : Int32) &&& 31).toUInt32).toInt32) &&& (255 : Int32)).toUInt32.toUInt16.toUInt32.toInt32), iv ((((p1.toUInt32 >>> ((16 : Int32) &&& 31).toUInt32).toInt32) &&& (255 : Int32)).toUInt32.toUInt16.toUInt32.toInt32)] [(.int ((((p1.toUInt32 >>> ((16 : Int32) &&& 31).toUInt32).toInt32) &&& (255 : Int32)).toUInt32.toUInt16.toUInt32.toInt32)), (.int (2 : Int32)), (.ref b105), (.ref b105), (.ref b104), (.ref b104)])) rfl rfl (hb hby own_d1_88)
        have V111 : Arv Z h111 b105 k105 .char (3 : Int32) [(.int (nar .char ((p1 &&& (255 : Int32)).toUInt32.toUInt16.toUInt32.toInt32))), (.int (nar .char ((((p1.toUInt32 >>> ((8 : Int32) &&& 31).toUInt32).toInt32) &&& (255 : Int32)).toUInt32.toUInt16.toUInt32.toInt32))), (.int (nar .char ((((p1.toUInt32 >>> ((16 : Int32) &&& 31).toUInt32).toInt32) &&& (255 : Int32)).toUInt32.toUInt16.toUInt32.toInt32)))] (.int (0 : Int32)) := Arv.set Ar110 q110 S110 M110 H110 G110 (fits_nar_char _) W111 2 rfl (Nat.le_of_ble_eq_true rfl)
        have K111 := K109.wr W111 (Or.inr sz_b105)
        have N111 := Fr.snoc X111 N109 gg_b105
        have sf111_b104 := Safe.wr W111 sf109_b105 CH109.1 sf109_b104
        have sf111_b105 := Safe.wr W111 sf109_b105 CH109.1 sf109_b105
        have CH111 := CH109.trans (CHr.wr W111 sf109_b105 CH109.1)
        have hk := Nat.le_trans hk (Keep.of_wr W111).1
        have Q112 := ((((A104.ext E105).wr W107).wr W109).wr W111)
        have Q113 := ((((F104_value.ext E105).other W107 (Or.inl ne_b104_b105)).other W109 (Or.inl ne_b104_b105)).other W111 (Or.inl ne_b104_b105))
        have Q114 := ((((F104_coder.ext E105).other W107 (Or.inl ne_b104_b105)).other W109 (Or.inl ne_b104_b105)).other W111 (Or.inl ne_b104_b105))
        have Q115 := (((((S_COMPACT_STRINGS.ext E104).ext E105).wr W107).wr W109).wr W111)
        obtain ⟨_, _, ⟨T116, L116, k116, n116⟩, -, X116, ⟨Lc116, hQ116, l116, y116, z116⟩, st116⟩ := X111.specialBack hx (y := (⟨"java/lang/String", "<init>", "([C)V"⟩ : MethodName)) rfl hown (mvT hZ (hw _ (List.mem_of_getElem? (i := 51) rfl))) (mvT hZ (hw _ (List.mem_of_getElem? (i := 52) rfl))) (mvT hZ (hw _ (List.mem_of_getElem? (i := 53) rfl))) (by decide) (backOf (W := 1) (rmI1_3 l Z a0 hw [] b104 b105 cw k105 (nar .char ((p1 &&& (255 : Int32)).toUInt32.toUInt16.toUInt32.toInt32)) (nar .char ((((p1.toUInt32 >>> ((8 : Int32) &&& 31).toUInt32).toInt32) &&& (255 : Int32)).toUInt32.toUInt16.toUInt32.toInt32)) (nar .char ((((p1.toUInt32 >>> ((16 : Int32) &&& 31).toUInt32).toInt32) &&& (255 : Int32)).toUInt32.toUInt16.toUInt32.toInt32)) h111 n0 (Nat.le_trans Z0 K111.1) Q112 Q113 Q114 gg_b104 Q115 hw0 V111 (own_chle _) (own_chle _) (own_chle _)) hZ (hw _ (List.mem_of_getElem? (i := 53) rfl)) (hw _ (List.mem_of_getElem? (i := 5) rfl)) (by decide) (by decide)) (g := (mkF m 89 #[iv p1, iv p2, iv ((p1 &&& (255 : Int32)).toUInt32.toUInt16.toUInt32.toInt32), iv ((((p1.toUInt32 >>> ((8 : Int32) &&& 31).toUInt32).toInt32) &&& (255 : Int32)).toUInt32.toUInt16.toUInt32.toInt32), iv ((((p1.toUInt32 >>> ((16 : Int32) &&& 31).toUInt32).toInt32) &&& (255 : Int32)).toUInt32.toUInt16.toUInt32.toInt32)] [(.ref b105), (.ref b104), (.ref b104)])) rfl (by rw [hml]; rfl) (Steps.refl _) (a := b104) (argsL := [(.ref b105)]) (rest := [(.ref b104)]) (lenOf own_pd8 rfl) rfl (by show 2 * 0 + _ ≤ _; exact Nat.le_of_eq rfl) (hb hby own_d1_89) (fun _ _ => ⟨rfl, e111, (by decide : 2 + 1 ≤ _), (by decide : 7 + 3 ≤ _)⟩)
        dsimp only [Pt.U, Pt.locs, Pt.cells, Pt.slots] at X116 l116 y116 z116 st116 hQ116
        subst l116 y116 z116
        obtain ⟨b_116, kb_116, rfl, N116q, i116_4, i116_5, i116_6, i116_7, i116_8, i116_9⟩ := hQ116
        have N116 := Fr.app N111 N116q
        have ne_b104_b_116 : b104 ≠ b_116 := Nat.ne_of_lt (Nat.lt_of_lt_of_le Q112.lt i116_5)
        have ne_b105_b_116 : b105 ≠ b_116 := Nat.ne_of_lt (Nat.lt_of_lt_of_le V111.lt i116_5)
        have gg_b_116 : n0 ≤ b_116 := Nat.le_trans (Nat.le_trans Z0 K111.1) i116_5
        have sz_b_116 : h0.size ≤ b_116 := Nat.le_trans K111.1 i116_5
        have sf116_b104 := Safe.keep i116_4 (sfS sf111_b104 sf0) CH111.1 sf111_b104
        have sf116_b105 := Safe.keep i116_4 (sfS sf111_b104 sf0) CH111.1 sf111_b105
        have CH116 := CH111.trans (CHr.keep i116_4 (sfS sf111_b104 sf0) CH111.1)
        have hk := Nat.le_trans hk i116_4.1
        have K116 := K111.trans i116_4 (allS (Or.inr sz_b104) all0)
        obtain ⟨fs, hr, hrun, hended, hW, hsame⟩ := X116.leave (v := some (.ref b104)) (fun h => by rw [Bd.returns] at h; cases h)
        refine ⟨_, _, pre92 _ ?_, hrun, hended, _, _, rfl, ?_, (by show CHr Z own_EL s.vm s.heap T116.vm T116.heap; rw [hh]; exact CH116.trans (CHv.at X116 hZ hEL CH116.1)), own_endW hS hk hW (hsame.mono (by decide) (by decide))⟩
        · show Steps p.tables e below (s₁.setTop (mkF m 47 #[iv p1, iv p2, iv ((p1 &&& (255 : Int32)).toUInt32.toUInt16.toUInt32.toInt32), iv ((((p1.toUInt32 >>> ((8 : Int32) &&& 31).toUInt32).toInt32) &&& (255 : Int32)).toUInt32.toUInt16.toUInt32.toInt32), iv ((((p1.toUInt32 >>> ((16 : Int32) &&& 31).toUInt32).toInt32) &&& (255 : Int32)).toUInt32.toUInt16.toUInt32.toInt32)] [(.int (2 : Int32)), (.int p2)])) _
          refine XS.icmpYes X0.here hx rfl (pc0 := 47) (pc' := 69) rfl (hb hby own_d1_47) rfl (feq hc47).2 (by decide) (by decide) ?_
          show Steps p.tables e below (s₁.setTop (mkF m 69 #[iv p1, iv p2, iv ((p1 &&& (255 : Int32)).toUInt32.toUInt16.toUInt32.toInt32), iv ((((p1.toUInt32 >>> ((8 : Int32) &&& 31).toUInt32).toInt32) &&& (255 : Int32)).toUInt32.toUInt16.toUInt32.toInt32), iv ((((p1.toUInt32 >>> ((16 : Int32) &&& 31).toUInt32).toInt32) &&& (255 : Int32)).toUInt32.toUInt16.toUInt32.toInt32)] [])) _
          refine st104 _ ?_
          show Steps p.tables e below (T104.setTop (mkF m 72 #[iv p1, iv p2, iv ((p1 &&& (255 : Int32)).toUInt32.toUInt16.toUInt32.toInt32), iv ((((p1.toUInt32 >>> ((8 : Int32) &&& 31).toUInt32).toInt32) &&& (255 : Int32)).toUInt32.toUInt16.toUInt32.toInt32), iv ((((p1.toUInt32 >>> ((16 : Int32) &&& 31).toUInt32).toInt32) &&& (255 : Int32)).toUInt32.toUInt16.toUInt32.toInt32)] [(.ref b104)])) _
          refine XS.dup X104.here hx rfl (hb hby own_d1_72) rfl rfl ?_
          show Steps p.tables e below (T104.setTop (mkF m 73 #[iv p1, iv p2, iv ((p1 &&& (255 : Int32)).toUInt32.toUInt16.toUInt32.toInt32), iv ((((p1.toUInt32 >>> ((8 : Int32) &&& 31).toUInt32).toInt32) &&& (255 : Int32)).toUInt32.toUInt16.toUInt32.toInt32), iv ((((p1.toUInt32 >>> ((16 : Int32) &&& 31).toUInt32).toInt32) &&& (255 : Int32)).toUInt32.toUInt16.toUInt32.toInt32)] [(.ref b104), (.ref b104)])) _
          refine XS.iconst X104.here hx rfl (hb hby own_d1_73) ?_
          show Steps p.tables e below (T104.setTop (mkF m 74 #[iv p1, iv p2, iv ((p1 &&& (255 : Int32)).toUInt32.toUInt16.toUInt32.toInt32), iv ((((p1.toUInt32 >>> ((8 : Int32) &&& 31).toUInt32).toInt32) &&& (255 : Int32)).toUInt32.toUInt16.toUInt32.toInt32), iv ((((p1.toUInt32 >>> ((16 : Int32) &&& 31).toUInt32).toInt32) &&& (255 : Int32)).toUInt32.toUInt16.toUInt32.toInt32)] [(.int (3 : Int32)), (.ref b104), (.ref b104)])) _
          refine st105 _ ?_
          show Steps p.tables e below (T105.setTop (mkF m 76 #[iv p1, iv p2, iv ((p1 &&& (255 : Int32)).toUInt32.toUInt16.toUInt32.toInt32), iv ((((p1.toUInt32 >>> ((8 : Int32) &&& 31).toUInt32).toInt32) &&& (255 : Int32)).toUInt32.toUInt16.toUInt32.toInt32), iv ((((p1.toUInt32 >>> ((16 : Int32) &&& 31).toUInt32).toInt32) &&& (255 : Int32)).toUInt32.toUInt16.toUInt32.toInt32)] [(.ref b105), (.ref b104), (.ref b104)])) _
          refine XS.dup X105.here hx rfl (hb hby own_d1_76) rfl rfl ?_
          show Steps p.tables e below (T105.setTop (mkF m 77 #[iv p1, iv p2, iv ((p1 &&& (255 : Int32)).toUInt32.toUInt16.toUInt32.toInt32), iv ((((p1.toUInt32 >>> ((8 : Int32) &&& 31).toUInt32).toInt32) &&& (255 : Int32)).toUInt32.toUInt16.toUInt32.toInt32), iv ((((p1.toUInt32 >>> ((16 : Int32) &&& 31).toUInt32).toInt32) &&& (255 : Int32)).toUInt32.toUInt16.toUInt32.toInt32)] [(.ref b105), (.ref b105), (.ref b104), (.ref b104)])) _
          refine XS.iconst X105.here hx rfl (hb hby own_d1_77) ?_
          show Steps p.tables e below (T105.setTop (mkF m 78 #[iv p1, iv p2, iv ((p1 &&& (255 : Int32)).toUInt32.toUInt16.toUInt32.toInt32), iv ((((p1.toUInt32 >>> ((8 : Int32) &&& 31).toUInt32).toInt32) &&& (255 : Int32)).toUInt32.toUInt16.toUInt32.toInt32), iv ((((p1.toUInt32 >>> ((16 : Int32) &&& 31).toUInt32).toInt32) &&& (255 : Int32)).toUInt32.toUInt16.toUInt32.toInt32)] [(.int (0 : Int32)), (.ref b105), (.ref b105), (.ref b104), (.ref b104)])) _
          refine XS.iloadN X105.here hx rfl (hb hby own_d1_78) rfl ?_
          show Steps p.tables e below (T105.setTop (mkF m 79 #[iv p1, iv p2, iv ((p1 &&& (255 : Int32)).toUInt32.toUInt16.toUInt32.toInt32), iv ((((p1.toUInt32 >>> ((8 : Int32) &&& 31).toUInt32).toInt32) &&& (255 : Int32)).toUInt32.toUInt16.toUInt32.toInt32), iv ((((p1.toUInt32 >>> ((16 : Int32) &&& 31).toUInt32).toInt32) &&& (255 : Int32)).toUInt32.toUInt16.toUInt32.toInt32)] [(.int ((p1 &&& (255 : Int32)).toUInt32.toUInt16.toUInt32.toInt32)), (.int (0 : Int32)), (.ref b105), (.ref b105), (.ref b104), (.ref b104)])) _
          refine st107 _ ?_
          show Steps p.tables e below (T107.setTop (mkF m 80 #[iv p1, iv p2, iv ((p1 &&& (255 : Int32)).toUInt32.toUInt16.toUInt32.toInt32), iv ((((p1.toUInt32 >>> ((8 : Int32) &&& 31).toUInt32).toInt32) &&& (255 : Int32)).toUInt32.toUInt16.toUInt32.toInt32), iv ((((p1.toUInt32 >>> ((16 : Int32) &&& 31).toUInt32).toInt32) &&& (255 : Int32)).toUInt32.toUInt16.toUInt32.toInt32)] [(.ref b105), (.ref b104), (.ref b104)])) _
          refine XS.dup X107.here hx rfl (hb hby own_d1_80) rfl rfl ?_
          show Steps p.tables e below (T107.setTop (mkF m 81 #[iv p1, iv p2, iv ((p1 &&& (255 : Int32)).toUInt32.toUInt16.toUInt32.toInt32), iv ((((p1.toUInt32 >>> ((8 : Int32) &&& 31).toUInt32).toInt32) &&& (255 : Int32)).toUInt32.toUInt16.toUInt32.toInt32), iv ((((p1.toUInt32 >>> ((16 : Int32) &&& 31).toUInt32).toInt32) &&& (255 : Int32)).toUInt32.toUInt16.toUInt32.toInt32)] [(.ref b105), (.ref b105), (.ref b104), (.ref b104)])) _
          refine XS.iconst X107.here hx rfl (hb hby own_d1_81) ?_
          show Steps p.tables e below (T107.setTop (mkF m 82 #[iv p1, iv p2, iv ((p1 &&& (255 : Int32)).toUInt32.toUInt16.toUInt32.toInt32), iv ((((p1.toUInt32 >>> ((8 : Int32) &&& 31).toUInt32).toInt32) &&& (255 : Int32)).toUInt32.toUInt16.toUInt32.toInt32), iv ((((p1.toUInt32 >>> ((16 : Int32) &&& 31).toUInt32).toInt32) &&& (255 : Int32)).toUInt32.toUInt16.toUInt32.toInt32)] [(.int (1 : Int32)), (.ref b105), (.ref b105), (.ref b104), (.ref b104)])) _
          refine XS.iloadN X107.here hx rfl (hb hby own_d1_82) rfl ?_
          show Steps p.tables e below (T107.setTop (mkF m 83 #[iv p1, iv p2, iv ((p1 &&& (255 : Int32)).toUInt32.toUInt16.toUInt32.toInt32), iv ((((p1.toUInt32 >>> ((8 : Int32) &&& 31).toUInt32).toInt32) &&& (255 : Int32)).toUInt32.toUInt16.toUInt32.toInt32), iv ((((p1.toUInt32 >>> ((16 : Int32) &&& 31).toUInt32).toInt32) &&& (255 : Int32)).toUInt32.toUInt16.toUInt32.toInt32)] [(.int ((((p1.toUInt32 >>> ((8 : Int32) &&& 31).toUInt32).toInt32) &&& (255 : Int32)).toUInt32.toUInt16.toUInt32.toInt32)), (.int (1 : Int32)), (.ref b105), (.ref b105), (.ref b104), (.ref b104)])) _
          refine st109 _ ?_
          show Steps p.tables e below (T109.setTop (mkF m 84 #[iv p1, iv p2, iv ((p1 &&& (255 : Int32)).toUInt32.toUInt16.toUInt32.toInt32), iv ((((p1.toUInt32 >>> ((8 : Int32) &&& 31).toUInt32).toInt32) &&& (255 : Int32)).toUInt32.toUInt16.toUInt32.toInt32), iv ((((p1.toUInt32 >>> ((16 : Int32) &&& 31).toUInt32).toInt32) &&& (255 : Int32)).toUInt32.toUInt16.toUInt32.toInt32)] [(.ref b105), (.ref b104), (.ref b104)])) _
          refine XS.dup X109.here hx rfl (hb hby own_d1_84) rfl rfl ?_
          show Steps p.tables e below (T109.setTop (mkF m 85 #[iv p1, iv p2, iv ((p1 &&& (255 : Int32)).toUInt32.toUInt16.toUInt32.toInt32), iv ((((p1.toUInt32 >>> ((8 : Int32) &&& 31).toUInt32).toInt32) &&& (255 : Int32)).toUInt32.toUInt16.toUInt32.toInt32), iv ((((p1.toUInt32 >>> ((16 : Int32) &&& 31).toUInt32).toInt32) &&& (255 : Int32)).toUInt32.toUInt16.toUInt32.toInt32)] [(.ref b105), (.ref b105), (.ref b104), (.ref b104)])) _
          refine XS.iconst X109.here hx rfl (hb hby own_d1_85) ?_
          show Steps p.tables e below (T109.setTop (mkF m 86 #[iv p1, iv p2, iv ((p1 &&& (255 : Int32)).toUInt32.toUInt16.toUInt32.toInt32), iv ((((p1.toUInt32 >>> ((8 : Int32) &&& 31).toUInt32).toInt32) &&& (255 : Int32)).toUInt32.toUInt16.toUInt32.toInt32), iv ((((p1.toUInt32 >>> ((16 : Int32) &&& 31).toUInt32).toInt32) &&& (255 : Int32)).toUInt32.toUInt16.toUInt32.toInt32)] [(.int (2 : Int32)), (.ref b105), (.ref b105), (.ref b104), (.ref b104)])) _
          refine XS.iload X109.here hx rfl (hb hby own_d1_86) rfl ?_
          show Steps p.tables e below (T109.setTop (mkF m 88 #[iv p1, iv p2, iv ((p1 &&& (255 : Int32)).toUInt32.toUInt16.toUInt32.toInt32), iv ((((p1.toUInt32 >>> ((8 : Int32) &&& 31).toUInt32).toInt32) &&& (255 : Int32)).toUInt32.toUInt16.toUInt32.toInt32), iv ((((p1.toUInt32 >>> ((16 : Int32) &&& 31).toUInt32).toInt32) &&& (255 : Int32)).toUInt32.toUInt16.toUInt32.toInt32)] [(.int ((((p1.toUInt32 >>> ((16 : Int32) &&& 31).toUInt32).toInt32) &&& (255 : Int32)).toUInt32.toUInt16.toUInt32.toInt32)), (.int (2 : Int32)), (.ref b105), (.ref b105), (.ref b104), (.ref b104)])) _
          refine st111 _ ?_
          show Steps p.tables e below (T111.setTop (mkF m 89 #[iv p1, iv p2, iv ((p1 &&& (255 : Int32)).toUInt32.toUInt16.toUInt32.toInt32), iv ((((p1.toUInt32 >>> ((8 : Int32) &&& 31).toUInt32).toInt32) &&& (255 : Int32)).toUInt32.toUInt16.toUInt32.toInt32), iv ((((p1.toUInt32 >>> ((16 : Int32) &&& 31).toUInt32).toInt32) &&& (255 : Int32)).toUInt32.toUInt16.toUInt32.toInt32)] [(.ref b105), (.ref b104), (.ref b104)])) _
          refine st116.trans ?_
          show Steps p.tables e below (T116.setTop (mkF m 92 #[iv p1, iv p2, iv ((p1 &&& (255 : Int32)).toUInt32.toUInt16.toUInt32.toInt32), iv ((((p1.toUInt32 >>> ((8 : Int32) &&& 31).toUInt32).toInt32) &&& (255 : Int32)).toUInt32.toUInt16.toUInt32.toInt32), iv ((((p1.toUInt32 >>> ((16 : Int32) &&& 31).toUInt32).toInt32) &&& (255 : Int32)).toUInt32.toUInt16.toUInt32.toInt32)] [(.ref b104)])) _
          jvm_step X116.here [X116.here.top, hx, (hb hby own_d1_92), X116.method', Bd.returns, Value.isRef, FieldType.isReference]
          first | (intro acts; rw [hr _ acts rfl rfl rfl]) | rw [hr _ _ rfl rfl rfl]
          exact Steps.refl _
        · show QM Z p1 p2 cw h0 n0 _ T116.heap _
          exact ⟨b104, rfl, N116, K116, (by rw [own_mk3 hc29 hc37 hc47]; exact ⟨i116_6, i116_7, b_116, kb_116, i116_8, i116_9⟩)⟩
def own_eqL (A B : List Int32) : Int32 := if A = B then (1 : Int32) else (0 : Int32)
theorem own_eqL1 {A B : List Int32} (h : ¬ own_eqL A B = (0 : Int32)) : own_eqL A B = (1 : Int32) := by
  unfold own_eqL at *
  split
  · rfl
  · rename_i q; rw [if_neg q] at h; exact absurd rfl h
theorem own_eqLc (A B : List Int32) : own_eqL A B = own_eqL B A := by
  unfold own_eqL
  by_cases h : A = B
  · rw [if_pos h, if_pos h.symm]
  · rw [if_neg h, if_neg (fun q => h q.symm)]
theorem own_d10_0 : decode jdk_43_method_13_code 0 = .ok (.aload_n 0, 1) := by decide +kernel
theorem own_d10_1 : decode jdk_43_method_13_code 1 = .ok (.arraylength, 1) := by decide +kernel
theorem own_d10_2 : decode jdk_43_method_13_code 2 = .ok (.aload_n 1, 1) := by decide +kernel
theorem own_d10_3 : decode jdk_43_method_13_code 3 = .ok (.arraylength, 1) := by decide +kernel
theorem own_d10_4 : decode jdk_43_method_13_code 4 = .ok (.if_icmp .ne 30, 3) := by decide +kernel
theorem own_d10_7 : decode jdk_43_method_13_code 7 = .ok (.iconst 0, 1) := by decide +kernel
theorem own_d10_8 : decode jdk_43_method_13_code 8 = .ok (.istore_n 2, 1) := by decide +kernel
theorem own_d10_9 : decode jdk_43_method_13_code 9 = .ok (.iload_n 2, 1) := by decide +kernel
theorem own_d10_10 : decode jdk_43_method_13_code 10 = .ok (.aload_n 0, 1) := by decide +kernel
theorem own_d10_11 : decode jdk_43_method_13_code 11 = .ok (.arraylength, 1) := by decide +kernel
theorem own_d10_12 : decode jdk_43_method_13_code 12 = .ok (.if_icmp .ge 20, 3) := by decide +kernel
theorem own_d10_32 : decode jdk_43_method_13_code 32 = .ok (.iconst 1, 1) := by decide +kernel
theorem own_d10_33 : decode jdk_43_method_13_code 33 = .ok (.ireturn, 1) := by decide +kernel
theorem own_ef_rmLE_00 (m : MethodId) (a1 : Addr) (a2 : Addr) : entryFrame m #[(.ref a1), (.ref a2)] 3 = mkF m 0 #[.val (.ref a1), .val (.ref a2), .unset] [] := by first | (simp [entryFrame, mkF, argsToLocals, Value.category]; done) | rfl
def QLE_00 (Z : State) (a1 : Addr) (a2 : Addr) (k1 : ClassId) (k2 : ClassId) (h0 : Heap) (n0 : Nat) (v : Option Value) (h : Heap) (L : List Loc) : Prop := v = some (.int (own_eqL [] [])) ∧ Fr n0 L ∧ h = h0
set_option maxRecDepth 65536 in
set_option maxHeartbeats 40000000 in
theorem rmLE_00 (l : Launch) (Z : State) (a0 : Array Value) (hw : ∀ d ∈ tables_1, d.before a0 Z = true) (ws : List Jvm.Cond) (a1 : Addr) (a2 : Addr) (k1 : ClassId) (k2 : ClassId) (h0 : Heap) (n0 : Nat) (Z0 : n0 ≤ h0.size) (V_a1 : Arv Z h0 a1 k1 .byte (0 : Int32) [] (.int (0 : Int32))) (V_a2 : Arv Z h0 a2 k2 .byte (0 : Int32) [] (.int (0 : Int32))) :
    MetFree l (⟨"java/lang/StringLatin1", "equals", "([B[B)Z"⟩ : MethodName) (head1 (Jvm.Cond.code (⟨"java/lang/StringLatin1", "equals", "([B[B)Z"⟩ : MethodName) jdk_43_method_13_code 3 (some .boolean) :: ws) ({ frames := 0, cells := 0, slots := 0, locals := 0 } : Room)) (fun a U => a = #[(.ref a1), (.ref a2)] ∧ Z.Warmed39 U.vm ∧ U.heap = h0) (fun _ _ _ _ _ => True) (fun _ U o U' => ∃ v L, o = .returned v ∧ QLE_00 Z a1 a2 k1 k2 h0 n0 v U'.heap L ∧ FrameEnd U o U' L ({ frames := 0, cells := 0, slots := 0, locals := 0 } : Room).cells ({ frames := 0, cells := 0, slots := 0, locals := 0 } : Room).slots) := by
  refine MetFree.of_bodySF (plainFor_of_name own_pn2) hisR ?_
  intro p e s m args below meth c s₁ Bd hml0 hP hK
  obtain ⟨rfl, hZ, hh⟩ := hP
  have hx := Bd.exec
  have hby := Bd.bytes
  have hml : c.maxLocals = 3 := hml0
  have hown : s.vm.findClass "java/lang/StringLatin1" = some m.cls := findClass_of_methodNamed Bd.named
  have hnm := (name_of_methodNamed Bd.named Bd.method).1
  have X0 : Stand p l e ({ frames := 0, cells := 0, slots := 0, locals := 0 } : Room) s m #[(.ref a1), (.ref a2)] below meth c s₁ [] 0 0 := Stand.of_body Bd
  have e0 : s₁.heap = h0 := by rw [← hh, Bd.state]; rfl
  have N0 := Fr.nil n0
  have K0 : Keep h0 h0 [] := Keep.refl h0 _
  have pre0 : ∀ t, Steps p.tables e below (s₁.setTop (mkF m 0 #[.val (.ref a1), .val (.ref a2), .unset] [])) t → Steps p.tables e below (s₁.setTop (entryFrame m #[(.ref a1), (.ref a2)] 3)) t := fun t k => castTop (own_ef_rmLE_00 m a1 a2) k
  obtain ⟨cl117, Ar117, q117, S117, M117, H117, G117⟩ := id V_a1
  obtain ⟨cl118, Ar118, q118, S118, M118, H118, G118⟩ := id V_a2
  obtain ⟨cl119, Ar119, q119, S119, M119, H119, G119⟩ := id V_a1
  obtain ⟨fs, hr, hrun, hended, hW, hsame⟩ := X0.leave (v := some (.int (1 : Int32))) (fun h => by rw [Bd.returns] at h; cases h)
  refine ⟨_, _, pre0 _ ?_, hrun, hended, _, _, rfl, ?_, ⟨_, rfl⟩, hW, hsame.mono (by decide) (by decide)⟩
  · show Steps p.tables e below (s₁.setTop (mkF m 0 #[rv a1, rv a2, .unset] [])) _
    refine XS.aloadN X0.here hx rfl (hb hby own_d10_0) rfl rfl ?_
    show Steps p.tables e below (s₁.setTop (mkF m 1 #[rv a1, rv a2, .unset] [(.ref a1)])) _
    refine X0.arraylength hx (by rw [e0]; exact Ar117.1) (State.isArrayOf_alike hZ.alike Ar117.2.1) (g := (mkF m 1 #[rv a1, rv a2, .unset] [(.ref a1)])) rfl rfl (hb hby own_d10_1) _ ?_
    rw [len_of S117 M117]
    show Steps p.tables e below (s₁.setTop (mkF m 2 #[rv a1, rv a2, .unset] [(.int (0 : Int32))])) _
    refine XS.aloadN X0.here hx rfl (hb hby own_d10_2) rfl rfl ?_
    show Steps p.tables e below (s₁.setTop (mkF m 3 #[rv a1, rv a2, .unset] [(.ref a2), (.int (0 : Int32))])) _
    refine X0.arraylength hx (by rw [e0]; exact Ar118.1) (State.isArrayOf_alike hZ.alike Ar118.2.1) (g := (mkF m 3 #[rv a1, rv a2, .unset] [(.ref a2), (.int (0 : Int32))])) rfl rfl (hb hby own_d10_3) _ ?_
    rw [len_of S118 M118]
    show Steps p.tables e below (s₁.setTop (mkF m 4 #[rv a1, rv a2, .unset] [(.int (0 : Int32)), (.int (0 : Int32))])) _
    refine XS.icmpNo X0.here hx rfl (hb hby own_d10_4) rfl (teq (by decide : ((0 : Int32) = (0 : Int32)))).2 ?_
    show Steps p.tables e below (s₁.setTop (mkF m 7 #[rv a1, rv a2, .unset] [])) _
    refine XS.iconst X0.here hx rfl (hb hby own_d10_7) ?_
    show Steps p.tables e below (s₁.setTop (mkF m 8 #[rv a1, rv a2, .unset] [(.int (0 : Int32))])) _
    refine XS.istoreN X0.here hx rfl (hb hby own_d10_8) rfl (l' := #[rv a1, rv a2, iv (0 : Int32)]) rfl ?_
    show Steps p.tables e below (s₁.setTop (mkF m 9 #[rv a1, rv a2, iv (0 : Int32)] [])) _
    refine XS.iloadN X0.here hx rfl (hb hby own_d10_9) rfl ?_
    show Steps p.tables e below (s₁.setTop (mkF m 10 #[rv a1, rv a2, iv (0 : Int32)] [(.int (0 : Int32))])) _
    refine XS.aloadN X0.here hx rfl (hb hby own_d10_10) rfl rfl ?_
    show Steps p.tables e below (s₁.setTop (mkF m 11 #[rv a1, rv a2, iv (0 : Int32)] [(.ref a1), (.int (0 : Int32))])) _
    refine X0.arraylength hx (by rw [e0]; exact Ar119.1) (State.isArrayOf_alike hZ.alike Ar119.2.1) (g := (mkF m 11 #[rv a1, rv a2, iv (0 : Int32)] [(.ref a1), (.int (0 : Int32))])) rfl rfl (hb hby own_d10_11) _ ?_
    rw [len_of S119 M119]
    show Steps p.tables e below (s₁.setTop (mkF m 12 #[rv a1, rv a2, iv (0 : Int32)] [(.int (0 : Int32)), (.int (0 : Int32))])) _
    refine XS.icmpYes X0.here hx rfl (pc0 := 12) (pc' := 32) rfl (hb hby own_d10_12) rfl (flt (by decide : ¬ ((0 : Int32) < (0 : Int32)))).2.1 (by decide) (by decide) ?_
    show Steps p.tables e below (s₁.setTop (mkF m 32 #[rv a1, rv a2, iv (0 : Int32)] [])) _
    refine XS.iconst X0.here hx rfl (hb hby own_d10_32) ?_
    show Steps p.tables e below (s₁.setTop (mkF m 33 #[rv a1, rv a2, iv (0 : Int32)] [(.int (1 : Int32))])) _
    exact retN X0 hx (t := .boolean) Bd.returns (by simp) (hb hby own_d10_33) hr
  · show QLE_00 Z a1 a2 k1 k2 h0 n0 _ s₁.heap _
    rw [e0]
    exact ⟨(congrArg (fun z => some (Value.int z)) (by simp [own_eqL] : (1 : Int32) = (own_eqL [] []))), N0, rfl⟩
theorem own_d9_0 : decode jdk_42_method_66_code 0 = .ok (.aload_n 0, 1) := by decide +kernel
theorem own_d9_1 : decode jdk_42_method_66_code 1 = .ok (.aload_n 1, 1) := by decide +kernel
theorem own_d9_2 : decode jdk_42_method_66_code 2 = .ok (.if_acmp .ne 5, 3) := by decide +kernel
theorem own_d9_7 : decode jdk_42_method_66_code 7 = .ok (.aload_n 1, 1) := by decide +kernel
theorem own_d9_8 : decode jdk_42_method_66_code 8 = .ok (.instanceof 10, 3) := by decide +kernel
theorem own_d9_11 : decode jdk_42_method_66_code 11 = .ok (.ifCond .eq 43, 3) := by decide +kernel
theorem own_d9_14 : decode jdk_42_method_66_code 14 = .ok (.aload_n 1, 1) := by decide +kernel
theorem own_d9_15 : decode jdk_42_method_66_code 15 = .ok (.checkcast 10, 3) := by decide +kernel
theorem own_d9_18 : decode jdk_42_method_66_code 18 = .ok (.astore_n 2, 1) := by decide +kernel
theorem own_d9_19 : decode jdk_42_method_66_code 19 = .ok (.getstatic 38, 3) := by decide +kernel
theorem own_d9_22 : decode jdk_42_method_66_code 22 = .ok (.ifCond .eq 14, 3) := by decide +kernel
theorem own_d9_25 : decode jdk_42_method_66_code 25 = .ok (.aload_n 0, 1) := by decide +kernel
theorem own_d9_26 : decode jdk_42_method_66_code 26 = .ok (.getfield 15, 3) := by decide +kernel
theorem own_d9_29 : decode jdk_42_method_66_code 29 = .ok (.aload_n 2, 1) := by decide +kernel
theorem own_d9_30 : decode jdk_42_method_66_code 30 = .ok (.getfield 15, 3) := by decide +kernel
theorem own_d9_33 : decode jdk_42_method_66_code 33 = .ok (.if_icmp .ne 21, 3) := by decide +kernel
theorem own_d9_36 : decode jdk_42_method_66_code 36 = .ok (.aload_n 0, 1) := by decide +kernel
theorem own_d9_37 : decode jdk_42_method_66_code 37 = .ok (.getfield 9, 3) := by decide +kernel
theorem own_d9_40 : decode jdk_42_method_66_code 40 = .ok (.aload_n 2, 1) := by decide +kernel
theorem own_d9_41 : decode jdk_42_method_66_code 41 = .ok (.getfield 9, 3) := by decide +kernel
theorem own_d9_44 : decode jdk_42_method_66_code 44 = .ok (.invokestatic 541, 3) := by decide +kernel
theorem own_pd9 : parseMethodDescriptor "([B[B)Z" = some ⟨[(.array .byte), (.array .byte)], some .boolean⟩ := by decide +kernel
theorem own_d9_47 : decode jdk_42_method_66_code 47 = .ok (.ifCond .eq 7, 3) := by decide +kernel
theorem own_d9_54 : decode jdk_42_method_66_code 54 = .ok (.iconst 0, 1) := by decide +kernel
theorem own_d9_55 : decode jdk_42_method_66_code 55 = .ok (.ireturn, 1) := by decide +kernel
theorem own_d9_50 : decode jdk_42_method_66_code 50 = .ok (.iconst 1, 1) := by decide +kernel
theorem own_d9_51 : decode jdk_42_method_66_code 51 = .ok (.goto 4, 3) := by decide +kernel
theorem own_ef_rmSE_00 (m : MethodId) (a1 : Addr) (a2 : Addr) : entryFrame m #[(.ref a1), (.ref a2)] 3 = mkF m 0 #[.val (.ref a1), .val (.ref a2), .unset] [] := by first | (simp [entryFrame, mkF, argsToLocals, Value.category]; done) | rfl
def QSE_00 (Z : State) (a1 : Addr) (a2 : Addr) (cw : Int32) (b1 : Addr) (b2 : Addr) (k1 : ClassId) (k2 : ClassId) (h0 : Heap) (n0 : Nat) (v : Option Value) (h : Heap) (L : List Loc) : Prop := v = some (.int (own_eqL [] [])) ∧ Fr n0 L ∧ h = h0
set_option maxRecDepth 65536 in
set_option maxHeartbeats 40000000 in
theorem rmSE_00 (l : Launch) (Z : State) (a0 : Array Value) (hw : ∀ d ∈ tables_1, d.before a0 Z = true) (ws : List Jvm.Cond) (a1 : Addr) (a2 : Addr) (cw : Int32) (b1 : Addr) (b2 : Addr) (k1 : ClassId) (k2 : ClassId) (h0 : Heap) (n0 : Nat) (Z0 : n0 ≤ h0.size) (E_a2 : Exa Z h0 a2 "java/lang/String") (F_a1_coder : Fld Z h0 a1 "java/lang/String" "coder" "B" (.int (0 : Int32))) (F_a1_value : Fld Z h0 a1 "java/lang/String" "value" "[B" (.ref b1)) (F_a2_coder : Fld Z h0 a2 "java/lang/String" "coder" "B" (.int (0 : Int32))) (F_a2_value : Fld Z h0 a2 "java/lang/String" "value" "[B" (.ref b2)) (V_b1 : Arv Z h0 b1 k1 .byte (0 : Int32) [] (.int (0 : Int32))) (V_b2 : Arv Z h0 b2 k2 .byte (0 : Int32) [] (.int (0 : Int32))) (S_COMPACT_STRINGS : Sta Z h0 "java/lang/String" "COMPACT_STRINGS" "Z" (.int cw)) (hw0 : ¬ (cw = (0 : Int32))) (ne_a1_a2 : a1 ≠ a2) :
    MetFree l (⟨"java/lang/String", "equals", "(Ljava/lang/Object;)Z"⟩ : MethodName) (head1 (Jvm.Cond.code (⟨"java/lang/String", "equals", "(Ljava/lang/Object;)Z"⟩ : MethodName) jdk_42_method_66_code 3 (some .boolean) :: ws) ({ frames := 1, cells := 0, slots := 0, locals := 14 } : Room)) (fun a U => a = #[(.ref a1), (.ref a2)] ∧ Z.Warmed39 U.vm ∧ U.heap = h0) (fun _ _ _ _ _ => True) (fun _ U o U' => ∃ v L, o = .returned v ∧ QSE_00 Z a1 a2 cw b1 b2 k1 k2 h0 n0 v U'.heap L ∧ FrameEnd U o U' L ({ frames := 1, cells := 0, slots := 0, locals := 14 } : Room).cells ({ frames := 1, cells := 0, slots := 0, locals := 14 } : Room).slots) := by
  refine MetFree.of_bodySF (plainFor_of_name own_pn1) hisR ?_
  intro p e s m args below meth c s₁ Bd hml0 hP hK
  obtain ⟨rfl, hZ, hh⟩ := hP
  have hx := Bd.exec
  have hby := Bd.bytes
  have hml : c.maxLocals = 3 := hml0
  have hown : s.vm.findClass "java/lang/String" = some m.cls := findClass_of_methodNamed Bd.named
  have hnm := (name_of_methodNamed Bd.named Bd.method).1
  have X0 : Stand p l e ({ frames := 1, cells := 0, slots := 0, locals := 14 } : Room) s m #[(.ref a1), (.ref a2)] below meth c s₁ [] 0 0 := Stand.of_body Bd
  have e0 : s₁.heap = h0 := by rw [← hh, Bd.state]; rfl
  have N0 := Fr.nil n0
  have K0 : Keep h0 h0 [] := Keep.refl h0 _
  have pre0 : ∀ t, Steps p.tables e below (s₁.setTop (mkF m 0 #[.val (.ref a1), .val (.ref a2), .unset] [])) t → Steps p.tables e below (s₁.setTop (entryFrame m #[(.ref a1), (.ref a2)] 3)) t := fun t k => castTop (own_ef_rmSE_00 m a1 a2) k
  obtain ⟨T120, X120, e120, st120⟩ := instY X0 hx hZ hown (hw _ (List.mem_of_getElem? (i := 26) rfl)) e0 (Ins.self E_a2) (g := (mkF m 8 #[rv a1, rv a2, .unset] [(.ref a2)])) rfl rfl (hb hby own_d9_8)
  obtain ⟨T121, X121, e121, st121⟩ := castY X120 hx hZ hown (hw _ (List.mem_of_getElem? (i := 26) rfl)) e120 (Ins.self E_a2) (g := (mkF m 15 #[rv a1, rv a2, .unset] [(.ref a2)])) rfl rfl (hb hby own_d9_15)
  obtain ⟨T122, X122, e122, st122⟩ := getS2 X121 hx hZ hown (host := "") (Or.inl (hw _ (List.mem_of_getElem? (i := 21) rfl))) Via.refl e121 S_COMPACT_STRINGS (g := (mkF m 19 #[rv a1, rv a2, rv a2] [])) rfl (hb hby own_d9_19)
  have hc22_123 : ¬ (cw = (0 : Int32)) := hw0
  obtain ⟨T124, X124, e124, st124⟩ := getF X122 hx hZ hown (host := "") (Or.inl (hw _ (List.mem_of_getElem? (i := 38) rfl))) Via.refl e122 F_a1_coder (g := (mkF m 26 #[rv a1, rv a2, rv a2] [(.ref a1)])) rfl rfl (hb hby own_d9_26)
  obtain ⟨T125, X125, e125, st125⟩ := getF X124 hx hZ hown (host := "") (Or.inl (hw _ (List.mem_of_getElem? (i := 38) rfl))) Via.refl e124 F_a2_coder (g := (mkF m 30 #[rv a1, rv a2, rv a2] [(.ref a2), (.int (0 : Int32))])) rfl rfl (hb hby own_d9_30)
  obtain ⟨T126, X126, e126, st126⟩ := getF X125 hx hZ hown (host := "") (Or.inl (hw _ (List.mem_of_getElem? (i := 37) rfl))) Via.refl e125 F_a1_value (g := (mkF m 37 #[rv a1, rv a2, rv a2] [(.ref a1)])) rfl rfl (hb hby own_d9_37)
  obtain ⟨T127, X127, e127, st127⟩ := getF X126 hx hZ hown (host := "") (Or.inl (hw _ (List.mem_of_getElem? (i := 37) rfl))) Via.refl e126 F_a2_value (g := (mkF m 41 #[rv a1, rv a2, rv a2] [(.ref a2), (.ref b1)])) rfl rfl (hb hby own_d9_41)
  obtain ⟨_, _, ⟨T128, L128, k128, n128⟩, -, X128, ⟨Lc128, hQ128, l128, y128, z128⟩, st128⟩ := Jvm.LawKit.callS X127 hx (y := (⟨"java/lang/StringLatin1", "equals", "([B[B)Z"⟩ : MethodName)) hown (mvT hZ (hw _ (List.mem_of_getElem? (i := 47) rfl))) (mvT hZ (hw _ (List.mem_of_getElem? (i := 48) rfl))) (mvT hZ (hw _ (List.mem_of_getElem? (i := 24) rfl))) (mvT hZ (hw _ (List.mem_of_getElem? (i := 49) rfl))) (by decide) (backOf (W := 0) (rmLE_00 l Z a0 hw [] b1 b2 k1 k2 h0 n0 (Nat.le_trans Z0 K0.1) V_b1 V_b2) hZ (hw _ (List.mem_of_getElem? (i := 49) rfl)) (hw _ (List.mem_of_getElem? (i := 24) rfl)) (by decide) (by decide)) (g := (mkF m 44 #[rv a1, rv a2, rv a2] [(.ref b2), (.ref b1)])) rfl (by rw [hml]; rfl) (argsL := [(.ref b1), (.ref b2)]) (rest := []) (lenOf own_pd9 rfl) rfl (by show 2 * 0 + _ ≤ _; exact Nat.le_of_eq rfl) (hb hby own_d9_44) (fun _ _ => ⟨rfl, e127, (by decide : 0 + 0 ≤ _), (by decide : 0 + 0 ≤ _)⟩)
  dsimp only [Pt.U, Pt.locs, Pt.cells, Pt.slots] at X128 l128 y128 z128 st128 hQ128
  subst l128 y128 z128
  obtain ⟨rfl, N128q, e128⟩ := hQ128
  have N128 := Fr.app N0 N128q
  have pre129 : ∀ t, Steps p.tables e below (T128.setTop (mkF m 47 #[rv a1, rv a2, rv a2] [(.int (own_eqL [] []))])) t → Steps p.tables e below (s₁.setTop (entryFrame m #[(.ref a1), (.ref a2)] 3)) t := fun t k => by
    refine pre0 _ ?_
    show Steps p.tables e below (s₁.setTop (mkF m 0 #[rv a1, rv a2, .unset] [])) _
    refine XS.aloadN X0.here hx rfl (hb hby own_d9_0) rfl rfl ?_
    show Steps p.tables e below (s₁.setTop (mkF m 1 #[rv a1, rv a2, .unset] [(.ref a1)])) _
    refine XS.aloadN X0.here hx rfl (hb hby own_d9_1) rfl rfl ?_
    show Steps p.tables e below (s₁.setTop (mkF m 2 #[rv a1, rv a2, .unset] [(.ref a2), (.ref a1)])) _
    refine Jvm.RoadKit.acmp (g := (mkF m 2 #[rv a1, rv a2, .unset] [(.ref a2), (.ref a1)])) X0 hx rfl rfl rfl (pc0 := 2) (pc' := 7) (same := false) rfl (hb hby own_d9_2) rfl (decide_eq_false fun q => ne_a1_a2 (Value.ref.inj q)) (by decide) (by decide) ?_
    show Steps p.tables e below (s₁.setTop (mkF m 7 #[rv a1, rv a2, .unset] [])) _
    refine XS.aloadN X0.here hx rfl (hb hby own_d9_7) rfl rfl ?_
    show Steps p.tables e below (s₁.setTop (mkF m 8 #[rv a1, rv a2, .unset] [(.ref a2)])) _
    refine st120 _ ?_
    show Steps p.tables e below (T120.setTop (mkF m 11 #[rv a1, rv a2, .unset] [(.int (1 : Int32))])) _
    refine XS.ifNo X120.here hx rfl (hb hby own_d9_11) rfl ((if0 _ _).trans (feq (by decide : ¬ ((1 : Int32) = (0 : Int32)))).1) ?_
    show Steps p.tables e below (T120.setTop (mkF m 14 #[rv a1, rv a2, .unset] [])) _
    refine XS.aloadN X120.here hx rfl (hb hby own_d9_14) rfl rfl ?_
    show Steps p.tables e below (T120.setTop (mkF m 15 #[rv a1, rv a2, .unset] [(.ref a2)])) _
    refine st121 _ ?_
    show Steps p.tables e below (T121.setTop (mkF m 18 #[rv a1, rv a2, .unset] [(.ref a2)])) _
    refine XS.astoreN X121.here hx rfl (hb hby own_d9_18) rfl rfl (l' := #[rv a1, rv a2, rv a2]) rfl ?_
    show Steps p.tables e below (T121.setTop (mkF m 19 #[rv a1, rv a2, rv a2] [])) _
    refine st122 _ ?_
    show Steps p.tables e below (T122.setTop (mkF m 22 #[rv a1, rv a2, rv a2] [(.int cw)])) _
    refine XS.ifNo X122.here hx rfl (hb hby own_d9_22) rfl ((if0 _ _).trans (feq hc22_123).1) ?_
    show Steps p.tables e below (T122.setTop (mkF m 25 #[rv a1, rv a2, rv a2] [])) _
    refine XS.aloadN X122.here hx rfl (hb hby own_d9_25) rfl rfl ?_
    show Steps p.tables e below (T122.setTop (mkF m 26 #[rv a1, rv a2, rv a2] [(.ref a1)])) _
    refine st124 _ ?_
    show Steps p.tables e below (T124.setTop (mkF m 29 #[rv a1, rv a2, rv a2] [(.int (0 : Int32))])) _
    refine XS.aloadN X124.here hx rfl (hb hby own_d9_29) rfl rfl ?_
    show Steps p.tables e below (T124.setTop (mkF m 30 #[rv a1, rv a2, rv a2] [(.ref a2), (.int (0 : Int32))])) _
    refine st125 _ ?_
    show Steps p.tables e below (T125.setTop (mkF m 33 #[rv a1, rv a2, rv a2] [(.int (0 : Int32)), (.int (0 : Int32))])) _
    refine XS.icmpNo X125.here hx rfl (hb hby own_d9_33) rfl (teq (by decide : ((0 : Int32) = (0 : Int32)))).2 ?_
    show Steps p.tables e below (T125.setTop (mkF m 36 #[rv a1, rv a2, rv a2] [])) _
    refine XS.aloadN X125.here hx rfl (hb hby own_d9_36) rfl rfl ?_
    show Steps p.tables e below (T125.setTop (mkF m 37 #[rv a1, rv a2, rv a2] [(.ref a1)])) _
    refine st126 _ ?_
    show Steps p.tables e below (T126.setTop (mkF m 40 #[rv a1, rv a2, rv a2] [(.ref b1)])) _
    refine XS.aloadN X126.here hx rfl (hb hby own_d9_40) rfl rfl ?_
    show Steps p.tables e below (T126.setTop (mkF m 41 #[rv a1, rv a2, rv a2] [(.ref a2), (.ref b1)])) _
    refine st127 _ ?_
    show Steps p.tables e below (T127.setTop (mkF m 44 #[rv a1, rv a2, rv a2] [(.ref b2), (.ref b1)])) _
    refine st128 _ ?_
    exact k
  by_cases hc47 : (own_eqL [] []) = (0 : Int32)
  · obtain ⟨fs, hr, hrun, hended, hW, hsame⟩ := X128.leave (v := some (.int (0 : Int32))) (fun h => by rw [Bd.returns] at h; cases h)
    refine ⟨_, _, pre129 _ ?_, hrun, hended, _, _, rfl, ?_, ⟨_, rfl⟩, hW, hsame.mono (by decide) (by decide)⟩
    · show Steps p.tables e below (T128.setTop (mkF m 47 #[rv a1, rv a2, rv a2] [(.int (own_eqL [] []))])) _
      refine XS.ifYes X128.here hx rfl (pc0 := 47) (pc' := 54) rfl (hb hby own_d9_47) rfl ((if0 _ _).trans (teq hc47).1) (by decide) (by decide) ?_
      show Steps p.tables e below (T128.setTop (mkF m 54 #[rv a1, rv a2, rv a2] [])) _
      refine XS.iconst X128.here hx rfl (hb hby own_d9_54) ?_
      show Steps p.tables e below (T128.setTop (mkF m 55 #[rv a1, rv a2, rv a2] [(.int (0 : Int32))])) _
      exact retN X128 hx (t := .boolean) Bd.returns (by simp) (hb hby own_d9_55) hr
    · show QSE_00 Z a1 a2 cw b1 b2 k1 k2 h0 n0 _ T128.heap _
      rw [e128]
      exact ⟨(congrArg (fun z => some (Value.int z)) (hc47.symm : (0 : Int32) = (own_eqL [] []))), N128, rfl⟩
  · obtain ⟨fs, hr, hrun, hended, hW, hsame⟩ := X128.leave (v := some (.int (1 : Int32))) (fun h => by rw [Bd.returns] at h; cases h)
    refine ⟨_, _, pre129 _ ?_, hrun, hended, _, _, rfl, ?_, ⟨_, rfl⟩, hW, hsame.mono (by decide) (by decide)⟩
    · show Steps p.tables e below (T128.setTop (mkF m 47 #[rv a1, rv a2, rv a2] [(.int (own_eqL [] []))])) _
      refine XS.ifNo X128.here hx rfl (hb hby own_d9_47) rfl ((if0 _ _).trans (feq hc47).1) ?_
      show Steps p.tables e below (T128.setTop (mkF m 50 #[rv a1, rv a2, rv a2] [])) _
      refine XS.iconst X128.here hx rfl (hb hby own_d9_50) ?_
      show Steps p.tables e below (T128.setTop (mkF m 51 #[rv a1, rv a2, rv a2] [(.int (1 : Int32))])) _
      refine XS.goto X128.here hx rfl (pc0 := 51) (pc' := 55) rfl (hb hby own_d9_51) (by decide) (by decide) ?_
      show Steps p.tables e below (T128.setTop (mkF m 55 #[rv a1, rv a2, rv a2] [(.int (1 : Int32))])) _
      exact retN X128 hx (t := .boolean) Bd.returns (by simp) (hb hby own_d9_55) hr
    · show QSE_00 Z a1 a2 cw b1 b2 k1 k2 h0 n0 _ T128.heap _
      rw [e128]
      exact ⟨(congrArg (fun z => some (Value.int z)) ((own_eqL1 hc47).symm : (1 : Int32) = (own_eqL [] []))), N128, rfl⟩
theorem own_d10_34 : decode jdk_43_method_13_code 34 = .ok (.iconst 0, 1) := by decide +kernel
theorem own_d10_35 : decode jdk_43_method_13_code 35 = .ok (.ireturn, 1) := by decide +kernel
theorem own_ef_rmLE_01 (m : MethodId) (a1 : Addr) (a2 : Addr) : entryFrame m #[(.ref a1), (.ref a2)] 3 = mkF m 0 #[.val (.ref a1), .val (.ref a2), .unset] [] := by first | (simp [entryFrame, mkF, argsToLocals, Value.category]; done) | rfl
def QLE_01 (Z : State) (a1 : Addr) (a2 : Addr) (k1 : ClassId) (k2 : ClassId) (v0 : Int32) (h0 : Heap) (n0 : Nat) (v : Option Value) (h : Heap) (L : List Loc) : Prop := v = some (.int (own_eqL [] [v0])) ∧ Fr n0 L ∧ h = h0
set_option maxRecDepth 65536 in
set_option maxHeartbeats 40000000 in
theorem rmLE_01 (l : Launch) (Z : State) (a0 : Array Value) (hw : ∀ d ∈ tables_1, d.before a0 Z = true) (ws : List Jvm.Cond) (a1 : Addr) (a2 : Addr) (k1 : ClassId) (k2 : ClassId) (v0 : Int32) (h0 : Heap) (n0 : Nat) (Z0 : n0 ≤ h0.size) (V_a1 : Arv Z h0 a1 k1 .byte (0 : Int32) [] (.int (0 : Int32))) (V_a2 : Arv Z h0 a2 k2 .byte (1 : Int32) [(.int v0)] (.int (0 : Int32))) :
    MetFree l (⟨"java/lang/StringLatin1", "equals", "([B[B)Z"⟩ : MethodName) (head1 (Jvm.Cond.code (⟨"java/lang/StringLatin1", "equals", "([B[B)Z"⟩ : MethodName) jdk_43_method_13_code 3 (some .boolean) :: ws) ({ frames := 0, cells := 0, slots := 0, locals := 0 } : Room)) (fun a U => a = #[(.ref a1), (.ref a2)] ∧ Z.Warmed39 U.vm ∧ U.heap = h0) (fun _ _ _ _ _ => True) (fun _ U o U' => ∃ v L, o = .returned v ∧ QLE_01 Z a1 a2 k1 k2 v0 h0 n0 v U'.heap L ∧ FrameEnd U o U' L ({ frames := 0, cells := 0, slots := 0, locals := 0 } : Room).cells ({ frames := 0, cells := 0, slots := 0, locals := 0 } : Room).slots) := by
  refine MetFree.of_bodySF (plainFor_of_name own_pn2) hisR ?_
  intro p e s m args below meth c s₁ Bd hml0 hP hK
  obtain ⟨rfl, hZ, hh⟩ := hP
  have hx := Bd.exec
  have hby := Bd.bytes
  have hml : c.maxLocals = 3 := hml0
  have hown : s.vm.findClass "java/lang/StringLatin1" = some m.cls := findClass_of_methodNamed Bd.named
  have hnm := (name_of_methodNamed Bd.named Bd.method).1
  have X0 : Stand p l e ({ frames := 0, cells := 0, slots := 0, locals := 0 } : Room) s m #[(.ref a1), (.ref a2)] below meth c s₁ [] 0 0 := Stand.of_body Bd
  have e0 : s₁.heap = h0 := by rw [← hh, Bd.state]; rfl
  have N0 := Fr.nil n0
  have K0 : Keep h0 h0 [] := Keep.refl h0 _
  have pre0 : ∀ t, Steps p.tables e below (s₁.setTop (mkF m 0 #[.val (.ref a1), .val (.ref a2), .unset] [])) t → Steps p.tables e below (s₁.setTop (entryFrame m #[(.ref a1), (.ref a2)] 3)) t := fun t k => castTop (own_ef_rmLE_01 m a1 a2) k
  obtain ⟨cl130, Ar130, q130, S130, M130, H130, G130⟩ := id V_a1
  obtain ⟨cl131, Ar131, q131, S131, M131, H131, G131⟩ := id V_a2
  obtain ⟨fs, hr, hrun, hended, hW, hsame⟩ := X0.leave (v := some (.int (0 : Int32))) (fun h => by rw [Bd.returns] at h; cases h)
  refine ⟨_, _, pre0 _ ?_, hrun, hended, _, _, rfl, ?_, ⟨_, rfl⟩, hW, hsame.mono (by decide) (by decide)⟩
  · show Steps p.tables e below (s₁.setTop (mkF m 0 #[rv a1, rv a2, .unset] [])) _
    refine XS.aloadN X0.here hx rfl (hb hby own_d10_0) rfl rfl ?_
    show Steps p.tables e below (s₁.setTop (mkF m 1 #[rv a1, rv a2, .unset] [(.ref a1)])) _
    refine X0.arraylength hx (by rw [e0]; exact Ar130.1) (State.isArrayOf_alike hZ.alike Ar130.2.1) (g := (mkF m 1 #[rv a1, rv a2, .unset] [(.ref a1)])) rfl rfl (hb hby own_d10_1) _ ?_
    rw [len_of S130 M130]
    show Steps p.tables e below (s₁.setTop (mkF m 2 #[rv a1, rv a2, .unset] [(.int (0 : Int32))])) _
    refine XS.aloadN X0.here hx rfl (hb hby own_d10_2) rfl rfl ?_
    show Steps p.tables e below (s₁.setTop (mkF m 3 #[rv a1, rv a2, .unset] [(.ref a2), (.int (0 : Int32))])) _
    refine X0.arraylength hx (by rw [e0]; exact Ar131.1) (State.isArrayOf_alike hZ.alike Ar131.2.1) (g := (mkF m 3 #[rv a1, rv a2, .unset] [(.ref a2), (.int (0 : Int32))])) rfl rfl (hb hby own_d10_3) _ ?_
    rw [len_of S131 M131]
    show Steps p.tables e below (s₁.setTop (mkF m 4 #[rv a1, rv a2, .unset] [(.int (1 : Int32)), (.int (0 : Int32))])) _
    refine XS.icmpYes X0.here hx rfl (pc0 := 4) (pc' := 34) rfl (hb hby own_d10_4) rfl (feq (by decide : ¬ ((0 : Int32) = (1 : Int32)))).2 (by decide) (by decide) ?_
    show Steps p.tables e below (s₁.setTop (mkF m 34 #[rv a1, rv a2, .unset] [])) _
    refine XS.iconst X0.here hx rfl (hb hby own_d10_34) ?_
    show Steps p.tables e below (s₁.setTop (mkF m 35 #[rv a1, rv a2, .unset] [(.int (0 : Int32))])) _
    exact retN X0 hx (t := .boolean) Bd.returns (by simp) (hb hby own_d10_35) hr
  · show QLE_01 Z a1 a2 k1 k2 v0 h0 n0 _ s₁.heap _
    rw [e0]
    exact ⟨(congrArg (fun z => some (Value.int z)) (by simp [own_eqL] : (0 : Int32) = (own_eqL [] [v0]))), N0, rfl⟩
theorem own_ef_rmSE_01 (m : MethodId) (a1 : Addr) (a2 : Addr) : entryFrame m #[(.ref a1), (.ref a2)] 3 = mkF m 0 #[.val (.ref a1), .val (.ref a2), .unset] [] := by first | (simp [entryFrame, mkF, argsToLocals, Value.category]; done) | rfl
def QSE_01 (Z : State) (a1 : Addr) (a2 : Addr) (cw : Int32) (b1 : Addr) (b2 : Addr) (k1 : ClassId) (k2 : ClassId) (v0 : Int32) (h0 : Heap) (n0 : Nat) (v : Option Value) (h : Heap) (L : List Loc) : Prop := v = some (.int (own_eqL [] [v0])) ∧ Fr n0 L ∧ h = h0
set_option maxRecDepth 65536 in
set_option maxHeartbeats 40000000 in
theorem rmSE_01 (l : Launch) (Z : State) (a0 : Array Value) (hw : ∀ d ∈ tables_1, d.before a0 Z = true) (ws : List Jvm.Cond) (a1 : Addr) (a2 : Addr) (cw : Int32) (b1 : Addr) (b2 : Addr) (k1 : ClassId) (k2 : ClassId) (v0 : Int32) (h0 : Heap) (n0 : Nat) (Z0 : n0 ≤ h0.size) (E_a2 : Exa Z h0 a2 "java/lang/String") (F_a1_coder : Fld Z h0 a1 "java/lang/String" "coder" "B" (.int (0 : Int32))) (F_a1_value : Fld Z h0 a1 "java/lang/String" "value" "[B" (.ref b1)) (F_a2_coder : Fld Z h0 a2 "java/lang/String" "coder" "B" (.int (0 : Int32))) (F_a2_value : Fld Z h0 a2 "java/lang/String" "value" "[B" (.ref b2)) (V_b1 : Arv Z h0 b1 k1 .byte (0 : Int32) [] (.int (0 : Int32))) (V_b2 : Arv Z h0 b2 k2 .byte (1 : Int32) [(.int v0)] (.int (0 : Int32))) (S_COMPACT_STRINGS : Sta Z h0 "java/lang/String" "COMPACT_STRINGS" "Z" (.int cw)) (hw0 : ¬ (cw = (0 : Int32))) (ne_a1_a2 : a1 ≠ a2) :
    MetFree l (⟨"java/lang/String", "equals", "(Ljava/lang/Object;)Z"⟩ : MethodName) (head1 (Jvm.Cond.code (⟨"java/lang/String", "equals", "(Ljava/lang/Object;)Z"⟩ : MethodName) jdk_42_method_66_code 3 (some .boolean) :: ws) ({ frames := 1, cells := 0, slots := 0, locals := 14 } : Room)) (fun a U => a = #[(.ref a1), (.ref a2)] ∧ Z.Warmed39 U.vm ∧ U.heap = h0) (fun _ _ _ _ _ => True) (fun _ U o U' => ∃ v L, o = .returned v ∧ QSE_01 Z a1 a2 cw b1 b2 k1 k2 v0 h0 n0 v U'.heap L ∧ FrameEnd U o U' L ({ frames := 1, cells := 0, slots := 0, locals := 14 } : Room).cells ({ frames := 1, cells := 0, slots := 0, locals := 14 } : Room).slots) := by
  refine MetFree.of_bodySF (plainFor_of_name own_pn1) hisR ?_
  intro p e s m args below meth c s₁ Bd hml0 hP hK
  obtain ⟨rfl, hZ, hh⟩ := hP
  have hx := Bd.exec
  have hby := Bd.bytes
  have hml : c.maxLocals = 3 := hml0
  have hown : s.vm.findClass "java/lang/String" = some m.cls := findClass_of_methodNamed Bd.named
  have hnm := (name_of_methodNamed Bd.named Bd.method).1
  have X0 : Stand p l e ({ frames := 1, cells := 0, slots := 0, locals := 14 } : Room) s m #[(.ref a1), (.ref a2)] below meth c s₁ [] 0 0 := Stand.of_body Bd
  have e0 : s₁.heap = h0 := by rw [← hh, Bd.state]; rfl
  have N0 := Fr.nil n0
  have K0 : Keep h0 h0 [] := Keep.refl h0 _
  have pre0 : ∀ t, Steps p.tables e below (s₁.setTop (mkF m 0 #[.val (.ref a1), .val (.ref a2), .unset] [])) t → Steps p.tables e below (s₁.setTop (entryFrame m #[(.ref a1), (.ref a2)] 3)) t := fun t k => castTop (own_ef_rmSE_01 m a1 a2) k
  obtain ⟨T132, X132, e132, st132⟩ := instY X0 hx hZ hown (hw _ (List.mem_of_getElem? (i := 26) rfl)) e0 (Ins.self E_a2) (g := (mkF m 8 #[rv a1, rv a2, .unset] [(.ref a2)])) rfl rfl (hb hby own_d9_8)
  obtain ⟨T133, X133, e133, st133⟩ := castY X132 hx hZ hown (hw _ (List.mem_of_getElem? (i := 26) rfl)) e132 (Ins.self E_a2) (g := (mkF m 15 #[rv a1, rv a2, .unset] [(.ref a2)])) rfl rfl (hb hby own_d9_15)
  obtain ⟨T134, X134, e134, st134⟩ := getS2 X133 hx hZ hown (host := "") (Or.inl (hw _ (List.mem_of_getElem? (i := 21) rfl))) Via.refl e133 S_COMPACT_STRINGS (g := (mkF m 19 #[rv a1, rv a2, rv a2] [])) rfl (hb hby own_d9_19)
  have hc22_135 : ¬ (cw = (0 : Int32)) := hw0
  obtain ⟨T136, X136, e136, st136⟩ := getF X134 hx hZ hown (host := "") (Or.inl (hw _ (List.mem_of_getElem? (i := 38) rfl))) Via.refl e134 F_a1_coder (g := (mkF m 26 #[rv a1, rv a2, rv a2] [(.ref a1)])) rfl rfl (hb hby own_d9_26)
  obtain ⟨T137, X137, e137, st137⟩ := getF X136 hx hZ hown (host := "") (Or.inl (hw _ (List.mem_of_getElem? (i := 38) rfl))) Via.refl e136 F_a2_coder (g := (mkF m 30 #[rv a1, rv a2, rv a2] [(.ref a2), (.int (0 : Int32))])) rfl rfl (hb hby own_d9_30)
  obtain ⟨T138, X138, e138, st138⟩ := getF X137 hx hZ hown (host := "") (Or.inl (hw _ (List.mem_of_getElem? (i := 37) rfl))) Via.refl e137 F_a1_value (g := (mkF m 37 #[rv a1, rv a2, rv a2] [(.ref a1)])) rfl rfl (hb hby own_d9_37)
  obtain ⟨T139, X139, e139, st139⟩ := getF X138 hx hZ hown (host := "") (Or.inl (hw _ (List.mem_of_getElem? (i := 37) rfl))) Via.refl e138 F_a2_value (g := (mkF m 41 #[rv a1, rv a2, rv a2] [(.ref a2), (.ref b1)])) rfl rfl (hb hby own_d9_41)
  obtain ⟨_, _, ⟨T140, L140, k140, n140⟩, -, X140, ⟨Lc140, hQ140, l140, y140, z140⟩, st140⟩ := Jvm.LawKit.callS X139 hx (y := (⟨"java/lang/StringLatin1", "equals", "([B[B)Z"⟩ : MethodName)) hown (mvT hZ (hw _ (List.mem_of_getElem? (i := 47) rfl))) (mvT hZ (hw _ (List.mem_of_getElem? (i := 48) rfl))) (mvT hZ (hw _ (List.mem_of_getElem? (i := 24) rfl))) (mvT hZ (hw _ (List.mem_of_getElem? (i := 49) rfl))) (by decide) (backOf (W := 0) (rmLE_01 l Z a0 hw [] b1 b2 k1 k2 v0 h0 n0 (Nat.le_trans Z0 K0.1) V_b1 V_b2) hZ (hw _ (List.mem_of_getElem? (i := 49) rfl)) (hw _ (List.mem_of_getElem? (i := 24) rfl)) (by decide) (by decide)) (g := (mkF m 44 #[rv a1, rv a2, rv a2] [(.ref b2), (.ref b1)])) rfl (by rw [hml]; rfl) (argsL := [(.ref b1), (.ref b2)]) (rest := []) (lenOf own_pd9 rfl) rfl (by show 2 * 0 + _ ≤ _; exact Nat.le_of_eq rfl) (hb hby own_d9_44) (fun _ _ => ⟨rfl, e139, (by decide : 0 + 0 ≤ _), (by decide : 0 + 0 ≤ _)⟩)
  dsimp only [Pt.U, Pt.locs, Pt.cells, Pt.slots] at X140 l140 y140 z140 st140 hQ140
  subst l140 y140 z140
  obtain ⟨rfl, N140q, e140⟩ := hQ140
  have N140 := Fr.app N0 N140q
  have pre141 : ∀ t, Steps p.tables e below (T140.setTop (mkF m 47 #[rv a1, rv a2, rv a2] [(.int (own_eqL [] [v0]))])) t → Steps p.tables e below (s₁.setTop (entryFrame m #[(.ref a1), (.ref a2)] 3)) t := fun t k => by
    refine pre0 _ ?_
    show Steps p.tables e below (s₁.setTop (mkF m 0 #[rv a1, rv a2, .unset] [])) _
    refine XS.aloadN X0.here hx rfl (hb hby own_d9_0) rfl rfl ?_
    show Steps p.tables e below (s₁.setTop (mkF m 1 #[rv a1, rv a2, .unset] [(.ref a1)])) _
    refine XS.aloadN X0.here hx rfl (hb hby own_d9_1) rfl rfl ?_
    show Steps p.tables e below (s₁.setTop (mkF m 2 #[rv a1, rv a2, .unset] [(.ref a2), (.ref a1)])) _
    refine Jvm.RoadKit.acmp (g := (mkF m 2 #[rv a1, rv a2, .unset] [(.ref a2), (.ref a1)])) X0 hx rfl rfl rfl (pc0 := 2) (pc' := 7) (same := false) rfl (hb hby own_d9_2) rfl (decide_eq_false fun q => ne_a1_a2 (Value.ref.inj q)) (by decide) (by decide) ?_
    show Steps p.tables e below (s₁.setTop (mkF m 7 #[rv a1, rv a2, .unset] [])) _
    refine XS.aloadN X0.here hx rfl (hb hby own_d9_7) rfl rfl ?_
    show Steps p.tables e below (s₁.setTop (mkF m 8 #[rv a1, rv a2, .unset] [(.ref a2)])) _
    refine st132 _ ?_
    show Steps p.tables e below (T132.setTop (mkF m 11 #[rv a1, rv a2, .unset] [(.int (1 : Int32))])) _
    refine XS.ifNo X132.here hx rfl (hb hby own_d9_11) rfl ((if0 _ _).trans (feq (by decide : ¬ ((1 : Int32) = (0 : Int32)))).1) ?_
    show Steps p.tables e below (T132.setTop (mkF m 14 #[rv a1, rv a2, .unset] [])) _
    refine XS.aloadN X132.here hx rfl (hb hby own_d9_14) rfl rfl ?_
    show Steps p.tables e below (T132.setTop (mkF m 15 #[rv a1, rv a2, .unset] [(.ref a2)])) _
    refine st133 _ ?_
    show Steps p.tables e below (T133.setTop (mkF m 18 #[rv a1, rv a2, .unset] [(.ref a2)])) _
    refine XS.astoreN X133.here hx rfl (hb hby own_d9_18) rfl rfl (l' := #[rv a1, rv a2, rv a2]) rfl ?_
    show Steps p.tables e below (T133.setTop (mkF m 19 #[rv a1, rv a2, rv a2] [])) _
    refine st134 _ ?_
    show Steps p.tables e below (T134.setTop (mkF m 22 #[rv a1, rv a2, rv a2] [(.int cw)])) _
    refine XS.ifNo X134.here hx rfl (hb hby own_d9_22) rfl ((if0 _ _).trans (feq hc22_135).1) ?_
    show Steps p.tables e below (T134.setTop (mkF m 25 #[rv a1, rv a2, rv a2] [])) _
    refine XS.aloadN X134.here hx rfl (hb hby own_d9_25) rfl rfl ?_
    show Steps p.tables e below (T134.setTop (mkF m 26 #[rv a1, rv a2, rv a2] [(.ref a1)])) _
    refine st136 _ ?_
    show Steps p.tables e below (T136.setTop (mkF m 29 #[rv a1, rv a2, rv a2] [(.int (0 : Int32))])) _
    refine XS.aloadN X136.here hx rfl (hb hby own_d9_29) rfl rfl ?_
    show Steps p.tables e below (T136.setTop (mkF m 30 #[rv a1, rv a2, rv a2] [(.ref a2), (.int (0 : Int32))])) _
    refine st137 _ ?_
    show Steps p.tables e below (T137.setTop (mkF m 33 #[rv a1, rv a2, rv a2] [(.int (0 : Int32)), (.int (0 : Int32))])) _
    refine XS.icmpNo X137.here hx rfl (hb hby own_d9_33) rfl (teq (by decide : ((0 : Int32) = (0 : Int32)))).2 ?_
    show Steps p.tables e below (T137.setTop (mkF m 36 #[rv a1, rv a2, rv a2] [])) _
    refine XS.aloadN X137.here hx rfl (hb hby own_d9_36) rfl rfl ?_
    show Steps p.tables e below (T137.setTop (mkF m 37 #[rv a1, rv a2, rv a2] [(.ref a1)])) _
    refine st138 _ ?_
    show Steps p.tables e below (T138.setTop (mkF m 40 #[rv a1, rv a2, rv a2] [(.ref b1)])) _
    refine XS.aloadN X138.here hx rfl (hb hby own_d9_40) rfl rfl ?_
    show Steps p.tables e below (T138.setTop (mkF m 41 #[rv a1, rv a2, rv a2] [(.ref a2), (.ref b1)])) _
    refine st139 _ ?_
    show Steps p.tables e below (T139.setTop (mkF m 44 #[rv a1, rv a2, rv a2] [(.ref b2), (.ref b1)])) _
    refine st140 _ ?_
    exact k
  by_cases hc47 : (own_eqL [] [v0]) = (0 : Int32)
  · obtain ⟨fs, hr, hrun, hended, hW, hsame⟩ := X140.leave (v := some (.int (0 : Int32))) (fun h => by rw [Bd.returns] at h; cases h)
    refine ⟨_, _, pre141 _ ?_, hrun, hended, _, _, rfl, ?_, ⟨_, rfl⟩, hW, hsame.mono (by decide) (by decide)⟩
    · show Steps p.tables e below (T140.setTop (mkF m 47 #[rv a1, rv a2, rv a2] [(.int (own_eqL [] [v0]))])) _
      refine XS.ifYes X140.here hx rfl (pc0 := 47) (pc' := 54) rfl (hb hby own_d9_47) rfl ((if0 _ _).trans (teq hc47).1) (by decide) (by decide) ?_
      show Steps p.tables e below (T140.setTop (mkF m 54 #[rv a1, rv a2, rv a2] [])) _
      refine XS.iconst X140.here hx rfl (hb hby own_d9_54) ?_
      show Steps p.tables e below (T140.setTop (mkF m 55 #[rv a1, rv a2, rv a2] [(.int (0 : Int32))])) _
      exact retN X140 hx (t := .boolean) Bd.returns (by simp) (hb hby own_d9_55) hr
    · show QSE_01 Z a1 a2 cw b1 b2 k1 k2 v0 h0 n0 _ T140.heap _
      rw [e140]
      exact ⟨(congrArg (fun z => some (Value.int z)) (hc47.symm : (0 : Int32) = (own_eqL [] [v0]))), N140, rfl⟩
  · obtain ⟨fs, hr, hrun, hended, hW, hsame⟩ := X140.leave (v := some (.int (1 : Int32))) (fun h => by rw [Bd.returns] at h; cases h)
    refine ⟨_, _, pre141 _ ?_, hrun, hended, _, _, rfl, ?_, ⟨_, rfl⟩, hW, hsame.mono (by decide) (by decide)⟩
    · show Steps p.tables e below (T140.setTop (mkF m 47 #[rv a1, rv a2, rv a2] [(.int (own_eqL [] [v0]))])) _
      refine XS.ifNo X140.here hx rfl (hb hby own_d9_47) rfl ((if0 _ _).trans (feq hc47).1) ?_
      show Steps p.tables e below (T140.setTop (mkF m 50 #[rv a1, rv a2, rv a2] [])) _
      refine XS.iconst X140.here hx rfl (hb hby own_d9_50) ?_
      show Steps p.tables e below (T140.setTop (mkF m 51 #[rv a1, rv a2, rv a2] [(.int (1 : Int32))])) _
      refine XS.goto X140.here hx rfl (pc0 := 51) (pc' := 55) rfl (hb hby own_d9_51) (by decide) (by decide) ?_
      show Steps p.tables e below (T140.setTop (mkF m 55 #[rv a1, rv a2, rv a2] [(.int (1 : Int32))])) _
      exact retN X140 hx (t := .boolean) Bd.returns (by simp) (hb hby own_d9_55) hr
    · show QSE_01 Z a1 a2 cw b1 b2 k1 k2 v0 h0 n0 _ T140.heap _
      rw [e140]
      exact ⟨(congrArg (fun z => some (Value.int z)) ((own_eqL1 hc47).symm : (1 : Int32) = (own_eqL [] [v0]))), N140, rfl⟩
theorem own_ef_rmLE_02 (m : MethodId) (a1 : Addr) (a2 : Addr) : entryFrame m #[(.ref a1), (.ref a2)] 3 = mkF m 0 #[.val (.ref a1), .val (.ref a2), .unset] [] := by first | (simp [entryFrame, mkF, argsToLocals, Value.category]; done) | rfl
def QLE_02 (Z : State) (a1 : Addr) (a2 : Addr) (k1 : ClassId) (k2 : ClassId) (v0 : Int32) (v1 : Int32) (h0 : Heap) (n0 : Nat) (v : Option Value) (h : Heap) (L : List Loc) : Prop := v = some (.int (own_eqL [] [v0, v1])) ∧ Fr n0 L ∧ h = h0
set_option maxRecDepth 65536 in
set_option maxHeartbeats 40000000 in
theorem rmLE_02 (l : Launch) (Z : State) (a0 : Array Value) (hw : ∀ d ∈ tables_1, d.before a0 Z = true) (ws : List Jvm.Cond) (a1 : Addr) (a2 : Addr) (k1 : ClassId) (k2 : ClassId) (v0 : Int32) (v1 : Int32) (h0 : Heap) (n0 : Nat) (Z0 : n0 ≤ h0.size) (V_a1 : Arv Z h0 a1 k1 .byte (0 : Int32) [] (.int (0 : Int32))) (V_a2 : Arv Z h0 a2 k2 .byte (2 : Int32) [(.int v0), (.int v1)] (.int (0 : Int32))) :
    MetFree l (⟨"java/lang/StringLatin1", "equals", "([B[B)Z"⟩ : MethodName) (head1 (Jvm.Cond.code (⟨"java/lang/StringLatin1", "equals", "([B[B)Z"⟩ : MethodName) jdk_43_method_13_code 3 (some .boolean) :: ws) ({ frames := 0, cells := 0, slots := 0, locals := 0 } : Room)) (fun a U => a = #[(.ref a1), (.ref a2)] ∧ Z.Warmed39 U.vm ∧ U.heap = h0) (fun _ _ _ _ _ => True) (fun _ U o U' => ∃ v L, o = .returned v ∧ QLE_02 Z a1 a2 k1 k2 v0 v1 h0 n0 v U'.heap L ∧ FrameEnd U o U' L ({ frames := 0, cells := 0, slots := 0, locals := 0 } : Room).cells ({ frames := 0, cells := 0, slots := 0, locals := 0 } : Room).slots) := by
  refine MetFree.of_bodySF (plainFor_of_name own_pn2) hisR ?_
  intro p e s m args below meth c s₁ Bd hml0 hP hK
  obtain ⟨rfl, hZ, hh⟩ := hP
  have hx := Bd.exec
  have hby := Bd.bytes
  have hml : c.maxLocals = 3 := hml0
  have hown : s.vm.findClass "java/lang/StringLatin1" = some m.cls := findClass_of_methodNamed Bd.named
  have hnm := (name_of_methodNamed Bd.named Bd.method).1
  have X0 : Stand p l e ({ frames := 0, cells := 0, slots := 0, locals := 0 } : Room) s m #[(.ref a1), (.ref a2)] below meth c s₁ [] 0 0 := Stand.of_body Bd
  have e0 : s₁.heap = h0 := by rw [← hh, Bd.state]; rfl
  have N0 := Fr.nil n0
  have K0 : Keep h0 h0 [] := Keep.refl h0 _
  have pre0 : ∀ t, Steps p.tables e below (s₁.setTop (mkF m 0 #[.val (.ref a1), .val (.ref a2), .unset] [])) t → Steps p.tables e below (s₁.setTop (entryFrame m #[(.ref a1), (.ref a2)] 3)) t := fun t k => castTop (own_ef_rmLE_02 m a1 a2) k
  obtain ⟨cl142, Ar142, q142, S142, M142, H142, G142⟩ := id V_a1
  obtain ⟨cl143, Ar143, q143, S143, M143, H143, G143⟩ := id V_a2
  obtain ⟨fs, hr, hrun, hended, hW, hsame⟩ := X0.leave (v := some (.int (0 : Int32))) (fun h => by rw [Bd.returns] at h; cases h)
  refine ⟨_, _, pre0 _ ?_, hrun, hended, _, _, rfl, ?_, ⟨_, rfl⟩, hW, hsame.mono (by decide) (by decide)⟩
  · show Steps p.tables e below (s₁.setTop (mkF m 0 #[rv a1, rv a2, .unset] [])) _
    refine XS.aloadN X0.here hx rfl (hb hby own_d10_0) rfl rfl ?_
    show Steps p.tables e below (s₁.setTop (mkF m 1 #[rv a1, rv a2, .unset] [(.ref a1)])) _
    refine X0.arraylength hx (by rw [e0]; exact Ar142.1) (State.isArrayOf_alike hZ.alike Ar142.2.1) (g := (mkF m 1 #[rv a1, rv a2, .unset] [(.ref a1)])) rfl rfl (hb hby own_d10_1) _ ?_
    rw [len_of S142 M142]
    show Steps p.tables e below (s₁.setTop (mkF m 2 #[rv a1, rv a2, .unset] [(.int (0 : Int32))])) _
    refine XS.aloadN X0.here hx rfl (hb hby own_d10_2) rfl rfl ?_
    show Steps p.tables e below (s₁.setTop (mkF m 3 #[rv a1, rv a2, .unset] [(.ref a2), (.int (0 : Int32))])) _
    refine X0.arraylength hx (by rw [e0]; exact Ar143.1) (State.isArrayOf_alike hZ.alike Ar143.2.1) (g := (mkF m 3 #[rv a1, rv a2, .unset] [(.ref a2), (.int (0 : Int32))])) rfl rfl (hb hby own_d10_3) _ ?_
    rw [len_of S143 M143]
    show Steps p.tables e below (s₁.setTop (mkF m 4 #[rv a1, rv a2, .unset] [(.int (2 : Int32)), (.int (0 : Int32))])) _
    refine XS.icmpYes X0.here hx rfl (pc0 := 4) (pc' := 34) rfl (hb hby own_d10_4) rfl (feq (by decide : ¬ ((0 : Int32) = (2 : Int32)))).2 (by decide) (by decide) ?_
    show Steps p.tables e below (s₁.setTop (mkF m 34 #[rv a1, rv a2, .unset] [])) _
    refine XS.iconst X0.here hx rfl (hb hby own_d10_34) ?_
    show Steps p.tables e below (s₁.setTop (mkF m 35 #[rv a1, rv a2, .unset] [(.int (0 : Int32))])) _
    exact retN X0 hx (t := .boolean) Bd.returns (by simp) (hb hby own_d10_35) hr
  · show QLE_02 Z a1 a2 k1 k2 v0 v1 h0 n0 _ s₁.heap _
    rw [e0]
    exact ⟨(congrArg (fun z => some (Value.int z)) (by simp [own_eqL] : (0 : Int32) = (own_eqL [] [v0, v1]))), N0, rfl⟩
theorem own_ef_rmSE_02 (m : MethodId) (a1 : Addr) (a2 : Addr) : entryFrame m #[(.ref a1), (.ref a2)] 3 = mkF m 0 #[.val (.ref a1), .val (.ref a2), .unset] [] := by first | (simp [entryFrame, mkF, argsToLocals, Value.category]; done) | rfl
def QSE_02 (Z : State) (a1 : Addr) (a2 : Addr) (cw : Int32) (b1 : Addr) (b2 : Addr) (k1 : ClassId) (k2 : ClassId) (v0 : Int32) (v1 : Int32) (h0 : Heap) (n0 : Nat) (v : Option Value) (h : Heap) (L : List Loc) : Prop := v = some (.int (own_eqL [] [v0, v1])) ∧ Fr n0 L ∧ h = h0
set_option maxRecDepth 65536 in
set_option maxHeartbeats 40000000 in
theorem rmSE_02 (l : Launch) (Z : State) (a0 : Array Value) (hw : ∀ d ∈ tables_1, d.before a0 Z = true) (ws : List Jvm.Cond) (a1 : Addr) (a2 : Addr) (cw : Int32) (b1 : Addr) (b2 : Addr) (k1 : ClassId) (k2 : ClassId) (v0 : Int32) (v1 : Int32) (h0 : Heap) (n0 : Nat) (Z0 : n0 ≤ h0.size) (E_a2 : Exa Z h0 a2 "java/lang/String") (F_a1_coder : Fld Z h0 a1 "java/lang/String" "coder" "B" (.int (0 : Int32))) (F_a1_value : Fld Z h0 a1 "java/lang/String" "value" "[B" (.ref b1)) (F_a2_coder : Fld Z h0 a2 "java/lang/String" "coder" "B" (.int (0 : Int32))) (F_a2_value : Fld Z h0 a2 "java/lang/String" "value" "[B" (.ref b2)) (V_b1 : Arv Z h0 b1 k1 .byte (0 : Int32) [] (.int (0 : Int32))) (V_b2 : Arv Z h0 b2 k2 .byte (2 : Int32) [(.int v0), (.int v1)] (.int (0 : Int32))) (S_COMPACT_STRINGS : Sta Z h0 "java/lang/String" "COMPACT_STRINGS" "Z" (.int cw)) (hw0 : ¬ (cw = (0 : Int32))) (ne_a1_a2 : a1 ≠ a2) :
    MetFree l (⟨"java/lang/String", "equals", "(Ljava/lang/Object;)Z"⟩ : MethodName) (head1 (Jvm.Cond.code (⟨"java/lang/String", "equals", "(Ljava/lang/Object;)Z"⟩ : MethodName) jdk_42_method_66_code 3 (some .boolean) :: ws) ({ frames := 1, cells := 0, slots := 0, locals := 14 } : Room)) (fun a U => a = #[(.ref a1), (.ref a2)] ∧ Z.Warmed39 U.vm ∧ U.heap = h0) (fun _ _ _ _ _ => True) (fun _ U o U' => ∃ v L, o = .returned v ∧ QSE_02 Z a1 a2 cw b1 b2 k1 k2 v0 v1 h0 n0 v U'.heap L ∧ FrameEnd U o U' L ({ frames := 1, cells := 0, slots := 0, locals := 14 } : Room).cells ({ frames := 1, cells := 0, slots := 0, locals := 14 } : Room).slots) := by
  refine MetFree.of_bodySF (plainFor_of_name own_pn1) hisR ?_
  intro p e s m args below meth c s₁ Bd hml0 hP hK
  obtain ⟨rfl, hZ, hh⟩ := hP
  have hx := Bd.exec
  have hby := Bd.bytes
  have hml : c.maxLocals = 3 := hml0
  have hown : s.vm.findClass "java/lang/String" = some m.cls := findClass_of_methodNamed Bd.named
  have hnm := (name_of_methodNamed Bd.named Bd.method).1
  have X0 : Stand p l e ({ frames := 1, cells := 0, slots := 0, locals := 14 } : Room) s m #[(.ref a1), (.ref a2)] below meth c s₁ [] 0 0 := Stand.of_body Bd
  have e0 : s₁.heap = h0 := by rw [← hh, Bd.state]; rfl
  have N0 := Fr.nil n0
  have K0 : Keep h0 h0 [] := Keep.refl h0 _
  have pre0 : ∀ t, Steps p.tables e below (s₁.setTop (mkF m 0 #[.val (.ref a1), .val (.ref a2), .unset] [])) t → Steps p.tables e below (s₁.setTop (entryFrame m #[(.ref a1), (.ref a2)] 3)) t := fun t k => castTop (own_ef_rmSE_02 m a1 a2) k
  obtain ⟨T144, X144, e144, st144⟩ := instY X0 hx hZ hown (hw _ (List.mem_of_getElem? (i := 26) rfl)) e0 (Ins.self E_a2) (g := (mkF m 8 #[rv a1, rv a2, .unset] [(.ref a2)])) rfl rfl (hb hby own_d9_8)
  obtain ⟨T145, X145, e145, st145⟩ := castY X144 hx hZ hown (hw _ (List.mem_of_getElem? (i := 26) rfl)) e144 (Ins.self E_a2) (g := (mkF m 15 #[rv a1, rv a2, .unset] [(.ref a2)])) rfl rfl (hb hby own_d9_15)
  obtain ⟨T146, X146, e146, st146⟩ := getS2 X145 hx hZ hown (host := "") (Or.inl (hw _ (List.mem_of_getElem? (i := 21) rfl))) Via.refl e145 S_COMPACT_STRINGS (g := (mkF m 19 #[rv a1, rv a2, rv a2] [])) rfl (hb hby own_d9_19)
  have hc22_147 : ¬ (cw = (0 : Int32)) := hw0
  obtain ⟨T148, X148, e148, st148⟩ := getF X146 hx hZ hown (host := "") (Or.inl (hw _ (List.mem_of_getElem? (i := 38) rfl))) Via.refl e146 F_a1_coder (g := (mkF m 26 #[rv a1, rv a2, rv a2] [(.ref a1)])) rfl rfl (hb hby own_d9_26)
  obtain ⟨T149, X149, e149, st149⟩ := getF X148 hx hZ hown (host := "") (Or.inl (hw _ (List.mem_of_getElem? (i := 38) rfl))) Via.refl e148 F_a2_coder (g := (mkF m 30 #[rv a1, rv a2, rv a2] [(.ref a2), (.int (0 : Int32))])) rfl rfl (hb hby own_d9_30)
  obtain ⟨T150, X150, e150, st150⟩ := getF X149 hx hZ hown (host := "") (Or.inl (hw _ (List.mem_of_getElem? (i := 37) rfl))) Via.refl e149 F_a1_value (g := (mkF m 37 #[rv a1, rv a2, rv a2] [(.ref a1)])) rfl rfl (hb hby own_d9_37)
  obtain ⟨T151, X151, e151, st151⟩ := getF X150 hx hZ hown (host := "") (Or.inl (hw _ (List.mem_of_getElem? (i := 37) rfl))) Via.refl e150 F_a2_value (g := (mkF m 41 #[rv a1, rv a2, rv a2] [(.ref a2), (.ref b1)])) rfl rfl (hb hby own_d9_41)
  obtain ⟨_, _, ⟨T152, L152, k152, n152⟩, -, X152, ⟨Lc152, hQ152, l152, y152, z152⟩, st152⟩ := Jvm.LawKit.callS X151 hx (y := (⟨"java/lang/StringLatin1", "equals", "([B[B)Z"⟩ : MethodName)) hown (mvT hZ (hw _ (List.mem_of_getElem? (i := 47) rfl))) (mvT hZ (hw _ (List.mem_of_getElem? (i := 48) rfl))) (mvT hZ (hw _ (List.mem_of_getElem? (i := 24) rfl))) (mvT hZ (hw _ (List.mem_of_getElem? (i := 49) rfl))) (by decide) (backOf (W := 0) (rmLE_02 l Z a0 hw [] b1 b2 k1 k2 v0 v1 h0 n0 (Nat.le_trans Z0 K0.1) V_b1 V_b2) hZ (hw _ (List.mem_of_getElem? (i := 49) rfl)) (hw _ (List.mem_of_getElem? (i := 24) rfl)) (by decide) (by decide)) (g := (mkF m 44 #[rv a1, rv a2, rv a2] [(.ref b2), (.ref b1)])) rfl (by rw [hml]; rfl) (argsL := [(.ref b1), (.ref b2)]) (rest := []) (lenOf own_pd9 rfl) rfl (by show 2 * 0 + _ ≤ _; exact Nat.le_of_eq rfl) (hb hby own_d9_44) (fun _ _ => ⟨rfl, e151, (by decide : 0 + 0 ≤ _), (by decide : 0 + 0 ≤ _)⟩)
  dsimp only [Pt.U, Pt.locs, Pt.cells, Pt.slots] at X152 l152 y152 z152 st152 hQ152
  subst l152 y152 z152
  obtain ⟨rfl, N152q, e152⟩ := hQ152
  have N152 := Fr.app N0 N152q
  have pre153 : ∀ t, Steps p.tables e below (T152.setTop (mkF m 47 #[rv a1, rv a2, rv a2] [(.int (own_eqL [] [v0, v1]))])) t → Steps p.tables e below (s₁.setTop (entryFrame m #[(.ref a1), (.ref a2)] 3)) t := fun t k => by
    refine pre0 _ ?_
    show Steps p.tables e below (s₁.setTop (mkF m 0 #[rv a1, rv a2, .unset] [])) _
    refine XS.aloadN X0.here hx rfl (hb hby own_d9_0) rfl rfl ?_
    show Steps p.tables e below (s₁.setTop (mkF m 1 #[rv a1, rv a2, .unset] [(.ref a1)])) _
    refine XS.aloadN X0.here hx rfl (hb hby own_d9_1) rfl rfl ?_
    show Steps p.tables e below (s₁.setTop (mkF m 2 #[rv a1, rv a2, .unset] [(.ref a2), (.ref a1)])) _
    refine Jvm.RoadKit.acmp (g := (mkF m 2 #[rv a1, rv a2, .unset] [(.ref a2), (.ref a1)])) X0 hx rfl rfl rfl (pc0 := 2) (pc' := 7) (same := false) rfl (hb hby own_d9_2) rfl (decide_eq_false fun q => ne_a1_a2 (Value.ref.inj q)) (by decide) (by decide) ?_
    show Steps p.tables e below (s₁.setTop (mkF m 7 #[rv a1, rv a2, .unset] [])) _
    refine XS.aloadN X0.here hx rfl (hb hby own_d9_7) rfl rfl ?_
    show Steps p.tables e below (s₁.setTop (mkF m 8 #[rv a1, rv a2, .unset] [(.ref a2)])) _
    refine st144 _ ?_
    show Steps p.tables e below (T144.setTop (mkF m 11 #[rv a1, rv a2, .unset] [(.int (1 : Int32))])) _
    refine XS.ifNo X144.here hx rfl (hb hby own_d9_11) rfl ((if0 _ _).trans (feq (by decide : ¬ ((1 : Int32) = (0 : Int32)))).1) ?_
    show Steps p.tables e below (T144.setTop (mkF m 14 #[rv a1, rv a2, .unset] [])) _
    refine XS.aloadN X144.here hx rfl (hb hby own_d9_14) rfl rfl ?_
    show Steps p.tables e below (T144.setTop (mkF m 15 #[rv a1, rv a2, .unset] [(.ref a2)])) _
    refine st145 _ ?_
    show Steps p.tables e below (T145.setTop (mkF m 18 #[rv a1, rv a2, .unset] [(.ref a2)])) _
    refine XS.astoreN X145.here hx rfl (hb hby own_d9_18) rfl rfl (l' := #[rv a1, rv a2, rv a2]) rfl ?_
    show Steps p.tables e below (T145.setTop (mkF m 19 #[rv a1, rv a2, rv a2] [])) _
    refine st146 _ ?_
    show Steps p.tables e below (T146.setTop (mkF m 22 #[rv a1, rv a2, rv a2] [(.int cw)])) _
    refine XS.ifNo X146.here hx rfl (hb hby own_d9_22) rfl ((if0 _ _).trans (feq hc22_147).1) ?_
    show Steps p.tables e below (T146.setTop (mkF m 25 #[rv a1, rv a2, rv a2] [])) _
    refine XS.aloadN X146.here hx rfl (hb hby own_d9_25) rfl rfl ?_
    show Steps p.tables e below (T146.setTop (mkF m 26 #[rv a1, rv a2, rv a2] [(.ref a1)])) _
    refine st148 _ ?_
    show Steps p.tables e below (T148.setTop (mkF m 29 #[rv a1, rv a2, rv a2] [(.int (0 : Int32))])) _
    refine XS.aloadN X148.here hx rfl (hb hby own_d9_29) rfl rfl ?_
    show Steps p.tables e below (T148.setTop (mkF m 30 #[rv a1, rv a2, rv a2] [(.ref a2), (.int (0 : Int32))])) _
    refine st149 _ ?_
    show Steps p.tables e below (T149.setTop (mkF m 33 #[rv a1, rv a2, rv a2] [(.int (0 : Int32)), (.int (0 : Int32))])) _
    refine XS.icmpNo X149.here hx rfl (hb hby own_d9_33) rfl (teq (by decide : ((0 : Int32) = (0 : Int32)))).2 ?_
    show Steps p.tables e below (T149.setTop (mkF m 36 #[rv a1, rv a2, rv a2] [])) _
    refine XS.aloadN X149.here hx rfl (hb hby own_d9_36) rfl rfl ?_
    show Steps p.tables e below (T149.setTop (mkF m 37 #[rv a1, rv a2, rv a2] [(.ref a1)])) _
    refine st150 _ ?_
    show Steps p.tables e below (T150.setTop (mkF m 40 #[rv a1, rv a2, rv a2] [(.ref b1)])) _
    refine XS.aloadN X150.here hx rfl (hb hby own_d9_40) rfl rfl ?_
    show Steps p.tables e below (T150.setTop (mkF m 41 #[rv a1, rv a2, rv a2] [(.ref a2), (.ref b1)])) _
    refine st151 _ ?_
    show Steps p.tables e below (T151.setTop (mkF m 44 #[rv a1, rv a2, rv a2] [(.ref b2), (.ref b1)])) _
    refine st152 _ ?_
    exact k
  by_cases hc47 : (own_eqL [] [v0, v1]) = (0 : Int32)
  · obtain ⟨fs, hr, hrun, hended, hW, hsame⟩ := X152.leave (v := some (.int (0 : Int32))) (fun h => by rw [Bd.returns] at h; cases h)
    refine ⟨_, _, pre153 _ ?_, hrun, hended, _, _, rfl, ?_, ⟨_, rfl⟩, hW, hsame.mono (by decide) (by decide)⟩
    · show Steps p.tables e below (T152.setTop (mkF m 47 #[rv a1, rv a2, rv a2] [(.int (own_eqL [] [v0, v1]))])) _
      refine XS.ifYes X152.here hx rfl (pc0 := 47) (pc' := 54) rfl (hb hby own_d9_47) rfl ((if0 _ _).trans (teq hc47).1) (by decide) (by decide) ?_
      show Steps p.tables e below (T152.setTop (mkF m 54 #[rv a1, rv a2, rv a2] [])) _
      refine XS.iconst X152.here hx rfl (hb hby own_d9_54) ?_
      show Steps p.tables e below (T152.setTop (mkF m 55 #[rv a1, rv a2, rv a2] [(.int (0 : Int32))])) _
      exact retN X152 hx (t := .boolean) Bd.returns (by simp) (hb hby own_d9_55) hr
    · show QSE_02 Z a1 a2 cw b1 b2 k1 k2 v0 v1 h0 n0 _ T152.heap _
      rw [e152]
      exact ⟨(congrArg (fun z => some (Value.int z)) (hc47.symm : (0 : Int32) = (own_eqL [] [v0, v1]))), N152, rfl⟩
  · obtain ⟨fs, hr, hrun, hended, hW, hsame⟩ := X152.leave (v := some (.int (1 : Int32))) (fun h => by rw [Bd.returns] at h; cases h)
    refine ⟨_, _, pre153 _ ?_, hrun, hended, _, _, rfl, ?_, ⟨_, rfl⟩, hW, hsame.mono (by decide) (by decide)⟩
    · show Steps p.tables e below (T152.setTop (mkF m 47 #[rv a1, rv a2, rv a2] [(.int (own_eqL [] [v0, v1]))])) _
      refine XS.ifNo X152.here hx rfl (hb hby own_d9_47) rfl ((if0 _ _).trans (feq hc47).1) ?_
      show Steps p.tables e below (T152.setTop (mkF m 50 #[rv a1, rv a2, rv a2] [])) _
      refine XS.iconst X152.here hx rfl (hb hby own_d9_50) ?_
      show Steps p.tables e below (T152.setTop (mkF m 51 #[rv a1, rv a2, rv a2] [(.int (1 : Int32))])) _
      refine XS.goto X152.here hx rfl (pc0 := 51) (pc' := 55) rfl (hb hby own_d9_51) (by decide) (by decide) ?_
      show Steps p.tables e below (T152.setTop (mkF m 55 #[rv a1, rv a2, rv a2] [(.int (1 : Int32))])) _
      exact retN X152 hx (t := .boolean) Bd.returns (by simp) (hb hby own_d9_55) hr
    · show QSE_02 Z a1 a2 cw b1 b2 k1 k2 v0 v1 h0 n0 _ T152.heap _
      rw [e152]
      exact ⟨(congrArg (fun z => some (Value.int z)) ((own_eqL1 hc47).symm : (1 : Int32) = (own_eqL [] [v0, v1]))), N152, rfl⟩
theorem own_ef_rmLE_03 (m : MethodId) (a1 : Addr) (a2 : Addr) : entryFrame m #[(.ref a1), (.ref a2)] 3 = mkF m 0 #[.val (.ref a1), .val (.ref a2), .unset] [] := by first | (simp [entryFrame, mkF, argsToLocals, Value.category]; done) | rfl
def QLE_03 (Z : State) (a1 : Addr) (a2 : Addr) (k1 : ClassId) (k2 : ClassId) (v0 : Int32) (v1 : Int32) (v2 : Int32) (h0 : Heap) (n0 : Nat) (v : Option Value) (h : Heap) (L : List Loc) : Prop := v = some (.int (own_eqL [] [v0, v1, v2])) ∧ Fr n0 L ∧ h = h0
set_option maxRecDepth 65536 in
set_option maxHeartbeats 40000000 in
theorem rmLE_03 (l : Launch) (Z : State) (a0 : Array Value) (hw : ∀ d ∈ tables_1, d.before a0 Z = true) (ws : List Jvm.Cond) (a1 : Addr) (a2 : Addr) (k1 : ClassId) (k2 : ClassId) (v0 : Int32) (v1 : Int32) (v2 : Int32) (h0 : Heap) (n0 : Nat) (Z0 : n0 ≤ h0.size) (V_a1 : Arv Z h0 a1 k1 .byte (0 : Int32) [] (.int (0 : Int32))) (V_a2 : Arv Z h0 a2 k2 .byte (3 : Int32) [(.int v0), (.int v1), (.int v2)] (.int (0 : Int32))) :
    MetFree l (⟨"java/lang/StringLatin1", "equals", "([B[B)Z"⟩ : MethodName) (head1 (Jvm.Cond.code (⟨"java/lang/StringLatin1", "equals", "([B[B)Z"⟩ : MethodName) jdk_43_method_13_code 3 (some .boolean) :: ws) ({ frames := 0, cells := 0, slots := 0, locals := 0 } : Room)) (fun a U => a = #[(.ref a1), (.ref a2)] ∧ Z.Warmed39 U.vm ∧ U.heap = h0) (fun _ _ _ _ _ => True) (fun _ U o U' => ∃ v L, o = .returned v ∧ QLE_03 Z a1 a2 k1 k2 v0 v1 v2 h0 n0 v U'.heap L ∧ FrameEnd U o U' L ({ frames := 0, cells := 0, slots := 0, locals := 0 } : Room).cells ({ frames := 0, cells := 0, slots := 0, locals := 0 } : Room).slots) := by
  refine MetFree.of_bodySF (plainFor_of_name own_pn2) hisR ?_
  intro p e s m args below meth c s₁ Bd hml0 hP hK
  obtain ⟨rfl, hZ, hh⟩ := hP
  have hx := Bd.exec
  have hby := Bd.bytes
  have hml : c.maxLocals = 3 := hml0
  have hown : s.vm.findClass "java/lang/StringLatin1" = some m.cls := findClass_of_methodNamed Bd.named
  have hnm := (name_of_methodNamed Bd.named Bd.method).1
  have X0 : Stand p l e ({ frames := 0, cells := 0, slots := 0, locals := 0 } : Room) s m #[(.ref a1), (.ref a2)] below meth c s₁ [] 0 0 := Stand.of_body Bd
  have e0 : s₁.heap = h0 := by rw [← hh, Bd.state]; rfl
  have N0 := Fr.nil n0
  have K0 : Keep h0 h0 [] := Keep.refl h0 _
  have pre0 : ∀ t, Steps p.tables e below (s₁.setTop (mkF m 0 #[.val (.ref a1), .val (.ref a2), .unset] [])) t → Steps p.tables e below (s₁.setTop (entryFrame m #[(.ref a1), (.ref a2)] 3)) t := fun t k => castTop (own_ef_rmLE_03 m a1 a2) k
  obtain ⟨cl154, Ar154, q154, S154, M154, H154, G154⟩ := id V_a1
  obtain ⟨cl155, Ar155, q155, S155, M155, H155, G155⟩ := id V_a2
  obtain ⟨fs, hr, hrun, hended, hW, hsame⟩ := X0.leave (v := some (.int (0 : Int32))) (fun h => by rw [Bd.returns] at h; cases h)
  refine ⟨_, _, pre0 _ ?_, hrun, hended, _, _, rfl, ?_, ⟨_, rfl⟩, hW, hsame.mono (by decide) (by decide)⟩
  · show Steps p.tables e below (s₁.setTop (mkF m 0 #[rv a1, rv a2, .unset] [])) _
    refine XS.aloadN X0.here hx rfl (hb hby own_d10_0) rfl rfl ?_
    show Steps p.tables e below (s₁.setTop (mkF m 1 #[rv a1, rv a2, .unset] [(.ref a1)])) _
    refine X0.arraylength hx (by rw [e0]; exact Ar154.1) (State.isArrayOf_alike hZ.alike Ar154.2.1) (g := (mkF m 1 #[rv a1, rv a2, .unset] [(.ref a1)])) rfl rfl (hb hby own_d10_1) _ ?_
    rw [len_of S154 M154]
    show Steps p.tables e below (s₁.setTop (mkF m 2 #[rv a1, rv a2, .unset] [(.int (0 : Int32))])) _
    refine XS.aloadN X0.here hx rfl (hb hby own_d10_2) rfl rfl ?_
    show Steps p.tables e below (s₁.setTop (mkF m 3 #[rv a1, rv a2, .unset] [(.ref a2), (.int (0 : Int32))])) _
    refine X0.arraylength hx (by rw [e0]; exact Ar155.1) (State.isArrayOf_alike hZ.alike Ar155.2.1) (g := (mkF m 3 #[rv a1, rv a2, .unset] [(.ref a2), (.int (0 : Int32))])) rfl rfl (hb hby own_d10_3) _ ?_
    rw [len_of S155 M155]
    show Steps p.tables e below (s₁.setTop (mkF m 4 #[rv a1, rv a2, .unset] [(.int (3 : Int32)), (.int (0 : Int32))])) _
    refine XS.icmpYes X0.here hx rfl (pc0 := 4) (pc' := 34) rfl (hb hby own_d10_4) rfl (feq (by decide : ¬ ((0 : Int32) = (3 : Int32)))).2 (by decide) (by decide) ?_
    show Steps p.tables e below (s₁.setTop (mkF m 34 #[rv a1, rv a2, .unset] [])) _
    refine XS.iconst X0.here hx rfl (hb hby own_d10_34) ?_
    show Steps p.tables e below (s₁.setTop (mkF m 35 #[rv a1, rv a2, .unset] [(.int (0 : Int32))])) _
    exact retN X0 hx (t := .boolean) Bd.returns (by simp) (hb hby own_d10_35) hr
  · show QLE_03 Z a1 a2 k1 k2 v0 v1 v2 h0 n0 _ s₁.heap _
    rw [e0]
    exact ⟨(congrArg (fun z => some (Value.int z)) (by simp [own_eqL] : (0 : Int32) = (own_eqL [] [v0, v1, v2]))), N0, rfl⟩
theorem own_ef_rmSE_03 (m : MethodId) (a1 : Addr) (a2 : Addr) : entryFrame m #[(.ref a1), (.ref a2)] 3 = mkF m 0 #[.val (.ref a1), .val (.ref a2), .unset] [] := by first | (simp [entryFrame, mkF, argsToLocals, Value.category]; done) | rfl
def QSE_03 (Z : State) (a1 : Addr) (a2 : Addr) (cw : Int32) (b1 : Addr) (b2 : Addr) (k1 : ClassId) (k2 : ClassId) (v0 : Int32) (v1 : Int32) (v2 : Int32) (h0 : Heap) (n0 : Nat) (v : Option Value) (h : Heap) (L : List Loc) : Prop := v = some (.int (own_eqL [] [v0, v1, v2])) ∧ Fr n0 L ∧ h = h0
set_option maxRecDepth 65536 in
set_option maxHeartbeats 40000000 in
theorem rmSE_03 (l : Launch) (Z : State) (a0 : Array Value) (hw : ∀ d ∈ tables_1, d.before a0 Z = true) (ws : List Jvm.Cond) (a1 : Addr) (a2 : Addr) (cw : Int32) (b1 : Addr) (b2 : Addr) (k1 : ClassId) (k2 : ClassId) (v0 : Int32) (v1 : Int32) (v2 : Int32) (h0 : Heap) (n0 : Nat) (Z0 : n0 ≤ h0.size) (E_a2 : Exa Z h0 a2 "java/lang/String") (F_a1_coder : Fld Z h0 a1 "java/lang/String" "coder" "B" (.int (0 : Int32))) (F_a1_value : Fld Z h0 a1 "java/lang/String" "value" "[B" (.ref b1)) (F_a2_coder : Fld Z h0 a2 "java/lang/String" "coder" "B" (.int (0 : Int32))) (F_a2_value : Fld Z h0 a2 "java/lang/String" "value" "[B" (.ref b2)) (V_b1 : Arv Z h0 b1 k1 .byte (0 : Int32) [] (.int (0 : Int32))) (V_b2 : Arv Z h0 b2 k2 .byte (3 : Int32) [(.int v0), (.int v1), (.int v2)] (.int (0 : Int32))) (S_COMPACT_STRINGS : Sta Z h0 "java/lang/String" "COMPACT_STRINGS" "Z" (.int cw)) (hw0 : ¬ (cw = (0 : Int32))) (ne_a1_a2 : a1 ≠ a2) :
    MetFree l (⟨"java/lang/String", "equals", "(Ljava/lang/Object;)Z"⟩ : MethodName) (head1 (Jvm.Cond.code (⟨"java/lang/String", "equals", "(Ljava/lang/Object;)Z"⟩ : MethodName) jdk_42_method_66_code 3 (some .boolean) :: ws) ({ frames := 1, cells := 0, slots := 0, locals := 14 } : Room)) (fun a U => a = #[(.ref a1), (.ref a2)] ∧ Z.Warmed39 U.vm ∧ U.heap = h0) (fun _ _ _ _ _ => True) (fun _ U o U' => ∃ v L, o = .returned v ∧ QSE_03 Z a1 a2 cw b1 b2 k1 k2 v0 v1 v2 h0 n0 v U'.heap L ∧ FrameEnd U o U' L ({ frames := 1, cells := 0, slots := 0, locals := 14 } : Room).cells ({ frames := 1, cells := 0, slots := 0, locals := 14 } : Room).slots) := by
  refine MetFree.of_bodySF (plainFor_of_name own_pn1) hisR ?_
  intro p e s m args below meth c s₁ Bd hml0 hP hK
  obtain ⟨rfl, hZ, hh⟩ := hP
  have hx := Bd.exec
  have hby := Bd.bytes
  have hml : c.maxLocals = 3 := hml0
  have hown : s.vm.findClass "java/lang/String" = some m.cls := findClass_of_methodNamed Bd.named
  have hnm := (name_of_methodNamed Bd.named Bd.method).1
  have X0 : Stand p l e ({ frames := 1, cells := 0, slots := 0, locals := 14 } : Room) s m #[(.ref a1), (.ref a2)] below meth c s₁ [] 0 0 := Stand.of_body Bd
  have e0 : s₁.heap = h0 := by rw [← hh, Bd.state]; rfl
  have N0 := Fr.nil n0
  have K0 : Keep h0 h0 [] := Keep.refl h0 _
  have pre0 : ∀ t, Steps p.tables e below (s₁.setTop (mkF m 0 #[.val (.ref a1), .val (.ref a2), .unset] [])) t → Steps p.tables e below (s₁.setTop (entryFrame m #[(.ref a1), (.ref a2)] 3)) t := fun t k => castTop (own_ef_rmSE_03 m a1 a2) k
  obtain ⟨T156, X156, e156, st156⟩ := instY X0 hx hZ hown (hw _ (List.mem_of_getElem? (i := 26) rfl)) e0 (Ins.self E_a2) (g := (mkF m 8 #[rv a1, rv a2, .unset] [(.ref a2)])) rfl rfl (hb hby own_d9_8)
  obtain ⟨T157, X157, e157, st157⟩ := castY X156 hx hZ hown (hw _ (List.mem_of_getElem? (i := 26) rfl)) e156 (Ins.self E_a2) (g := (mkF m 15 #[rv a1, rv a2, .unset] [(.ref a2)])) rfl rfl (hb hby own_d9_15)
  obtain ⟨T158, X158, e158, st158⟩ := getS2 X157 hx hZ hown (host := "") (Or.inl (hw _ (List.mem_of_getElem? (i := 21) rfl))) Via.refl e157 S_COMPACT_STRINGS (g := (mkF m 19 #[rv a1, rv a2, rv a2] [])) rfl (hb hby own_d9_19)
  have hc22_159 : ¬ (cw = (0 : Int32)) := hw0
  obtain ⟨T160, X160, e160, st160⟩ := getF X158 hx hZ hown (host := "") (Or.inl (hw _ (List.mem_of_getElem? (i := 38) rfl))) Via.refl e158 F_a1_coder (g := (mkF m 26 #[rv a1, rv a2, rv a2] [(.ref a1)])) rfl rfl (hb hby own_d9_26)
  obtain ⟨T161, X161, e161, st161⟩ := getF X160 hx hZ hown (host := "") (Or.inl (hw _ (List.mem_of_getElem? (i := 38) rfl))) Via.refl e160 F_a2_coder (g := (mkF m 30 #[rv a1, rv a2, rv a2] [(.ref a2), (.int (0 : Int32))])) rfl rfl (hb hby own_d9_30)
  obtain ⟨T162, X162, e162, st162⟩ := getF X161 hx hZ hown (host := "") (Or.inl (hw _ (List.mem_of_getElem? (i := 37) rfl))) Via.refl e161 F_a1_value (g := (mkF m 37 #[rv a1, rv a2, rv a2] [(.ref a1)])) rfl rfl (hb hby own_d9_37)
  obtain ⟨T163, X163, e163, st163⟩ := getF X162 hx hZ hown (host := "") (Or.inl (hw _ (List.mem_of_getElem? (i := 37) rfl))) Via.refl e162 F_a2_value (g := (mkF m 41 #[rv a1, rv a2, rv a2] [(.ref a2), (.ref b1)])) rfl rfl (hb hby own_d9_41)
  obtain ⟨_, _, ⟨T164, L164, k164, n164⟩, -, X164, ⟨Lc164, hQ164, l164, y164, z164⟩, st164⟩ := Jvm.LawKit.callS X163 hx (y := (⟨"java/lang/StringLatin1", "equals", "([B[B)Z"⟩ : MethodName)) hown (mvT hZ (hw _ (List.mem_of_getElem? (i := 47) rfl))) (mvT hZ (hw _ (List.mem_of_getElem? (i := 48) rfl))) (mvT hZ (hw _ (List.mem_of_getElem? (i := 24) rfl))) (mvT hZ (hw _ (List.mem_of_getElem? (i := 49) rfl))) (by decide) (backOf (W := 0) (rmLE_03 l Z a0 hw [] b1 b2 k1 k2 v0 v1 v2 h0 n0 (Nat.le_trans Z0 K0.1) V_b1 V_b2) hZ (hw _ (List.mem_of_getElem? (i := 49) rfl)) (hw _ (List.mem_of_getElem? (i := 24) rfl)) (by decide) (by decide)) (g := (mkF m 44 #[rv a1, rv a2, rv a2] [(.ref b2), (.ref b1)])) rfl (by rw [hml]; rfl) (argsL := [(.ref b1), (.ref b2)]) (rest := []) (lenOf own_pd9 rfl) rfl (by show 2 * 0 + _ ≤ _; exact Nat.le_of_eq rfl) (hb hby own_d9_44) (fun _ _ => ⟨rfl, e163, (by decide : 0 + 0 ≤ _), (by decide : 0 + 0 ≤ _)⟩)
  dsimp only [Pt.U, Pt.locs, Pt.cells, Pt.slots] at X164 l164 y164 z164 st164 hQ164
  subst l164 y164 z164
  obtain ⟨rfl, N164q, e164⟩ := hQ164
  have N164 := Fr.app N0 N164q
  have pre165 : ∀ t, Steps p.tables e below (T164.setTop (mkF m 47 #[rv a1, rv a2, rv a2] [(.int (own_eqL [] [v0, v1, v2]))])) t → Steps p.tables e below (s₁.setTop (entryFrame m #[(.ref a1), (.ref a2)] 3)) t := fun t k => by
    refine pre0 _ ?_
    show Steps p.tables e below (s₁.setTop (mkF m 0 #[rv a1, rv a2, .unset] [])) _
    refine XS.aloadN X0.here hx rfl (hb hby own_d9_0) rfl rfl ?_
    show Steps p.tables e below (s₁.setTop (mkF m 1 #[rv a1, rv a2, .unset] [(.ref a1)])) _
    refine XS.aloadN X0.here hx rfl (hb hby own_d9_1) rfl rfl ?_
    show Steps p.tables e below (s₁.setTop (mkF m 2 #[rv a1, rv a2, .unset] [(.ref a2), (.ref a1)])) _
    refine Jvm.RoadKit.acmp (g := (mkF m 2 #[rv a1, rv a2, .unset] [(.ref a2), (.ref a1)])) X0 hx rfl rfl rfl (pc0 := 2) (pc' := 7) (same := false) rfl (hb hby own_d9_2) rfl (decide_eq_false fun q => ne_a1_a2 (Value.ref.inj q)) (by decide) (by decide) ?_
    show Steps p.tables e below (s₁.setTop (mkF m 7 #[rv a1, rv a2, .unset] [])) _
    refine XS.aloadN X0.here hx rfl (hb hby own_d9_7) rfl rfl ?_
    show Steps p.tables e below (s₁.setTop (mkF m 8 #[rv a1, rv a2, .unset] [(.ref a2)])) _
    refine st156 _ ?_
    show Steps p.tables e below (T156.setTop (mkF m 11 #[rv a1, rv a2, .unset] [(.int (1 : Int32))])) _
    refine XS.ifNo X156.here hx rfl (hb hby own_d9_11) rfl ((if0 _ _).trans (feq (by decide : ¬ ((1 : Int32) = (0 : Int32)))).1) ?_
    show Steps p.tables e below (T156.setTop (mkF m 14 #[rv a1, rv a2, .unset] [])) _
    refine XS.aloadN X156.here hx rfl (hb hby own_d9_14) rfl rfl ?_
    show Steps p.tables e below (T156.setTop (mkF m 15 #[rv a1, rv a2, .unset] [(.ref a2)])) _
    refine st157 _ ?_
    show Steps p.tables e below (T157.setTop (mkF m 18 #[rv a1, rv a2, .unset] [(.ref a2)])) _
    refine XS.astoreN X157.here hx rfl (hb hby own_d9_18) rfl rfl (l' := #[rv a1, rv a2, rv a2]) rfl ?_
    show Steps p.tables e below (T157.setTop (mkF m 19 #[rv a1, rv a2, rv a2] [])) _
    refine st158 _ ?_
    show Steps p.tables e below (T158.setTop (mkF m 22 #[rv a1, rv a2, rv a2] [(.int cw)])) _
    refine XS.ifNo X158.here hx rfl (hb hby own_d9_22) rfl ((if0 _ _).trans (feq hc22_159).1) ?_
    show Steps p.tables e below (T158.setTop (mkF m 25 #[rv a1, rv a2, rv a2] [])) _
    refine XS.aloadN X158.here hx rfl (hb hby own_d9_25) rfl rfl ?_
    show Steps p.tables e below (T158.setTop (mkF m 26 #[rv a1, rv a2, rv a2] [(.ref a1)])) _
    refine st160 _ ?_
    show Steps p.tables e below (T160.setTop (mkF m 29 #[rv a1, rv a2, rv a2] [(.int (0 : Int32))])) _
    refine XS.aloadN X160.here hx rfl (hb hby own_d9_29) rfl rfl ?_
    show Steps p.tables e below (T160.setTop (mkF m 30 #[rv a1, rv a2, rv a2] [(.ref a2), (.int (0 : Int32))])) _
    refine st161 _ ?_
    show Steps p.tables e below (T161.setTop (mkF m 33 #[rv a1, rv a2, rv a2] [(.int (0 : Int32)), (.int (0 : Int32))])) _
    refine XS.icmpNo X161.here hx rfl (hb hby own_d9_33) rfl (teq (by decide : ((0 : Int32) = (0 : Int32)))).2 ?_
    show Steps p.tables e below (T161.setTop (mkF m 36 #[rv a1, rv a2, rv a2] [])) _
    refine XS.aloadN X161.here hx rfl (hb hby own_d9_36) rfl rfl ?_
    show Steps p.tables e below (T161.setTop (mkF m 37 #[rv a1, rv a2, rv a2] [(.ref a1)])) _
    refine st162 _ ?_
    show Steps p.tables e below (T162.setTop (mkF m 40 #[rv a1, rv a2, rv a2] [(.ref b1)])) _
    refine XS.aloadN X162.here hx rfl (hb hby own_d9_40) rfl rfl ?_
    show Steps p.tables e below (T162.setTop (mkF m 41 #[rv a1, rv a2, rv a2] [(.ref a2), (.ref b1)])) _
    refine st163 _ ?_
    show Steps p.tables e below (T163.setTop (mkF m 44 #[rv a1, rv a2, rv a2] [(.ref b2), (.ref b1)])) _
    refine st164 _ ?_
    exact k
  by_cases hc47 : (own_eqL [] [v0, v1, v2]) = (0 : Int32)
  · obtain ⟨fs, hr, hrun, hended, hW, hsame⟩ := X164.leave (v := some (.int (0 : Int32))) (fun h => by rw [Bd.returns] at h; cases h)
    refine ⟨_, _, pre165 _ ?_, hrun, hended, _, _, rfl, ?_, ⟨_, rfl⟩, hW, hsame.mono (by decide) (by decide)⟩
    · show Steps p.tables e below (T164.setTop (mkF m 47 #[rv a1, rv a2, rv a2] [(.int (own_eqL [] [v0, v1, v2]))])) _
      refine XS.ifYes X164.here hx rfl (pc0 := 47) (pc' := 54) rfl (hb hby own_d9_47) rfl ((if0 _ _).trans (teq hc47).1) (by decide) (by decide) ?_
      show Steps p.tables e below (T164.setTop (mkF m 54 #[rv a1, rv a2, rv a2] [])) _
      refine XS.iconst X164.here hx rfl (hb hby own_d9_54) ?_
      show Steps p.tables e below (T164.setTop (mkF m 55 #[rv a1, rv a2, rv a2] [(.int (0 : Int32))])) _
      exact retN X164 hx (t := .boolean) Bd.returns (by simp) (hb hby own_d9_55) hr
    · show QSE_03 Z a1 a2 cw b1 b2 k1 k2 v0 v1 v2 h0 n0 _ T164.heap _
      rw [e164]
      exact ⟨(congrArg (fun z => some (Value.int z)) (hc47.symm : (0 : Int32) = (own_eqL [] [v0, v1, v2]))), N164, rfl⟩
  · obtain ⟨fs, hr, hrun, hended, hW, hsame⟩ := X164.leave (v := some (.int (1 : Int32))) (fun h => by rw [Bd.returns] at h; cases h)
    refine ⟨_, _, pre165 _ ?_, hrun, hended, _, _, rfl, ?_, ⟨_, rfl⟩, hW, hsame.mono (by decide) (by decide)⟩
    · show Steps p.tables e below (T164.setTop (mkF m 47 #[rv a1, rv a2, rv a2] [(.int (own_eqL [] [v0, v1, v2]))])) _
      refine XS.ifNo X164.here hx rfl (hb hby own_d9_47) rfl ((if0 _ _).trans (feq hc47).1) ?_
      show Steps p.tables e below (T164.setTop (mkF m 50 #[rv a1, rv a2, rv a2] [])) _
      refine XS.iconst X164.here hx rfl (hb hby own_d9_50) ?_
      show Steps p.tables e below (T164.setTop (mkF m 51 #[rv a1, rv a2, rv a2] [(.int (1 : Int32))])) _
      refine XS.goto X164.here hx rfl (pc0 := 51) (pc' := 55) rfl (hb hby own_d9_51) (by decide) (by decide) ?_
      show Steps p.tables e below (T164.setTop (mkF m 55 #[rv a1, rv a2, rv a2] [(.int (1 : Int32))])) _
      exact retN X164 hx (t := .boolean) Bd.returns (by simp) (hb hby own_d9_55) hr
    · show QSE_03 Z a1 a2 cw b1 b2 k1 k2 v0 v1 v2 h0 n0 _ T164.heap _
      rw [e164]
      exact ⟨(congrArg (fun z => some (Value.int z)) ((own_eqL1 hc47).symm : (1 : Int32) = (own_eqL [] [v0, v1, v2]))), N164, rfl⟩
theorem own_ef_rmLE_10 (m : MethodId) (a1 : Addr) (a2 : Addr) : entryFrame m #[(.ref a1), (.ref a2)] 3 = mkF m 0 #[.val (.ref a1), .val (.ref a2), .unset] [] := by first | (simp [entryFrame, mkF, argsToLocals, Value.category]; done) | rfl
def QLE_10 (Z : State) (a1 : Addr) (a2 : Addr) (k1 : ClassId) (k2 : ClassId) (u0 : Int32) (h0 : Heap) (n0 : Nat) (v : Option Value) (h : Heap) (L : List Loc) : Prop := v = some (.int (own_eqL [u0] [])) ∧ Fr n0 L ∧ h = h0
set_option maxRecDepth 65536 in
set_option maxHeartbeats 40000000 in
theorem rmLE_10 (l : Launch) (Z : State) (a0 : Array Value) (hw : ∀ d ∈ tables_1, d.before a0 Z = true) (ws : List Jvm.Cond) (a1 : Addr) (a2 : Addr) (k1 : ClassId) (k2 : ClassId) (u0 : Int32) (h0 : Heap) (n0 : Nat) (Z0 : n0 ≤ h0.size) (V_a1 : Arv Z h0 a1 k1 .byte (1 : Int32) [(.int u0)] (.int (0 : Int32))) (V_a2 : Arv Z h0 a2 k2 .byte (0 : Int32) [] (.int (0 : Int32))) :
    MetFree l (⟨"java/lang/StringLatin1", "equals", "([B[B)Z"⟩ : MethodName) (head1 (Jvm.Cond.code (⟨"java/lang/StringLatin1", "equals", "([B[B)Z"⟩ : MethodName) jdk_43_method_13_code 3 (some .boolean) :: ws) ({ frames := 0, cells := 0, slots := 0, locals := 0 } : Room)) (fun a U => a = #[(.ref a1), (.ref a2)] ∧ Z.Warmed39 U.vm ∧ U.heap = h0) (fun _ _ _ _ _ => True) (fun _ U o U' => ∃ v L, o = .returned v ∧ QLE_10 Z a1 a2 k1 k2 u0 h0 n0 v U'.heap L ∧ FrameEnd U o U' L ({ frames := 0, cells := 0, slots := 0, locals := 0 } : Room).cells ({ frames := 0, cells := 0, slots := 0, locals := 0 } : Room).slots) := by
  refine MetFree.of_bodySF (plainFor_of_name own_pn2) hisR ?_
  intro p e s m args below meth c s₁ Bd hml0 hP hK
  obtain ⟨rfl, hZ, hh⟩ := hP
  have hx := Bd.exec
  have hby := Bd.bytes
  have hml : c.maxLocals = 3 := hml0
  have hown : s.vm.findClass "java/lang/StringLatin1" = some m.cls := findClass_of_methodNamed Bd.named
  have hnm := (name_of_methodNamed Bd.named Bd.method).1
  have X0 : Stand p l e ({ frames := 0, cells := 0, slots := 0, locals := 0 } : Room) s m #[(.ref a1), (.ref a2)] below meth c s₁ [] 0 0 := Stand.of_body Bd
  have e0 : s₁.heap = h0 := by rw [← hh, Bd.state]; rfl
  have N0 := Fr.nil n0
  have K0 : Keep h0 h0 [] := Keep.refl h0 _
  have pre0 : ∀ t, Steps p.tables e below (s₁.setTop (mkF m 0 #[.val (.ref a1), .val (.ref a2), .unset] [])) t → Steps p.tables e below (s₁.setTop (entryFrame m #[(.ref a1), (.ref a2)] 3)) t := fun t k => castTop (own_ef_rmLE_10 m a1 a2) k
  obtain ⟨cl166, Ar166, q166, S166, M166, H166, G166⟩ := id V_a1
  obtain ⟨cl167, Ar167, q167, S167, M167, H167, G167⟩ := id V_a2
  obtain ⟨fs, hr, hrun, hended, hW, hsame⟩ := X0.leave (v := some (.int (0 : Int32))) (fun h => by rw [Bd.returns] at h; cases h)
  refine ⟨_, _, pre0 _ ?_, hrun, hended, _, _, rfl, ?_, ⟨_, rfl⟩, hW, hsame.mono (by decide) (by decide)⟩
  · show Steps p.tables e below (s₁.setTop (mkF m 0 #[rv a1, rv a2, .unset] [])) _
    refine XS.aloadN X0.here hx rfl (hb hby own_d10_0) rfl rfl ?_
    show Steps p.tables e below (s₁.setTop (mkF m 1 #[rv a1, rv a2, .unset] [(.ref a1)])) _
    refine X0.arraylength hx (by rw [e0]; exact Ar166.1) (State.isArrayOf_alike hZ.alike Ar166.2.1) (g := (mkF m 1 #[rv a1, rv a2, .unset] [(.ref a1)])) rfl rfl (hb hby own_d10_1) _ ?_
    rw [len_of S166 M166]
    show Steps p.tables e below (s₁.setTop (mkF m 2 #[rv a1, rv a2, .unset] [(.int (1 : Int32))])) _
    refine XS.aloadN X0.here hx rfl (hb hby own_d10_2) rfl rfl ?_
    show Steps p.tables e below (s₁.setTop (mkF m 3 #[rv a1, rv a2, .unset] [(.ref a2), (.int (1 : Int32))])) _
    refine X0.arraylength hx (by rw [e0]; exact Ar167.1) (State.isArrayOf_alike hZ.alike Ar167.2.1) (g := (mkF m 3 #[rv a1, rv a2, .unset] [(.ref a2), (.int (1 : Int32))])) rfl rfl (hb hby own_d10_3) _ ?_
    rw [len_of S167 M167]
    show Steps p.tables e below (s₁.setTop (mkF m 4 #[rv a1, rv a2, .unset] [(.int (0 : Int32)), (.int (1 : Int32))])) _
    refine XS.icmpYes X0.here hx rfl (pc0 := 4) (pc' := 34) rfl (hb hby own_d10_4) rfl (feq (by decide : ¬ ((1 : Int32) = (0 : Int32)))).2 (by decide) (by decide) ?_
    show Steps p.tables e below (s₁.setTop (mkF m 34 #[rv a1, rv a2, .unset] [])) _
    refine XS.iconst X0.here hx rfl (hb hby own_d10_34) ?_
    show Steps p.tables e below (s₁.setTop (mkF m 35 #[rv a1, rv a2, .unset] [(.int (0 : Int32))])) _
    exact retN X0 hx (t := .boolean) Bd.returns (by simp) (hb hby own_d10_35) hr
  · show QLE_10 Z a1 a2 k1 k2 u0 h0 n0 _ s₁.heap _
    rw [e0]
    exact ⟨(congrArg (fun z => some (Value.int z)) (by simp [own_eqL] : (0 : Int32) = (own_eqL [u0] []))), N0, rfl⟩
theorem own_ef_rmSE_10 (m : MethodId) (a1 : Addr) (a2 : Addr) : entryFrame m #[(.ref a1), (.ref a2)] 3 = mkF m 0 #[.val (.ref a1), .val (.ref a2), .unset] [] := by first | (simp [entryFrame, mkF, argsToLocals, Value.category]; done) | rfl
def QSE_10 (Z : State) (a1 : Addr) (a2 : Addr) (cw : Int32) (b1 : Addr) (b2 : Addr) (k1 : ClassId) (k2 : ClassId) (u0 : Int32) (h0 : Heap) (n0 : Nat) (v : Option Value) (h : Heap) (L : List Loc) : Prop := v = some (.int (own_eqL [u0] [])) ∧ Fr n0 L ∧ h = h0
set_option maxRecDepth 65536 in
set_option maxHeartbeats 40000000 in
theorem rmSE_10 (l : Launch) (Z : State) (a0 : Array Value) (hw : ∀ d ∈ tables_1, d.before a0 Z = true) (ws : List Jvm.Cond) (a1 : Addr) (a2 : Addr) (cw : Int32) (b1 : Addr) (b2 : Addr) (k1 : ClassId) (k2 : ClassId) (u0 : Int32) (h0 : Heap) (n0 : Nat) (Z0 : n0 ≤ h0.size) (E_a2 : Exa Z h0 a2 "java/lang/String") (F_a1_coder : Fld Z h0 a1 "java/lang/String" "coder" "B" (.int (0 : Int32))) (F_a1_value : Fld Z h0 a1 "java/lang/String" "value" "[B" (.ref b1)) (F_a2_coder : Fld Z h0 a2 "java/lang/String" "coder" "B" (.int (0 : Int32))) (F_a2_value : Fld Z h0 a2 "java/lang/String" "value" "[B" (.ref b2)) (V_b1 : Arv Z h0 b1 k1 .byte (1 : Int32) [(.int u0)] (.int (0 : Int32))) (V_b2 : Arv Z h0 b2 k2 .byte (0 : Int32) [] (.int (0 : Int32))) (S_COMPACT_STRINGS : Sta Z h0 "java/lang/String" "COMPACT_STRINGS" "Z" (.int cw)) (hw0 : ¬ (cw = (0 : Int32))) (ne_a1_a2 : a1 ≠ a2) :
    MetFree l (⟨"java/lang/String", "equals", "(Ljava/lang/Object;)Z"⟩ : MethodName) (head1 (Jvm.Cond.code (⟨"java/lang/String", "equals", "(Ljava/lang/Object;)Z"⟩ : MethodName) jdk_42_method_66_code 3 (some .boolean) :: ws) ({ frames := 1, cells := 0, slots := 0, locals := 14 } : Room)) (fun a U => a = #[(.ref a1), (.ref a2)] ∧ Z.Warmed39 U.vm ∧ U.heap = h0) (fun _ _ _ _ _ => True) (fun _ U o U' => ∃ v L, o = .returned v ∧ QSE_10 Z a1 a2 cw b1 b2 k1 k2 u0 h0 n0 v U'.heap L ∧ FrameEnd U o U' L ({ frames := 1, cells := 0, slots := 0, locals := 14 } : Room).cells ({ frames := 1, cells := 0, slots := 0, locals := 14 } : Room).slots) := by
  refine MetFree.of_bodySF (plainFor_of_name own_pn1) hisR ?_
  intro p e s m args below meth c s₁ Bd hml0 hP hK
  obtain ⟨rfl, hZ, hh⟩ := hP
  have hx := Bd.exec
  have hby := Bd.bytes
  have hml : c.maxLocals = 3 := hml0
  have hown : s.vm.findClass "java/lang/String" = some m.cls := findClass_of_methodNamed Bd.named
  have hnm := (name_of_methodNamed Bd.named Bd.method).1
  have X0 : Stand p l e ({ frames := 1, cells := 0, slots := 0, locals := 14 } : Room) s m #[(.ref a1), (.ref a2)] below meth c s₁ [] 0 0 := Stand.of_body Bd
  have e0 : s₁.heap = h0 := by rw [← hh, Bd.state]; rfl
  have N0 := Fr.nil n0
  have K0 : Keep h0 h0 [] := Keep.refl h0 _
  have pre0 : ∀ t, Steps p.tables e below (s₁.setTop (mkF m 0 #[.val (.ref a1), .val (.ref a2), .unset] [])) t → Steps p.tables e below (s₁.setTop (entryFrame m #[(.ref a1), (.ref a2)] 3)) t := fun t k => castTop (own_ef_rmSE_10 m a1 a2) k
  obtain ⟨T168, X168, e168, st168⟩ := instY X0 hx hZ hown (hw _ (List.mem_of_getElem? (i := 26) rfl)) e0 (Ins.self E_a2) (g := (mkF m 8 #[rv a1, rv a2, .unset] [(.ref a2)])) rfl rfl (hb hby own_d9_8)
  obtain ⟨T169, X169, e169, st169⟩ := castY X168 hx hZ hown (hw _ (List.mem_of_getElem? (i := 26) rfl)) e168 (Ins.self E_a2) (g := (mkF m 15 #[rv a1, rv a2, .unset] [(.ref a2)])) rfl rfl (hb hby own_d9_15)
  obtain ⟨T170, X170, e170, st170⟩ := getS2 X169 hx hZ hown (host := "") (Or.inl (hw _ (List.mem_of_getElem? (i := 21) rfl))) Via.refl e169 S_COMPACT_STRINGS (g := (mkF m 19 #[rv a1, rv a2, rv a2] [])) rfl (hb hby own_d9_19)
  have hc22_171 : ¬ (cw = (0 : Int32)) := hw0
  obtain ⟨T172, X172, e172, st172⟩ := getF X170 hx hZ hown (host := "") (Or.inl (hw _ (List.mem_of_getElem? (i := 38) rfl))) Via.refl e170 F_a1_coder (g := (mkF m 26 #[rv a1, rv a2, rv a2] [(.ref a1)])) rfl rfl (hb hby own_d9_26)
  obtain ⟨T173, X173, e173, st173⟩ := getF X172 hx hZ hown (host := "") (Or.inl (hw _ (List.mem_of_getElem? (i := 38) rfl))) Via.refl e172 F_a2_coder (g := (mkF m 30 #[rv a1, rv a2, rv a2] [(.ref a2), (.int (0 : Int32))])) rfl rfl (hb hby own_d9_30)
  obtain ⟨T174, X174, e174, st174⟩ := getF X173 hx hZ hown (host := "") (Or.inl (hw _ (List.mem_of_getElem? (i := 37) rfl))) Via.refl e173 F_a1_value (g := (mkF m 37 #[rv a1, rv a2, rv a2] [(.ref a1)])) rfl rfl (hb hby own_d9_37)
  obtain ⟨T175, X175, e175, st175⟩ := getF X174 hx hZ hown (host := "") (Or.inl (hw _ (List.mem_of_getElem? (i := 37) rfl))) Via.refl e174 F_a2_value (g := (mkF m 41 #[rv a1, rv a2, rv a2] [(.ref a2), (.ref b1)])) rfl rfl (hb hby own_d9_41)
  obtain ⟨_, _, ⟨T176, L176, k176, n176⟩, -, X176, ⟨Lc176, hQ176, l176, y176, z176⟩, st176⟩ := Jvm.LawKit.callS X175 hx (y := (⟨"java/lang/StringLatin1", "equals", "([B[B)Z"⟩ : MethodName)) hown (mvT hZ (hw _ (List.mem_of_getElem? (i := 47) rfl))) (mvT hZ (hw _ (List.mem_of_getElem? (i := 48) rfl))) (mvT hZ (hw _ (List.mem_of_getElem? (i := 24) rfl))) (mvT hZ (hw _ (List.mem_of_getElem? (i := 49) rfl))) (by decide) (backOf (W := 0) (rmLE_10 l Z a0 hw [] b1 b2 k1 k2 u0 h0 n0 (Nat.le_trans Z0 K0.1) V_b1 V_b2) hZ (hw _ (List.mem_of_getElem? (i := 49) rfl)) (hw _ (List.mem_of_getElem? (i := 24) rfl)) (by decide) (by decide)) (g := (mkF m 44 #[rv a1, rv a2, rv a2] [(.ref b2), (.ref b1)])) rfl (by rw [hml]; rfl) (argsL := [(.ref b1), (.ref b2)]) (rest := []) (lenOf own_pd9 rfl) rfl (by show 2 * 0 + _ ≤ _; exact Nat.le_of_eq rfl) (hb hby own_d9_44) (fun _ _ => ⟨rfl, e175, (by decide : 0 + 0 ≤ _), (by decide : 0 + 0 ≤ _)⟩)
  dsimp only [Pt.U, Pt.locs, Pt.cells, Pt.slots] at X176 l176 y176 z176 st176 hQ176
  subst l176 y176 z176
  obtain ⟨rfl, N176q, e176⟩ := hQ176
  have N176 := Fr.app N0 N176q
  have pre177 : ∀ t, Steps p.tables e below (T176.setTop (mkF m 47 #[rv a1, rv a2, rv a2] [(.int (own_eqL [u0] []))])) t → Steps p.tables e below (s₁.setTop (entryFrame m #[(.ref a1), (.ref a2)] 3)) t := fun t k => by
    refine pre0 _ ?_
    show Steps p.tables e below (s₁.setTop (mkF m 0 #[rv a1, rv a2, .unset] [])) _
    refine XS.aloadN X0.here hx rfl (hb hby own_d9_0) rfl rfl ?_
    show Steps p.tables e below (s₁.setTop (mkF m 1 #[rv a1, rv a2, .unset] [(.ref a1)])) _
    refine XS.aloadN X0.here hx rfl (hb hby own_d9_1) rfl rfl ?_
    show Steps p.tables e below (s₁.setTop (mkF m 2 #[rv a1, rv a2, .unset] [(.ref a2), (.ref a1)])) _
    refine Jvm.RoadKit.acmp (g := (mkF m 2 #[rv a1, rv a2, .unset] [(.ref a2), (.ref a1)])) X0 hx rfl rfl rfl (pc0 := 2) (pc' := 7) (same := false) rfl (hb hby own_d9_2) rfl (decide_eq_false fun q => ne_a1_a2 (Value.ref.inj q)) (by decide) (by decide) ?_
    show Steps p.tables e below (s₁.setTop (mkF m 7 #[rv a1, rv a2, .unset] [])) _
    refine XS.aloadN X0.here hx rfl (hb hby own_d9_7) rfl rfl ?_
    show Steps p.tables e below (s₁.setTop (mkF m 8 #[rv a1, rv a2, .unset] [(.ref a2)])) _
    refine st168 _ ?_
    show Steps p.tables e below (T168.setTop (mkF m 11 #[rv a1, rv a2, .unset] [(.int (1 : Int32))])) _
    refine XS.ifNo X168.here hx rfl (hb hby own_d9_11) rfl ((if0 _ _).trans (feq (by decide : ¬ ((1 : Int32) = (0 : Int32)))).1) ?_
    show Steps p.tables e below (T168.setTop (mkF m 14 #[rv a1, rv a2, .unset] [])) _
    refine XS.aloadN X168.here hx rfl (hb hby own_d9_14) rfl rfl ?_
    show Steps p.tables e below (T168.setTop (mkF m 15 #[rv a1, rv a2, .unset] [(.ref a2)])) _
    refine st169 _ ?_
    show Steps p.tables e below (T169.setTop (mkF m 18 #[rv a1, rv a2, .unset] [(.ref a2)])) _
    refine XS.astoreN X169.here hx rfl (hb hby own_d9_18) rfl rfl (l' := #[rv a1, rv a2, rv a2]) rfl ?_
    show Steps p.tables e below (T169.setTop (mkF m 19 #[rv a1, rv a2, rv a2] [])) _
    refine st170 _ ?_
    show Steps p.tables e below (T170.setTop (mkF m 22 #[rv a1, rv a2, rv a2] [(.int cw)])) _
    refine XS.ifNo X170.here hx rfl (hb hby own_d9_22) rfl ((if0 _ _).trans (feq hc22_171).1) ?_
    show Steps p.tables e below (T170.setTop (mkF m 25 #[rv a1, rv a2, rv a2] [])) _
    refine XS.aloadN X170.here hx rfl (hb hby own_d9_25) rfl rfl ?_
    show Steps p.tables e below (T170.setTop (mkF m 26 #[rv a1, rv a2, rv a2] [(.ref a1)])) _
    refine st172 _ ?_
    show Steps p.tables e below (T172.setTop (mkF m 29 #[rv a1, rv a2, rv a2] [(.int (0 : Int32))])) _
    refine XS.aloadN X172.here hx rfl (hb hby own_d9_29) rfl rfl ?_
    show Steps p.tables e below (T172.setTop (mkF m 30 #[rv a1, rv a2, rv a2] [(.ref a2), (.int (0 : Int32))])) _
    refine st173 _ ?_
    show Steps p.tables e below (T173.setTop (mkF m 33 #[rv a1, rv a2, rv a2] [(.int (0 : Int32)), (.int (0 : Int32))])) _
    refine XS.icmpNo X173.here hx rfl (hb hby own_d9_33) rfl (teq (by decide : ((0 : Int32) = (0 : Int32)))).2 ?_
    show Steps p.tables e below (T173.setTop (mkF m 36 #[rv a1, rv a2, rv a2] [])) _
    refine XS.aloadN X173.here hx rfl (hb hby own_d9_36) rfl rfl ?_
    show Steps p.tables e below (T173.setTop (mkF m 37 #[rv a1, rv a2, rv a2] [(.ref a1)])) _
    refine st174 _ ?_
    show Steps p.tables e below (T174.setTop (mkF m 40 #[rv a1, rv a2, rv a2] [(.ref b1)])) _
    refine XS.aloadN X174.here hx rfl (hb hby own_d9_40) rfl rfl ?_
    show Steps p.tables e below (T174.setTop (mkF m 41 #[rv a1, rv a2, rv a2] [(.ref a2), (.ref b1)])) _
    refine st175 _ ?_
    show Steps p.tables e below (T175.setTop (mkF m 44 #[rv a1, rv a2, rv a2] [(.ref b2), (.ref b1)])) _
    refine st176 _ ?_
    exact k
  by_cases hc47 : (own_eqL [u0] []) = (0 : Int32)
  · obtain ⟨fs, hr, hrun, hended, hW, hsame⟩ := X176.leave (v := some (.int (0 : Int32))) (fun h => by rw [Bd.returns] at h; cases h)
    refine ⟨_, _, pre177 _ ?_, hrun, hended, _, _, rfl, ?_, ⟨_, rfl⟩, hW, hsame.mono (by decide) (by decide)⟩
    · show Steps p.tables e below (T176.setTop (mkF m 47 #[rv a1, rv a2, rv a2] [(.int (own_eqL [u0] []))])) _
      refine XS.ifYes X176.here hx rfl (pc0 := 47) (pc' := 54) rfl (hb hby own_d9_47) rfl ((if0 _ _).trans (teq hc47).1) (by decide) (by decide) ?_
      show Steps p.tables e below (T176.setTop (mkF m 54 #[rv a1, rv a2, rv a2] [])) _
      refine XS.iconst X176.here hx rfl (hb hby own_d9_54) ?_
      show Steps p.tables e below (T176.setTop (mkF m 55 #[rv a1, rv a2, rv a2] [(.int (0 : Int32))])) _
      exact retN X176 hx (t := .boolean) Bd.returns (by simp) (hb hby own_d9_55) hr
    · show QSE_10 Z a1 a2 cw b1 b2 k1 k2 u0 h0 n0 _ T176.heap _
      rw [e176]
      exact ⟨(congrArg (fun z => some (Value.int z)) (hc47.symm : (0 : Int32) = (own_eqL [u0] []))), N176, rfl⟩
  · obtain ⟨fs, hr, hrun, hended, hW, hsame⟩ := X176.leave (v := some (.int (1 : Int32))) (fun h => by rw [Bd.returns] at h; cases h)
    refine ⟨_, _, pre177 _ ?_, hrun, hended, _, _, rfl, ?_, ⟨_, rfl⟩, hW, hsame.mono (by decide) (by decide)⟩
    · show Steps p.tables e below (T176.setTop (mkF m 47 #[rv a1, rv a2, rv a2] [(.int (own_eqL [u0] []))])) _
      refine XS.ifNo X176.here hx rfl (hb hby own_d9_47) rfl ((if0 _ _).trans (feq hc47).1) ?_
      show Steps p.tables e below (T176.setTop (mkF m 50 #[rv a1, rv a2, rv a2] [])) _
      refine XS.iconst X176.here hx rfl (hb hby own_d9_50) ?_
      show Steps p.tables e below (T176.setTop (mkF m 51 #[rv a1, rv a2, rv a2] [(.int (1 : Int32))])) _
      refine XS.goto X176.here hx rfl (pc0 := 51) (pc' := 55) rfl (hb hby own_d9_51) (by decide) (by decide) ?_
      show Steps p.tables e below (T176.setTop (mkF m 55 #[rv a1, rv a2, rv a2] [(.int (1 : Int32))])) _
      exact retN X176 hx (t := .boolean) Bd.returns (by simp) (hb hby own_d9_55) hr
    · show QSE_10 Z a1 a2 cw b1 b2 k1 k2 u0 h0 n0 _ T176.heap _
      rw [e176]
      exact ⟨(congrArg (fun z => some (Value.int z)) ((own_eqL1 hc47).symm : (1 : Int32) = (own_eqL [u0] []))), N176, rfl⟩
theorem own_d10_15 : decode jdk_43_method_13_code 15 = .ok (.aload_n 0, 1) := by decide +kernel
theorem own_d10_16 : decode jdk_43_method_13_code 16 = .ok (.iload_n 2, 1) := by decide +kernel
theorem own_d10_17 : decode jdk_43_method_13_code 17 = .ok (.baload, 1) := by decide +kernel
theorem own_d10_18 : decode jdk_43_method_13_code 18 = .ok (.aload_n 1, 1) := by decide +kernel
theorem own_d10_19 : decode jdk_43_method_13_code 19 = .ok (.iload_n 2, 1) := by decide +kernel
theorem own_d10_20 : decode jdk_43_method_13_code 20 = .ok (.baload, 1) := by decide +kernel
theorem own_d10_21 : decode jdk_43_method_13_code 21 = .ok (.if_icmp .eq 5, 3) := by decide +kernel
theorem own_d10_26 : decode jdk_43_method_13_code 26 = .ok (.iinc 2 1, 3) := by decide +kernel
theorem own_d10_29 : decode jdk_43_method_13_code 29 = .ok (.goto (-20), 3) := by decide +kernel
theorem own_d10_24 : decode jdk_43_method_13_code 24 = .ok (.iconst 0, 1) := by decide +kernel
theorem own_d10_25 : decode jdk_43_method_13_code 25 = .ok (.ireturn, 1) := by decide +kernel
theorem own_ef_rmLE_11 (m : MethodId) (a1 : Addr) (a2 : Addr) : entryFrame m #[(.ref a1), (.ref a2)] 3 = mkF m 0 #[.val (.ref a1), .val (.ref a2), .unset] [] := by first | (simp [entryFrame, mkF, argsToLocals, Value.category]; done) | rfl
def QLE_11 (Z : State) (a1 : Addr) (a2 : Addr) (k1 : ClassId) (k2 : ClassId) (u0 : Int32) (v0 : Int32) (h0 : Heap) (n0 : Nat) (v : Option Value) (h : Heap) (L : List Loc) : Prop := v = some (.int (own_eqL [u0] [v0])) ∧ Fr n0 L ∧ h = h0
set_option maxRecDepth 65536 in
set_option maxHeartbeats 40000000 in
theorem rmLE_11 (l : Launch) (Z : State) (a0 : Array Value) (hw : ∀ d ∈ tables_1, d.before a0 Z = true) (ws : List Jvm.Cond) (a1 : Addr) (a2 : Addr) (k1 : ClassId) (k2 : ClassId) (u0 : Int32) (v0 : Int32) (h0 : Heap) (n0 : Nat) (Z0 : n0 ≤ h0.size) (V_a1 : Arv Z h0 a1 k1 .byte (1 : Int32) [(.int u0)] (.int (0 : Int32))) (V_a2 : Arv Z h0 a2 k2 .byte (1 : Int32) [(.int v0)] (.int (0 : Int32))) :
    MetFree l (⟨"java/lang/StringLatin1", "equals", "([B[B)Z"⟩ : MethodName) (head1 (Jvm.Cond.code (⟨"java/lang/StringLatin1", "equals", "([B[B)Z"⟩ : MethodName) jdk_43_method_13_code 3 (some .boolean) :: ws) ({ frames := 0, cells := 0, slots := 0, locals := 0 } : Room)) (fun a U => a = #[(.ref a1), (.ref a2)] ∧ Z.Warmed39 U.vm ∧ U.heap = h0) (fun _ _ _ _ _ => True) (fun _ U o U' => ∃ v L, o = .returned v ∧ QLE_11 Z a1 a2 k1 k2 u0 v0 h0 n0 v U'.heap L ∧ FrameEnd U o U' L ({ frames := 0, cells := 0, slots := 0, locals := 0 } : Room).cells ({ frames := 0, cells := 0, slots := 0, locals := 0 } : Room).slots) := by
  refine MetFree.of_bodySF (plainFor_of_name own_pn2) hisR ?_
  intro p e s m args below meth c s₁ Bd hml0 hP hK
  obtain ⟨rfl, hZ, hh⟩ := hP
  have hx := Bd.exec
  have hby := Bd.bytes
  have hml : c.maxLocals = 3 := hml0
  have hown : s.vm.findClass "java/lang/StringLatin1" = some m.cls := findClass_of_methodNamed Bd.named
  have hnm := (name_of_methodNamed Bd.named Bd.method).1
  have X0 : Stand p l e ({ frames := 0, cells := 0, slots := 0, locals := 0 } : Room) s m #[(.ref a1), (.ref a2)] below meth c s₁ [] 0 0 := Stand.of_body Bd
  have e0 : s₁.heap = h0 := by rw [← hh, Bd.state]; rfl
  have N0 := Fr.nil n0
  have K0 : Keep h0 h0 [] := Keep.refl h0 _
  have pre0 : ∀ t, Steps p.tables e below (s₁.setTop (mkF m 0 #[.val (.ref a1), .val (.ref a2), .unset] [])) t → Steps p.tables e below (s₁.setTop (entryFrame m #[(.ref a1), (.ref a2)] 3)) t := fun t k => castTop (own_ef_rmLE_11 m a1 a2) k
  obtain ⟨cl178, Ar178, q178, S178, M178, H178, G178⟩ := id V_a1
  obtain ⟨cl179, Ar179, q179, S179, M179, H179, G179⟩ := id V_a2
  obtain ⟨cl180, Ar180, q180, S180, M180, H180, G180⟩ := id V_a1
  obtain ⟨cl181, Ar181, q181, S181, M181, H181, G181⟩ := id V_a1
  have hin181 : ¬ ((0 : Int32) < 0 ∨ cl181.slots.size ≤ ((0 : Int32)).toNatClampNeg) := inb_of S181 ⟨by decide, by decide⟩
  have hat181 : cl181.slots[((0 : Int32)).toNatClampNeg]? = some (.int u0) := Has.at H181 hin181 rfl
  obtain ⟨cl182, Ar182, q182, S182, M182, H182, G182⟩ := id V_a2
  have hin182 : ¬ ((0 : Int32) < 0 ∨ cl182.slots.size ≤ ((0 : Int32)).toNatClampNeg) := inb_of S182 ⟨by decide, by decide⟩
  have hat182 : cl182.slots[((0 : Int32)).toNatClampNeg]? = some (.int v0) := Has.at H182 hin182 rfl
  have pre183 : ∀ t, Steps p.tables e below (s₁.setTop (mkF m 21 #[rv a1, rv a2, iv (0 : Int32)] [(.int v0), (.int u0)])) t → Steps p.tables e below (s₁.setTop (entryFrame m #[(.ref a1), (.ref a2)] 3)) t := fun t k => by
    refine pre0 _ ?_
    show Steps p.tables e below (s₁.setTop (mkF m 0 #[rv a1, rv a2, .unset] [])) _
    refine XS.aloadN X0.here hx rfl (hb hby own_d10_0) rfl rfl ?_
    show Steps p.tables e below (s₁.setTop (mkF m 1 #[rv a1, rv a2, .unset] [(.ref a1)])) _
    refine X0.arraylength hx (by rw [e0]; exact Ar178.1) (State.isArrayOf_alike hZ.alike Ar178.2.1) (g := (mkF m 1 #[rv a1, rv a2, .unset] [(.ref a1)])) rfl rfl (hb hby own_d10_1) _ ?_
    rw [len_of S178 M178]
    show Steps p.tables e below (s₁.setTop (mkF m 2 #[rv a1, rv a2, .unset] [(.int (1 : Int32))])) _
    refine XS.aloadN X0.here hx rfl (hb hby own_d10_2) rfl rfl ?_
    show Steps p.tables e below (s₁.setTop (mkF m 3 #[rv a1, rv a2, .unset] [(.ref a2), (.int (1 : Int32))])) _
    refine X0.arraylength hx (by rw [e0]; exact Ar179.1) (State.isArrayOf_alike hZ.alike Ar179.2.1) (g := (mkF m 3 #[rv a1, rv a2, .unset] [(.ref a2), (.int (1 : Int32))])) rfl rfl (hb hby own_d10_3) _ ?_
    rw [len_of S179 M179]
    show Steps p.tables e below (s₁.setTop (mkF m 4 #[rv a1, rv a2, .unset] [(.int (1 : Int32)), (.int (1 : Int32))])) _
    refine XS.icmpNo X0.here hx rfl (hb hby own_d10_4) rfl (teq (by decide : ((1 : Int32) = (1 : Int32)))).2 ?_
    show Steps p.tables e below (s₁.setTop (mkF m 7 #[rv a1, rv a2, .unset] [])) _
    refine XS.iconst X0.here hx rfl (hb hby own_d10_7) ?_
    show Steps p.tables e below (s₁.setTop (mkF m 8 #[rv a1, rv a2, .unset] [(.int (0 : Int32))])) _
    refine XS.istoreN X0.here hx rfl (hb hby own_d10_8) rfl (l' := #[rv a1, rv a2, iv (0 : Int32)]) rfl ?_
    show Steps p.tables e below (s₁.setTop (mkF m 9 #[rv a1, rv a2, iv (0 : Int32)] [])) _
    refine XS.iloadN X0.here hx rfl (hb hby own_d10_9) rfl ?_
    show Steps p.tables e below (s₁.setTop (mkF m 10 #[rv a1, rv a2, iv (0 : Int32)] [(.int (0 : Int32))])) _
    refine XS.aloadN X0.here hx rfl (hb hby own_d10_10) rfl rfl ?_
    show Steps p.tables e below (s₁.setTop (mkF m 11 #[rv a1, rv a2, iv (0 : Int32)] [(.ref a1), (.int (0 : Int32))])) _
    refine X0.arraylength hx (by rw [e0]; exact Ar180.1) (State.isArrayOf_alike hZ.alike Ar180.2.1) (g := (mkF m 11 #[rv a1, rv a2, iv (0 : Int32)] [(.ref a1), (.int (0 : Int32))])) rfl rfl (hb hby own_d10_11) _ ?_
    rw [len_of S180 M180]
    show Steps p.tables e below (s₁.setTop (mkF m 12 #[rv a1, rv a2, iv (0 : Int32)] [(.int (1 : Int32)), (.int (0 : Int32))])) _
    refine XS.icmpNo X0.here hx rfl (hb hby own_d10_12) rfl (tlt (by decide : ((0 : Int32) < (1 : Int32)))).2.1 ?_
    show Steps p.tables e below (s₁.setTop (mkF m 15 #[rv a1, rv a2, iv (0 : Int32)] [])) _
    refine XS.aloadN X0.here hx rfl (hb hby own_d10_15) rfl rfl ?_
    show Steps p.tables e below (s₁.setTop (mkF m 16 #[rv a1, rv a2, iv (0 : Int32)] [(.ref a1)])) _
    refine XS.iloadN X0.here hx rfl (hb hby own_d10_16) rfl ?_
    show Steps p.tables e below (s₁.setTop (mkF m 17 #[rv a1, rv a2, iv (0 : Int32)] [(.int (0 : Int32)), (.ref a1)])) _
    refine X0.baloadBytes hx (j := (0 : Int32)) (v := (.int u0)) (by rw [e0]; exact Ar181.1) (State.isArrayOf_alike hZ.alike Ar181.2.1) Ar181.2.2 hin181 hat181 (g := (mkF m 17 #[rv a1, rv a2, iv (0 : Int32)] [(.int (0 : Int32)), (.ref a1)])) rfl rfl (hb hby own_d10_17) _ ?_
    show Steps p.tables e below (s₁.setTop (mkF m 18 #[rv a1, rv a2, iv (0 : Int32)] [(.int u0)])) _
    refine XS.aloadN X0.here hx rfl (hb hby own_d10_18) rfl rfl ?_
    show Steps p.tables e below (s₁.setTop (mkF m 19 #[rv a1, rv a2, iv (0 : Int32)] [(.ref a2), (.int u0)])) _
    refine XS.iloadN X0.here hx rfl (hb hby own_d10_19) rfl ?_
    show Steps p.tables e below (s₁.setTop (mkF m 20 #[rv a1, rv a2, iv (0 : Int32)] [(.int (0 : Int32)), (.ref a2), (.int u0)])) _
    refine X0.baloadBytes hx (j := (0 : Int32)) (v := (.int v0)) (by rw [e0]; exact Ar182.1) (State.isArrayOf_alike hZ.alike Ar182.2.1) Ar182.2.2 hin182 hat182 (g := (mkF m 20 #[rv a1, rv a2, iv (0 : Int32)] [(.int (0 : Int32)), (.ref a2), (.int u0)])) rfl rfl (hb hby own_d10_20) _ ?_
    exact k
  by_cases hc21 : u0 = v0
  · obtain ⟨cl184, Ar184, q184, S184, M184, H184, G184⟩ := id V_a1
    obtain ⟨fs, hr, hrun, hended, hW, hsame⟩ := X0.leave (v := some (.int (1 : Int32))) (fun h => by rw [Bd.returns] at h; cases h)
    refine ⟨_, _, pre183 _ ?_, hrun, hended, _, _, rfl, ?_, ⟨_, rfl⟩, hW, hsame.mono (by decide) (by decide)⟩
    · show Steps p.tables e below (s₁.setTop (mkF m 21 #[rv a1, rv a2, iv (0 : Int32)] [(.int v0), (.int u0)])) _
      refine XS.icmpYes X0.here hx rfl (pc0 := 21) (pc' := 26) rfl (hb hby own_d10_21) rfl (teq hc21).1 (by decide) (by decide) ?_
      show Steps p.tables e below (s₁.setTop (mkF m 26 #[rv a1, rv a2, iv (0 : Int32)] [])) _
      refine XS.iinc X0.here hx rfl (hb hby own_d10_26) rfl (l' := #[rv a1, rv a2, iv (1 : Int32)]) rfl ?_
      show Steps p.tables e below (s₁.setTop (mkF m 29 #[rv a1, rv a2, iv (1 : Int32)] [])) _
      refine XS.goto X0.here hx rfl (pc0 := 29) (pc' := 9) rfl (hb hby own_d10_29) (by decide) (by decide) ?_
      show Steps p.tables e below (s₁.setTop (mkF m 9 #[rv a1, rv a2, iv (1 : Int32)] [])) _
      refine XS.iloadN X0.here hx rfl (hb hby own_d10_9) rfl ?_
      show Steps p.tables e below (s₁.setTop (mkF m 10 #[rv a1, rv a2, iv (1 : Int32)] [(.int (1 : Int32))])) _
      refine XS.aloadN X0.here hx rfl (hb hby own_d10_10) rfl rfl ?_
      show Steps p.tables e below (s₁.setTop (mkF m 11 #[rv a1, rv a2, iv (1 : Int32)] [(.ref a1), (.int (1 : Int32))])) _
      refine X0.arraylength hx (by rw [e0]; exact Ar184.1) (State.isArrayOf_alike hZ.alike Ar184.2.1) (g := (mkF m 11 #[rv a1, rv a2, iv (1 : Int32)] [(.ref a1), (.int (1 : Int32))])) rfl rfl (hb hby own_d10_11) _ ?_
      rw [len_of S184 M184]
      show Steps p.tables e below (s₁.setTop (mkF m 12 #[rv a1, rv a2, iv (1 : Int32)] [(.int (1 : Int32)), (.int (1 : Int32))])) _
      refine XS.icmpYes X0.here hx rfl (pc0 := 12) (pc' := 32) rfl (hb hby own_d10_12) rfl (flt (by decide : ¬ ((1 : Int32) < (1 : Int32)))).2.1 (by decide) (by decide) ?_
      show Steps p.tables e below (s₁.setTop (mkF m 32 #[rv a1, rv a2, iv (1 : Int32)] [])) _
      refine XS.iconst X0.here hx rfl (hb hby own_d10_32) ?_
      show Steps p.tables e below (s₁.setTop (mkF m 33 #[rv a1, rv a2, iv (1 : Int32)] [(.int (1 : Int32))])) _
      exact retN X0 hx (t := .boolean) Bd.returns (by simp) (hb hby own_d10_33) hr
    · show QLE_11 Z a1 a2 k1 k2 u0 v0 h0 n0 _ s₁.heap _
      rw [e0]
      exact ⟨(congrArg (fun z => some (Value.int z)) (by simp [own_eqL, hc21] : (1 : Int32) = (own_eqL [u0] [v0]))), N0, rfl⟩
  · obtain ⟨fs, hr, hrun, hended, hW, hsame⟩ := X0.leave (v := some (.int (0 : Int32))) (fun h => by rw [Bd.returns] at h; cases h)
    refine ⟨_, _, pre183 _ ?_, hrun, hended, _, _, rfl, ?_, ⟨_, rfl⟩, hW, hsame.mono (by decide) (by decide)⟩
    · show Steps p.tables e below (s₁.setTop (mkF m 21 #[rv a1, rv a2, iv (0 : Int32)] [(.int v0), (.int u0)])) _
      refine XS.icmpNo X0.here hx rfl (hb hby own_d10_21) rfl (feq hc21).1 ?_
      show Steps p.tables e below (s₁.setTop (mkF m 24 #[rv a1, rv a2, iv (0 : Int32)] [])) _
      refine XS.iconst X0.here hx rfl (hb hby own_d10_24) ?_
      show Steps p.tables e below (s₁.setTop (mkF m 25 #[rv a1, rv a2, iv (0 : Int32)] [(.int (0 : Int32))])) _
      exact retN X0 hx (t := .boolean) Bd.returns (by simp) (hb hby own_d10_25) hr
    · show QLE_11 Z a1 a2 k1 k2 u0 v0 h0 n0 _ s₁.heap _
      rw [e0]
      exact ⟨(congrArg (fun z => some (Value.int z)) (by simp [own_eqL, hc21] : (0 : Int32) = (own_eqL [u0] [v0]))), N0, rfl⟩
theorem own_ef_rmSE_11 (m : MethodId) (a1 : Addr) (a2 : Addr) : entryFrame m #[(.ref a1), (.ref a2)] 3 = mkF m 0 #[.val (.ref a1), .val (.ref a2), .unset] [] := by first | (simp [entryFrame, mkF, argsToLocals, Value.category]; done) | rfl
def QSE_11 (Z : State) (a1 : Addr) (a2 : Addr) (cw : Int32) (b1 : Addr) (b2 : Addr) (k1 : ClassId) (k2 : ClassId) (u0 : Int32) (v0 : Int32) (h0 : Heap) (n0 : Nat) (v : Option Value) (h : Heap) (L : List Loc) : Prop := v = some (.int (own_eqL [u0] [v0])) ∧ Fr n0 L ∧ h = h0
set_option maxRecDepth 65536 in
set_option maxHeartbeats 40000000 in
theorem rmSE_11 (l : Launch) (Z : State) (a0 : Array Value) (hw : ∀ d ∈ tables_1, d.before a0 Z = true) (ws : List Jvm.Cond) (a1 : Addr) (a2 : Addr) (cw : Int32) (b1 : Addr) (b2 : Addr) (k1 : ClassId) (k2 : ClassId) (u0 : Int32) (v0 : Int32) (h0 : Heap) (n0 : Nat) (Z0 : n0 ≤ h0.size) (E_a2 : Exa Z h0 a2 "java/lang/String") (F_a1_coder : Fld Z h0 a1 "java/lang/String" "coder" "B" (.int (0 : Int32))) (F_a1_value : Fld Z h0 a1 "java/lang/String" "value" "[B" (.ref b1)) (F_a2_coder : Fld Z h0 a2 "java/lang/String" "coder" "B" (.int (0 : Int32))) (F_a2_value : Fld Z h0 a2 "java/lang/String" "value" "[B" (.ref b2)) (V_b1 : Arv Z h0 b1 k1 .byte (1 : Int32) [(.int u0)] (.int (0 : Int32))) (V_b2 : Arv Z h0 b2 k2 .byte (1 : Int32) [(.int v0)] (.int (0 : Int32))) (S_COMPACT_STRINGS : Sta Z h0 "java/lang/String" "COMPACT_STRINGS" "Z" (.int cw)) (hw0 : ¬ (cw = (0 : Int32))) (ne_a1_a2 : a1 ≠ a2) :
    MetFree l (⟨"java/lang/String", "equals", "(Ljava/lang/Object;)Z"⟩ : MethodName) (head1 (Jvm.Cond.code (⟨"java/lang/String", "equals", "(Ljava/lang/Object;)Z"⟩ : MethodName) jdk_42_method_66_code 3 (some .boolean) :: ws) ({ frames := 1, cells := 0, slots := 0, locals := 14 } : Room)) (fun a U => a = #[(.ref a1), (.ref a2)] ∧ Z.Warmed39 U.vm ∧ U.heap = h0) (fun _ _ _ _ _ => True) (fun _ U o U' => ∃ v L, o = .returned v ∧ QSE_11 Z a1 a2 cw b1 b2 k1 k2 u0 v0 h0 n0 v U'.heap L ∧ FrameEnd U o U' L ({ frames := 1, cells := 0, slots := 0, locals := 14 } : Room).cells ({ frames := 1, cells := 0, slots := 0, locals := 14 } : Room).slots) := by
  refine MetFree.of_bodySF (plainFor_of_name own_pn1) hisR ?_
  intro p e s m args below meth c s₁ Bd hml0 hP hK
  obtain ⟨rfl, hZ, hh⟩ := hP
  have hx := Bd.exec
  have hby := Bd.bytes
  have hml : c.maxLocals = 3 := hml0
  have hown : s.vm.findClass "java/lang/String" = some m.cls := findClass_of_methodNamed Bd.named
  have hnm := (name_of_methodNamed Bd.named Bd.method).1
  have X0 : Stand p l e ({ frames := 1, cells := 0, slots := 0, locals := 14 } : Room) s m #[(.ref a1), (.ref a2)] below meth c s₁ [] 0 0 := Stand.of_body Bd
  have e0 : s₁.heap = h0 := by rw [← hh, Bd.state]; rfl
  have N0 := Fr.nil n0
  have K0 : Keep h0 h0 [] := Keep.refl h0 _
  have pre0 : ∀ t, Steps p.tables e below (s₁.setTop (mkF m 0 #[.val (.ref a1), .val (.ref a2), .unset] [])) t → Steps p.tables e below (s₁.setTop (entryFrame m #[(.ref a1), (.ref a2)] 3)) t := fun t k => castTop (own_ef_rmSE_11 m a1 a2) k
  obtain ⟨T185, X185, e185, st185⟩ := instY X0 hx hZ hown (hw _ (List.mem_of_getElem? (i := 26) rfl)) e0 (Ins.self E_a2) (g := (mkF m 8 #[rv a1, rv a2, .unset] [(.ref a2)])) rfl rfl (hb hby own_d9_8)
  obtain ⟨T186, X186, e186, st186⟩ := castY X185 hx hZ hown (hw _ (List.mem_of_getElem? (i := 26) rfl)) e185 (Ins.self E_a2) (g := (mkF m 15 #[rv a1, rv a2, .unset] [(.ref a2)])) rfl rfl (hb hby own_d9_15)
  obtain ⟨T187, X187, e187, st187⟩ := getS2 X186 hx hZ hown (host := "") (Or.inl (hw _ (List.mem_of_getElem? (i := 21) rfl))) Via.refl e186 S_COMPACT_STRINGS (g := (mkF m 19 #[rv a1, rv a2, rv a2] [])) rfl (hb hby own_d9_19)
  have hc22_188 : ¬ (cw = (0 : Int32)) := hw0
  obtain ⟨T189, X189, e189, st189⟩ := getF X187 hx hZ hown (host := "") (Or.inl (hw _ (List.mem_of_getElem? (i := 38) rfl))) Via.refl e187 F_a1_coder (g := (mkF m 26 #[rv a1, rv a2, rv a2] [(.ref a1)])) rfl rfl (hb hby own_d9_26)
  obtain ⟨T190, X190, e190, st190⟩ := getF X189 hx hZ hown (host := "") (Or.inl (hw _ (List.mem_of_getElem? (i := 38) rfl))) Via.refl e189 F_a2_coder (g := (mkF m 30 #[rv a1, rv a2, rv a2] [(.ref a2), (.int (0 : Int32))])) rfl rfl (hb hby own_d9_30)
  obtain ⟨T191, X191, e191, st191⟩ := getF X190 hx hZ hown (host := "") (Or.inl (hw _ (List.mem_of_getElem? (i := 37) rfl))) Via.refl e190 F_a1_value (g := (mkF m 37 #[rv a1, rv a2, rv a2] [(.ref a1)])) rfl rfl (hb hby own_d9_37)
  obtain ⟨T192, X192, e192, st192⟩ := getF X191 hx hZ hown (host := "") (Or.inl (hw _ (List.mem_of_getElem? (i := 37) rfl))) Via.refl e191 F_a2_value (g := (mkF m 41 #[rv a1, rv a2, rv a2] [(.ref a2), (.ref b1)])) rfl rfl (hb hby own_d9_41)
  obtain ⟨_, _, ⟨T193, L193, k193, n193⟩, -, X193, ⟨Lc193, hQ193, l193, y193, z193⟩, st193⟩ := Jvm.LawKit.callS X192 hx (y := (⟨"java/lang/StringLatin1", "equals", "([B[B)Z"⟩ : MethodName)) hown (mvT hZ (hw _ (List.mem_of_getElem? (i := 47) rfl))) (mvT hZ (hw _ (List.mem_of_getElem? (i := 48) rfl))) (mvT hZ (hw _ (List.mem_of_getElem? (i := 24) rfl))) (mvT hZ (hw _ (List.mem_of_getElem? (i := 49) rfl))) (by decide) (backOf (W := 0) (rmLE_11 l Z a0 hw [] b1 b2 k1 k2 u0 v0 h0 n0 (Nat.le_trans Z0 K0.1) V_b1 V_b2) hZ (hw _ (List.mem_of_getElem? (i := 49) rfl)) (hw _ (List.mem_of_getElem? (i := 24) rfl)) (by decide) (by decide)) (g := (mkF m 44 #[rv a1, rv a2, rv a2] [(.ref b2), (.ref b1)])) rfl (by rw [hml]; rfl) (argsL := [(.ref b1), (.ref b2)]) (rest := []) (lenOf own_pd9 rfl) rfl (by show 2 * 0 + _ ≤ _; exact Nat.le_of_eq rfl) (hb hby own_d9_44) (fun _ _ => ⟨rfl, e192, (by decide : 0 + 0 ≤ _), (by decide : 0 + 0 ≤ _)⟩)
  dsimp only [Pt.U, Pt.locs, Pt.cells, Pt.slots] at X193 l193 y193 z193 st193 hQ193
  subst l193 y193 z193
  obtain ⟨rfl, N193q, e193⟩ := hQ193
  have N193 := Fr.app N0 N193q
  have pre194 : ∀ t, Steps p.tables e below (T193.setTop (mkF m 47 #[rv a1, rv a2, rv a2] [(.int (own_eqL [u0] [v0]))])) t → Steps p.tables e below (s₁.setTop (entryFrame m #[(.ref a1), (.ref a2)] 3)) t := fun t k => by
    refine pre0 _ ?_
    show Steps p.tables e below (s₁.setTop (mkF m 0 #[rv a1, rv a2, .unset] [])) _
    refine XS.aloadN X0.here hx rfl (hb hby own_d9_0) rfl rfl ?_
    show Steps p.tables e below (s₁.setTop (mkF m 1 #[rv a1, rv a2, .unset] [(.ref a1)])) _
    refine XS.aloadN X0.here hx rfl (hb hby own_d9_1) rfl rfl ?_
    show Steps p.tables e below (s₁.setTop (mkF m 2 #[rv a1, rv a2, .unset] [(.ref a2), (.ref a1)])) _
    refine Jvm.RoadKit.acmp (g := (mkF m 2 #[rv a1, rv a2, .unset] [(.ref a2), (.ref a1)])) X0 hx rfl rfl rfl (pc0 := 2) (pc' := 7) (same := false) rfl (hb hby own_d9_2) rfl (decide_eq_false fun q => ne_a1_a2 (Value.ref.inj q)) (by decide) (by decide) ?_
    show Steps p.tables e below (s₁.setTop (mkF m 7 #[rv a1, rv a2, .unset] [])) _
    refine XS.aloadN X0.here hx rfl (hb hby own_d9_7) rfl rfl ?_
    show Steps p.tables e below (s₁.setTop (mkF m 8 #[rv a1, rv a2, .unset] [(.ref a2)])) _
    refine st185 _ ?_
    show Steps p.tables e below (T185.setTop (mkF m 11 #[rv a1, rv a2, .unset] [(.int (1 : Int32))])) _
    refine XS.ifNo X185.here hx rfl (hb hby own_d9_11) rfl ((if0 _ _).trans (feq (by decide : ¬ ((1 : Int32) = (0 : Int32)))).1) ?_
    show Steps p.tables e below (T185.setTop (mkF m 14 #[rv a1, rv a2, .unset] [])) _
    refine XS.aloadN X185.here hx rfl (hb hby own_d9_14) rfl rfl ?_
    show Steps p.tables e below (T185.setTop (mkF m 15 #[rv a1, rv a2, .unset] [(.ref a2)])) _
    refine st186 _ ?_
    show Steps p.tables e below (T186.setTop (mkF m 18 #[rv a1, rv a2, .unset] [(.ref a2)])) _
    refine XS.astoreN X186.here hx rfl (hb hby own_d9_18) rfl rfl (l' := #[rv a1, rv a2, rv a2]) rfl ?_
    show Steps p.tables e below (T186.setTop (mkF m 19 #[rv a1, rv a2, rv a2] [])) _
    refine st187 _ ?_
    show Steps p.tables e below (T187.setTop (mkF m 22 #[rv a1, rv a2, rv a2] [(.int cw)])) _
    refine XS.ifNo X187.here hx rfl (hb hby own_d9_22) rfl ((if0 _ _).trans (feq hc22_188).1) ?_
    show Steps p.tables e below (T187.setTop (mkF m 25 #[rv a1, rv a2, rv a2] [])) _
    refine XS.aloadN X187.here hx rfl (hb hby own_d9_25) rfl rfl ?_
    show Steps p.tables e below (T187.setTop (mkF m 26 #[rv a1, rv a2, rv a2] [(.ref a1)])) _
    refine st189 _ ?_
    show Steps p.tables e below (T189.setTop (mkF m 29 #[rv a1, rv a2, rv a2] [(.int (0 : Int32))])) _
    refine XS.aloadN X189.here hx rfl (hb hby own_d9_29) rfl rfl ?_
    show Steps p.tables e below (T189.setTop (mkF m 30 #[rv a1, rv a2, rv a2] [(.ref a2), (.int (0 : Int32))])) _
    refine st190 _ ?_
    show Steps p.tables e below (T190.setTop (mkF m 33 #[rv a1, rv a2, rv a2] [(.int (0 : Int32)), (.int (0 : Int32))])) _
    refine XS.icmpNo X190.here hx rfl (hb hby own_d9_33) rfl (teq (by decide : ((0 : Int32) = (0 : Int32)))).2 ?_
    show Steps p.tables e below (T190.setTop (mkF m 36 #[rv a1, rv a2, rv a2] [])) _
    refine XS.aloadN X190.here hx rfl (hb hby own_d9_36) rfl rfl ?_
    show Steps p.tables e below (T190.setTop (mkF m 37 #[rv a1, rv a2, rv a2] [(.ref a1)])) _
    refine st191 _ ?_
    show Steps p.tables e below (T191.setTop (mkF m 40 #[rv a1, rv a2, rv a2] [(.ref b1)])) _
    refine XS.aloadN X191.here hx rfl (hb hby own_d9_40) rfl rfl ?_
    show Steps p.tables e below (T191.setTop (mkF m 41 #[rv a1, rv a2, rv a2] [(.ref a2), (.ref b1)])) _
    refine st192 _ ?_
    show Steps p.tables e below (T192.setTop (mkF m 44 #[rv a1, rv a2, rv a2] [(.ref b2), (.ref b1)])) _
    refine st193 _ ?_
    exact k
  by_cases hc47 : (own_eqL [u0] [v0]) = (0 : Int32)
  · obtain ⟨fs, hr, hrun, hended, hW, hsame⟩ := X193.leave (v := some (.int (0 : Int32))) (fun h => by rw [Bd.returns] at h; cases h)
    refine ⟨_, _, pre194 _ ?_, hrun, hended, _, _, rfl, ?_, ⟨_, rfl⟩, hW, hsame.mono (by decide) (by decide)⟩
    · show Steps p.tables e below (T193.setTop (mkF m 47 #[rv a1, rv a2, rv a2] [(.int (own_eqL [u0] [v0]))])) _
      refine XS.ifYes X193.here hx rfl (pc0 := 47) (pc' := 54) rfl (hb hby own_d9_47) rfl ((if0 _ _).trans (teq hc47).1) (by decide) (by decide) ?_
      show Steps p.tables e below (T193.setTop (mkF m 54 #[rv a1, rv a2, rv a2] [])) _
      refine XS.iconst X193.here hx rfl (hb hby own_d9_54) ?_
      show Steps p.tables e below (T193.setTop (mkF m 55 #[rv a1, rv a2, rv a2] [(.int (0 : Int32))])) _
      exact retN X193 hx (t := .boolean) Bd.returns (by simp) (hb hby own_d9_55) hr
    · show QSE_11 Z a1 a2 cw b1 b2 k1 k2 u0 v0 h0 n0 _ T193.heap _
      rw [e193]
      exact ⟨(congrArg (fun z => some (Value.int z)) (hc47.symm : (0 : Int32) = (own_eqL [u0] [v0]))), N193, rfl⟩
  · obtain ⟨fs, hr, hrun, hended, hW, hsame⟩ := X193.leave (v := some (.int (1 : Int32))) (fun h => by rw [Bd.returns] at h; cases h)
    refine ⟨_, _, pre194 _ ?_, hrun, hended, _, _, rfl, ?_, ⟨_, rfl⟩, hW, hsame.mono (by decide) (by decide)⟩
    · show Steps p.tables e below (T193.setTop (mkF m 47 #[rv a1, rv a2, rv a2] [(.int (own_eqL [u0] [v0]))])) _
      refine XS.ifNo X193.here hx rfl (hb hby own_d9_47) rfl ((if0 _ _).trans (feq hc47).1) ?_
      show Steps p.tables e below (T193.setTop (mkF m 50 #[rv a1, rv a2, rv a2] [])) _
      refine XS.iconst X193.here hx rfl (hb hby own_d9_50) ?_
      show Steps p.tables e below (T193.setTop (mkF m 51 #[rv a1, rv a2, rv a2] [(.int (1 : Int32))])) _
      refine XS.goto X193.here hx rfl (pc0 := 51) (pc' := 55) rfl (hb hby own_d9_51) (by decide) (by decide) ?_
      show Steps p.tables e below (T193.setTop (mkF m 55 #[rv a1, rv a2, rv a2] [(.int (1 : Int32))])) _
      exact retN X193 hx (t := .boolean) Bd.returns (by simp) (hb hby own_d9_55) hr
    · show QSE_11 Z a1 a2 cw b1 b2 k1 k2 u0 v0 h0 n0 _ T193.heap _
      rw [e193]
      exact ⟨(congrArg (fun z => some (Value.int z)) ((own_eqL1 hc47).symm : (1 : Int32) = (own_eqL [u0] [v0]))), N193, rfl⟩
theorem own_ef_rmLE_12 (m : MethodId) (a1 : Addr) (a2 : Addr) : entryFrame m #[(.ref a1), (.ref a2)] 3 = mkF m 0 #[.val (.ref a1), .val (.ref a2), .unset] [] := by first | (simp [entryFrame, mkF, argsToLocals, Value.category]; done) | rfl
def QLE_12 (Z : State) (a1 : Addr) (a2 : Addr) (k1 : ClassId) (k2 : ClassId) (u0 : Int32) (v0 : Int32) (v1 : Int32) (h0 : Heap) (n0 : Nat) (v : Option Value) (h : Heap) (L : List Loc) : Prop := v = some (.int (own_eqL [u0] [v0, v1])) ∧ Fr n0 L ∧ h = h0
set_option maxRecDepth 65536 in
set_option maxHeartbeats 40000000 in
theorem rmLE_12 (l : Launch) (Z : State) (a0 : Array Value) (hw : ∀ d ∈ tables_1, d.before a0 Z = true) (ws : List Jvm.Cond) (a1 : Addr) (a2 : Addr) (k1 : ClassId) (k2 : ClassId) (u0 : Int32) (v0 : Int32) (v1 : Int32) (h0 : Heap) (n0 : Nat) (Z0 : n0 ≤ h0.size) (V_a1 : Arv Z h0 a1 k1 .byte (1 : Int32) [(.int u0)] (.int (0 : Int32))) (V_a2 : Arv Z h0 a2 k2 .byte (2 : Int32) [(.int v0), (.int v1)] (.int (0 : Int32))) :
    MetFree l (⟨"java/lang/StringLatin1", "equals", "([B[B)Z"⟩ : MethodName) (head1 (Jvm.Cond.code (⟨"java/lang/StringLatin1", "equals", "([B[B)Z"⟩ : MethodName) jdk_43_method_13_code 3 (some .boolean) :: ws) ({ frames := 0, cells := 0, slots := 0, locals := 0 } : Room)) (fun a U => a = #[(.ref a1), (.ref a2)] ∧ Z.Warmed39 U.vm ∧ U.heap = h0) (fun _ _ _ _ _ => True) (fun _ U o U' => ∃ v L, o = .returned v ∧ QLE_12 Z a1 a2 k1 k2 u0 v0 v1 h0 n0 v U'.heap L ∧ FrameEnd U o U' L ({ frames := 0, cells := 0, slots := 0, locals := 0 } : Room).cells ({ frames := 0, cells := 0, slots := 0, locals := 0 } : Room).slots) := by
  refine MetFree.of_bodySF (plainFor_of_name own_pn2) hisR ?_
  intro p e s m args below meth c s₁ Bd hml0 hP hK
  obtain ⟨rfl, hZ, hh⟩ := hP
  have hx := Bd.exec
  have hby := Bd.bytes
  have hml : c.maxLocals = 3 := hml0
  have hown : s.vm.findClass "java/lang/StringLatin1" = some m.cls := findClass_of_methodNamed Bd.named
  have hnm := (name_of_methodNamed Bd.named Bd.method).1
  have X0 : Stand p l e ({ frames := 0, cells := 0, slots := 0, locals := 0 } : Room) s m #[(.ref a1), (.ref a2)] below meth c s₁ [] 0 0 := Stand.of_body Bd
  have e0 : s₁.heap = h0 := by rw [← hh, Bd.state]; rfl
  have N0 := Fr.nil n0
  have K0 : Keep h0 h0 [] := Keep.refl h0 _
  have pre0 : ∀ t, Steps p.tables e below (s₁.setTop (mkF m 0 #[.val (.ref a1), .val (.ref a2), .unset] [])) t → Steps p.tables e below (s₁.setTop (entryFrame m #[(.ref a1), (.ref a2)] 3)) t := fun t k => castTop (own_ef_rmLE_12 m a1 a2) k
  obtain ⟨cl195, Ar195, q195, S195, M195, H195, G195⟩ := id V_a1
  obtain ⟨cl196, Ar196, q196, S196, M196, H196, G196⟩ := id V_a2
  obtain ⟨fs, hr, hrun, hended, hW, hsame⟩ := X0.leave (v := some (.int (0 : Int32))) (fun h => by rw [Bd.returns] at h; cases h)
  refine ⟨_, _, pre0 _ ?_, hrun, hended, _, _, rfl, ?_, ⟨_, rfl⟩, hW, hsame.mono (by decide) (by decide)⟩
  · show Steps p.tables e below (s₁.setTop (mkF m 0 #[rv a1, rv a2, .unset] [])) _
    refine XS.aloadN X0.here hx rfl (hb hby own_d10_0) rfl rfl ?_
    show Steps p.tables e below (s₁.setTop (mkF m 1 #[rv a1, rv a2, .unset] [(.ref a1)])) _
    refine X0.arraylength hx (by rw [e0]; exact Ar195.1) (State.isArrayOf_alike hZ.alike Ar195.2.1) (g := (mkF m 1 #[rv a1, rv a2, .unset] [(.ref a1)])) rfl rfl (hb hby own_d10_1) _ ?_
    rw [len_of S195 M195]
    show Steps p.tables e below (s₁.setTop (mkF m 2 #[rv a1, rv a2, .unset] [(.int (1 : Int32))])) _
    refine XS.aloadN X0.here hx rfl (hb hby own_d10_2) rfl rfl ?_
    show Steps p.tables e below (s₁.setTop (mkF m 3 #[rv a1, rv a2, .unset] [(.ref a2), (.int (1 : Int32))])) _
    refine X0.arraylength hx (by rw [e0]; exact Ar196.1) (State.isArrayOf_alike hZ.alike Ar196.2.1) (g := (mkF m 3 #[rv a1, rv a2, .unset] [(.ref a2), (.int (1 : Int32))])) rfl rfl (hb hby own_d10_3) _ ?_
    rw [len_of S196 M196]
    show Steps p.tables e below (s₁.setTop (mkF m 4 #[rv a1, rv a2, .unset] [(.int (2 : Int32)), (.int (1 : Int32))])) _
    refine XS.icmpYes X0.here hx rfl (pc0 := 4) (pc' := 34) rfl (hb hby own_d10_4) rfl (feq (by decide : ¬ ((1 : Int32) = (2 : Int32)))).2 (by decide) (by decide) ?_
    show Steps p.tables e below (s₁.setTop (mkF m 34 #[rv a1, rv a2, .unset] [])) _
    refine XS.iconst X0.here hx rfl (hb hby own_d10_34) ?_
    show Steps p.tables e below (s₁.setTop (mkF m 35 #[rv a1, rv a2, .unset] [(.int (0 : Int32))])) _
    exact retN X0 hx (t := .boolean) Bd.returns (by simp) (hb hby own_d10_35) hr
  · show QLE_12 Z a1 a2 k1 k2 u0 v0 v1 h0 n0 _ s₁.heap _
    rw [e0]
    exact ⟨(congrArg (fun z => some (Value.int z)) (by simp [own_eqL] : (0 : Int32) = (own_eqL [u0] [v0, v1]))), N0, rfl⟩
theorem own_ef_rmSE_12 (m : MethodId) (a1 : Addr) (a2 : Addr) : entryFrame m #[(.ref a1), (.ref a2)] 3 = mkF m 0 #[.val (.ref a1), .val (.ref a2), .unset] [] := by first | (simp [entryFrame, mkF, argsToLocals, Value.category]; done) | rfl
def QSE_12 (Z : State) (a1 : Addr) (a2 : Addr) (cw : Int32) (b1 : Addr) (b2 : Addr) (k1 : ClassId) (k2 : ClassId) (u0 : Int32) (v0 : Int32) (v1 : Int32) (h0 : Heap) (n0 : Nat) (v : Option Value) (h : Heap) (L : List Loc) : Prop := v = some (.int (own_eqL [u0] [v0, v1])) ∧ Fr n0 L ∧ h = h0
set_option maxRecDepth 65536 in
set_option maxHeartbeats 40000000 in
theorem rmSE_12 (l : Launch) (Z : State) (a0 : Array Value) (hw : ∀ d ∈ tables_1, d.before a0 Z = true) (ws : List Jvm.Cond) (a1 : Addr) (a2 : Addr) (cw : Int32) (b1 : Addr) (b2 : Addr) (k1 : ClassId) (k2 : ClassId) (u0 : Int32) (v0 : Int32) (v1 : Int32) (h0 : Heap) (n0 : Nat) (Z0 : n0 ≤ h0.size) (E_a2 : Exa Z h0 a2 "java/lang/String") (F_a1_coder : Fld Z h0 a1 "java/lang/String" "coder" "B" (.int (0 : Int32))) (F_a1_value : Fld Z h0 a1 "java/lang/String" "value" "[B" (.ref b1)) (F_a2_coder : Fld Z h0 a2 "java/lang/String" "coder" "B" (.int (0 : Int32))) (F_a2_value : Fld Z h0 a2 "java/lang/String" "value" "[B" (.ref b2)) (V_b1 : Arv Z h0 b1 k1 .byte (1 : Int32) [(.int u0)] (.int (0 : Int32))) (V_b2 : Arv Z h0 b2 k2 .byte (2 : Int32) [(.int v0), (.int v1)] (.int (0 : Int32))) (S_COMPACT_STRINGS : Sta Z h0 "java/lang/String" "COMPACT_STRINGS" "Z" (.int cw)) (hw0 : ¬ (cw = (0 : Int32))) (ne_a1_a2 : a1 ≠ a2) :
    MetFree l (⟨"java/lang/String", "equals", "(Ljava/lang/Object;)Z"⟩ : MethodName) (head1 (Jvm.Cond.code (⟨"java/lang/String", "equals", "(Ljava/lang/Object;)Z"⟩ : MethodName) jdk_42_method_66_code 3 (some .boolean) :: ws) ({ frames := 1, cells := 0, slots := 0, locals := 14 } : Room)) (fun a U => a = #[(.ref a1), (.ref a2)] ∧ Z.Warmed39 U.vm ∧ U.heap = h0) (fun _ _ _ _ _ => True) (fun _ U o U' => ∃ v L, o = .returned v ∧ QSE_12 Z a1 a2 cw b1 b2 k1 k2 u0 v0 v1 h0 n0 v U'.heap L ∧ FrameEnd U o U' L ({ frames := 1, cells := 0, slots := 0, locals := 14 } : Room).cells ({ frames := 1, cells := 0, slots := 0, locals := 14 } : Room).slots) := by
  refine MetFree.of_bodySF (plainFor_of_name own_pn1) hisR ?_
  intro p e s m args below meth c s₁ Bd hml0 hP hK
  obtain ⟨rfl, hZ, hh⟩ := hP
  have hx := Bd.exec
  have hby := Bd.bytes
  have hml : c.maxLocals = 3 := hml0
  have hown : s.vm.findClass "java/lang/String" = some m.cls := findClass_of_methodNamed Bd.named
  have hnm := (name_of_methodNamed Bd.named Bd.method).1
  have X0 : Stand p l e ({ frames := 1, cells := 0, slots := 0, locals := 14 } : Room) s m #[(.ref a1), (.ref a2)] below meth c s₁ [] 0 0 := Stand.of_body Bd
  have e0 : s₁.heap = h0 := by rw [← hh, Bd.state]; rfl
  have N0 := Fr.nil n0
  have K0 : Keep h0 h0 [] := Keep.refl h0 _
  have pre0 : ∀ t, Steps p.tables e below (s₁.setTop (mkF m 0 #[.val (.ref a1), .val (.ref a2), .unset] [])) t → Steps p.tables e below (s₁.setTop (entryFrame m #[(.ref a1), (.ref a2)] 3)) t := fun t k => castTop (own_ef_rmSE_12 m a1 a2) k
  obtain ⟨T197, X197, e197, st197⟩ := instY X0 hx hZ hown (hw _ (List.mem_of_getElem? (i := 26) rfl)) e0 (Ins.self E_a2) (g := (mkF m 8 #[rv a1, rv a2, .unset] [(.ref a2)])) rfl rfl (hb hby own_d9_8)
  obtain ⟨T198, X198, e198, st198⟩ := castY X197 hx hZ hown (hw _ (List.mem_of_getElem? (i := 26) rfl)) e197 (Ins.self E_a2) (g := (mkF m 15 #[rv a1, rv a2, .unset] [(.ref a2)])) rfl rfl (hb hby own_d9_15)
  obtain ⟨T199, X199, e199, st199⟩ := getS2 X198 hx hZ hown (host := "") (Or.inl (hw _ (List.mem_of_getElem? (i := 21) rfl))) Via.refl e198 S_COMPACT_STRINGS (g := (mkF m 19 #[rv a1, rv a2, rv a2] [])) rfl (hb hby own_d9_19)
  have hc22_200 : ¬ (cw = (0 : Int32)) := hw0
  obtain ⟨T201, X201, e201, st201⟩ := getF X199 hx hZ hown (host := "") (Or.inl (hw _ (List.mem_of_getElem? (i := 38) rfl))) Via.refl e199 F_a1_coder (g := (mkF m 26 #[rv a1, rv a2, rv a2] [(.ref a1)])) rfl rfl (hb hby own_d9_26)
  obtain ⟨T202, X202, e202, st202⟩ := getF X201 hx hZ hown (host := "") (Or.inl (hw _ (List.mem_of_getElem? (i := 38) rfl))) Via.refl e201 F_a2_coder (g := (mkF m 30 #[rv a1, rv a2, rv a2] [(.ref a2), (.int (0 : Int32))])) rfl rfl (hb hby own_d9_30)
  obtain ⟨T203, X203, e203, st203⟩ := getF X202 hx hZ hown (host := "") (Or.inl (hw _ (List.mem_of_getElem? (i := 37) rfl))) Via.refl e202 F_a1_value (g := (mkF m 37 #[rv a1, rv a2, rv a2] [(.ref a1)])) rfl rfl (hb hby own_d9_37)
  obtain ⟨T204, X204, e204, st204⟩ := getF X203 hx hZ hown (host := "") (Or.inl (hw _ (List.mem_of_getElem? (i := 37) rfl))) Via.refl e203 F_a2_value (g := (mkF m 41 #[rv a1, rv a2, rv a2] [(.ref a2), (.ref b1)])) rfl rfl (hb hby own_d9_41)
  obtain ⟨_, _, ⟨T205, L205, k205, n205⟩, -, X205, ⟨Lc205, hQ205, l205, y205, z205⟩, st205⟩ := Jvm.LawKit.callS X204 hx (y := (⟨"java/lang/StringLatin1", "equals", "([B[B)Z"⟩ : MethodName)) hown (mvT hZ (hw _ (List.mem_of_getElem? (i := 47) rfl))) (mvT hZ (hw _ (List.mem_of_getElem? (i := 48) rfl))) (mvT hZ (hw _ (List.mem_of_getElem? (i := 24) rfl))) (mvT hZ (hw _ (List.mem_of_getElem? (i := 49) rfl))) (by decide) (backOf (W := 0) (rmLE_12 l Z a0 hw [] b1 b2 k1 k2 u0 v0 v1 h0 n0 (Nat.le_trans Z0 K0.1) V_b1 V_b2) hZ (hw _ (List.mem_of_getElem? (i := 49) rfl)) (hw _ (List.mem_of_getElem? (i := 24) rfl)) (by decide) (by decide)) (g := (mkF m 44 #[rv a1, rv a2, rv a2] [(.ref b2), (.ref b1)])) rfl (by rw [hml]; rfl) (argsL := [(.ref b1), (.ref b2)]) (rest := []) (lenOf own_pd9 rfl) rfl (by show 2 * 0 + _ ≤ _; exact Nat.le_of_eq rfl) (hb hby own_d9_44) (fun _ _ => ⟨rfl, e204, (by decide : 0 + 0 ≤ _), (by decide : 0 + 0 ≤ _)⟩)
  dsimp only [Pt.U, Pt.locs, Pt.cells, Pt.slots] at X205 l205 y205 z205 st205 hQ205
  subst l205 y205 z205
  obtain ⟨rfl, N205q, e205⟩ := hQ205
  have N205 := Fr.app N0 N205q
  have pre206 : ∀ t, Steps p.tables e below (T205.setTop (mkF m 47 #[rv a1, rv a2, rv a2] [(.int (own_eqL [u0] [v0, v1]))])) t → Steps p.tables e below (s₁.setTop (entryFrame m #[(.ref a1), (.ref a2)] 3)) t := fun t k => by
    refine pre0 _ ?_
    show Steps p.tables e below (s₁.setTop (mkF m 0 #[rv a1, rv a2, .unset] [])) _
    refine XS.aloadN X0.here hx rfl (hb hby own_d9_0) rfl rfl ?_
    show Steps p.tables e below (s₁.setTop (mkF m 1 #[rv a1, rv a2, .unset] [(.ref a1)])) _
    refine XS.aloadN X0.here hx rfl (hb hby own_d9_1) rfl rfl ?_
    show Steps p.tables e below (s₁.setTop (mkF m 2 #[rv a1, rv a2, .unset] [(.ref a2), (.ref a1)])) _
    refine Jvm.RoadKit.acmp (g := (mkF m 2 #[rv a1, rv a2, .unset] [(.ref a2), (.ref a1)])) X0 hx rfl rfl rfl (pc0 := 2) (pc' := 7) (same := false) rfl (hb hby own_d9_2) rfl (decide_eq_false fun q => ne_a1_a2 (Value.ref.inj q)) (by decide) (by decide) ?_
    show Steps p.tables e below (s₁.setTop (mkF m 7 #[rv a1, rv a2, .unset] [])) _
    refine XS.aloadN X0.here hx rfl (hb hby own_d9_7) rfl rfl ?_
    show Steps p.tables e below (s₁.setTop (mkF m 8 #[rv a1, rv a2, .unset] [(.ref a2)])) _
    refine st197 _ ?_
    show Steps p.tables e below (T197.setTop (mkF m 11 #[rv a1, rv a2, .unset] [(.int (1 : Int32))])) _
    refine XS.ifNo X197.here hx rfl (hb hby own_d9_11) rfl ((if0 _ _).trans (feq (by decide : ¬ ((1 : Int32) = (0 : Int32)))).1) ?_
    show Steps p.tables e below (T197.setTop (mkF m 14 #[rv a1, rv a2, .unset] [])) _
    refine XS.aloadN X197.here hx rfl (hb hby own_d9_14) rfl rfl ?_
    show Steps p.tables e below (T197.setTop (mkF m 15 #[rv a1, rv a2, .unset] [(.ref a2)])) _
    refine st198 _ ?_
    show Steps p.tables e below (T198.setTop (mkF m 18 #[rv a1, rv a2, .unset] [(.ref a2)])) _
    refine XS.astoreN X198.here hx rfl (hb hby own_d9_18) rfl rfl (l' := #[rv a1, rv a2, rv a2]) rfl ?_
    show Steps p.tables e below (T198.setTop (mkF m 19 #[rv a1, rv a2, rv a2] [])) _
    refine st199 _ ?_
    show Steps p.tables e below (T199.setTop (mkF m 22 #[rv a1, rv a2, rv a2] [(.int cw)])) _
    refine XS.ifNo X199.here hx rfl (hb hby own_d9_22) rfl ((if0 _ _).trans (feq hc22_200).1) ?_
    show Steps p.tables e below (T199.setTop (mkF m 25 #[rv a1, rv a2, rv a2] [])) _
    refine XS.aloadN X199.here hx rfl (hb hby own_d9_25) rfl rfl ?_
    show Steps p.tables e below (T199.setTop (mkF m 26 #[rv a1, rv a2, rv a2] [(.ref a1)])) _
    refine st201 _ ?_
    show Steps p.tables e below (T201.setTop (mkF m 29 #[rv a1, rv a2, rv a2] [(.int (0 : Int32))])) _
    refine XS.aloadN X201.here hx rfl (hb hby own_d9_29) rfl rfl ?_
    show Steps p.tables e below (T201.setTop (mkF m 30 #[rv a1, rv a2, rv a2] [(.ref a2), (.int (0 : Int32))])) _
    refine st202 _ ?_
    show Steps p.tables e below (T202.setTop (mkF m 33 #[rv a1, rv a2, rv a2] [(.int (0 : Int32)), (.int (0 : Int32))])) _
    refine XS.icmpNo X202.here hx rfl (hb hby own_d9_33) rfl (teq (by decide : ((0 : Int32) = (0 : Int32)))).2 ?_
    show Steps p.tables e below (T202.setTop (mkF m 36 #[rv a1, rv a2, rv a2] [])) _
    refine XS.aloadN X202.here hx rfl (hb hby own_d9_36) rfl rfl ?_
    show Steps p.tables e below (T202.setTop (mkF m 37 #[rv a1, rv a2, rv a2] [(.ref a1)])) _
    refine st203 _ ?_
    show Steps p.tables e below (T203.setTop (mkF m 40 #[rv a1, rv a2, rv a2] [(.ref b1)])) _
    refine XS.aloadN X203.here hx rfl (hb hby own_d9_40) rfl rfl ?_
    show Steps p.tables e below (T203.setTop (mkF m 41 #[rv a1, rv a2, rv a2] [(.ref a2), (.ref b1)])) _
    refine st204 _ ?_
    show Steps p.tables e below (T204.setTop (mkF m 44 #[rv a1, rv a2, rv a2] [(.ref b2), (.ref b1)])) _
    refine st205 _ ?_
    exact k
  by_cases hc47 : (own_eqL [u0] [v0, v1]) = (0 : Int32)
  · obtain ⟨fs, hr, hrun, hended, hW, hsame⟩ := X205.leave (v := some (.int (0 : Int32))) (fun h => by rw [Bd.returns] at h; cases h)
    refine ⟨_, _, pre206 _ ?_, hrun, hended, _, _, rfl, ?_, ⟨_, rfl⟩, hW, hsame.mono (by decide) (by decide)⟩
    · show Steps p.tables e below (T205.setTop (mkF m 47 #[rv a1, rv a2, rv a2] [(.int (own_eqL [u0] [v0, v1]))])) _
      refine XS.ifYes X205.here hx rfl (pc0 := 47) (pc' := 54) rfl (hb hby own_d9_47) rfl ((if0 _ _).trans (teq hc47).1) (by decide) (by decide) ?_
      show Steps p.tables e below (T205.setTop (mkF m 54 #[rv a1, rv a2, rv a2] [])) _
      refine XS.iconst X205.here hx rfl (hb hby own_d9_54) ?_
      show Steps p.tables e below (T205.setTop (mkF m 55 #[rv a1, rv a2, rv a2] [(.int (0 : Int32))])) _
      exact retN X205 hx (t := .boolean) Bd.returns (by simp) (hb hby own_d9_55) hr
    · show QSE_12 Z a1 a2 cw b1 b2 k1 k2 u0 v0 v1 h0 n0 _ T205.heap _
      rw [e205]
      exact ⟨(congrArg (fun z => some (Value.int z)) (hc47.symm : (0 : Int32) = (own_eqL [u0] [v0, v1]))), N205, rfl⟩
  · obtain ⟨fs, hr, hrun, hended, hW, hsame⟩ := X205.leave (v := some (.int (1 : Int32))) (fun h => by rw [Bd.returns] at h; cases h)
    refine ⟨_, _, pre206 _ ?_, hrun, hended, _, _, rfl, ?_, ⟨_, rfl⟩, hW, hsame.mono (by decide) (by decide)⟩
    · show Steps p.tables e below (T205.setTop (mkF m 47 #[rv a1, rv a2, rv a2] [(.int (own_eqL [u0] [v0, v1]))])) _
      refine XS.ifNo X205.here hx rfl (hb hby own_d9_47) rfl ((if0 _ _).trans (feq hc47).1) ?_
      show Steps p.tables e below (T205.setTop (mkF m 50 #[rv a1, rv a2, rv a2] [])) _
      refine XS.iconst X205.here hx rfl (hb hby own_d9_50) ?_
      show Steps p.tables e below (T205.setTop (mkF m 51 #[rv a1, rv a2, rv a2] [(.int (1 : Int32))])) _
      refine XS.goto X205.here hx rfl (pc0 := 51) (pc' := 55) rfl (hb hby own_d9_51) (by decide) (by decide) ?_
      show Steps p.tables e below (T205.setTop (mkF m 55 #[rv a1, rv a2, rv a2] [(.int (1 : Int32))])) _
      exact retN X205 hx (t := .boolean) Bd.returns (by simp) (hb hby own_d9_55) hr
    · show QSE_12 Z a1 a2 cw b1 b2 k1 k2 u0 v0 v1 h0 n0 _ T205.heap _
      rw [e205]
      exact ⟨(congrArg (fun z => some (Value.int z)) ((own_eqL1 hc47).symm : (1 : Int32) = (own_eqL [u0] [v0, v1]))), N205, rfl⟩
theorem own_ef_rmLE_13 (m : MethodId) (a1 : Addr) (a2 : Addr) : entryFrame m #[(.ref a1), (.ref a2)] 3 = mkF m 0 #[.val (.ref a1), .val (.ref a2), .unset] [] := by first | (simp [entryFrame, mkF, argsToLocals, Value.category]; done) | rfl
def QLE_13 (Z : State) (a1 : Addr) (a2 : Addr) (k1 : ClassId) (k2 : ClassId) (u0 : Int32) (v0 : Int32) (v1 : Int32) (v2 : Int32) (h0 : Heap) (n0 : Nat) (v : Option Value) (h : Heap) (L : List Loc) : Prop := v = some (.int (own_eqL [u0] [v0, v1, v2])) ∧ Fr n0 L ∧ h = h0
set_option maxRecDepth 65536 in
set_option maxHeartbeats 40000000 in
theorem rmLE_13 (l : Launch) (Z : State) (a0 : Array Value) (hw : ∀ d ∈ tables_1, d.before a0 Z = true) (ws : List Jvm.Cond) (a1 : Addr) (a2 : Addr) (k1 : ClassId) (k2 : ClassId) (u0 : Int32) (v0 : Int32) (v1 : Int32) (v2 : Int32) (h0 : Heap) (n0 : Nat) (Z0 : n0 ≤ h0.size) (V_a1 : Arv Z h0 a1 k1 .byte (1 : Int32) [(.int u0)] (.int (0 : Int32))) (V_a2 : Arv Z h0 a2 k2 .byte (3 : Int32) [(.int v0), (.int v1), (.int v2)] (.int (0 : Int32))) :
    MetFree l (⟨"java/lang/StringLatin1", "equals", "([B[B)Z"⟩ : MethodName) (head1 (Jvm.Cond.code (⟨"java/lang/StringLatin1", "equals", "([B[B)Z"⟩ : MethodName) jdk_43_method_13_code 3 (some .boolean) :: ws) ({ frames := 0, cells := 0, slots := 0, locals := 0 } : Room)) (fun a U => a = #[(.ref a1), (.ref a2)] ∧ Z.Warmed39 U.vm ∧ U.heap = h0) (fun _ _ _ _ _ => True) (fun _ U o U' => ∃ v L, o = .returned v ∧ QLE_13 Z a1 a2 k1 k2 u0 v0 v1 v2 h0 n0 v U'.heap L ∧ FrameEnd U o U' L ({ frames := 0, cells := 0, slots := 0, locals := 0 } : Room).cells ({ frames := 0, cells := 0, slots := 0, locals := 0 } : Room).slots) := by
  refine MetFree.of_bodySF (plainFor_of_name own_pn2) hisR ?_
  intro p e s m args below meth c s₁ Bd hml0 hP hK
  obtain ⟨rfl, hZ, hh⟩ := hP
  have hx := Bd.exec
  have hby := Bd.bytes
  have hml : c.maxLocals = 3 := hml0
  have hown : s.vm.findClass "java/lang/StringLatin1" = some m.cls := findClass_of_methodNamed Bd.named
  have hnm := (name_of_methodNamed Bd.named Bd.method).1
  have X0 : Stand p l e ({ frames := 0, cells := 0, slots := 0, locals := 0 } : Room) s m #[(.ref a1), (.ref a2)] below meth c s₁ [] 0 0 := Stand.of_body Bd
  have e0 : s₁.heap = h0 := by rw [← hh, Bd.state]; rfl
  have N0 := Fr.nil n0
  have K0 : Keep h0 h0 [] := Keep.refl h0 _
  have pre0 : ∀ t, Steps p.tables e below (s₁.setTop (mkF m 0 #[.val (.ref a1), .val (.ref a2), .unset] [])) t → Steps p.tables e below (s₁.setTop (entryFrame m #[(.ref a1), (.ref a2)] 3)) t := fun t k => castTop (own_ef_rmLE_13 m a1 a2) k
  obtain ⟨cl207, Ar207, q207, S207, M207, H207, G207⟩ := id V_a1
  obtain ⟨cl208, Ar208, q208, S208, M208, H208, G208⟩ := id V_a2
  obtain ⟨fs, hr, hrun, hended, hW, hsame⟩ := X0.leave (v := some (.int (0 : Int32))) (fun h => by rw [Bd.returns] at h; cases h)
  refine ⟨_, _, pre0 _ ?_, hrun, hended, _, _, rfl, ?_, ⟨_, rfl⟩, hW, hsame.mono (by decide) (by decide)⟩
  · show Steps p.tables e below (s₁.setTop (mkF m 0 #[rv a1, rv a2, .unset] [])) _
    refine XS.aloadN X0.here hx rfl (hb hby own_d10_0) rfl rfl ?_
    show Steps p.tables e below (s₁.setTop (mkF m 1 #[rv a1, rv a2, .unset] [(.ref a1)])) _
    refine X0.arraylength hx (by rw [e0]; exact Ar207.1) (State.isArrayOf_alike hZ.alike Ar207.2.1) (g := (mkF m 1 #[rv a1, rv a2, .unset] [(.ref a1)])) rfl rfl (hb hby own_d10_1) _ ?_
    rw [len_of S207 M207]
    show Steps p.tables e below (s₁.setTop (mkF m 2 #[rv a1, rv a2, .unset] [(.int (1 : Int32))])) _
    refine XS.aloadN X0.here hx rfl (hb hby own_d10_2) rfl rfl ?_
    show Steps p.tables e below (s₁.setTop (mkF m 3 #[rv a1, rv a2, .unset] [(.ref a2), (.int (1 : Int32))])) _
    refine X0.arraylength hx (by rw [e0]; exact Ar208.1) (State.isArrayOf_alike hZ.alike Ar208.2.1) (g := (mkF m 3 #[rv a1, rv a2, .unset] [(.ref a2), (.int (1 : Int32))])) rfl rfl (hb hby own_d10_3) _ ?_
    rw [len_of S208 M208]
    show Steps p.tables e below (s₁.setTop (mkF m 4 #[rv a1, rv a2, .unset] [(.int (3 : Int32)), (.int (1 : Int32))])) _
    refine XS.icmpYes X0.here hx rfl (pc0 := 4) (pc' := 34) rfl (hb hby own_d10_4) rfl (feq (by decide : ¬ ((1 : Int32) = (3 : Int32)))).2 (by decide) (by decide) ?_
    show Steps p.tables e below (s₁.setTop (mkF m 34 #[rv a1, rv a2, .unset] [])) _
    refine XS.iconst X0.here hx rfl (hb hby own_d10_34) ?_
    show Steps p.tables e below (s₁.setTop (mkF m 35 #[rv a1, rv a2, .unset] [(.int (0 : Int32))])) _
    exact retN X0 hx (t := .boolean) Bd.returns (by simp) (hb hby own_d10_35) hr
  · show QLE_13 Z a1 a2 k1 k2 u0 v0 v1 v2 h0 n0 _ s₁.heap _
    rw [e0]
    exact ⟨(congrArg (fun z => some (Value.int z)) (by simp [own_eqL] : (0 : Int32) = (own_eqL [u0] [v0, v1, v2]))), N0, rfl⟩
theorem own_ef_rmSE_13 (m : MethodId) (a1 : Addr) (a2 : Addr) : entryFrame m #[(.ref a1), (.ref a2)] 3 = mkF m 0 #[.val (.ref a1), .val (.ref a2), .unset] [] := by first | (simp [entryFrame, mkF, argsToLocals, Value.category]; done) | rfl
def QSE_13 (Z : State) (a1 : Addr) (a2 : Addr) (cw : Int32) (b1 : Addr) (b2 : Addr) (k1 : ClassId) (k2 : ClassId) (u0 : Int32) (v0 : Int32) (v1 : Int32) (v2 : Int32) (h0 : Heap) (n0 : Nat) (v : Option Value) (h : Heap) (L : List Loc) : Prop := v = some (.int (own_eqL [u0] [v0, v1, v2])) ∧ Fr n0 L ∧ h = h0
set_option maxRecDepth 65536 in
set_option maxHeartbeats 40000000 in
theorem rmSE_13 (l : Launch) (Z : State) (a0 : Array Value) (hw : ∀ d ∈ tables_1, d.before a0 Z = true) (ws : List Jvm.Cond) (a1 : Addr) (a2 : Addr) (cw : Int32) (b1 : Addr) (b2 : Addr) (k1 : ClassId) (k2 : ClassId) (u0 : Int32) (v0 : Int32) (v1 : Int32) (v2 : Int32) (h0 : Heap) (n0 : Nat) (Z0 : n0 ≤ h0.size) (E_a2 : Exa Z h0 a2 "java/lang/String") (F_a1_coder : Fld Z h0 a1 "java/lang/String" "coder" "B" (.int (0 : Int32))) (F_a1_value : Fld Z h0 a1 "java/lang/String" "value" "[B" (.ref b1)) (F_a2_coder : Fld Z h0 a2 "java/lang/String" "coder" "B" (.int (0 : Int32))) (F_a2_value : Fld Z h0 a2 "java/lang/String" "value" "[B" (.ref b2)) (V_b1 : Arv Z h0 b1 k1 .byte (1 : Int32) [(.int u0)] (.int (0 : Int32))) (V_b2 : Arv Z h0 b2 k2 .byte (3 : Int32) [(.int v0), (.int v1), (.int v2)] (.int (0 : Int32))) (S_COMPACT_STRINGS : Sta Z h0 "java/lang/String" "COMPACT_STRINGS" "Z" (.int cw)) (hw0 : ¬ (cw = (0 : Int32))) (ne_a1_a2 : a1 ≠ a2) :
    MetFree l (⟨"java/lang/String", "equals", "(Ljava/lang/Object;)Z"⟩ : MethodName) (head1 (Jvm.Cond.code (⟨"java/lang/String", "equals", "(Ljava/lang/Object;)Z"⟩ : MethodName) jdk_42_method_66_code 3 (some .boolean) :: ws) ({ frames := 1, cells := 0, slots := 0, locals := 14 } : Room)) (fun a U => a = #[(.ref a1), (.ref a2)] ∧ Z.Warmed39 U.vm ∧ U.heap = h0) (fun _ _ _ _ _ => True) (fun _ U o U' => ∃ v L, o = .returned v ∧ QSE_13 Z a1 a2 cw b1 b2 k1 k2 u0 v0 v1 v2 h0 n0 v U'.heap L ∧ FrameEnd U o U' L ({ frames := 1, cells := 0, slots := 0, locals := 14 } : Room).cells ({ frames := 1, cells := 0, slots := 0, locals := 14 } : Room).slots) := by
  refine MetFree.of_bodySF (plainFor_of_name own_pn1) hisR ?_
  intro p e s m args below meth c s₁ Bd hml0 hP hK
  obtain ⟨rfl, hZ, hh⟩ := hP
  have hx := Bd.exec
  have hby := Bd.bytes
  have hml : c.maxLocals = 3 := hml0
  have hown : s.vm.findClass "java/lang/String" = some m.cls := findClass_of_methodNamed Bd.named
  have hnm := (name_of_methodNamed Bd.named Bd.method).1
  have X0 : Stand p l e ({ frames := 1, cells := 0, slots := 0, locals := 14 } : Room) s m #[(.ref a1), (.ref a2)] below meth c s₁ [] 0 0 := Stand.of_body Bd
  have e0 : s₁.heap = h0 := by rw [← hh, Bd.state]; rfl
  have N0 := Fr.nil n0
  have K0 : Keep h0 h0 [] := Keep.refl h0 _
  have pre0 : ∀ t, Steps p.tables e below (s₁.setTop (mkF m 0 #[.val (.ref a1), .val (.ref a2), .unset] [])) t → Steps p.tables e below (s₁.setTop (entryFrame m #[(.ref a1), (.ref a2)] 3)) t := fun t k => castTop (own_ef_rmSE_13 m a1 a2) k
  obtain ⟨T209, X209, e209, st209⟩ := instY X0 hx hZ hown (hw _ (List.mem_of_getElem? (i := 26) rfl)) e0 (Ins.self E_a2) (g := (mkF m 8 #[rv a1, rv a2, .unset] [(.ref a2)])) rfl rfl (hb hby own_d9_8)
  obtain ⟨T210, X210, e210, st210⟩ := castY X209 hx hZ hown (hw _ (List.mem_of_getElem? (i := 26) rfl)) e209 (Ins.self E_a2) (g := (mkF m 15 #[rv a1, rv a2, .unset] [(.ref a2)])) rfl rfl (hb hby own_d9_15)
  obtain ⟨T211, X211, e211, st211⟩ := getS2 X210 hx hZ hown (host := "") (Or.inl (hw _ (List.mem_of_getElem? (i := 21) rfl))) Via.refl e210 S_COMPACT_STRINGS (g := (mkF m 19 #[rv a1, rv a2, rv a2] [])) rfl (hb hby own_d9_19)
  have hc22_212 : ¬ (cw = (0 : Int32)) := hw0
  obtain ⟨T213, X213, e213, st213⟩ := getF X211 hx hZ hown (host := "") (Or.inl (hw _ (List.mem_of_getElem? (i := 38) rfl))) Via.refl e211 F_a1_coder (g := (mkF m 26 #[rv a1, rv a2, rv a2] [(.ref a1)])) rfl rfl (hb hby own_d9_26)
  obtain ⟨T214, X214, e214, st214⟩ := getF X213 hx hZ hown (host := "") (Or.inl (hw _ (List.mem_of_getElem? (i := 38) rfl))) Via.refl e213 F_a2_coder (g := (mkF m 30 #[rv a1, rv a2, rv a2] [(.ref a2), (.int (0 : Int32))])) rfl rfl (hb hby own_d9_30)
  obtain ⟨T215, X215, e215, st215⟩ := getF X214 hx hZ hown (host := "") (Or.inl (hw _ (List.mem_of_getElem? (i := 37) rfl))) Via.refl e214 F_a1_value (g := (mkF m 37 #[rv a1, rv a2, rv a2] [(.ref a1)])) rfl rfl (hb hby own_d9_37)
  obtain ⟨T216, X216, e216, st216⟩ := getF X215 hx hZ hown (host := "") (Or.inl (hw _ (List.mem_of_getElem? (i := 37) rfl))) Via.refl e215 F_a2_value (g := (mkF m 41 #[rv a1, rv a2, rv a2] [(.ref a2), (.ref b1)])) rfl rfl (hb hby own_d9_41)
  obtain ⟨_, _, ⟨T217, L217, k217, n217⟩, -, X217, ⟨Lc217, hQ217, l217, y217, z217⟩, st217⟩ := Jvm.LawKit.callS X216 hx (y := (⟨"java/lang/StringLatin1", "equals", "([B[B)Z"⟩ : MethodName)) hown (mvT hZ (hw _ (List.mem_of_getElem? (i := 47) rfl))) (mvT hZ (hw _ (List.mem_of_getElem? (i := 48) rfl))) (mvT hZ (hw _ (List.mem_of_getElem? (i := 24) rfl))) (mvT hZ (hw _ (List.mem_of_getElem? (i := 49) rfl))) (by decide) (backOf (W := 0) (rmLE_13 l Z a0 hw [] b1 b2 k1 k2 u0 v0 v1 v2 h0 n0 (Nat.le_trans Z0 K0.1) V_b1 V_b2) hZ (hw _ (List.mem_of_getElem? (i := 49) rfl)) (hw _ (List.mem_of_getElem? (i := 24) rfl)) (by decide) (by decide)) (g := (mkF m 44 #[rv a1, rv a2, rv a2] [(.ref b2), (.ref b1)])) rfl (by rw [hml]; rfl) (argsL := [(.ref b1), (.ref b2)]) (rest := []) (lenOf own_pd9 rfl) rfl (by show 2 * 0 + _ ≤ _; exact Nat.le_of_eq rfl) (hb hby own_d9_44) (fun _ _ => ⟨rfl, e216, (by decide : 0 + 0 ≤ _), (by decide : 0 + 0 ≤ _)⟩)
  dsimp only [Pt.U, Pt.locs, Pt.cells, Pt.slots] at X217 l217 y217 z217 st217 hQ217
  subst l217 y217 z217
  obtain ⟨rfl, N217q, e217⟩ := hQ217
  have N217 := Fr.app N0 N217q
  have pre218 : ∀ t, Steps p.tables e below (T217.setTop (mkF m 47 #[rv a1, rv a2, rv a2] [(.int (own_eqL [u0] [v0, v1, v2]))])) t → Steps p.tables e below (s₁.setTop (entryFrame m #[(.ref a1), (.ref a2)] 3)) t := fun t k => by
    refine pre0 _ ?_
    show Steps p.tables e below (s₁.setTop (mkF m 0 #[rv a1, rv a2, .unset] [])) _
    refine XS.aloadN X0.here hx rfl (hb hby own_d9_0) rfl rfl ?_
    show Steps p.tables e below (s₁.setTop (mkF m 1 #[rv a1, rv a2, .unset] [(.ref a1)])) _
    refine XS.aloadN X0.here hx rfl (hb hby own_d9_1) rfl rfl ?_
    show Steps p.tables e below (s₁.setTop (mkF m 2 #[rv a1, rv a2, .unset] [(.ref a2), (.ref a1)])) _
    refine Jvm.RoadKit.acmp (g := (mkF m 2 #[rv a1, rv a2, .unset] [(.ref a2), (.ref a1)])) X0 hx rfl rfl rfl (pc0 := 2) (pc' := 7) (same := false) rfl (hb hby own_d9_2) rfl (decide_eq_false fun q => ne_a1_a2 (Value.ref.inj q)) (by decide) (by decide) ?_
    show Steps p.tables e below (s₁.setTop (mkF m 7 #[rv a1, rv a2, .unset] [])) _
    refine XS.aloadN X0.here hx rfl (hb hby own_d9_7) rfl rfl ?_
    show Steps p.tables e below (s₁.setTop (mkF m 8 #[rv a1, rv a2, .unset] [(.ref a2)])) _
    refine st209 _ ?_
    show Steps p.tables e below (T209.setTop (mkF m 11 #[rv a1, rv a2, .unset] [(.int (1 : Int32))])) _
    refine XS.ifNo X209.here hx rfl (hb hby own_d9_11) rfl ((if0 _ _).trans (feq (by decide : ¬ ((1 : Int32) = (0 : Int32)))).1) ?_
    show Steps p.tables e below (T209.setTop (mkF m 14 #[rv a1, rv a2, .unset] [])) _
    refine XS.aloadN X209.here hx rfl (hb hby own_d9_14) rfl rfl ?_
    show Steps p.tables e below (T209.setTop (mkF m 15 #[rv a1, rv a2, .unset] [(.ref a2)])) _
    refine st210 _ ?_
    show Steps p.tables e below (T210.setTop (mkF m 18 #[rv a1, rv a2, .unset] [(.ref a2)])) _
    refine XS.astoreN X210.here hx rfl (hb hby own_d9_18) rfl rfl (l' := #[rv a1, rv a2, rv a2]) rfl ?_
    show Steps p.tables e below (T210.setTop (mkF m 19 #[rv a1, rv a2, rv a2] [])) _
    refine st211 _ ?_
    show Steps p.tables e below (T211.setTop (mkF m 22 #[rv a1, rv a2, rv a2] [(.int cw)])) _
    refine XS.ifNo X211.here hx rfl (hb hby own_d9_22) rfl ((if0 _ _).trans (feq hc22_212).1) ?_
    show Steps p.tables e below (T211.setTop (mkF m 25 #[rv a1, rv a2, rv a2] [])) _
    refine XS.aloadN X211.here hx rfl (hb hby own_d9_25) rfl rfl ?_
    show Steps p.tables e below (T211.setTop (mkF m 26 #[rv a1, rv a2, rv a2] [(.ref a1)])) _
    refine st213 _ ?_
    show Steps p.tables e below (T213.setTop (mkF m 29 #[rv a1, rv a2, rv a2] [(.int (0 : Int32))])) _
    refine XS.aloadN X213.here hx rfl (hb hby own_d9_29) rfl rfl ?_
    show Steps p.tables e below (T213.setTop (mkF m 30 #[rv a1, rv a2, rv a2] [(.ref a2), (.int (0 : Int32))])) _
    refine st214 _ ?_
    show Steps p.tables e below (T214.setTop (mkF m 33 #[rv a1, rv a2, rv a2] [(.int (0 : Int32)), (.int (0 : Int32))])) _
    refine XS.icmpNo X214.here hx rfl (hb hby own_d9_33) rfl (teq (by decide : ((0 : Int32) = (0 : Int32)))).2 ?_
    show Steps p.tables e below (T214.setTop (mkF m 36 #[rv a1, rv a2, rv a2] [])) _
    refine XS.aloadN X214.here hx rfl (hb hby own_d9_36) rfl rfl ?_
    show Steps p.tables e below (T214.setTop (mkF m 37 #[rv a1, rv a2, rv a2] [(.ref a1)])) _
    refine st215 _ ?_
    show Steps p.tables e below (T215.setTop (mkF m 40 #[rv a1, rv a2, rv a2] [(.ref b1)])) _
    refine XS.aloadN X215.here hx rfl (hb hby own_d9_40) rfl rfl ?_
    show Steps p.tables e below (T215.setTop (mkF m 41 #[rv a1, rv a2, rv a2] [(.ref a2), (.ref b1)])) _
    refine st216 _ ?_
    show Steps p.tables e below (T216.setTop (mkF m 44 #[rv a1, rv a2, rv a2] [(.ref b2), (.ref b1)])) _
    refine st217 _ ?_
    exact k
  by_cases hc47 : (own_eqL [u0] [v0, v1, v2]) = (0 : Int32)
  · obtain ⟨fs, hr, hrun, hended, hW, hsame⟩ := X217.leave (v := some (.int (0 : Int32))) (fun h => by rw [Bd.returns] at h; cases h)
    refine ⟨_, _, pre218 _ ?_, hrun, hended, _, _, rfl, ?_, ⟨_, rfl⟩, hW, hsame.mono (by decide) (by decide)⟩
    · show Steps p.tables e below (T217.setTop (mkF m 47 #[rv a1, rv a2, rv a2] [(.int (own_eqL [u0] [v0, v1, v2]))])) _
      refine XS.ifYes X217.here hx rfl (pc0 := 47) (pc' := 54) rfl (hb hby own_d9_47) rfl ((if0 _ _).trans (teq hc47).1) (by decide) (by decide) ?_
      show Steps p.tables e below (T217.setTop (mkF m 54 #[rv a1, rv a2, rv a2] [])) _
      refine XS.iconst X217.here hx rfl (hb hby own_d9_54) ?_
      show Steps p.tables e below (T217.setTop (mkF m 55 #[rv a1, rv a2, rv a2] [(.int (0 : Int32))])) _
      exact retN X217 hx (t := .boolean) Bd.returns (by simp) (hb hby own_d9_55) hr
    · show QSE_13 Z a1 a2 cw b1 b2 k1 k2 u0 v0 v1 v2 h0 n0 _ T217.heap _
      rw [e217]
      exact ⟨(congrArg (fun z => some (Value.int z)) (hc47.symm : (0 : Int32) = (own_eqL [u0] [v0, v1, v2]))), N217, rfl⟩
  · obtain ⟨fs, hr, hrun, hended, hW, hsame⟩ := X217.leave (v := some (.int (1 : Int32))) (fun h => by rw [Bd.returns] at h; cases h)
    refine ⟨_, _, pre218 _ ?_, hrun, hended, _, _, rfl, ?_, ⟨_, rfl⟩, hW, hsame.mono (by decide) (by decide)⟩
    · show Steps p.tables e below (T217.setTop (mkF m 47 #[rv a1, rv a2, rv a2] [(.int (own_eqL [u0] [v0, v1, v2]))])) _
      refine XS.ifNo X217.here hx rfl (hb hby own_d9_47) rfl ((if0 _ _).trans (feq hc47).1) ?_
      show Steps p.tables e below (T217.setTop (mkF m 50 #[rv a1, rv a2, rv a2] [])) _
      refine XS.iconst X217.here hx rfl (hb hby own_d9_50) ?_
      show Steps p.tables e below (T217.setTop (mkF m 51 #[rv a1, rv a2, rv a2] [(.int (1 : Int32))])) _
      refine XS.goto X217.here hx rfl (pc0 := 51) (pc' := 55) rfl (hb hby own_d9_51) (by decide) (by decide) ?_
      show Steps p.tables e below (T217.setTop (mkF m 55 #[rv a1, rv a2, rv a2] [(.int (1 : Int32))])) _
      exact retN X217 hx (t := .boolean) Bd.returns (by simp) (hb hby own_d9_55) hr
    · show QSE_13 Z a1 a2 cw b1 b2 k1 k2 u0 v0 v1 v2 h0 n0 _ T217.heap _
      rw [e217]
      exact ⟨(congrArg (fun z => some (Value.int z)) ((own_eqL1 hc47).symm : (1 : Int32) = (own_eqL [u0] [v0, v1, v2]))), N217, rfl⟩
theorem own_ef_rmLE_20 (m : MethodId) (a1 : Addr) (a2 : Addr) : entryFrame m #[(.ref a1), (.ref a2)] 3 = mkF m 0 #[.val (.ref a1), .val (.ref a2), .unset] [] := by first | (simp [entryFrame, mkF, argsToLocals, Value.category]; done) | rfl
def QLE_20 (Z : State) (a1 : Addr) (a2 : Addr) (k1 : ClassId) (k2 : ClassId) (u0 : Int32) (u1 : Int32) (h0 : Heap) (n0 : Nat) (v : Option Value) (h : Heap) (L : List Loc) : Prop := v = some (.int (own_eqL [u0, u1] [])) ∧ Fr n0 L ∧ h = h0
set_option maxRecDepth 65536 in
set_option maxHeartbeats 40000000 in
theorem rmLE_20 (l : Launch) (Z : State) (a0 : Array Value) (hw : ∀ d ∈ tables_1, d.before a0 Z = true) (ws : List Jvm.Cond) (a1 : Addr) (a2 : Addr) (k1 : ClassId) (k2 : ClassId) (u0 : Int32) (u1 : Int32) (h0 : Heap) (n0 : Nat) (Z0 : n0 ≤ h0.size) (V_a1 : Arv Z h0 a1 k1 .byte (2 : Int32) [(.int u0), (.int u1)] (.int (0 : Int32))) (V_a2 : Arv Z h0 a2 k2 .byte (0 : Int32) [] (.int (0 : Int32))) :
    MetFree l (⟨"java/lang/StringLatin1", "equals", "([B[B)Z"⟩ : MethodName) (head1 (Jvm.Cond.code (⟨"java/lang/StringLatin1", "equals", "([B[B)Z"⟩ : MethodName) jdk_43_method_13_code 3 (some .boolean) :: ws) ({ frames := 0, cells := 0, slots := 0, locals := 0 } : Room)) (fun a U => a = #[(.ref a1), (.ref a2)] ∧ Z.Warmed39 U.vm ∧ U.heap = h0) (fun _ _ _ _ _ => True) (fun _ U o U' => ∃ v L, o = .returned v ∧ QLE_20 Z a1 a2 k1 k2 u0 u1 h0 n0 v U'.heap L ∧ FrameEnd U o U' L ({ frames := 0, cells := 0, slots := 0, locals := 0 } : Room).cells ({ frames := 0, cells := 0, slots := 0, locals := 0 } : Room).slots) := by
  refine MetFree.of_bodySF (plainFor_of_name own_pn2) hisR ?_
  intro p e s m args below meth c s₁ Bd hml0 hP hK
  obtain ⟨rfl, hZ, hh⟩ := hP
  have hx := Bd.exec
  have hby := Bd.bytes
  have hml : c.maxLocals = 3 := hml0
  have hown : s.vm.findClass "java/lang/StringLatin1" = some m.cls := findClass_of_methodNamed Bd.named
  have hnm := (name_of_methodNamed Bd.named Bd.method).1
  have X0 : Stand p l e ({ frames := 0, cells := 0, slots := 0, locals := 0 } : Room) s m #[(.ref a1), (.ref a2)] below meth c s₁ [] 0 0 := Stand.of_body Bd
  have e0 : s₁.heap = h0 := by rw [← hh, Bd.state]; rfl
  have N0 := Fr.nil n0
  have K0 : Keep h0 h0 [] := Keep.refl h0 _
  have pre0 : ∀ t, Steps p.tables e below (s₁.setTop (mkF m 0 #[.val (.ref a1), .val (.ref a2), .unset] [])) t → Steps p.tables e below (s₁.setTop (entryFrame m #[(.ref a1), (.ref a2)] 3)) t := fun t k => castTop (own_ef_rmLE_20 m a1 a2) k
  obtain ⟨cl219, Ar219, q219, S219, M219, H219, G219⟩ := id V_a1
  obtain ⟨cl220, Ar220, q220, S220, M220, H220, G220⟩ := id V_a2
  obtain ⟨fs, hr, hrun, hended, hW, hsame⟩ := X0.leave (v := some (.int (0 : Int32))) (fun h => by rw [Bd.returns] at h; cases h)
  refine ⟨_, _, pre0 _ ?_, hrun, hended, _, _, rfl, ?_, ⟨_, rfl⟩, hW, hsame.mono (by decide) (by decide)⟩
  · show Steps p.tables e below (s₁.setTop (mkF m 0 #[rv a1, rv a2, .unset] [])) _
    refine XS.aloadN X0.here hx rfl (hb hby own_d10_0) rfl rfl ?_
    show Steps p.tables e below (s₁.setTop (mkF m 1 #[rv a1, rv a2, .unset] [(.ref a1)])) _
    refine X0.arraylength hx (by rw [e0]; exact Ar219.1) (State.isArrayOf_alike hZ.alike Ar219.2.1) (g := (mkF m 1 #[rv a1, rv a2, .unset] [(.ref a1)])) rfl rfl (hb hby own_d10_1) _ ?_
    rw [len_of S219 M219]
    show Steps p.tables e below (s₁.setTop (mkF m 2 #[rv a1, rv a2, .unset] [(.int (2 : Int32))])) _
    refine XS.aloadN X0.here hx rfl (hb hby own_d10_2) rfl rfl ?_
    show Steps p.tables e below (s₁.setTop (mkF m 3 #[rv a1, rv a2, .unset] [(.ref a2), (.int (2 : Int32))])) _
    refine X0.arraylength hx (by rw [e0]; exact Ar220.1) (State.isArrayOf_alike hZ.alike Ar220.2.1) (g := (mkF m 3 #[rv a1, rv a2, .unset] [(.ref a2), (.int (2 : Int32))])) rfl rfl (hb hby own_d10_3) _ ?_
    rw [len_of S220 M220]
    show Steps p.tables e below (s₁.setTop (mkF m 4 #[rv a1, rv a2, .unset] [(.int (0 : Int32)), (.int (2 : Int32))])) _
    refine XS.icmpYes X0.here hx rfl (pc0 := 4) (pc' := 34) rfl (hb hby own_d10_4) rfl (feq (by decide : ¬ ((2 : Int32) = (0 : Int32)))).2 (by decide) (by decide) ?_
    show Steps p.tables e below (s₁.setTop (mkF m 34 #[rv a1, rv a2, .unset] [])) _
    refine XS.iconst X0.here hx rfl (hb hby own_d10_34) ?_
    show Steps p.tables e below (s₁.setTop (mkF m 35 #[rv a1, rv a2, .unset] [(.int (0 : Int32))])) _
    exact retN X0 hx (t := .boolean) Bd.returns (by simp) (hb hby own_d10_35) hr
  · show QLE_20 Z a1 a2 k1 k2 u0 u1 h0 n0 _ s₁.heap _
    rw [e0]
    exact ⟨(congrArg (fun z => some (Value.int z)) (by simp [own_eqL] : (0 : Int32) = (own_eqL [u0, u1] []))), N0, rfl⟩
theorem own_ef_rmSE_20 (m : MethodId) (a1 : Addr) (a2 : Addr) : entryFrame m #[(.ref a1), (.ref a2)] 3 = mkF m 0 #[.val (.ref a1), .val (.ref a2), .unset] [] := by first | (simp [entryFrame, mkF, argsToLocals, Value.category]; done) | rfl
def QSE_20 (Z : State) (a1 : Addr) (a2 : Addr) (cw : Int32) (b1 : Addr) (b2 : Addr) (k1 : ClassId) (k2 : ClassId) (u0 : Int32) (u1 : Int32) (h0 : Heap) (n0 : Nat) (v : Option Value) (h : Heap) (L : List Loc) : Prop := v = some (.int (own_eqL [u0, u1] [])) ∧ Fr n0 L ∧ h = h0
set_option maxRecDepth 65536 in
set_option maxHeartbeats 40000000 in
theorem rmSE_20 (l : Launch) (Z : State) (a0 : Array Value) (hw : ∀ d ∈ tables_1, d.before a0 Z = true) (ws : List Jvm.Cond) (a1 : Addr) (a2 : Addr) (cw : Int32) (b1 : Addr) (b2 : Addr) (k1 : ClassId) (k2 : ClassId) (u0 : Int32) (u1 : Int32) (h0 : Heap) (n0 : Nat) (Z0 : n0 ≤ h0.size) (E_a2 : Exa Z h0 a2 "java/lang/String") (F_a1_coder : Fld Z h0 a1 "java/lang/String" "coder" "B" (.int (0 : Int32))) (F_a1_value : Fld Z h0 a1 "java/lang/String" "value" "[B" (.ref b1)) (F_a2_coder : Fld Z h0 a2 "java/lang/String" "coder" "B" (.int (0 : Int32))) (F_a2_value : Fld Z h0 a2 "java/lang/String" "value" "[B" (.ref b2)) (V_b1 : Arv Z h0 b1 k1 .byte (2 : Int32) [(.int u0), (.int u1)] (.int (0 : Int32))) (V_b2 : Arv Z h0 b2 k2 .byte (0 : Int32) [] (.int (0 : Int32))) (S_COMPACT_STRINGS : Sta Z h0 "java/lang/String" "COMPACT_STRINGS" "Z" (.int cw)) (hw0 : ¬ (cw = (0 : Int32))) (ne_a1_a2 : a1 ≠ a2) :
    MetFree l (⟨"java/lang/String", "equals", "(Ljava/lang/Object;)Z"⟩ : MethodName) (head1 (Jvm.Cond.code (⟨"java/lang/String", "equals", "(Ljava/lang/Object;)Z"⟩ : MethodName) jdk_42_method_66_code 3 (some .boolean) :: ws) ({ frames := 1, cells := 0, slots := 0, locals := 14 } : Room)) (fun a U => a = #[(.ref a1), (.ref a2)] ∧ Z.Warmed39 U.vm ∧ U.heap = h0) (fun _ _ _ _ _ => True) (fun _ U o U' => ∃ v L, o = .returned v ∧ QSE_20 Z a1 a2 cw b1 b2 k1 k2 u0 u1 h0 n0 v U'.heap L ∧ FrameEnd U o U' L ({ frames := 1, cells := 0, slots := 0, locals := 14 } : Room).cells ({ frames := 1, cells := 0, slots := 0, locals := 14 } : Room).slots) := by
  refine MetFree.of_bodySF (plainFor_of_name own_pn1) hisR ?_
  intro p e s m args below meth c s₁ Bd hml0 hP hK
  obtain ⟨rfl, hZ, hh⟩ := hP
  have hx := Bd.exec
  have hby := Bd.bytes
  have hml : c.maxLocals = 3 := hml0
  have hown : s.vm.findClass "java/lang/String" = some m.cls := findClass_of_methodNamed Bd.named
  have hnm := (name_of_methodNamed Bd.named Bd.method).1
  have X0 : Stand p l e ({ frames := 1, cells := 0, slots := 0, locals := 14 } : Room) s m #[(.ref a1), (.ref a2)] below meth c s₁ [] 0 0 := Stand.of_body Bd
  have e0 : s₁.heap = h0 := by rw [← hh, Bd.state]; rfl
  have N0 := Fr.nil n0
  have K0 : Keep h0 h0 [] := Keep.refl h0 _
  have pre0 : ∀ t, Steps p.tables e below (s₁.setTop (mkF m 0 #[.val (.ref a1), .val (.ref a2), .unset] [])) t → Steps p.tables e below (s₁.setTop (entryFrame m #[(.ref a1), (.ref a2)] 3)) t := fun t k => castTop (own_ef_rmSE_20 m a1 a2) k
  obtain ⟨T221, X221, e221, st221⟩ := instY X0 hx hZ hown (hw _ (List.mem_of_getElem? (i := 26) rfl)) e0 (Ins.self E_a2) (g := (mkF m 8 #[rv a1, rv a2, .unset] [(.ref a2)])) rfl rfl (hb hby own_d9_8)
  obtain ⟨T222, X222, e222, st222⟩ := castY X221 hx hZ hown (hw _ (List.mem_of_getElem? (i := 26) rfl)) e221 (Ins.self E_a2) (g := (mkF m 15 #[rv a1, rv a2, .unset] [(.ref a2)])) rfl rfl (hb hby own_d9_15)
  obtain ⟨T223, X223, e223, st223⟩ := getS2 X222 hx hZ hown (host := "") (Or.inl (hw _ (List.mem_of_getElem? (i := 21) rfl))) Via.refl e222 S_COMPACT_STRINGS (g := (mkF m 19 #[rv a1, rv a2, rv a2] [])) rfl (hb hby own_d9_19)
  have hc22_224 : ¬ (cw = (0 : Int32)) := hw0
  obtain ⟨T225, X225, e225, st225⟩ := getF X223 hx hZ hown (host := "") (Or.inl (hw _ (List.mem_of_getElem? (i := 38) rfl))) Via.refl e223 F_a1_coder (g := (mkF m 26 #[rv a1, rv a2, rv a2] [(.ref a1)])) rfl rfl (hb hby own_d9_26)
  obtain ⟨T226, X226, e226, st226⟩ := getF X225 hx hZ hown (host := "") (Or.inl (hw _ (List.mem_of_getElem? (i := 38) rfl))) Via.refl e225 F_a2_coder (g := (mkF m 30 #[rv a1, rv a2, rv a2] [(.ref a2), (.int (0 : Int32))])) rfl rfl (hb hby own_d9_30)
  obtain ⟨T227, X227, e227, st227⟩ := getF X226 hx hZ hown (host := "") (Or.inl (hw _ (List.mem_of_getElem? (i := 37) rfl))) Via.refl e226 F_a1_value (g := (mkF m 37 #[rv a1, rv a2, rv a2] [(.ref a1)])) rfl rfl (hb hby own_d9_37)
  obtain ⟨T228, X228, e228, st228⟩ := getF X227 hx hZ hown (host := "") (Or.inl (hw _ (List.mem_of_getElem? (i := 37) rfl))) Via.refl e227 F_a2_value (g := (mkF m 41 #[rv a1, rv a2, rv a2] [(.ref a2), (.ref b1)])) rfl rfl (hb hby own_d9_41)
  obtain ⟨_, _, ⟨T229, L229, k229, n229⟩, -, X229, ⟨Lc229, hQ229, l229, y229, z229⟩, st229⟩ := Jvm.LawKit.callS X228 hx (y := (⟨"java/lang/StringLatin1", "equals", "([B[B)Z"⟩ : MethodName)) hown (mvT hZ (hw _ (List.mem_of_getElem? (i := 47) rfl))) (mvT hZ (hw _ (List.mem_of_getElem? (i := 48) rfl))) (mvT hZ (hw _ (List.mem_of_getElem? (i := 24) rfl))) (mvT hZ (hw _ (List.mem_of_getElem? (i := 49) rfl))) (by decide) (backOf (W := 0) (rmLE_20 l Z a0 hw [] b1 b2 k1 k2 u0 u1 h0 n0 (Nat.le_trans Z0 K0.1) V_b1 V_b2) hZ (hw _ (List.mem_of_getElem? (i := 49) rfl)) (hw _ (List.mem_of_getElem? (i := 24) rfl)) (by decide) (by decide)) (g := (mkF m 44 #[rv a1, rv a2, rv a2] [(.ref b2), (.ref b1)])) rfl (by rw [hml]; rfl) (argsL := [(.ref b1), (.ref b2)]) (rest := []) (lenOf own_pd9 rfl) rfl (by show 2 * 0 + _ ≤ _; exact Nat.le_of_eq rfl) (hb hby own_d9_44) (fun _ _ => ⟨rfl, e228, (by decide : 0 + 0 ≤ _), (by decide : 0 + 0 ≤ _)⟩)
  dsimp only [Pt.U, Pt.locs, Pt.cells, Pt.slots] at X229 l229 y229 z229 st229 hQ229
  subst l229 y229 z229
  obtain ⟨rfl, N229q, e229⟩ := hQ229
  have N229 := Fr.app N0 N229q
  have pre230 : ∀ t, Steps p.tables e below (T229.setTop (mkF m 47 #[rv a1, rv a2, rv a2] [(.int (own_eqL [u0, u1] []))])) t → Steps p.tables e below (s₁.setTop (entryFrame m #[(.ref a1), (.ref a2)] 3)) t := fun t k => by
    refine pre0 _ ?_
    show Steps p.tables e below (s₁.setTop (mkF m 0 #[rv a1, rv a2, .unset] [])) _
    refine XS.aloadN X0.here hx rfl (hb hby own_d9_0) rfl rfl ?_
    show Steps p.tables e below (s₁.setTop (mkF m 1 #[rv a1, rv a2, .unset] [(.ref a1)])) _
    refine XS.aloadN X0.here hx rfl (hb hby own_d9_1) rfl rfl ?_
    show Steps p.tables e below (s₁.setTop (mkF m 2 #[rv a1, rv a2, .unset] [(.ref a2), (.ref a1)])) _
    refine Jvm.RoadKit.acmp (g := (mkF m 2 #[rv a1, rv a2, .unset] [(.ref a2), (.ref a1)])) X0 hx rfl rfl rfl (pc0 := 2) (pc' := 7) (same := false) rfl (hb hby own_d9_2) rfl (decide_eq_false fun q => ne_a1_a2 (Value.ref.inj q)) (by decide) (by decide) ?_
    show Steps p.tables e below (s₁.setTop (mkF m 7 #[rv a1, rv a2, .unset] [])) _
    refine XS.aloadN X0.here hx rfl (hb hby own_d9_7) rfl rfl ?_
    show Steps p.tables e below (s₁.setTop (mkF m 8 #[rv a1, rv a2, .unset] [(.ref a2)])) _
    refine st221 _ ?_
    show Steps p.tables e below (T221.setTop (mkF m 11 #[rv a1, rv a2, .unset] [(.int (1 : Int32))])) _
    refine XS.ifNo X221.here hx rfl (hb hby own_d9_11) rfl ((if0 _ _).trans (feq (by decide : ¬ ((1 : Int32) = (0 : Int32)))).1) ?_
    show Steps p.tables e below (T221.setTop (mkF m 14 #[rv a1, rv a2, .unset] [])) _
    refine XS.aloadN X221.here hx rfl (hb hby own_d9_14) rfl rfl ?_
    show Steps p.tables e below (T221.setTop (mkF m 15 #[rv a1, rv a2, .unset] [(.ref a2)])) _
    refine st222 _ ?_
    show Steps p.tables e below (T222.setTop (mkF m 18 #[rv a1, rv a2, .unset] [(.ref a2)])) _
    refine XS.astoreN X222.here hx rfl (hb hby own_d9_18) rfl rfl (l' := #[rv a1, rv a2, rv a2]) rfl ?_
    show Steps p.tables e below (T222.setTop (mkF m 19 #[rv a1, rv a2, rv a2] [])) _
    refine st223 _ ?_
    show Steps p.tables e below (T223.setTop (mkF m 22 #[rv a1, rv a2, rv a2] [(.int cw)])) _
    refine XS.ifNo X223.here hx rfl (hb hby own_d9_22) rfl ((if0 _ _).trans (feq hc22_224).1) ?_
    show Steps p.tables e below (T223.setTop (mkF m 25 #[rv a1, rv a2, rv a2] [])) _
    refine XS.aloadN X223.here hx rfl (hb hby own_d9_25) rfl rfl ?_
    show Steps p.tables e below (T223.setTop (mkF m 26 #[rv a1, rv a2, rv a2] [(.ref a1)])) _
    refine st225 _ ?_
    show Steps p.tables e below (T225.setTop (mkF m 29 #[rv a1, rv a2, rv a2] [(.int (0 : Int32))])) _
    refine XS.aloadN X225.here hx rfl (hb hby own_d9_29) rfl rfl ?_
    show Steps p.tables e below (T225.setTop (mkF m 30 #[rv a1, rv a2, rv a2] [(.ref a2), (.int (0 : Int32))])) _
    refine st226 _ ?_
    show Steps p.tables e below (T226.setTop (mkF m 33 #[rv a1, rv a2, rv a2] [(.int (0 : Int32)), (.int (0 : Int32))])) _
    refine XS.icmpNo X226.here hx rfl (hb hby own_d9_33) rfl (teq (by decide : ((0 : Int32) = (0 : Int32)))).2 ?_
    show Steps p.tables e below (T226.setTop (mkF m 36 #[rv a1, rv a2, rv a2] [])) _
    refine XS.aloadN X226.here hx rfl (hb hby own_d9_36) rfl rfl ?_
    show Steps p.tables e below (T226.setTop (mkF m 37 #[rv a1, rv a2, rv a2] [(.ref a1)])) _
    refine st227 _ ?_
    show Steps p.tables e below (T227.setTop (mkF m 40 #[rv a1, rv a2, rv a2] [(.ref b1)])) _
    refine XS.aloadN X227.here hx rfl (hb hby own_d9_40) rfl rfl ?_
    show Steps p.tables e below (T227.setTop (mkF m 41 #[rv a1, rv a2, rv a2] [(.ref a2), (.ref b1)])) _
    refine st228 _ ?_
    show Steps p.tables e below (T228.setTop (mkF m 44 #[rv a1, rv a2, rv a2] [(.ref b2), (.ref b1)])) _
    refine st229 _ ?_
    exact k
  by_cases hc47 : (own_eqL [u0, u1] []) = (0 : Int32)
  · obtain ⟨fs, hr, hrun, hended, hW, hsame⟩ := X229.leave (v := some (.int (0 : Int32))) (fun h => by rw [Bd.returns] at h; cases h)
    refine ⟨_, _, pre230 _ ?_, hrun, hended, _, _, rfl, ?_, ⟨_, rfl⟩, hW, hsame.mono (by decide) (by decide)⟩
    · show Steps p.tables e below (T229.setTop (mkF m 47 #[rv a1, rv a2, rv a2] [(.int (own_eqL [u0, u1] []))])) _
      refine XS.ifYes X229.here hx rfl (pc0 := 47) (pc' := 54) rfl (hb hby own_d9_47) rfl ((if0 _ _).trans (teq hc47).1) (by decide) (by decide) ?_
      show Steps p.tables e below (T229.setTop (mkF m 54 #[rv a1, rv a2, rv a2] [])) _
      refine XS.iconst X229.here hx rfl (hb hby own_d9_54) ?_
      show Steps p.tables e below (T229.setTop (mkF m 55 #[rv a1, rv a2, rv a2] [(.int (0 : Int32))])) _
      exact retN X229 hx (t := .boolean) Bd.returns (by simp) (hb hby own_d9_55) hr
    · show QSE_20 Z a1 a2 cw b1 b2 k1 k2 u0 u1 h0 n0 _ T229.heap _
      rw [e229]
      exact ⟨(congrArg (fun z => some (Value.int z)) (hc47.symm : (0 : Int32) = (own_eqL [u0, u1] []))), N229, rfl⟩
  · obtain ⟨fs, hr, hrun, hended, hW, hsame⟩ := X229.leave (v := some (.int (1 : Int32))) (fun h => by rw [Bd.returns] at h; cases h)
    refine ⟨_, _, pre230 _ ?_, hrun, hended, _, _, rfl, ?_, ⟨_, rfl⟩, hW, hsame.mono (by decide) (by decide)⟩
    · show Steps p.tables e below (T229.setTop (mkF m 47 #[rv a1, rv a2, rv a2] [(.int (own_eqL [u0, u1] []))])) _
      refine XS.ifNo X229.here hx rfl (hb hby own_d9_47) rfl ((if0 _ _).trans (feq hc47).1) ?_
      show Steps p.tables e below (T229.setTop (mkF m 50 #[rv a1, rv a2, rv a2] [])) _
      refine XS.iconst X229.here hx rfl (hb hby own_d9_50) ?_
      show Steps p.tables e below (T229.setTop (mkF m 51 #[rv a1, rv a2, rv a2] [(.int (1 : Int32))])) _
      refine XS.goto X229.here hx rfl (pc0 := 51) (pc' := 55) rfl (hb hby own_d9_51) (by decide) (by decide) ?_
      show Steps p.tables e below (T229.setTop (mkF m 55 #[rv a1, rv a2, rv a2] [(.int (1 : Int32))])) _
      exact retN X229 hx (t := .boolean) Bd.returns (by simp) (hb hby own_d9_55) hr
    · show QSE_20 Z a1 a2 cw b1 b2 k1 k2 u0 u1 h0 n0 _ T229.heap _
      rw [e229]
      exact ⟨(congrArg (fun z => some (Value.int z)) ((own_eqL1 hc47).symm : (1 : Int32) = (own_eqL [u0, u1] []))), N229, rfl⟩
theorem own_ef_rmLE_21 (m : MethodId) (a1 : Addr) (a2 : Addr) : entryFrame m #[(.ref a1), (.ref a2)] 3 = mkF m 0 #[.val (.ref a1), .val (.ref a2), .unset] [] := by first | (simp [entryFrame, mkF, argsToLocals, Value.category]; done) | rfl
def QLE_21 (Z : State) (a1 : Addr) (a2 : Addr) (k1 : ClassId) (k2 : ClassId) (u0 : Int32) (u1 : Int32) (v0 : Int32) (h0 : Heap) (n0 : Nat) (v : Option Value) (h : Heap) (L : List Loc) : Prop := v = some (.int (own_eqL [u0, u1] [v0])) ∧ Fr n0 L ∧ h = h0
set_option maxRecDepth 65536 in
set_option maxHeartbeats 40000000 in
theorem rmLE_21 (l : Launch) (Z : State) (a0 : Array Value) (hw : ∀ d ∈ tables_1, d.before a0 Z = true) (ws : List Jvm.Cond) (a1 : Addr) (a2 : Addr) (k1 : ClassId) (k2 : ClassId) (u0 : Int32) (u1 : Int32) (v0 : Int32) (h0 : Heap) (n0 : Nat) (Z0 : n0 ≤ h0.size) (V_a1 : Arv Z h0 a1 k1 .byte (2 : Int32) [(.int u0), (.int u1)] (.int (0 : Int32))) (V_a2 : Arv Z h0 a2 k2 .byte (1 : Int32) [(.int v0)] (.int (0 : Int32))) :
    MetFree l (⟨"java/lang/StringLatin1", "equals", "([B[B)Z"⟩ : MethodName) (head1 (Jvm.Cond.code (⟨"java/lang/StringLatin1", "equals", "([B[B)Z"⟩ : MethodName) jdk_43_method_13_code 3 (some .boolean) :: ws) ({ frames := 0, cells := 0, slots := 0, locals := 0 } : Room)) (fun a U => a = #[(.ref a1), (.ref a2)] ∧ Z.Warmed39 U.vm ∧ U.heap = h0) (fun _ _ _ _ _ => True) (fun _ U o U' => ∃ v L, o = .returned v ∧ QLE_21 Z a1 a2 k1 k2 u0 u1 v0 h0 n0 v U'.heap L ∧ FrameEnd U o U' L ({ frames := 0, cells := 0, slots := 0, locals := 0 } : Room).cells ({ frames := 0, cells := 0, slots := 0, locals := 0 } : Room).slots) := by
  refine MetFree.of_bodySF (plainFor_of_name own_pn2) hisR ?_
  intro p e s m args below meth c s₁ Bd hml0 hP hK
  obtain ⟨rfl, hZ, hh⟩ := hP
  have hx := Bd.exec
  have hby := Bd.bytes
  have hml : c.maxLocals = 3 := hml0
  have hown : s.vm.findClass "java/lang/StringLatin1" = some m.cls := findClass_of_methodNamed Bd.named
  have hnm := (name_of_methodNamed Bd.named Bd.method).1
  have X0 : Stand p l e ({ frames := 0, cells := 0, slots := 0, locals := 0 } : Room) s m #[(.ref a1), (.ref a2)] below meth c s₁ [] 0 0 := Stand.of_body Bd
  have e0 : s₁.heap = h0 := by rw [← hh, Bd.state]; rfl
  have N0 := Fr.nil n0
  have K0 : Keep h0 h0 [] := Keep.refl h0 _
  have pre0 : ∀ t, Steps p.tables e below (s₁.setTop (mkF m 0 #[.val (.ref a1), .val (.ref a2), .unset] [])) t → Steps p.tables e below (s₁.setTop (entryFrame m #[(.ref a1), (.ref a2)] 3)) t := fun t k => castTop (own_ef_rmLE_21 m a1 a2) k
  obtain ⟨cl231, Ar231, q231, S231, M231, H231, G231⟩ := id V_a1
  obtain ⟨cl232, Ar232, q232, S232, M232, H232, G232⟩ := id V_a2
  obtain ⟨fs, hr, hrun, hended, hW, hsame⟩ := X0.leave (v := some (.int (0 : Int32))) (fun h => by rw [Bd.returns] at h; cases h)
  refine ⟨_, _, pre0 _ ?_, hrun, hended, _, _, rfl, ?_, ⟨_, rfl⟩, hW, hsame.mono (by decide) (by decide)⟩
  · show Steps p.tables e below (s₁.setTop (mkF m 0 #[rv a1, rv a2, .unset] [])) _
    refine XS.aloadN X0.here hx rfl (hb hby own_d10_0) rfl rfl ?_
    show Steps p.tables e below (s₁.setTop (mkF m 1 #[rv a1, rv a2, .unset] [(.ref a1)])) _
    refine X0.arraylength hx (by rw [e0]; exact Ar231.1) (State.isArrayOf_alike hZ.alike Ar231.2.1) (g := (mkF m 1 #[rv a1, rv a2, .unset] [(.ref a1)])) rfl rfl (hb hby own_d10_1) _ ?_
    rw [len_of S231 M231]
    show Steps p.tables e below (s₁.setTop (mkF m 2 #[rv a1, rv a2, .unset] [(.int (2 : Int32))])) _
    refine XS.aloadN X0.here hx rfl (hb hby own_d10_2) rfl rfl ?_
    show Steps p.tables e below (s₁.setTop (mkF m 3 #[rv a1, rv a2, .unset] [(.ref a2), (.int (2 : Int32))])) _
    refine X0.arraylength hx (by rw [e0]; exact Ar232.1) (State.isArrayOf_alike hZ.alike Ar232.2.1) (g := (mkF m 3 #[rv a1, rv a2, .unset] [(.ref a2), (.int (2 : Int32))])) rfl rfl (hb hby own_d10_3) _ ?_
    rw [len_of S232 M232]
    show Steps p.tables e below (s₁.setTop (mkF m 4 #[rv a1, rv a2, .unset] [(.int (1 : Int32)), (.int (2 : Int32))])) _
    refine XS.icmpYes X0.here hx rfl (pc0 := 4) (pc' := 34) rfl (hb hby own_d10_4) rfl (feq (by decide : ¬ ((2 : Int32) = (1 : Int32)))).2 (by decide) (by decide) ?_
    show Steps p.tables e below (s₁.setTop (mkF m 34 #[rv a1, rv a2, .unset] [])) _
    refine XS.iconst X0.here hx rfl (hb hby own_d10_34) ?_
    show Steps p.tables e below (s₁.setTop (mkF m 35 #[rv a1, rv a2, .unset] [(.int (0 : Int32))])) _
    exact retN X0 hx (t := .boolean) Bd.returns (by simp) (hb hby own_d10_35) hr
  · show QLE_21 Z a1 a2 k1 k2 u0 u1 v0 h0 n0 _ s₁.heap _
    rw [e0]
    exact ⟨(congrArg (fun z => some (Value.int z)) (by simp [own_eqL] : (0 : Int32) = (own_eqL [u0, u1] [v0]))), N0, rfl⟩
theorem own_ef_rmSE_21 (m : MethodId) (a1 : Addr) (a2 : Addr) : entryFrame m #[(.ref a1), (.ref a2)] 3 = mkF m 0 #[.val (.ref a1), .val (.ref a2), .unset] [] := by first | (simp [entryFrame, mkF, argsToLocals, Value.category]; done) | rfl
def QSE_21 (Z : State) (a1 : Addr) (a2 : Addr) (cw : Int32) (b1 : Addr) (b2 : Addr) (k1 : ClassId) (k2 : ClassId) (u0 : Int32) (u1 : Int32) (v0 : Int32) (h0 : Heap) (n0 : Nat) (v : Option Value) (h : Heap) (L : List Loc) : Prop := v = some (.int (own_eqL [u0, u1] [v0])) ∧ Fr n0 L ∧ h = h0
set_option maxRecDepth 65536 in
set_option maxHeartbeats 40000000 in
theorem rmSE_21 (l : Launch) (Z : State) (a0 : Array Value) (hw : ∀ d ∈ tables_1, d.before a0 Z = true) (ws : List Jvm.Cond) (a1 : Addr) (a2 : Addr) (cw : Int32) (b1 : Addr) (b2 : Addr) (k1 : ClassId) (k2 : ClassId) (u0 : Int32) (u1 : Int32) (v0 : Int32) (h0 : Heap) (n0 : Nat) (Z0 : n0 ≤ h0.size) (E_a2 : Exa Z h0 a2 "java/lang/String") (F_a1_coder : Fld Z h0 a1 "java/lang/String" "coder" "B" (.int (0 : Int32))) (F_a1_value : Fld Z h0 a1 "java/lang/String" "value" "[B" (.ref b1)) (F_a2_coder : Fld Z h0 a2 "java/lang/String" "coder" "B" (.int (0 : Int32))) (F_a2_value : Fld Z h0 a2 "java/lang/String" "value" "[B" (.ref b2)) (V_b1 : Arv Z h0 b1 k1 .byte (2 : Int32) [(.int u0), (.int u1)] (.int (0 : Int32))) (V_b2 : Arv Z h0 b2 k2 .byte (1 : Int32) [(.int v0)] (.int (0 : Int32))) (S_COMPACT_STRINGS : Sta Z h0 "java/lang/String" "COMPACT_STRINGS" "Z" (.int cw)) (hw0 : ¬ (cw = (0 : Int32))) (ne_a1_a2 : a1 ≠ a2) :
    MetFree l (⟨"java/lang/String", "equals", "(Ljava/lang/Object;)Z"⟩ : MethodName) (head1 (Jvm.Cond.code (⟨"java/lang/String", "equals", "(Ljava/lang/Object;)Z"⟩ : MethodName) jdk_42_method_66_code 3 (some .boolean) :: ws) ({ frames := 1, cells := 0, slots := 0, locals := 14 } : Room)) (fun a U => a = #[(.ref a1), (.ref a2)] ∧ Z.Warmed39 U.vm ∧ U.heap = h0) (fun _ _ _ _ _ => True) (fun _ U o U' => ∃ v L, o = .returned v ∧ QSE_21 Z a1 a2 cw b1 b2 k1 k2 u0 u1 v0 h0 n0 v U'.heap L ∧ FrameEnd U o U' L ({ frames := 1, cells := 0, slots := 0, locals := 14 } : Room).cells ({ frames := 1, cells := 0, slots := 0, locals := 14 } : Room).slots) := by
  refine MetFree.of_bodySF (plainFor_of_name own_pn1) hisR ?_
  intro p e s m args below meth c s₁ Bd hml0 hP hK
  obtain ⟨rfl, hZ, hh⟩ := hP
  have hx := Bd.exec
  have hby := Bd.bytes
  have hml : c.maxLocals = 3 := hml0
  have hown : s.vm.findClass "java/lang/String" = some m.cls := findClass_of_methodNamed Bd.named
  have hnm := (name_of_methodNamed Bd.named Bd.method).1
  have X0 : Stand p l e ({ frames := 1, cells := 0, slots := 0, locals := 14 } : Room) s m #[(.ref a1), (.ref a2)] below meth c s₁ [] 0 0 := Stand.of_body Bd
  have e0 : s₁.heap = h0 := by rw [← hh, Bd.state]; rfl
  have N0 := Fr.nil n0
  have K0 : Keep h0 h0 [] := Keep.refl h0 _
  have pre0 : ∀ t, Steps p.tables e below (s₁.setTop (mkF m 0 #[.val (.ref a1), .val (.ref a2), .unset] [])) t → Steps p.tables e below (s₁.setTop (entryFrame m #[(.ref a1), (.ref a2)] 3)) t := fun t k => castTop (own_ef_rmSE_21 m a1 a2) k
  obtain ⟨T233, X233, e233, st233⟩ := instY X0 hx hZ hown (hw _ (List.mem_of_getElem? (i := 26) rfl)) e0 (Ins.self E_a2) (g := (mkF m 8 #[rv a1, rv a2, .unset] [(.ref a2)])) rfl rfl (hb hby own_d9_8)
  obtain ⟨T234, X234, e234, st234⟩ := castY X233 hx hZ hown (hw _ (List.mem_of_getElem? (i := 26) rfl)) e233 (Ins.self E_a2) (g := (mkF m 15 #[rv a1, rv a2, .unset] [(.ref a2)])) rfl rfl (hb hby own_d9_15)
  obtain ⟨T235, X235, e235, st235⟩ := getS2 X234 hx hZ hown (host := "") (Or.inl (hw _ (List.mem_of_getElem? (i := 21) rfl))) Via.refl e234 S_COMPACT_STRINGS (g := (mkF m 19 #[rv a1, rv a2, rv a2] [])) rfl (hb hby own_d9_19)
  have hc22_236 : ¬ (cw = (0 : Int32)) := hw0
  obtain ⟨T237, X237, e237, st237⟩ := getF X235 hx hZ hown (host := "") (Or.inl (hw _ (List.mem_of_getElem? (i := 38) rfl))) Via.refl e235 F_a1_coder (g := (mkF m 26 #[rv a1, rv a2, rv a2] [(.ref a1)])) rfl rfl (hb hby own_d9_26)
  obtain ⟨T238, X238, e238, st238⟩ := getF X237 hx hZ hown (host := "") (Or.inl (hw _ (List.mem_of_getElem? (i := 38) rfl))) Via.refl e237 F_a2_coder (g := (mkF m 30 #[rv a1, rv a2, rv a2] [(.ref a2), (.int (0 : Int32))])) rfl rfl (hb hby own_d9_30)
  obtain ⟨T239, X239, e239, st239⟩ := getF X238 hx hZ hown (host := "") (Or.inl (hw _ (List.mem_of_getElem? (i := 37) rfl))) Via.refl e238 F_a1_value (g := (mkF m 37 #[rv a1, rv a2, rv a2] [(.ref a1)])) rfl rfl (hb hby own_d9_37)
  obtain ⟨T240, X240, e240, st240⟩ := getF X239 hx hZ hown (host := "") (Or.inl (hw _ (List.mem_of_getElem? (i := 37) rfl))) Via.refl e239 F_a2_value (g := (mkF m 41 #[rv a1, rv a2, rv a2] [(.ref a2), (.ref b1)])) rfl rfl (hb hby own_d9_41)
  obtain ⟨_, _, ⟨T241, L241, k241, n241⟩, -, X241, ⟨Lc241, hQ241, l241, y241, z241⟩, st241⟩ := Jvm.LawKit.callS X240 hx (y := (⟨"java/lang/StringLatin1", "equals", "([B[B)Z"⟩ : MethodName)) hown (mvT hZ (hw _ (List.mem_of_getElem? (i := 47) rfl))) (mvT hZ (hw _ (List.mem_of_getElem? (i := 48) rfl))) (mvT hZ (hw _ (List.mem_of_getElem? (i := 24) rfl))) (mvT hZ (hw _ (List.mem_of_getElem? (i := 49) rfl))) (by decide) (backOf (W := 0) (rmLE_21 l Z a0 hw [] b1 b2 k1 k2 u0 u1 v0 h0 n0 (Nat.le_trans Z0 K0.1) V_b1 V_b2) hZ (hw _ (List.mem_of_getElem? (i := 49) rfl)) (hw _ (List.mem_of_getElem? (i := 24) rfl)) (by decide) (by decide)) (g := (mkF m 44 #[rv a1, rv a2, rv a2] [(.ref b2), (.ref b1)])) rfl (by rw [hml]; rfl) (argsL := [(.ref b1), (.ref b2)]) (rest := []) (lenOf own_pd9 rfl) rfl (by show 2 * 0 + _ ≤ _; exact Nat.le_of_eq rfl) (hb hby own_d9_44) (fun _ _ => ⟨rfl, e240, (by decide : 0 + 0 ≤ _), (by decide : 0 + 0 ≤ _)⟩)
  dsimp only [Pt.U, Pt.locs, Pt.cells, Pt.slots] at X241 l241 y241 z241 st241 hQ241
  subst l241 y241 z241
  obtain ⟨rfl, N241q, e241⟩ := hQ241
  have N241 := Fr.app N0 N241q
  have pre242 : ∀ t, Steps p.tables e below (T241.setTop (mkF m 47 #[rv a1, rv a2, rv a2] [(.int (own_eqL [u0, u1] [v0]))])) t → Steps p.tables e below (s₁.setTop (entryFrame m #[(.ref a1), (.ref a2)] 3)) t := fun t k => by
    refine pre0 _ ?_
    show Steps p.tables e below (s₁.setTop (mkF m 0 #[rv a1, rv a2, .unset] [])) _
    refine XS.aloadN X0.here hx rfl (hb hby own_d9_0) rfl rfl ?_
    show Steps p.tables e below (s₁.setTop (mkF m 1 #[rv a1, rv a2, .unset] [(.ref a1)])) _
    refine XS.aloadN X0.here hx rfl (hb hby own_d9_1) rfl rfl ?_
    show Steps p.tables e below (s₁.setTop (mkF m 2 #[rv a1, rv a2, .unset] [(.ref a2), (.ref a1)])) _
    refine Jvm.RoadKit.acmp (g := (mkF m 2 #[rv a1, rv a2, .unset] [(.ref a2), (.ref a1)])) X0 hx rfl rfl rfl (pc0 := 2) (pc' := 7) (same := false) rfl (hb hby own_d9_2) rfl (decide_eq_false fun q => ne_a1_a2 (Value.ref.inj q)) (by decide) (by decide) ?_
    show Steps p.tables e below (s₁.setTop (mkF m 7 #[rv a1, rv a2, .unset] [])) _
    refine XS.aloadN X0.here hx rfl (hb hby own_d9_7) rfl rfl ?_
    show Steps p.tables e below (s₁.setTop (mkF m 8 #[rv a1, rv a2, .unset] [(.ref a2)])) _
    refine st233 _ ?_
    show Steps p.tables e below (T233.setTop (mkF m 11 #[rv a1, rv a2, .unset] [(.int (1 : Int32))])) _
    refine XS.ifNo X233.here hx rfl (hb hby own_d9_11) rfl ((if0 _ _).trans (feq (by decide : ¬ ((1 : Int32) = (0 : Int32)))).1) ?_
    show Steps p.tables e below (T233.setTop (mkF m 14 #[rv a1, rv a2, .unset] [])) _
    refine XS.aloadN X233.here hx rfl (hb hby own_d9_14) rfl rfl ?_
    show Steps p.tables e below (T233.setTop (mkF m 15 #[rv a1, rv a2, .unset] [(.ref a2)])) _
    refine st234 _ ?_
    show Steps p.tables e below (T234.setTop (mkF m 18 #[rv a1, rv a2, .unset] [(.ref a2)])) _
    refine XS.astoreN X234.here hx rfl (hb hby own_d9_18) rfl rfl (l' := #[rv a1, rv a2, rv a2]) rfl ?_
    show Steps p.tables e below (T234.setTop (mkF m 19 #[rv a1, rv a2, rv a2] [])) _
    refine st235 _ ?_
    show Steps p.tables e below (T235.setTop (mkF m 22 #[rv a1, rv a2, rv a2] [(.int cw)])) _
    refine XS.ifNo X235.here hx rfl (hb hby own_d9_22) rfl ((if0 _ _).trans (feq hc22_236).1) ?_
    show Steps p.tables e below (T235.setTop (mkF m 25 #[rv a1, rv a2, rv a2] [])) _
    refine XS.aloadN X235.here hx rfl (hb hby own_d9_25) rfl rfl ?_
    show Steps p.tables e below (T235.setTop (mkF m 26 #[rv a1, rv a2, rv a2] [(.ref a1)])) _
    refine st237 _ ?_
    show Steps p.tables e below (T237.setTop (mkF m 29 #[rv a1, rv a2, rv a2] [(.int (0 : Int32))])) _
    refine XS.aloadN X237.here hx rfl (hb hby own_d9_29) rfl rfl ?_
    show Steps p.tables e below (T237.setTop (mkF m 30 #[rv a1, rv a2, rv a2] [(.ref a2), (.int (0 : Int32))])) _
    refine st238 _ ?_
    show Steps p.tables e below (T238.setTop (mkF m 33 #[rv a1, rv a2, rv a2] [(.int (0 : Int32)), (.int (0 : Int32))])) _
    refine XS.icmpNo X238.here hx rfl (hb hby own_d9_33) rfl (teq (by decide : ((0 : Int32) = (0 : Int32)))).2 ?_
    show Steps p.tables e below (T238.setTop (mkF m 36 #[rv a1, rv a2, rv a2] [])) _
    refine XS.aloadN X238.here hx rfl (hb hby own_d9_36) rfl rfl ?_
    show Steps p.tables e below (T238.setTop (mkF m 37 #[rv a1, rv a2, rv a2] [(.ref a1)])) _
    refine st239 _ ?_
    show Steps p.tables e below (T239.setTop (mkF m 40 #[rv a1, rv a2, rv a2] [(.ref b1)])) _
    refine XS.aloadN X239.here hx rfl (hb hby own_d9_40) rfl rfl ?_
    show Steps p.tables e below (T239.setTop (mkF m 41 #[rv a1, rv a2, rv a2] [(.ref a2), (.ref b1)])) _
    refine st240 _ ?_
    show Steps p.tables e below (T240.setTop (mkF m 44 #[rv a1, rv a2, rv a2] [(.ref b2), (.ref b1)])) _
    refine st241 _ ?_
    exact k
  by_cases hc47 : (own_eqL [u0, u1] [v0]) = (0 : Int32)
  · obtain ⟨fs, hr, hrun, hended, hW, hsame⟩ := X241.leave (v := some (.int (0 : Int32))) (fun h => by rw [Bd.returns] at h; cases h)
    refine ⟨_, _, pre242 _ ?_, hrun, hended, _, _, rfl, ?_, ⟨_, rfl⟩, hW, hsame.mono (by decide) (by decide)⟩
    · show Steps p.tables e below (T241.setTop (mkF m 47 #[rv a1, rv a2, rv a2] [(.int (own_eqL [u0, u1] [v0]))])) _
      refine XS.ifYes X241.here hx rfl (pc0 := 47) (pc' := 54) rfl (hb hby own_d9_47) rfl ((if0 _ _).trans (teq hc47).1) (by decide) (by decide) ?_
      show Steps p.tables e below (T241.setTop (mkF m 54 #[rv a1, rv a2, rv a2] [])) _
      refine XS.iconst X241.here hx rfl (hb hby own_d9_54) ?_
      show Steps p.tables e below (T241.setTop (mkF m 55 #[rv a1, rv a2, rv a2] [(.int (0 : Int32))])) _
      exact retN X241 hx (t := .boolean) Bd.returns (by simp) (hb hby own_d9_55) hr
    · show QSE_21 Z a1 a2 cw b1 b2 k1 k2 u0 u1 v0 h0 n0 _ T241.heap _
      rw [e241]
      exact ⟨(congrArg (fun z => some (Value.int z)) (hc47.symm : (0 : Int32) = (own_eqL [u0, u1] [v0]))), N241, rfl⟩
  · obtain ⟨fs, hr, hrun, hended, hW, hsame⟩ := X241.leave (v := some (.int (1 : Int32))) (fun h => by rw [Bd.returns] at h; cases h)
    refine ⟨_, _, pre242 _ ?_, hrun, hended, _, _, rfl, ?_, ⟨_, rfl⟩, hW, hsame.mono (by decide) (by decide)⟩
    · show Steps p.tables e below (T241.setTop (mkF m 47 #[rv a1, rv a2, rv a2] [(.int (own_eqL [u0, u1] [v0]))])) _
      refine XS.ifNo X241.here hx rfl (hb hby own_d9_47) rfl ((if0 _ _).trans (feq hc47).1) ?_
      show Steps p.tables e below (T241.setTop (mkF m 50 #[rv a1, rv a2, rv a2] [])) _
      refine XS.iconst X241.here hx rfl (hb hby own_d9_50) ?_
      show Steps p.tables e below (T241.setTop (mkF m 51 #[rv a1, rv a2, rv a2] [(.int (1 : Int32))])) _
      refine XS.goto X241.here hx rfl (pc0 := 51) (pc' := 55) rfl (hb hby own_d9_51) (by decide) (by decide) ?_
      show Steps p.tables e below (T241.setTop (mkF m 55 #[rv a1, rv a2, rv a2] [(.int (1 : Int32))])) _
      exact retN X241 hx (t := .boolean) Bd.returns (by simp) (hb hby own_d9_55) hr
    · show QSE_21 Z a1 a2 cw b1 b2 k1 k2 u0 u1 v0 h0 n0 _ T241.heap _
      rw [e241]
      exact ⟨(congrArg (fun z => some (Value.int z)) ((own_eqL1 hc47).symm : (1 : Int32) = (own_eqL [u0, u1] [v0]))), N241, rfl⟩
theorem own_ef_rmLE_22 (m : MethodId) (a1 : Addr) (a2 : Addr) : entryFrame m #[(.ref a1), (.ref a2)] 3 = mkF m 0 #[.val (.ref a1), .val (.ref a2), .unset] [] := by first | (simp [entryFrame, mkF, argsToLocals, Value.category]; done) | rfl
def QLE_22 (Z : State) (a1 : Addr) (a2 : Addr) (k1 : ClassId) (k2 : ClassId) (u0 : Int32) (u1 : Int32) (v0 : Int32) (v1 : Int32) (h0 : Heap) (n0 : Nat) (v : Option Value) (h : Heap) (L : List Loc) : Prop := v = some (.int (own_eqL [u0, u1] [v0, v1])) ∧ Fr n0 L ∧ h = h0
set_option maxRecDepth 65536 in
set_option maxHeartbeats 40000000 in
theorem rmLE_22 (l : Launch) (Z : State) (a0 : Array Value) (hw : ∀ d ∈ tables_1, d.before a0 Z = true) (ws : List Jvm.Cond) (a1 : Addr) (a2 : Addr) (k1 : ClassId) (k2 : ClassId) (u0 : Int32) (u1 : Int32) (v0 : Int32) (v1 : Int32) (h0 : Heap) (n0 : Nat) (Z0 : n0 ≤ h0.size) (V_a1 : Arv Z h0 a1 k1 .byte (2 : Int32) [(.int u0), (.int u1)] (.int (0 : Int32))) (V_a2 : Arv Z h0 a2 k2 .byte (2 : Int32) [(.int v0), (.int v1)] (.int (0 : Int32))) :
    MetFree l (⟨"java/lang/StringLatin1", "equals", "([B[B)Z"⟩ : MethodName) (head1 (Jvm.Cond.code (⟨"java/lang/StringLatin1", "equals", "([B[B)Z"⟩ : MethodName) jdk_43_method_13_code 3 (some .boolean) :: ws) ({ frames := 0, cells := 0, slots := 0, locals := 0 } : Room)) (fun a U => a = #[(.ref a1), (.ref a2)] ∧ Z.Warmed39 U.vm ∧ U.heap = h0) (fun _ _ _ _ _ => True) (fun _ U o U' => ∃ v L, o = .returned v ∧ QLE_22 Z a1 a2 k1 k2 u0 u1 v0 v1 h0 n0 v U'.heap L ∧ FrameEnd U o U' L ({ frames := 0, cells := 0, slots := 0, locals := 0 } : Room).cells ({ frames := 0, cells := 0, slots := 0, locals := 0 } : Room).slots) := by
  refine MetFree.of_bodySF (plainFor_of_name own_pn2) hisR ?_
  intro p e s m args below meth c s₁ Bd hml0 hP hK
  obtain ⟨rfl, hZ, hh⟩ := hP
  have hx := Bd.exec
  have hby := Bd.bytes
  have hml : c.maxLocals = 3 := hml0
  have hown : s.vm.findClass "java/lang/StringLatin1" = some m.cls := findClass_of_methodNamed Bd.named
  have hnm := (name_of_methodNamed Bd.named Bd.method).1
  have X0 : Stand p l e ({ frames := 0, cells := 0, slots := 0, locals := 0 } : Room) s m #[(.ref a1), (.ref a2)] below meth c s₁ [] 0 0 := Stand.of_body Bd
  have e0 : s₁.heap = h0 := by rw [← hh, Bd.state]; rfl
  have N0 := Fr.nil n0
  have K0 : Keep h0 h0 [] := Keep.refl h0 _
  have pre0 : ∀ t, Steps p.tables e below (s₁.setTop (mkF m 0 #[.val (.ref a1), .val (.ref a2), .unset] [])) t → Steps p.tables e below (s₁.setTop (entryFrame m #[(.ref a1), (.ref a2)] 3)) t := fun t k => castTop (own_ef_rmLE_22 m a1 a2) k
  obtain ⟨cl243, Ar243, q243, S243, M243, H243, G243⟩ := id V_a1
  obtain ⟨cl244, Ar244, q244, S244, M244, H244, G244⟩ := id V_a2
  obtain ⟨cl245, Ar245, q245, S245, M245, H245, G245⟩ := id V_a1
  obtain ⟨cl246, Ar246, q246, S246, M246, H246, G246⟩ := id V_a1
  have hin246 : ¬ ((0 : Int32) < 0 ∨ cl246.slots.size ≤ ((0 : Int32)).toNatClampNeg) := inb_of S246 ⟨by decide, by decide⟩
  have hat246 : cl246.slots[((0 : Int32)).toNatClampNeg]? = some (.int u0) := Has.at H246 hin246 rfl
  obtain ⟨cl247, Ar247, q247, S247, M247, H247, G247⟩ := id V_a2
  have hin247 : ¬ ((0 : Int32) < 0 ∨ cl247.slots.size ≤ ((0 : Int32)).toNatClampNeg) := inb_of S247 ⟨by decide, by decide⟩
  have hat247 : cl247.slots[((0 : Int32)).toNatClampNeg]? = some (.int v0) := Has.at H247 hin247 rfl
  have pre248 : ∀ t, Steps p.tables e below (s₁.setTop (mkF m 21 #[rv a1, rv a2, iv (0 : Int32)] [(.int v0), (.int u0)])) t → Steps p.tables e below (s₁.setTop (entryFrame m #[(.ref a1), (.ref a2)] 3)) t := fun t k => by
    refine pre0 _ ?_
    show Steps p.tables e below (s₁.setTop (mkF m 0 #[rv a1, rv a2, .unset] [])) _
    refine XS.aloadN X0.here hx rfl (hb hby own_d10_0) rfl rfl ?_
    show Steps p.tables e below (s₁.setTop (mkF m 1 #[rv a1, rv a2, .unset] [(.ref a1)])) _
    refine X0.arraylength hx (by rw [e0]; exact Ar243.1) (State.isArrayOf_alike hZ.alike Ar243.2.1) (g := (mkF m 1 #[rv a1, rv a2, .unset] [(.ref a1)])) rfl rfl (hb hby own_d10_1) _ ?_
    rw [len_of S243 M243]
    show Steps p.tables e below (s₁.setTop (mkF m 2 #[rv a1, rv a2, .unset] [(.int (2 : Int32))])) _
    refine XS.aloadN X0.here hx rfl (hb hby own_d10_2) rfl rfl ?_
    show Steps p.tables e below (s₁.setTop (mkF m 3 #[rv a1, rv a2, .unset] [(.ref a2), (.int (2 : Int32))])) _
    refine X0.arraylength hx (by rw [e0]; exact Ar244.1) (State.isArrayOf_alike hZ.alike Ar244.2.1) (g := (mkF m 3 #[rv a1, rv a2, .unset] [(.ref a2), (.int (2 : Int32))])) rfl rfl (hb hby own_d10_3) _ ?_
    rw [len_of S244 M244]
    show Steps p.tables e below (s₁.setTop (mkF m 4 #[rv a1, rv a2, .unset] [(.int (2 : Int32)), (.int (2 : Int32))])) _
    refine XS.icmpNo X0.here hx rfl (hb hby own_d10_4) rfl (teq (by decide : ((2 : Int32) = (2 : Int32)))).2 ?_
    show Steps p.tables e below (s₁.setTop (mkF m 7 #[rv a1, rv a2, .unset] [])) _
    refine XS.iconst X0.here hx rfl (hb hby own_d10_7) ?_
    show Steps p.tables e below (s₁.setTop (mkF m 8 #[rv a1, rv a2, .unset] [(.int (0 : Int32))])) _
    refine XS.istoreN X0.here hx rfl (hb hby own_d10_8) rfl (l' := #[rv a1, rv a2, iv (0 : Int32)]) rfl ?_
    show Steps p.tables e below (s₁.setTop (mkF m 9 #[rv a1, rv a2, iv (0 : Int32)] [])) _
    refine XS.iloadN X0.here hx rfl (hb hby own_d10_9) rfl ?_
    show Steps p.tables e below (s₁.setTop (mkF m 10 #[rv a1, rv a2, iv (0 : Int32)] [(.int (0 : Int32))])) _
    refine XS.aloadN X0.here hx rfl (hb hby own_d10_10) rfl rfl ?_
    show Steps p.tables e below (s₁.setTop (mkF m 11 #[rv a1, rv a2, iv (0 : Int32)] [(.ref a1), (.int (0 : Int32))])) _
    refine X0.arraylength hx (by rw [e0]; exact Ar245.1) (State.isArrayOf_alike hZ.alike Ar245.2.1) (g := (mkF m 11 #[rv a1, rv a2, iv (0 : Int32)] [(.ref a1), (.int (0 : Int32))])) rfl rfl (hb hby own_d10_11) _ ?_
    rw [len_of S245 M245]
    show Steps p.tables e below (s₁.setTop (mkF m 12 #[rv a1, rv a2, iv (0 : Int32)] [(.int (2 : Int32)), (.int (0 : Int32))])) _
    refine XS.icmpNo X0.here hx rfl (hb hby own_d10_12) rfl (tlt (by decide : ((0 : Int32) < (2 : Int32)))).2.1 ?_
    show Steps p.tables e below (s₁.setTop (mkF m 15 #[rv a1, rv a2, iv (0 : Int32)] [])) _
    refine XS.aloadN X0.here hx rfl (hb hby own_d10_15) rfl rfl ?_
    show Steps p.tables e below (s₁.setTop (mkF m 16 #[rv a1, rv a2, iv (0 : Int32)] [(.ref a1)])) _
    refine XS.iloadN X0.here hx rfl (hb hby own_d10_16) rfl ?_
    show Steps p.tables e below (s₁.setTop (mkF m 17 #[rv a1, rv a2, iv (0 : Int32)] [(.int (0 : Int32)), (.ref a1)])) _
    refine X0.baloadBytes hx (j := (0 : Int32)) (v := (.int u0)) (by rw [e0]; exact Ar246.1) (State.isArrayOf_alike hZ.alike Ar246.2.1) Ar246.2.2 hin246 hat246 (g := (mkF m 17 #[rv a1, rv a2, iv (0 : Int32)] [(.int (0 : Int32)), (.ref a1)])) rfl rfl (hb hby own_d10_17) _ ?_
    show Steps p.tables e below (s₁.setTop (mkF m 18 #[rv a1, rv a2, iv (0 : Int32)] [(.int u0)])) _
    refine XS.aloadN X0.here hx rfl (hb hby own_d10_18) rfl rfl ?_
    show Steps p.tables e below (s₁.setTop (mkF m 19 #[rv a1, rv a2, iv (0 : Int32)] [(.ref a2), (.int u0)])) _
    refine XS.iloadN X0.here hx rfl (hb hby own_d10_19) rfl ?_
    show Steps p.tables e below (s₁.setTop (mkF m 20 #[rv a1, rv a2, iv (0 : Int32)] [(.int (0 : Int32)), (.ref a2), (.int u0)])) _
    refine X0.baloadBytes hx (j := (0 : Int32)) (v := (.int v0)) (by rw [e0]; exact Ar247.1) (State.isArrayOf_alike hZ.alike Ar247.2.1) Ar247.2.2 hin247 hat247 (g := (mkF m 20 #[rv a1, rv a2, iv (0 : Int32)] [(.int (0 : Int32)), (.ref a2), (.int u0)])) rfl rfl (hb hby own_d10_20) _ ?_
    exact k
  by_cases hc21 : u0 = v0
  · obtain ⟨cl249, Ar249, q249, S249, M249, H249, G249⟩ := id V_a1
    obtain ⟨cl250, Ar250, q250, S250, M250, H250, G250⟩ := id V_a1
    have hin250 : ¬ ((1 : Int32) < 0 ∨ cl250.slots.size ≤ ((1 : Int32)).toNatClampNeg) := inb_of S250 ⟨by decide, by decide⟩
    have hat250 : cl250.slots[((1 : Int32)).toNatClampNeg]? = some (.int u1) := Has.at H250 hin250 rfl
    obtain ⟨cl251, Ar251, q251, S251, M251, H251, G251⟩ := id V_a2
    have hin251 : ¬ ((1 : Int32) < 0 ∨ cl251.slots.size ≤ ((1 : Int32)).toNatClampNeg) := inb_of S251 ⟨by decide, by decide⟩
    have hat251 : cl251.slots[((1 : Int32)).toNatClampNeg]? = some (.int v1) := Has.at H251 hin251 rfl
    have pre252 : ∀ t, Steps p.tables e below (s₁.setTop (mkF m 21 #[rv a1, rv a2, iv (1 : Int32)] [(.int v1), (.int u1)])) t → Steps p.tables e below (s₁.setTop (entryFrame m #[(.ref a1), (.ref a2)] 3)) t := fun t k => by
      refine pre248 _ ?_
      show Steps p.tables e below (s₁.setTop (mkF m 21 #[rv a1, rv a2, iv (0 : Int32)] [(.int v0), (.int u0)])) _
      refine XS.icmpYes X0.here hx rfl (pc0 := 21) (pc' := 26) rfl (hb hby own_d10_21) rfl (teq hc21).1 (by decide) (by decide) ?_
      show Steps p.tables e below (s₁.setTop (mkF m 26 #[rv a1, rv a2, iv (0 : Int32)] [])) _
      refine XS.iinc X0.here hx rfl (hb hby own_d10_26) rfl (l' := #[rv a1, rv a2, iv (1 : Int32)]) rfl ?_
      show Steps p.tables e below (s₁.setTop (mkF m 29 #[rv a1, rv a2, iv (1 : Int32)] [])) _
      refine XS.goto X0.here hx rfl (pc0 := 29) (pc' := 9) rfl (hb hby own_d10_29) (by decide) (by decide) ?_
      show Steps p.tables e below (s₁.setTop (mkF m 9 #[rv a1, rv a2, iv (1 : Int32)] [])) _
      refine XS.iloadN X0.here hx rfl (hb hby own_d10_9) rfl ?_
      show Steps p.tables e below (s₁.setTop (mkF m 10 #[rv a1, rv a2, iv (1 : Int32)] [(.int (1 : Int32))])) _
      refine XS.aloadN X0.here hx rfl (hb hby own_d10_10) rfl rfl ?_
      show Steps p.tables e below (s₁.setTop (mkF m 11 #[rv a1, rv a2, iv (1 : Int32)] [(.ref a1), (.int (1 : Int32))])) _
      refine X0.arraylength hx (by rw [e0]; exact Ar249.1) (State.isArrayOf_alike hZ.alike Ar249.2.1) (g := (mkF m 11 #[rv a1, rv a2, iv (1 : Int32)] [(.ref a1), (.int (1 : Int32))])) rfl rfl (hb hby own_d10_11) _ ?_
      rw [len_of S249 M249]
      show Steps p.tables e below (s₁.setTop (mkF m 12 #[rv a1, rv a2, iv (1 : Int32)] [(.int (2 : Int32)), (.int (1 : Int32))])) _
      refine XS.icmpNo X0.here hx rfl (hb hby own_d10_12) rfl (tlt (by decide : ((1 : Int32) < (2 : Int32)))).2.1 ?_
      show Steps p.tables e below (s₁.setTop (mkF m 15 #[rv a1, rv a2, iv (1 : Int32)] [])) _
      refine XS.aloadN X0.here hx rfl (hb hby own_d10_15) rfl rfl ?_
      show Steps p.tables e below (s₁.setTop (mkF m 16 #[rv a1, rv a2, iv (1 : Int32)] [(.ref a1)])) _
      refine XS.iloadN X0.here hx rfl (hb hby own_d10_16) rfl ?_
      show Steps p.tables e below (s₁.setTop (mkF m 17 #[rv a1, rv a2, iv (1 : Int32)] [(.int (1 : Int32)), (.ref a1)])) _
      refine X0.baloadBytes hx (j := (1 : Int32)) (v := (.int u1)) (by rw [e0]; exact Ar250.1) (State.isArrayOf_alike hZ.alike Ar250.2.1) Ar250.2.2 hin250 hat250 (g := (mkF m 17 #[rv a1, rv a2, iv (1 : Int32)] [(.int (1 : Int32)), (.ref a1)])) rfl rfl (hb hby own_d10_17) _ ?_
      show Steps p.tables e below (s₁.setTop (mkF m 18 #[rv a1, rv a2, iv (1 : Int32)] [(.int u1)])) _
      refine XS.aloadN X0.here hx rfl (hb hby own_d10_18) rfl rfl ?_
      show Steps p.tables e below (s₁.setTop (mkF m 19 #[rv a1, rv a2, iv (1 : Int32)] [(.ref a2), (.int u1)])) _
      refine XS.iloadN X0.here hx rfl (hb hby own_d10_19) rfl ?_
      show Steps p.tables e below (s₁.setTop (mkF m 20 #[rv a1, rv a2, iv (1 : Int32)] [(.int (1 : Int32)), (.ref a2), (.int u1)])) _
      refine X0.baloadBytes hx (j := (1 : Int32)) (v := (.int v1)) (by rw [e0]; exact Ar251.1) (State.isArrayOf_alike hZ.alike Ar251.2.1) Ar251.2.2 hin251 hat251 (g := (mkF m 20 #[rv a1, rv a2, iv (1 : Int32)] [(.int (1 : Int32)), (.ref a2), (.int u1)])) rfl rfl (hb hby own_d10_20) _ ?_
      exact k
    by_cases hc21_253 : u1 = v1
    · obtain ⟨cl254, Ar254, q254, S254, M254, H254, G254⟩ := id V_a1
      obtain ⟨fs, hr, hrun, hended, hW, hsame⟩ := X0.leave (v := some (.int (1 : Int32))) (fun h => by rw [Bd.returns] at h; cases h)
      refine ⟨_, _, pre252 _ ?_, hrun, hended, _, _, rfl, ?_, ⟨_, rfl⟩, hW, hsame.mono (by decide) (by decide)⟩
      · show Steps p.tables e below (s₁.setTop (mkF m 21 #[rv a1, rv a2, iv (1 : Int32)] [(.int v1), (.int u1)])) _
        refine XS.icmpYes X0.here hx rfl (pc0 := 21) (pc' := 26) rfl (hb hby own_d10_21) rfl (teq hc21_253).1 (by decide) (by decide) ?_
        show Steps p.tables e below (s₁.setTop (mkF m 26 #[rv a1, rv a2, iv (1 : Int32)] [])) _
        refine XS.iinc X0.here hx rfl (hb hby own_d10_26) rfl (l' := #[rv a1, rv a2, iv (2 : Int32)]) rfl ?_
        show Steps p.tables e below (s₁.setTop (mkF m 29 #[rv a1, rv a2, iv (2 : Int32)] [])) _
        refine XS.goto X0.here hx rfl (pc0 := 29) (pc' := 9) rfl (hb hby own_d10_29) (by decide) (by decide) ?_
        show Steps p.tables e below (s₁.setTop (mkF m 9 #[rv a1, rv a2, iv (2 : Int32)] [])) _
        refine XS.iloadN X0.here hx rfl (hb hby own_d10_9) rfl ?_
        show Steps p.tables e below (s₁.setTop (mkF m 10 #[rv a1, rv a2, iv (2 : Int32)] [(.int (2 : Int32))])) _
        refine XS.aloadN X0.here hx rfl (hb hby own_d10_10) rfl rfl ?_
        show Steps p.tables e below (s₁.setTop (mkF m 11 #[rv a1, rv a2, iv (2 : Int32)] [(.ref a1), (.int (2 : Int32))])) _
        refine X0.arraylength hx (by rw [e0]; exact Ar254.1) (State.isArrayOf_alike hZ.alike Ar254.2.1) (g := (mkF m 11 #[rv a1, rv a2, iv (2 : Int32)] [(.ref a1), (.int (2 : Int32))])) rfl rfl (hb hby own_d10_11) _ ?_
        rw [len_of S254 M254]
        show Steps p.tables e below (s₁.setTop (mkF m 12 #[rv a1, rv a2, iv (2 : Int32)] [(.int (2 : Int32)), (.int (2 : Int32))])) _
        refine XS.icmpYes X0.here hx rfl (pc0 := 12) (pc' := 32) rfl (hb hby own_d10_12) rfl (flt (by decide : ¬ ((2 : Int32) < (2 : Int32)))).2.1 (by decide) (by decide) ?_
        show Steps p.tables e below (s₁.setTop (mkF m 32 #[rv a1, rv a2, iv (2 : Int32)] [])) _
        refine XS.iconst X0.here hx rfl (hb hby own_d10_32) ?_
        show Steps p.tables e below (s₁.setTop (mkF m 33 #[rv a1, rv a2, iv (2 : Int32)] [(.int (1 : Int32))])) _
        exact retN X0 hx (t := .boolean) Bd.returns (by simp) (hb hby own_d10_33) hr
      · show QLE_22 Z a1 a2 k1 k2 u0 u1 v0 v1 h0 n0 _ s₁.heap _
        rw [e0]
        exact ⟨(congrArg (fun z => some (Value.int z)) (by simp [own_eqL, hc21, hc21_253] : (1 : Int32) = (own_eqL [u0, u1] [v0, v1]))), N0, rfl⟩
    · obtain ⟨fs, hr, hrun, hended, hW, hsame⟩ := X0.leave (v := some (.int (0 : Int32))) (fun h => by rw [Bd.returns] at h; cases h)
      refine ⟨_, _, pre252 _ ?_, hrun, hended, _, _, rfl, ?_, ⟨_, rfl⟩, hW, hsame.mono (by decide) (by decide)⟩
      · show Steps p.tables e below (s₁.setTop (mkF m 21 #[rv a1, rv a2, iv (1 : Int32)] [(.int v1), (.int u1)])) _
        refine XS.icmpNo X0.here hx rfl (hb hby own_d10_21) rfl (feq hc21_253).1 ?_
        show Steps p.tables e below (s₁.setTop (mkF m 24 #[rv a1, rv a2, iv (1 : Int32)] [])) _
        refine XS.iconst X0.here hx rfl (hb hby own_d10_24) ?_
        show Steps p.tables e below (s₁.setTop (mkF m 25 #[rv a1, rv a2, iv (1 : Int32)] [(.int (0 : Int32))])) _
        exact retN X0 hx (t := .boolean) Bd.returns (by simp) (hb hby own_d10_25) hr
      · show QLE_22 Z a1 a2 k1 k2 u0 u1 v0 v1 h0 n0 _ s₁.heap _
        rw [e0]
        exact ⟨(congrArg (fun z => some (Value.int z)) (by simp [own_eqL, hc21, hc21_253] : (0 : Int32) = (own_eqL [u0, u1] [v0, v1]))), N0, rfl⟩
  · obtain ⟨fs, hr, hrun, hended, hW, hsame⟩ := X0.leave (v := some (.int (0 : Int32))) (fun h => by rw [Bd.returns] at h; cases h)
    refine ⟨_, _, pre248 _ ?_, hrun, hended, _, _, rfl, ?_, ⟨_, rfl⟩, hW, hsame.mono (by decide) (by decide)⟩
    · show Steps p.tables e below (s₁.setTop (mkF m 21 #[rv a1, rv a2, iv (0 : Int32)] [(.int v0), (.int u0)])) _
      refine XS.icmpNo X0.here hx rfl (hb hby own_d10_21) rfl (feq hc21).1 ?_
      show Steps p.tables e below (s₁.setTop (mkF m 24 #[rv a1, rv a2, iv (0 : Int32)] [])) _
      refine XS.iconst X0.here hx rfl (hb hby own_d10_24) ?_
      show Steps p.tables e below (s₁.setTop (mkF m 25 #[rv a1, rv a2, iv (0 : Int32)] [(.int (0 : Int32))])) _
      exact retN X0 hx (t := .boolean) Bd.returns (by simp) (hb hby own_d10_25) hr
    · show QLE_22 Z a1 a2 k1 k2 u0 u1 v0 v1 h0 n0 _ s₁.heap _
      rw [e0]
      exact ⟨(congrArg (fun z => some (Value.int z)) (by simp [own_eqL, hc21] : (0 : Int32) = (own_eqL [u0, u1] [v0, v1]))), N0, rfl⟩
theorem own_ef_rmSE_22 (m : MethodId) (a1 : Addr) (a2 : Addr) : entryFrame m #[(.ref a1), (.ref a2)] 3 = mkF m 0 #[.val (.ref a1), .val (.ref a2), .unset] [] := by first | (simp [entryFrame, mkF, argsToLocals, Value.category]; done) | rfl
def QSE_22 (Z : State) (a1 : Addr) (a2 : Addr) (cw : Int32) (b1 : Addr) (b2 : Addr) (k1 : ClassId) (k2 : ClassId) (u0 : Int32) (u1 : Int32) (v0 : Int32) (v1 : Int32) (h0 : Heap) (n0 : Nat) (v : Option Value) (h : Heap) (L : List Loc) : Prop := v = some (.int (own_eqL [u0, u1] [v0, v1])) ∧ Fr n0 L ∧ h = h0
set_option maxRecDepth 65536 in
set_option maxHeartbeats 40000000 in
theorem rmSE_22 (l : Launch) (Z : State) (a0 : Array Value) (hw : ∀ d ∈ tables_1, d.before a0 Z = true) (ws : List Jvm.Cond) (a1 : Addr) (a2 : Addr) (cw : Int32) (b1 : Addr) (b2 : Addr) (k1 : ClassId) (k2 : ClassId) (u0 : Int32) (u1 : Int32) (v0 : Int32) (v1 : Int32) (h0 : Heap) (n0 : Nat) (Z0 : n0 ≤ h0.size) (E_a2 : Exa Z h0 a2 "java/lang/String") (F_a1_coder : Fld Z h0 a1 "java/lang/String" "coder" "B" (.int (0 : Int32))) (F_a1_value : Fld Z h0 a1 "java/lang/String" "value" "[B" (.ref b1)) (F_a2_coder : Fld Z h0 a2 "java/lang/String" "coder" "B" (.int (0 : Int32))) (F_a2_value : Fld Z h0 a2 "java/lang/String" "value" "[B" (.ref b2)) (V_b1 : Arv Z h0 b1 k1 .byte (2 : Int32) [(.int u0), (.int u1)] (.int (0 : Int32))) (V_b2 : Arv Z h0 b2 k2 .byte (2 : Int32) [(.int v0), (.int v1)] (.int (0 : Int32))) (S_COMPACT_STRINGS : Sta Z h0 "java/lang/String" "COMPACT_STRINGS" "Z" (.int cw)) (hw0 : ¬ (cw = (0 : Int32))) (ne_a1_a2 : a1 ≠ a2) :
    MetFree l (⟨"java/lang/String", "equals", "(Ljava/lang/Object;)Z"⟩ : MethodName) (head1 (Jvm.Cond.code (⟨"java/lang/String", "equals", "(Ljava/lang/Object;)Z"⟩ : MethodName) jdk_42_method_66_code 3 (some .boolean) :: ws) ({ frames := 1, cells := 0, slots := 0, locals := 14 } : Room)) (fun a U => a = #[(.ref a1), (.ref a2)] ∧ Z.Warmed39 U.vm ∧ U.heap = h0) (fun _ _ _ _ _ => True) (fun _ U o U' => ∃ v L, o = .returned v ∧ QSE_22 Z a1 a2 cw b1 b2 k1 k2 u0 u1 v0 v1 h0 n0 v U'.heap L ∧ FrameEnd U o U' L ({ frames := 1, cells := 0, slots := 0, locals := 14 } : Room).cells ({ frames := 1, cells := 0, slots := 0, locals := 14 } : Room).slots) := by
  refine MetFree.of_bodySF (plainFor_of_name own_pn1) hisR ?_
  intro p e s m args below meth c s₁ Bd hml0 hP hK
  obtain ⟨rfl, hZ, hh⟩ := hP
  have hx := Bd.exec
  have hby := Bd.bytes
  have hml : c.maxLocals = 3 := hml0
  have hown : s.vm.findClass "java/lang/String" = some m.cls := findClass_of_methodNamed Bd.named
  have hnm := (name_of_methodNamed Bd.named Bd.method).1
  have X0 : Stand p l e ({ frames := 1, cells := 0, slots := 0, locals := 14 } : Room) s m #[(.ref a1), (.ref a2)] below meth c s₁ [] 0 0 := Stand.of_body Bd
  have e0 : s₁.heap = h0 := by rw [← hh, Bd.state]; rfl
  have N0 := Fr.nil n0
  have K0 : Keep h0 h0 [] := Keep.refl h0 _
  have pre0 : ∀ t, Steps p.tables e below (s₁.setTop (mkF m 0 #[.val (.ref a1), .val (.ref a2), .unset] [])) t → Steps p.tables e below (s₁.setTop (entryFrame m #[(.ref a1), (.ref a2)] 3)) t := fun t k => castTop (own_ef_rmSE_22 m a1 a2) k
  obtain ⟨T255, X255, e255, st255⟩ := instY X0 hx hZ hown (hw _ (List.mem_of_getElem? (i := 26) rfl)) e0 (Ins.self E_a2) (g := (mkF m 8 #[rv a1, rv a2, .unset] [(.ref a2)])) rfl rfl (hb hby own_d9_8)
  obtain ⟨T256, X256, e256, st256⟩ := castY X255 hx hZ hown (hw _ (List.mem_of_getElem? (i := 26) rfl)) e255 (Ins.self E_a2) (g := (mkF m 15 #[rv a1, rv a2, .unset] [(.ref a2)])) rfl rfl (hb hby own_d9_15)
  obtain ⟨T257, X257, e257, st257⟩ := getS2 X256 hx hZ hown (host := "") (Or.inl (hw _ (List.mem_of_getElem? (i := 21) rfl))) Via.refl e256 S_COMPACT_STRINGS (g := (mkF m 19 #[rv a1, rv a2, rv a2] [])) rfl (hb hby own_d9_19)
  have hc22_258 : ¬ (cw = (0 : Int32)) := hw0
  obtain ⟨T259, X259, e259, st259⟩ := getF X257 hx hZ hown (host := "") (Or.inl (hw _ (List.mem_of_getElem? (i := 38) rfl))) Via.refl e257 F_a1_coder (g := (mkF m 26 #[rv a1, rv a2, rv a2] [(.ref a1)])) rfl rfl (hb hby own_d9_26)
  obtain ⟨T260, X260, e260, st260⟩ := getF X259 hx hZ hown (host := "") (Or.inl (hw _ (List.mem_of_getElem? (i := 38) rfl))) Via.refl e259 F_a2_coder (g := (mkF m 30 #[rv a1, rv a2, rv a2] [(.ref a2), (.int (0 : Int32))])) rfl rfl (hb hby own_d9_30)
  obtain ⟨T261, X261, e261, st261⟩ := getF X260 hx hZ hown (host := "") (Or.inl (hw _ (List.mem_of_getElem? (i := 37) rfl))) Via.refl e260 F_a1_value (g := (mkF m 37 #[rv a1, rv a2, rv a2] [(.ref a1)])) rfl rfl (hb hby own_d9_37)
  obtain ⟨T262, X262, e262, st262⟩ := getF X261 hx hZ hown (host := "") (Or.inl (hw _ (List.mem_of_getElem? (i := 37) rfl))) Via.refl e261 F_a2_value (g := (mkF m 41 #[rv a1, rv a2, rv a2] [(.ref a2), (.ref b1)])) rfl rfl (hb hby own_d9_41)
  obtain ⟨_, _, ⟨T263, L263, k263, n263⟩, -, X263, ⟨Lc263, hQ263, l263, y263, z263⟩, st263⟩ := Jvm.LawKit.callS X262 hx (y := (⟨"java/lang/StringLatin1", "equals", "([B[B)Z"⟩ : MethodName)) hown (mvT hZ (hw _ (List.mem_of_getElem? (i := 47) rfl))) (mvT hZ (hw _ (List.mem_of_getElem? (i := 48) rfl))) (mvT hZ (hw _ (List.mem_of_getElem? (i := 24) rfl))) (mvT hZ (hw _ (List.mem_of_getElem? (i := 49) rfl))) (by decide) (backOf (W := 0) (rmLE_22 l Z a0 hw [] b1 b2 k1 k2 u0 u1 v0 v1 h0 n0 (Nat.le_trans Z0 K0.1) V_b1 V_b2) hZ (hw _ (List.mem_of_getElem? (i := 49) rfl)) (hw _ (List.mem_of_getElem? (i := 24) rfl)) (by decide) (by decide)) (g := (mkF m 44 #[rv a1, rv a2, rv a2] [(.ref b2), (.ref b1)])) rfl (by rw [hml]; rfl) (argsL := [(.ref b1), (.ref b2)]) (rest := []) (lenOf own_pd9 rfl) rfl (by show 2 * 0 + _ ≤ _; exact Nat.le_of_eq rfl) (hb hby own_d9_44) (fun _ _ => ⟨rfl, e262, (by decide : 0 + 0 ≤ _), (by decide : 0 + 0 ≤ _)⟩)
  dsimp only [Pt.U, Pt.locs, Pt.cells, Pt.slots] at X263 l263 y263 z263 st263 hQ263
  subst l263 y263 z263
  obtain ⟨rfl, N263q, e263⟩ := hQ263
  have N263 := Fr.app N0 N263q
  have pre264 : ∀ t, Steps p.tables e below (T263.setTop (mkF m 47 #[rv a1, rv a2, rv a2] [(.int (own_eqL [u0, u1] [v0, v1]))])) t → Steps p.tables e below (s₁.setTop (entryFrame m #[(.ref a1), (.ref a2)] 3)) t := fun t k => by
    refine pre0 _ ?_
    show Steps p.tables e below (s₁.setTop (mkF m 0 #[rv a1, rv a2, .unset] [])) _
    refine XS.aloadN X0.here hx rfl (hb hby own_d9_0) rfl rfl ?_
    show Steps p.tables e below (s₁.setTop (mkF m 1 #[rv a1, rv a2, .unset] [(.ref a1)])) _
    refine XS.aloadN X0.here hx rfl (hb hby own_d9_1) rfl rfl ?_
    show Steps p.tables e below (s₁.setTop (mkF m 2 #[rv a1, rv a2, .unset] [(.ref a2), (.ref a1)])) _
    refine Jvm.RoadKit.acmp (g := (mkF m 2 #[rv a1, rv a2, .unset] [(.ref a2), (.ref a1)])) X0 hx rfl rfl rfl (pc0 := 2) (pc' := 7) (same := false) rfl (hb hby own_d9_2) rfl (decide_eq_false fun q => ne_a1_a2 (Value.ref.inj q)) (by decide) (by decide) ?_
    show Steps p.tables e below (s₁.setTop (mkF m 7 #[rv a1, rv a2, .unset] [])) _
    refine XS.aloadN X0.here hx rfl (hb hby own_d9_7) rfl rfl ?_
    show Steps p.tables e below (s₁.setTop (mkF m 8 #[rv a1, rv a2, .unset] [(.ref a2)])) _
    refine st255 _ ?_
    show Steps p.tables e below (T255.setTop (mkF m 11 #[rv a1, rv a2, .unset] [(.int (1 : Int32))])) _
    refine XS.ifNo X255.here hx rfl (hb hby own_d9_11) rfl ((if0 _ _).trans (feq (by decide : ¬ ((1 : Int32) = (0 : Int32)))).1) ?_
    show Steps p.tables e below (T255.setTop (mkF m 14 #[rv a1, rv a2, .unset] [])) _
    refine XS.aloadN X255.here hx rfl (hb hby own_d9_14) rfl rfl ?_
    show Steps p.tables e below (T255.setTop (mkF m 15 #[rv a1, rv a2, .unset] [(.ref a2)])) _
    refine st256 _ ?_
    show Steps p.tables e below (T256.setTop (mkF m 18 #[rv a1, rv a2, .unset] [(.ref a2)])) _
    refine XS.astoreN X256.here hx rfl (hb hby own_d9_18) rfl rfl (l' := #[rv a1, rv a2, rv a2]) rfl ?_
    show Steps p.tables e below (T256.setTop (mkF m 19 #[rv a1, rv a2, rv a2] [])) _
    refine st257 _ ?_
    show Steps p.tables e below (T257.setTop (mkF m 22 #[rv a1, rv a2, rv a2] [(.int cw)])) _
    refine XS.ifNo X257.here hx rfl (hb hby own_d9_22) rfl ((if0 _ _).trans (feq hc22_258).1) ?_
    show Steps p.tables e below (T257.setTop (mkF m 25 #[rv a1, rv a2, rv a2] [])) _
    refine XS.aloadN X257.here hx rfl (hb hby own_d9_25) rfl rfl ?_
    show Steps p.tables e below (T257.setTop (mkF m 26 #[rv a1, rv a2, rv a2] [(.ref a1)])) _
    refine st259 _ ?_
    show Steps p.tables e below (T259.setTop (mkF m 29 #[rv a1, rv a2, rv a2] [(.int (0 : Int32))])) _
    refine XS.aloadN X259.here hx rfl (hb hby own_d9_29) rfl rfl ?_
    show Steps p.tables e below (T259.setTop (mkF m 30 #[rv a1, rv a2, rv a2] [(.ref a2), (.int (0 : Int32))])) _
    refine st260 _ ?_
    show Steps p.tables e below (T260.setTop (mkF m 33 #[rv a1, rv a2, rv a2] [(.int (0 : Int32)), (.int (0 : Int32))])) _
    refine XS.icmpNo X260.here hx rfl (hb hby own_d9_33) rfl (teq (by decide : ((0 : Int32) = (0 : Int32)))).2 ?_
    show Steps p.tables e below (T260.setTop (mkF m 36 #[rv a1, rv a2, rv a2] [])) _
    refine XS.aloadN X260.here hx rfl (hb hby own_d9_36) rfl rfl ?_
    show Steps p.tables e below (T260.setTop (mkF m 37 #[rv a1, rv a2, rv a2] [(.ref a1)])) _
    refine st261 _ ?_
    show Steps p.tables e below (T261.setTop (mkF m 40 #[rv a1, rv a2, rv a2] [(.ref b1)])) _
    refine XS.aloadN X261.here hx rfl (hb hby own_d9_40) rfl rfl ?_
    show Steps p.tables e below (T261.setTop (mkF m 41 #[rv a1, rv a2, rv a2] [(.ref a2), (.ref b1)])) _
    refine st262 _ ?_
    show Steps p.tables e below (T262.setTop (mkF m 44 #[rv a1, rv a2, rv a2] [(.ref b2), (.ref b1)])) _
    refine st263 _ ?_
    exact k
  by_cases hc47 : (own_eqL [u0, u1] [v0, v1]) = (0 : Int32)
  · obtain ⟨fs, hr, hrun, hended, hW, hsame⟩ := X263.leave (v := some (.int (0 : Int32))) (fun h => by rw [Bd.returns] at h; cases h)
    refine ⟨_, _, pre264 _ ?_, hrun, hended, _, _, rfl, ?_, ⟨_, rfl⟩, hW, hsame.mono (by decide) (by decide)⟩
    · show Steps p.tables e below (T263.setTop (mkF m 47 #[rv a1, rv a2, rv a2] [(.int (own_eqL [u0, u1] [v0, v1]))])) _
      refine XS.ifYes X263.here hx rfl (pc0 := 47) (pc' := 54) rfl (hb hby own_d9_47) rfl ((if0 _ _).trans (teq hc47).1) (by decide) (by decide) ?_
      show Steps p.tables e below (T263.setTop (mkF m 54 #[rv a1, rv a2, rv a2] [])) _
      refine XS.iconst X263.here hx rfl (hb hby own_d9_54) ?_
      show Steps p.tables e below (T263.setTop (mkF m 55 #[rv a1, rv a2, rv a2] [(.int (0 : Int32))])) _
      exact retN X263 hx (t := .boolean) Bd.returns (by simp) (hb hby own_d9_55) hr
    · show QSE_22 Z a1 a2 cw b1 b2 k1 k2 u0 u1 v0 v1 h0 n0 _ T263.heap _
      rw [e263]
      exact ⟨(congrArg (fun z => some (Value.int z)) (hc47.symm : (0 : Int32) = (own_eqL [u0, u1] [v0, v1]))), N263, rfl⟩
  · obtain ⟨fs, hr, hrun, hended, hW, hsame⟩ := X263.leave (v := some (.int (1 : Int32))) (fun h => by rw [Bd.returns] at h; cases h)
    refine ⟨_, _, pre264 _ ?_, hrun, hended, _, _, rfl, ?_, ⟨_, rfl⟩, hW, hsame.mono (by decide) (by decide)⟩
    · show Steps p.tables e below (T263.setTop (mkF m 47 #[rv a1, rv a2, rv a2] [(.int (own_eqL [u0, u1] [v0, v1]))])) _
      refine XS.ifNo X263.here hx rfl (hb hby own_d9_47) rfl ((if0 _ _).trans (feq hc47).1) ?_
      show Steps p.tables e below (T263.setTop (mkF m 50 #[rv a1, rv a2, rv a2] [])) _
      refine XS.iconst X263.here hx rfl (hb hby own_d9_50) ?_
      show Steps p.tables e below (T263.setTop (mkF m 51 #[rv a1, rv a2, rv a2] [(.int (1 : Int32))])) _
      refine XS.goto X263.here hx rfl (pc0 := 51) (pc' := 55) rfl (hb hby own_d9_51) (by decide) (by decide) ?_
      show Steps p.tables e below (T263.setTop (mkF m 55 #[rv a1, rv a2, rv a2] [(.int (1 : Int32))])) _
      exact retN X263 hx (t := .boolean) Bd.returns (by simp) (hb hby own_d9_55) hr
    · show QSE_22 Z a1 a2 cw b1 b2 k1 k2 u0 u1 v0 v1 h0 n0 _ T263.heap _
      rw [e263]
      exact ⟨(congrArg (fun z => some (Value.int z)) ((own_eqL1 hc47).symm : (1 : Int32) = (own_eqL [u0, u1] [v0, v1]))), N263, rfl⟩
theorem own_ef_rmLE_23 (m : MethodId) (a1 : Addr) (a2 : Addr) : entryFrame m #[(.ref a1), (.ref a2)] 3 = mkF m 0 #[.val (.ref a1), .val (.ref a2), .unset] [] := by first | (simp [entryFrame, mkF, argsToLocals, Value.category]; done) | rfl
def QLE_23 (Z : State) (a1 : Addr) (a2 : Addr) (k1 : ClassId) (k2 : ClassId) (u0 : Int32) (u1 : Int32) (v0 : Int32) (v1 : Int32) (v2 : Int32) (h0 : Heap) (n0 : Nat) (v : Option Value) (h : Heap) (L : List Loc) : Prop := v = some (.int (own_eqL [u0, u1] [v0, v1, v2])) ∧ Fr n0 L ∧ h = h0
set_option maxRecDepth 65536 in
set_option maxHeartbeats 40000000 in
theorem rmLE_23 (l : Launch) (Z : State) (a0 : Array Value) (hw : ∀ d ∈ tables_1, d.before a0 Z = true) (ws : List Jvm.Cond) (a1 : Addr) (a2 : Addr) (k1 : ClassId) (k2 : ClassId) (u0 : Int32) (u1 : Int32) (v0 : Int32) (v1 : Int32) (v2 : Int32) (h0 : Heap) (n0 : Nat) (Z0 : n0 ≤ h0.size) (V_a1 : Arv Z h0 a1 k1 .byte (2 : Int32) [(.int u0), (.int u1)] (.int (0 : Int32))) (V_a2 : Arv Z h0 a2 k2 .byte (3 : Int32) [(.int v0), (.int v1), (.int v2)] (.int (0 : Int32))) :
    MetFree l (⟨"java/lang/StringLatin1", "equals", "([B[B)Z"⟩ : MethodName) (head1 (Jvm.Cond.code (⟨"java/lang/StringLatin1", "equals", "([B[B)Z"⟩ : MethodName) jdk_43_method_13_code 3 (some .boolean) :: ws) ({ frames := 0, cells := 0, slots := 0, locals := 0 } : Room)) (fun a U => a = #[(.ref a1), (.ref a2)] ∧ Z.Warmed39 U.vm ∧ U.heap = h0) (fun _ _ _ _ _ => True) (fun _ U o U' => ∃ v L, o = .returned v ∧ QLE_23 Z a1 a2 k1 k2 u0 u1 v0 v1 v2 h0 n0 v U'.heap L ∧ FrameEnd U o U' L ({ frames := 0, cells := 0, slots := 0, locals := 0 } : Room).cells ({ frames := 0, cells := 0, slots := 0, locals := 0 } : Room).slots) := by
  refine MetFree.of_bodySF (plainFor_of_name own_pn2) hisR ?_
  intro p e s m args below meth c s₁ Bd hml0 hP hK
  obtain ⟨rfl, hZ, hh⟩ := hP
  have hx := Bd.exec
  have hby := Bd.bytes
  have hml : c.maxLocals = 3 := hml0
  have hown : s.vm.findClass "java/lang/StringLatin1" = some m.cls := findClass_of_methodNamed Bd.named
  have hnm := (name_of_methodNamed Bd.named Bd.method).1
  have X0 : Stand p l e ({ frames := 0, cells := 0, slots := 0, locals := 0 } : Room) s m #[(.ref a1), (.ref a2)] below meth c s₁ [] 0 0 := Stand.of_body Bd
  have e0 : s₁.heap = h0 := by rw [← hh, Bd.state]; rfl
  have N0 := Fr.nil n0
  have K0 : Keep h0 h0 [] := Keep.refl h0 _
  have pre0 : ∀ t, Steps p.tables e below (s₁.setTop (mkF m 0 #[.val (.ref a1), .val (.ref a2), .unset] [])) t → Steps p.tables e below (s₁.setTop (entryFrame m #[(.ref a1), (.ref a2)] 3)) t := fun t k => castTop (own_ef_rmLE_23 m a1 a2) k
  obtain ⟨cl265, Ar265, q265, S265, M265, H265, G265⟩ := id V_a1
  obtain ⟨cl266, Ar266, q266, S266, M266, H266, G266⟩ := id V_a2
  obtain ⟨fs, hr, hrun, hended, hW, hsame⟩ := X0.leave (v := some (.int (0 : Int32))) (fun h => by rw [Bd.returns] at h; cases h)
  refine ⟨_, _, pre0 _ ?_, hrun, hended, _, _, rfl, ?_, ⟨_, rfl⟩, hW, hsame.mono (by decide) (by decide)⟩
  · show Steps p.tables e below (s₁.setTop (mkF m 0 #[rv a1, rv a2, .unset] [])) _
    refine XS.aloadN X0.here hx rfl (hb hby own_d10_0) rfl rfl ?_
    show Steps p.tables e below (s₁.setTop (mkF m 1 #[rv a1, rv a2, .unset] [(.ref a1)])) _
    refine X0.arraylength hx (by rw [e0]; exact Ar265.1) (State.isArrayOf_alike hZ.alike Ar265.2.1) (g := (mkF m 1 #[rv a1, rv a2, .unset] [(.ref a1)])) rfl rfl (hb hby own_d10_1) _ ?_
    rw [len_of S265 M265]
    show Steps p.tables e below (s₁.setTop (mkF m 2 #[rv a1, rv a2, .unset] [(.int (2 : Int32))])) _
    refine XS.aloadN X0.here hx rfl (hb hby own_d10_2) rfl rfl ?_
    show Steps p.tables e below (s₁.setTop (mkF m 3 #[rv a1, rv a2, .unset] [(.ref a2), (.int (2 : Int32))])) _
    refine X0.arraylength hx (by rw [e0]; exact Ar266.1) (State.isArrayOf_alike hZ.alike Ar266.2.1) (g := (mkF m 3 #[rv a1, rv a2, .unset] [(.ref a2), (.int (2 : Int32))])) rfl rfl (hb hby own_d10_3) _ ?_
    rw [len_of S266 M266]
    show Steps p.tables e below (s₁.setTop (mkF m 4 #[rv a1, rv a2, .unset] [(.int (3 : Int32)), (.int (2 : Int32))])) _
    refine XS.icmpYes X0.here hx rfl (pc0 := 4) (pc' := 34) rfl (hb hby own_d10_4) rfl (feq (by decide : ¬ ((2 : Int32) = (3 : Int32)))).2 (by decide) (by decide) ?_
    show Steps p.tables e below (s₁.setTop (mkF m 34 #[rv a1, rv a2, .unset] [])) _
    refine XS.iconst X0.here hx rfl (hb hby own_d10_34) ?_
    show Steps p.tables e below (s₁.setTop (mkF m 35 #[rv a1, rv a2, .unset] [(.int (0 : Int32))])) _
    exact retN X0 hx (t := .boolean) Bd.returns (by simp) (hb hby own_d10_35) hr
  · show QLE_23 Z a1 a2 k1 k2 u0 u1 v0 v1 v2 h0 n0 _ s₁.heap _
    rw [e0]
    exact ⟨(congrArg (fun z => some (Value.int z)) (by simp [own_eqL] : (0 : Int32) = (own_eqL [u0, u1] [v0, v1, v2]))), N0, rfl⟩
theorem own_ef_rmSE_23 (m : MethodId) (a1 : Addr) (a2 : Addr) : entryFrame m #[(.ref a1), (.ref a2)] 3 = mkF m 0 #[.val (.ref a1), .val (.ref a2), .unset] [] := by first | (simp [entryFrame, mkF, argsToLocals, Value.category]; done) | rfl
def QSE_23 (Z : State) (a1 : Addr) (a2 : Addr) (cw : Int32) (b1 : Addr) (b2 : Addr) (k1 : ClassId) (k2 : ClassId) (u0 : Int32) (u1 : Int32) (v0 : Int32) (v1 : Int32) (v2 : Int32) (h0 : Heap) (n0 : Nat) (v : Option Value) (h : Heap) (L : List Loc) : Prop := v = some (.int (own_eqL [u0, u1] [v0, v1, v2])) ∧ Fr n0 L ∧ h = h0
set_option maxRecDepth 65536 in
set_option maxHeartbeats 40000000 in
theorem rmSE_23 (l : Launch) (Z : State) (a0 : Array Value) (hw : ∀ d ∈ tables_1, d.before a0 Z = true) (ws : List Jvm.Cond) (a1 : Addr) (a2 : Addr) (cw : Int32) (b1 : Addr) (b2 : Addr) (k1 : ClassId) (k2 : ClassId) (u0 : Int32) (u1 : Int32) (v0 : Int32) (v1 : Int32) (v2 : Int32) (h0 : Heap) (n0 : Nat) (Z0 : n0 ≤ h0.size) (E_a2 : Exa Z h0 a2 "java/lang/String") (F_a1_coder : Fld Z h0 a1 "java/lang/String" "coder" "B" (.int (0 : Int32))) (F_a1_value : Fld Z h0 a1 "java/lang/String" "value" "[B" (.ref b1)) (F_a2_coder : Fld Z h0 a2 "java/lang/String" "coder" "B" (.int (0 : Int32))) (F_a2_value : Fld Z h0 a2 "java/lang/String" "value" "[B" (.ref b2)) (V_b1 : Arv Z h0 b1 k1 .byte (2 : Int32) [(.int u0), (.int u1)] (.int (0 : Int32))) (V_b2 : Arv Z h0 b2 k2 .byte (3 : Int32) [(.int v0), (.int v1), (.int v2)] (.int (0 : Int32))) (S_COMPACT_STRINGS : Sta Z h0 "java/lang/String" "COMPACT_STRINGS" "Z" (.int cw)) (hw0 : ¬ (cw = (0 : Int32))) (ne_a1_a2 : a1 ≠ a2) :
    MetFree l (⟨"java/lang/String", "equals", "(Ljava/lang/Object;)Z"⟩ : MethodName) (head1 (Jvm.Cond.code (⟨"java/lang/String", "equals", "(Ljava/lang/Object;)Z"⟩ : MethodName) jdk_42_method_66_code 3 (some .boolean) :: ws) ({ frames := 1, cells := 0, slots := 0, locals := 14 } : Room)) (fun a U => a = #[(.ref a1), (.ref a2)] ∧ Z.Warmed39 U.vm ∧ U.heap = h0) (fun _ _ _ _ _ => True) (fun _ U o U' => ∃ v L, o = .returned v ∧ QSE_23 Z a1 a2 cw b1 b2 k1 k2 u0 u1 v0 v1 v2 h0 n0 v U'.heap L ∧ FrameEnd U o U' L ({ frames := 1, cells := 0, slots := 0, locals := 14 } : Room).cells ({ frames := 1, cells := 0, slots := 0, locals := 14 } : Room).slots) := by
  refine MetFree.of_bodySF (plainFor_of_name own_pn1) hisR ?_
  intro p e s m args below meth c s₁ Bd hml0 hP hK
  obtain ⟨rfl, hZ, hh⟩ := hP
  have hx := Bd.exec
  have hby := Bd.bytes
  have hml : c.maxLocals = 3 := hml0
  have hown : s.vm.findClass "java/lang/String" = some m.cls := findClass_of_methodNamed Bd.named
  have hnm := (name_of_methodNamed Bd.named Bd.method).1
  have X0 : Stand p l e ({ frames := 1, cells := 0, slots := 0, locals := 14 } : Room) s m #[(.ref a1), (.ref a2)] below meth c s₁ [] 0 0 := Stand.of_body Bd
  have e0 : s₁.heap = h0 := by rw [← hh, Bd.state]; rfl
  have N0 := Fr.nil n0
  have K0 : Keep h0 h0 [] := Keep.refl h0 _
  have pre0 : ∀ t, Steps p.tables e below (s₁.setTop (mkF m 0 #[.val (.ref a1), .val (.ref a2), .unset] [])) t → Steps p.tables e below (s₁.setTop (entryFrame m #[(.ref a1), (.ref a2)] 3)) t := fun t k => castTop (own_ef_rmSE_23 m a1 a2) k
  obtain ⟨T267, X267, e267, st267⟩ := instY X0 hx hZ hown (hw _ (List.mem_of_getElem? (i := 26) rfl)) e0 (Ins.self E_a2) (g := (mkF m 8 #[rv a1, rv a2, .unset] [(.ref a2)])) rfl rfl (hb hby own_d9_8)
  obtain ⟨T268, X268, e268, st268⟩ := castY X267 hx hZ hown (hw _ (List.mem_of_getElem? (i := 26) rfl)) e267 (Ins.self E_a2) (g := (mkF m 15 #[rv a1, rv a2, .unset] [(.ref a2)])) rfl rfl (hb hby own_d9_15)
  obtain ⟨T269, X269, e269, st269⟩ := getS2 X268 hx hZ hown (host := "") (Or.inl (hw _ (List.mem_of_getElem? (i := 21) rfl))) Via.refl e268 S_COMPACT_STRINGS (g := (mkF m 19 #[rv a1, rv a2, rv a2] [])) rfl (hb hby own_d9_19)
  have hc22_270 : ¬ (cw = (0 : Int32)) := hw0
  obtain ⟨T271, X271, e271, st271⟩ := getF X269 hx hZ hown (host := "") (Or.inl (hw _ (List.mem_of_getElem? (i := 38) rfl))) Via.refl e269 F_a1_coder (g := (mkF m 26 #[rv a1, rv a2, rv a2] [(.ref a1)])) rfl rfl (hb hby own_d9_26)
  obtain ⟨T272, X272, e272, st272⟩ := getF X271 hx hZ hown (host := "") (Or.inl (hw _ (List.mem_of_getElem? (i := 38) rfl))) Via.refl e271 F_a2_coder (g := (mkF m 30 #[rv a1, rv a2, rv a2] [(.ref a2), (.int (0 : Int32))])) rfl rfl (hb hby own_d9_30)
  obtain ⟨T273, X273, e273, st273⟩ := getF X272 hx hZ hown (host := "") (Or.inl (hw _ (List.mem_of_getElem? (i := 37) rfl))) Via.refl e272 F_a1_value (g := (mkF m 37 #[rv a1, rv a2, rv a2] [(.ref a1)])) rfl rfl (hb hby own_d9_37)
  obtain ⟨T274, X274, e274, st274⟩ := getF X273 hx hZ hown (host := "") (Or.inl (hw _ (List.mem_of_getElem? (i := 37) rfl))) Via.refl e273 F_a2_value (g := (mkF m 41 #[rv a1, rv a2, rv a2] [(.ref a2), (.ref b1)])) rfl rfl (hb hby own_d9_41)
  obtain ⟨_, _, ⟨T275, L275, k275, n275⟩, -, X275, ⟨Lc275, hQ275, l275, y275, z275⟩, st275⟩ := Jvm.LawKit.callS X274 hx (y := (⟨"java/lang/StringLatin1", "equals", "([B[B)Z"⟩ : MethodName)) hown (mvT hZ (hw _ (List.mem_of_getElem? (i := 47) rfl))) (mvT hZ (hw _ (List.mem_of_getElem? (i := 48) rfl))) (mvT hZ (hw _ (List.mem_of_getElem? (i := 24) rfl))) (mvT hZ (hw _ (List.mem_of_getElem? (i := 49) rfl))) (by decide) (backOf (W := 0) (rmLE_23 l Z a0 hw [] b1 b2 k1 k2 u0 u1 v0 v1 v2 h0 n0 (Nat.le_trans Z0 K0.1) V_b1 V_b2) hZ (hw _ (List.mem_of_getElem? (i := 49) rfl)) (hw _ (List.mem_of_getElem? (i := 24) rfl)) (by decide) (by decide)) (g := (mkF m 44 #[rv a1, rv a2, rv a2] [(.ref b2), (.ref b1)])) rfl (by rw [hml]; rfl) (argsL := [(.ref b1), (.ref b2)]) (rest := []) (lenOf own_pd9 rfl) rfl (by show 2 * 0 + _ ≤ _; exact Nat.le_of_eq rfl) (hb hby own_d9_44) (fun _ _ => ⟨rfl, e274, (by decide : 0 + 0 ≤ _), (by decide : 0 + 0 ≤ _)⟩)
  dsimp only [Pt.U, Pt.locs, Pt.cells, Pt.slots] at X275 l275 y275 z275 st275 hQ275
  subst l275 y275 z275
  obtain ⟨rfl, N275q, e275⟩ := hQ275
  have N275 := Fr.app N0 N275q
  have pre276 : ∀ t, Steps p.tables e below (T275.setTop (mkF m 47 #[rv a1, rv a2, rv a2] [(.int (own_eqL [u0, u1] [v0, v1, v2]))])) t → Steps p.tables e below (s₁.setTop (entryFrame m #[(.ref a1), (.ref a2)] 3)) t := fun t k => by
    refine pre0 _ ?_
    show Steps p.tables e below (s₁.setTop (mkF m 0 #[rv a1, rv a2, .unset] [])) _
    refine XS.aloadN X0.here hx rfl (hb hby own_d9_0) rfl rfl ?_
    show Steps p.tables e below (s₁.setTop (mkF m 1 #[rv a1, rv a2, .unset] [(.ref a1)])) _
    refine XS.aloadN X0.here hx rfl (hb hby own_d9_1) rfl rfl ?_
    show Steps p.tables e below (s₁.setTop (mkF m 2 #[rv a1, rv a2, .unset] [(.ref a2), (.ref a1)])) _
    refine Jvm.RoadKit.acmp (g := (mkF m 2 #[rv a1, rv a2, .unset] [(.ref a2), (.ref a1)])) X0 hx rfl rfl rfl (pc0 := 2) (pc' := 7) (same := false) rfl (hb hby own_d9_2) rfl (decide_eq_false fun q => ne_a1_a2 (Value.ref.inj q)) (by decide) (by decide) ?_
    show Steps p.tables e below (s₁.setTop (mkF m 7 #[rv a1, rv a2, .unset] [])) _
    refine XS.aloadN X0.here hx rfl (hb hby own_d9_7) rfl rfl ?_
    show Steps p.tables e below (s₁.setTop (mkF m 8 #[rv a1, rv a2, .unset] [(.ref a2)])) _
    refine st267 _ ?_
    show Steps p.tables e below (T267.setTop (mkF m 11 #[rv a1, rv a2, .unset] [(.int (1 : Int32))])) _
    refine XS.ifNo X267.here hx rfl (hb hby own_d9_11) rfl ((if0 _ _).trans (feq (by decide : ¬ ((1 : Int32) = (0 : Int32)))).1) ?_
    show Steps p.tables e below (T267.setTop (mkF m 14 #[rv a1, rv a2, .unset] [])) _
    refine XS.aloadN X267.here hx rfl (hb hby own_d9_14) rfl rfl ?_
    show Steps p.tables e below (T267.setTop (mkF m 15 #[rv a1, rv a2, .unset] [(.ref a2)])) _
    refine st268 _ ?_
    show Steps p.tables e below (T268.setTop (mkF m 18 #[rv a1, rv a2, .unset] [(.ref a2)])) _
    refine XS.astoreN X268.here hx rfl (hb hby own_d9_18) rfl rfl (l' := #[rv a1, rv a2, rv a2]) rfl ?_
    show Steps p.tables e below (T268.setTop (mkF m 19 #[rv a1, rv a2, rv a2] [])) _
    refine st269 _ ?_
    show Steps p.tables e below (T269.setTop (mkF m 22 #[rv a1, rv a2, rv a2] [(.int cw)])) _
    refine XS.ifNo X269.here hx rfl (hb hby own_d9_22) rfl ((if0 _ _).trans (feq hc22_270).1) ?_
    show Steps p.tables e below (T269.setTop (mkF m 25 #[rv a1, rv a2, rv a2] [])) _
    refine XS.aloadN X269.here hx rfl (hb hby own_d9_25) rfl rfl ?_
    show Steps p.tables e below (T269.setTop (mkF m 26 #[rv a1, rv a2, rv a2] [(.ref a1)])) _
    refine st271 _ ?_
    show Steps p.tables e below (T271.setTop (mkF m 29 #[rv a1, rv a2, rv a2] [(.int (0 : Int32))])) _
    refine XS.aloadN X271.here hx rfl (hb hby own_d9_29) rfl rfl ?_
    show Steps p.tables e below (T271.setTop (mkF m 30 #[rv a1, rv a2, rv a2] [(.ref a2), (.int (0 : Int32))])) _
    refine st272 _ ?_
    show Steps p.tables e below (T272.setTop (mkF m 33 #[rv a1, rv a2, rv a2] [(.int (0 : Int32)), (.int (0 : Int32))])) _
    refine XS.icmpNo X272.here hx rfl (hb hby own_d9_33) rfl (teq (by decide : ((0 : Int32) = (0 : Int32)))).2 ?_
    show Steps p.tables e below (T272.setTop (mkF m 36 #[rv a1, rv a2, rv a2] [])) _
    refine XS.aloadN X272.here hx rfl (hb hby own_d9_36) rfl rfl ?_
    show Steps p.tables e below (T272.setTop (mkF m 37 #[rv a1, rv a2, rv a2] [(.ref a1)])) _
    refine st273 _ ?_
    show Steps p.tables e below (T273.setTop (mkF m 40 #[rv a1, rv a2, rv a2] [(.ref b1)])) _
    refine XS.aloadN X273.here hx rfl (hb hby own_d9_40) rfl rfl ?_
    show Steps p.tables e below (T273.setTop (mkF m 41 #[rv a1, rv a2, rv a2] [(.ref a2), (.ref b1)])) _
    refine st274 _ ?_
    show Steps p.tables e below (T274.setTop (mkF m 44 #[rv a1, rv a2, rv a2] [(.ref b2), (.ref b1)])) _
    refine st275 _ ?_
    exact k
  by_cases hc47 : (own_eqL [u0, u1] [v0, v1, v2]) = (0 : Int32)
  · obtain ⟨fs, hr, hrun, hended, hW, hsame⟩ := X275.leave (v := some (.int (0 : Int32))) (fun h => by rw [Bd.returns] at h; cases h)
    refine ⟨_, _, pre276 _ ?_, hrun, hended, _, _, rfl, ?_, ⟨_, rfl⟩, hW, hsame.mono (by decide) (by decide)⟩
    · show Steps p.tables e below (T275.setTop (mkF m 47 #[rv a1, rv a2, rv a2] [(.int (own_eqL [u0, u1] [v0, v1, v2]))])) _
      refine XS.ifYes X275.here hx rfl (pc0 := 47) (pc' := 54) rfl (hb hby own_d9_47) rfl ((if0 _ _).trans (teq hc47).1) (by decide) (by decide) ?_
      show Steps p.tables e below (T275.setTop (mkF m 54 #[rv a1, rv a2, rv a2] [])) _
      refine XS.iconst X275.here hx rfl (hb hby own_d9_54) ?_
      show Steps p.tables e below (T275.setTop (mkF m 55 #[rv a1, rv a2, rv a2] [(.int (0 : Int32))])) _
      exact retN X275 hx (t := .boolean) Bd.returns (by simp) (hb hby own_d9_55) hr
    · show QSE_23 Z a1 a2 cw b1 b2 k1 k2 u0 u1 v0 v1 v2 h0 n0 _ T275.heap _
      rw [e275]
      exact ⟨(congrArg (fun z => some (Value.int z)) (hc47.symm : (0 : Int32) = (own_eqL [u0, u1] [v0, v1, v2]))), N275, rfl⟩
  · obtain ⟨fs, hr, hrun, hended, hW, hsame⟩ := X275.leave (v := some (.int (1 : Int32))) (fun h => by rw [Bd.returns] at h; cases h)
    refine ⟨_, _, pre276 _ ?_, hrun, hended, _, _, rfl, ?_, ⟨_, rfl⟩, hW, hsame.mono (by decide) (by decide)⟩
    · show Steps p.tables e below (T275.setTop (mkF m 47 #[rv a1, rv a2, rv a2] [(.int (own_eqL [u0, u1] [v0, v1, v2]))])) _
      refine XS.ifNo X275.here hx rfl (hb hby own_d9_47) rfl ((if0 _ _).trans (feq hc47).1) ?_
      show Steps p.tables e below (T275.setTop (mkF m 50 #[rv a1, rv a2, rv a2] [])) _
      refine XS.iconst X275.here hx rfl (hb hby own_d9_50) ?_
      show Steps p.tables e below (T275.setTop (mkF m 51 #[rv a1, rv a2, rv a2] [(.int (1 : Int32))])) _
      refine XS.goto X275.here hx rfl (pc0 := 51) (pc' := 55) rfl (hb hby own_d9_51) (by decide) (by decide) ?_
      show Steps p.tables e below (T275.setTop (mkF m 55 #[rv a1, rv a2, rv a2] [(.int (1 : Int32))])) _
      exact retN X275 hx (t := .boolean) Bd.returns (by simp) (hb hby own_d9_55) hr
    · show QSE_23 Z a1 a2 cw b1 b2 k1 k2 u0 u1 v0 v1 v2 h0 n0 _ T275.heap _
      rw [e275]
      exact ⟨(congrArg (fun z => some (Value.int z)) ((own_eqL1 hc47).symm : (1 : Int32) = (own_eqL [u0, u1] [v0, v1, v2]))), N275, rfl⟩
theorem own_ef_rmLE_30 (m : MethodId) (a1 : Addr) (a2 : Addr) : entryFrame m #[(.ref a1), (.ref a2)] 3 = mkF m 0 #[.val (.ref a1), .val (.ref a2), .unset] [] := by first | (simp [entryFrame, mkF, argsToLocals, Value.category]; done) | rfl
def QLE_30 (Z : State) (a1 : Addr) (a2 : Addr) (k1 : ClassId) (k2 : ClassId) (u0 : Int32) (u1 : Int32) (u2 : Int32) (h0 : Heap) (n0 : Nat) (v : Option Value) (h : Heap) (L : List Loc) : Prop := v = some (.int (own_eqL [u0, u1, u2] [])) ∧ Fr n0 L ∧ h = h0
set_option maxRecDepth 65536 in
set_option maxHeartbeats 40000000 in
theorem rmLE_30 (l : Launch) (Z : State) (a0 : Array Value) (hw : ∀ d ∈ tables_1, d.before a0 Z = true) (ws : List Jvm.Cond) (a1 : Addr) (a2 : Addr) (k1 : ClassId) (k2 : ClassId) (u0 : Int32) (u1 : Int32) (u2 : Int32) (h0 : Heap) (n0 : Nat) (Z0 : n0 ≤ h0.size) (V_a1 : Arv Z h0 a1 k1 .byte (3 : Int32) [(.int u0), (.int u1), (.int u2)] (.int (0 : Int32))) (V_a2 : Arv Z h0 a2 k2 .byte (0 : Int32) [] (.int (0 : Int32))) :
    MetFree l (⟨"java/lang/StringLatin1", "equals", "([B[B)Z"⟩ : MethodName) (head1 (Jvm.Cond.code (⟨"java/lang/StringLatin1", "equals", "([B[B)Z"⟩ : MethodName) jdk_43_method_13_code 3 (some .boolean) :: ws) ({ frames := 0, cells := 0, slots := 0, locals := 0 } : Room)) (fun a U => a = #[(.ref a1), (.ref a2)] ∧ Z.Warmed39 U.vm ∧ U.heap = h0) (fun _ _ _ _ _ => True) (fun _ U o U' => ∃ v L, o = .returned v ∧ QLE_30 Z a1 a2 k1 k2 u0 u1 u2 h0 n0 v U'.heap L ∧ FrameEnd U o U' L ({ frames := 0, cells := 0, slots := 0, locals := 0 } : Room).cells ({ frames := 0, cells := 0, slots := 0, locals := 0 } : Room).slots) := by
  refine MetFree.of_bodySF (plainFor_of_name own_pn2) hisR ?_
  intro p e s m args below meth c s₁ Bd hml0 hP hK
  obtain ⟨rfl, hZ, hh⟩ := hP
  have hx := Bd.exec
  have hby := Bd.bytes
  have hml : c.maxLocals = 3 := hml0
  have hown : s.vm.findClass "java/lang/StringLatin1" = some m.cls := findClass_of_methodNamed Bd.named
  have hnm := (name_of_methodNamed Bd.named Bd.method).1
  have X0 : Stand p l e ({ frames := 0, cells := 0, slots := 0, locals := 0 } : Room) s m #[(.ref a1), (.ref a2)] below meth c s₁ [] 0 0 := Stand.of_body Bd
  have e0 : s₁.heap = h0 := by rw [← hh, Bd.state]; rfl
  have N0 := Fr.nil n0
  have K0 : Keep h0 h0 [] := Keep.refl h0 _
  have pre0 : ∀ t, Steps p.tables e below (s₁.setTop (mkF m 0 #[.val (.ref a1), .val (.ref a2), .unset] [])) t → Steps p.tables e below (s₁.setTop (entryFrame m #[(.ref a1), (.ref a2)] 3)) t := fun t k => castTop (own_ef_rmLE_30 m a1 a2) k
  obtain ⟨cl277, Ar277, q277, S277, M277, H277, G277⟩ := id V_a1
  obtain ⟨cl278, Ar278, q278, S278, M278, H278, G278⟩ := id V_a2
  obtain ⟨fs, hr, hrun, hended, hW, hsame⟩ := X0.leave (v := some (.int (0 : Int32))) (fun h => by rw [Bd.returns] at h; cases h)
  refine ⟨_, _, pre0 _ ?_, hrun, hended, _, _, rfl, ?_, ⟨_, rfl⟩, hW, hsame.mono (by decide) (by decide)⟩
  · show Steps p.tables e below (s₁.setTop (mkF m 0 #[rv a1, rv a2, .unset] [])) _
    refine XS.aloadN X0.here hx rfl (hb hby own_d10_0) rfl rfl ?_
    show Steps p.tables e below (s₁.setTop (mkF m 1 #[rv a1, rv a2, .unset] [(.ref a1)])) _
    refine X0.arraylength hx (by rw [e0]; exact Ar277.1) (State.isArrayOf_alike hZ.alike Ar277.2.1) (g := (mkF m 1 #[rv a1, rv a2, .unset] [(.ref a1)])) rfl rfl (hb hby own_d10_1) _ ?_
    rw [len_of S277 M277]
    show Steps p.tables e below (s₁.setTop (mkF m 2 #[rv a1, rv a2, .unset] [(.int (3 : Int32))])) _
    refine XS.aloadN X0.here hx rfl (hb hby own_d10_2) rfl rfl ?_
    show Steps p.tables e below (s₁.setTop (mkF m 3 #[rv a1, rv a2, .unset] [(.ref a2), (.int (3 : Int32))])) _
    refine X0.arraylength hx (by rw [e0]; exact Ar278.1) (State.isArrayOf_alike hZ.alike Ar278.2.1) (g := (mkF m 3 #[rv a1, rv a2, .unset] [(.ref a2), (.int (3 : Int32))])) rfl rfl (hb hby own_d10_3) _ ?_
    rw [len_of S278 M278]
    show Steps p.tables e below (s₁.setTop (mkF m 4 #[rv a1, rv a2, .unset] [(.int (0 : Int32)), (.int (3 : Int32))])) _
    refine XS.icmpYes X0.here hx rfl (pc0 := 4) (pc' := 34) rfl (hb hby own_d10_4) rfl (feq (by decide : ¬ ((3 : Int32) = (0 : Int32)))).2 (by decide) (by decide) ?_
    show Steps p.tables e below (s₁.setTop (mkF m 34 #[rv a1, rv a2, .unset] [])) _
    refine XS.iconst X0.here hx rfl (hb hby own_d10_34) ?_
    show Steps p.tables e below (s₁.setTop (mkF m 35 #[rv a1, rv a2, .unset] [(.int (0 : Int32))])) _
    exact retN X0 hx (t := .boolean) Bd.returns (by simp) (hb hby own_d10_35) hr
  · show QLE_30 Z a1 a2 k1 k2 u0 u1 u2 h0 n0 _ s₁.heap _
    rw [e0]
    exact ⟨(congrArg (fun z => some (Value.int z)) (by simp [own_eqL] : (0 : Int32) = (own_eqL [u0, u1, u2] []))), N0, rfl⟩
theorem own_ef_rmSE_30 (m : MethodId) (a1 : Addr) (a2 : Addr) : entryFrame m #[(.ref a1), (.ref a2)] 3 = mkF m 0 #[.val (.ref a1), .val (.ref a2), .unset] [] := by first | (simp [entryFrame, mkF, argsToLocals, Value.category]; done) | rfl
def QSE_30 (Z : State) (a1 : Addr) (a2 : Addr) (cw : Int32) (b1 : Addr) (b2 : Addr) (k1 : ClassId) (k2 : ClassId) (u0 : Int32) (u1 : Int32) (u2 : Int32) (h0 : Heap) (n0 : Nat) (v : Option Value) (h : Heap) (L : List Loc) : Prop := v = some (.int (own_eqL [u0, u1, u2] [])) ∧ Fr n0 L ∧ h = h0
set_option maxRecDepth 65536 in
set_option maxHeartbeats 40000000 in
theorem rmSE_30 (l : Launch) (Z : State) (a0 : Array Value) (hw : ∀ d ∈ tables_1, d.before a0 Z = true) (ws : List Jvm.Cond) (a1 : Addr) (a2 : Addr) (cw : Int32) (b1 : Addr) (b2 : Addr) (k1 : ClassId) (k2 : ClassId) (u0 : Int32) (u1 : Int32) (u2 : Int32) (h0 : Heap) (n0 : Nat) (Z0 : n0 ≤ h0.size) (E_a2 : Exa Z h0 a2 "java/lang/String") (F_a1_coder : Fld Z h0 a1 "java/lang/String" "coder" "B" (.int (0 : Int32))) (F_a1_value : Fld Z h0 a1 "java/lang/String" "value" "[B" (.ref b1)) (F_a2_coder : Fld Z h0 a2 "java/lang/String" "coder" "B" (.int (0 : Int32))) (F_a2_value : Fld Z h0 a2 "java/lang/String" "value" "[B" (.ref b2)) (V_b1 : Arv Z h0 b1 k1 .byte (3 : Int32) [(.int u0), (.int u1), (.int u2)] (.int (0 : Int32))) (V_b2 : Arv Z h0 b2 k2 .byte (0 : Int32) [] (.int (0 : Int32))) (S_COMPACT_STRINGS : Sta Z h0 "java/lang/String" "COMPACT_STRINGS" "Z" (.int cw)) (hw0 : ¬ (cw = (0 : Int32))) (ne_a1_a2 : a1 ≠ a2) :
    MetFree l (⟨"java/lang/String", "equals", "(Ljava/lang/Object;)Z"⟩ : MethodName) (head1 (Jvm.Cond.code (⟨"java/lang/String", "equals", "(Ljava/lang/Object;)Z"⟩ : MethodName) jdk_42_method_66_code 3 (some .boolean) :: ws) ({ frames := 1, cells := 0, slots := 0, locals := 14 } : Room)) (fun a U => a = #[(.ref a1), (.ref a2)] ∧ Z.Warmed39 U.vm ∧ U.heap = h0) (fun _ _ _ _ _ => True) (fun _ U o U' => ∃ v L, o = .returned v ∧ QSE_30 Z a1 a2 cw b1 b2 k1 k2 u0 u1 u2 h0 n0 v U'.heap L ∧ FrameEnd U o U' L ({ frames := 1, cells := 0, slots := 0, locals := 14 } : Room).cells ({ frames := 1, cells := 0, slots := 0, locals := 14 } : Room).slots) := by
  refine MetFree.of_bodySF (plainFor_of_name own_pn1) hisR ?_
  intro p e s m args below meth c s₁ Bd hml0 hP hK
  obtain ⟨rfl, hZ, hh⟩ := hP
  have hx := Bd.exec
  have hby := Bd.bytes
  have hml : c.maxLocals = 3 := hml0
  have hown : s.vm.findClass "java/lang/String" = some m.cls := findClass_of_methodNamed Bd.named
  have hnm := (name_of_methodNamed Bd.named Bd.method).1
  have X0 : Stand p l e ({ frames := 1, cells := 0, slots := 0, locals := 14 } : Room) s m #[(.ref a1), (.ref a2)] below meth c s₁ [] 0 0 := Stand.of_body Bd
  have e0 : s₁.heap = h0 := by rw [← hh, Bd.state]; rfl
  have N0 := Fr.nil n0
  have K0 : Keep h0 h0 [] := Keep.refl h0 _
  have pre0 : ∀ t, Steps p.tables e below (s₁.setTop (mkF m 0 #[.val (.ref a1), .val (.ref a2), .unset] [])) t → Steps p.tables e below (s₁.setTop (entryFrame m #[(.ref a1), (.ref a2)] 3)) t := fun t k => castTop (own_ef_rmSE_30 m a1 a2) k
  obtain ⟨T279, X279, e279, st279⟩ := instY X0 hx hZ hown (hw _ (List.mem_of_getElem? (i := 26) rfl)) e0 (Ins.self E_a2) (g := (mkF m 8 #[rv a1, rv a2, .unset] [(.ref a2)])) rfl rfl (hb hby own_d9_8)
  obtain ⟨T280, X280, e280, st280⟩ := castY X279 hx hZ hown (hw _ (List.mem_of_getElem? (i := 26) rfl)) e279 (Ins.self E_a2) (g := (mkF m 15 #[rv a1, rv a2, .unset] [(.ref a2)])) rfl rfl (hb hby own_d9_15)
  obtain ⟨T281, X281, e281, st281⟩ := getS2 X280 hx hZ hown (host := "") (Or.inl (hw _ (List.mem_of_getElem? (i := 21) rfl))) Via.refl e280 S_COMPACT_STRINGS (g := (mkF m 19 #[rv a1, rv a2, rv a2] [])) rfl (hb hby own_d9_19)
  have hc22_282 : ¬ (cw = (0 : Int32)) := hw0
  obtain ⟨T283, X283, e283, st283⟩ := getF X281 hx hZ hown (host := "") (Or.inl (hw _ (List.mem_of_getElem? (i := 38) rfl))) Via.refl e281 F_a1_coder (g := (mkF m 26 #[rv a1, rv a2, rv a2] [(.ref a1)])) rfl rfl (hb hby own_d9_26)
  obtain ⟨T284, X284, e284, st284⟩ := getF X283 hx hZ hown (host := "") (Or.inl (hw _ (List.mem_of_getElem? (i := 38) rfl))) Via.refl e283 F_a2_coder (g := (mkF m 30 #[rv a1, rv a2, rv a2] [(.ref a2), (.int (0 : Int32))])) rfl rfl (hb hby own_d9_30)
  obtain ⟨T285, X285, e285, st285⟩ := getF X284 hx hZ hown (host := "") (Or.inl (hw _ (List.mem_of_getElem? (i := 37) rfl))) Via.refl e284 F_a1_value (g := (mkF m 37 #[rv a1, rv a2, rv a2] [(.ref a1)])) rfl rfl (hb hby own_d9_37)
  obtain ⟨T286, X286, e286, st286⟩ := getF X285 hx hZ hown (host := "") (Or.inl (hw _ (List.mem_of_getElem? (i := 37) rfl))) Via.refl e285 F_a2_value (g := (mkF m 41 #[rv a1, rv a2, rv a2] [(.ref a2), (.ref b1)])) rfl rfl (hb hby own_d9_41)
  obtain ⟨_, _, ⟨T287, L287, k287, n287⟩, -, X287, ⟨Lc287, hQ287, l287, y287, z287⟩, st287⟩ := Jvm.LawKit.callS X286 hx (y := (⟨"java/lang/StringLatin1", "equals", "([B[B)Z"⟩ : MethodName)) hown (mvT hZ (hw _ (List.mem_of_getElem? (i := 47) rfl))) (mvT hZ (hw _ (List.mem_of_getElem? (i := 48) rfl))) (mvT hZ (hw _ (List.mem_of_getElem? (i := 24) rfl))) (mvT hZ (hw _ (List.mem_of_getElem? (i := 49) rfl))) (by decide) (backOf (W := 0) (rmLE_30 l Z a0 hw [] b1 b2 k1 k2 u0 u1 u2 h0 n0 (Nat.le_trans Z0 K0.1) V_b1 V_b2) hZ (hw _ (List.mem_of_getElem? (i := 49) rfl)) (hw _ (List.mem_of_getElem? (i := 24) rfl)) (by decide) (by decide)) (g := (mkF m 44 #[rv a1, rv a2, rv a2] [(.ref b2), (.ref b1)])) rfl (by rw [hml]; rfl) (argsL := [(.ref b1), (.ref b2)]) (rest := []) (lenOf own_pd9 rfl) rfl (by show 2 * 0 + _ ≤ _; exact Nat.le_of_eq rfl) (hb hby own_d9_44) (fun _ _ => ⟨rfl, e286, (by decide : 0 + 0 ≤ _), (by decide : 0 + 0 ≤ _)⟩)
  dsimp only [Pt.U, Pt.locs, Pt.cells, Pt.slots] at X287 l287 y287 z287 st287 hQ287
  subst l287 y287 z287
  obtain ⟨rfl, N287q, e287⟩ := hQ287
  have N287 := Fr.app N0 N287q
  have pre288 : ∀ t, Steps p.tables e below (T287.setTop (mkF m 47 #[rv a1, rv a2, rv a2] [(.int (own_eqL [u0, u1, u2] []))])) t → Steps p.tables e below (s₁.setTop (entryFrame m #[(.ref a1), (.ref a2)] 3)) t := fun t k => by
    refine pre0 _ ?_
    show Steps p.tables e below (s₁.setTop (mkF m 0 #[rv a1, rv a2, .unset] [])) _
    refine XS.aloadN X0.here hx rfl (hb hby own_d9_0) rfl rfl ?_
    show Steps p.tables e below (s₁.setTop (mkF m 1 #[rv a1, rv a2, .unset] [(.ref a1)])) _
    refine XS.aloadN X0.here hx rfl (hb hby own_d9_1) rfl rfl ?_
    show Steps p.tables e below (s₁.setTop (mkF m 2 #[rv a1, rv a2, .unset] [(.ref a2), (.ref a1)])) _
    refine Jvm.RoadKit.acmp (g := (mkF m 2 #[rv a1, rv a2, .unset] [(.ref a2), (.ref a1)])) X0 hx rfl rfl rfl (pc0 := 2) (pc' := 7) (same := false) rfl (hb hby own_d9_2) rfl (decide_eq_false fun q => ne_a1_a2 (Value.ref.inj q)) (by decide) (by decide) ?_
    show Steps p.tables e below (s₁.setTop (mkF m 7 #[rv a1, rv a2, .unset] [])) _
    refine XS.aloadN X0.here hx rfl (hb hby own_d9_7) rfl rfl ?_
    show Steps p.tables e below (s₁.setTop (mkF m 8 #[rv a1, rv a2, .unset] [(.ref a2)])) _
    refine st279 _ ?_
    show Steps p.tables e below (T279.setTop (mkF m 11 #[rv a1, rv a2, .unset] [(.int (1 : Int32))])) _
    refine XS.ifNo X279.here hx rfl (hb hby own_d9_11) rfl ((if0 _ _).trans (feq (by decide : ¬ ((1 : Int32) = (0 : Int32)))).1) ?_
    show Steps p.tables e below (T279.setTop (mkF m 14 #[rv a1, rv a2, .unset] [])) _
    refine XS.aloadN X279.here hx rfl (hb hby own_d9_14) rfl rfl ?_
    show Steps p.tables e below (T279.setTop (mkF m 15 #[rv a1, rv a2, .unset] [(.ref a2)])) _
    refine st280 _ ?_
    show Steps p.tables e below (T280.setTop (mkF m 18 #[rv a1, rv a2, .unset] [(.ref a2)])) _
    refine XS.astoreN X280.here hx rfl (hb hby own_d9_18) rfl rfl (l' := #[rv a1, rv a2, rv a2]) rfl ?_
    show Steps p.tables e below (T280.setTop (mkF m 19 #[rv a1, rv a2, rv a2] [])) _
    refine st281 _ ?_
    show Steps p.tables e below (T281.setTop (mkF m 22 #[rv a1, rv a2, rv a2] [(.int cw)])) _
    refine XS.ifNo X281.here hx rfl (hb hby own_d9_22) rfl ((if0 _ _).trans (feq hc22_282).1) ?_
    show Steps p.tables e below (T281.setTop (mkF m 25 #[rv a1, rv a2, rv a2] [])) _
    refine XS.aloadN X281.here hx rfl (hb hby own_d9_25) rfl rfl ?_
    show Steps p.tables e below (T281.setTop (mkF m 26 #[rv a1, rv a2, rv a2] [(.ref a1)])) _
    refine st283 _ ?_
    show Steps p.tables e below (T283.setTop (mkF m 29 #[rv a1, rv a2, rv a2] [(.int (0 : Int32))])) _
    refine XS.aloadN X283.here hx rfl (hb hby own_d9_29) rfl rfl ?_
    show Steps p.tables e below (T283.setTop (mkF m 30 #[rv a1, rv a2, rv a2] [(.ref a2), (.int (0 : Int32))])) _
    refine st284 _ ?_
    show Steps p.tables e below (T284.setTop (mkF m 33 #[rv a1, rv a2, rv a2] [(.int (0 : Int32)), (.int (0 : Int32))])) _
    refine XS.icmpNo X284.here hx rfl (hb hby own_d9_33) rfl (teq (by decide : ((0 : Int32) = (0 : Int32)))).2 ?_
    show Steps p.tables e below (T284.setTop (mkF m 36 #[rv a1, rv a2, rv a2] [])) _
    refine XS.aloadN X284.here hx rfl (hb hby own_d9_36) rfl rfl ?_
    show Steps p.tables e below (T284.setTop (mkF m 37 #[rv a1, rv a2, rv a2] [(.ref a1)])) _
    refine st285 _ ?_
    show Steps p.tables e below (T285.setTop (mkF m 40 #[rv a1, rv a2, rv a2] [(.ref b1)])) _
    refine XS.aloadN X285.here hx rfl (hb hby own_d9_40) rfl rfl ?_
    show Steps p.tables e below (T285.setTop (mkF m 41 #[rv a1, rv a2, rv a2] [(.ref a2), (.ref b1)])) _
    refine st286 _ ?_
    show Steps p.tables e below (T286.setTop (mkF m 44 #[rv a1, rv a2, rv a2] [(.ref b2), (.ref b1)])) _
    refine st287 _ ?_
    exact k
  by_cases hc47 : (own_eqL [u0, u1, u2] []) = (0 : Int32)
  · obtain ⟨fs, hr, hrun, hended, hW, hsame⟩ := X287.leave (v := some (.int (0 : Int32))) (fun h => by rw [Bd.returns] at h; cases h)
    refine ⟨_, _, pre288 _ ?_, hrun, hended, _, _, rfl, ?_, ⟨_, rfl⟩, hW, hsame.mono (by decide) (by decide)⟩
    · show Steps p.tables e below (T287.setTop (mkF m 47 #[rv a1, rv a2, rv a2] [(.int (own_eqL [u0, u1, u2] []))])) _
      refine XS.ifYes X287.here hx rfl (pc0 := 47) (pc' := 54) rfl (hb hby own_d9_47) rfl ((if0 _ _).trans (teq hc47).1) (by decide) (by decide) ?_
      show Steps p.tables e below (T287.setTop (mkF m 54 #[rv a1, rv a2, rv a2] [])) _
      refine XS.iconst X287.here hx rfl (hb hby own_d9_54) ?_
      show Steps p.tables e below (T287.setTop (mkF m 55 #[rv a1, rv a2, rv a2] [(.int (0 : Int32))])) _
      exact retN X287 hx (t := .boolean) Bd.returns (by simp) (hb hby own_d9_55) hr
    · show QSE_30 Z a1 a2 cw b1 b2 k1 k2 u0 u1 u2 h0 n0 _ T287.heap _
      rw [e287]
      exact ⟨(congrArg (fun z => some (Value.int z)) (hc47.symm : (0 : Int32) = (own_eqL [u0, u1, u2] []))), N287, rfl⟩
  · obtain ⟨fs, hr, hrun, hended, hW, hsame⟩ := X287.leave (v := some (.int (1 : Int32))) (fun h => by rw [Bd.returns] at h; cases h)
    refine ⟨_, _, pre288 _ ?_, hrun, hended, _, _, rfl, ?_, ⟨_, rfl⟩, hW, hsame.mono (by decide) (by decide)⟩
    · show Steps p.tables e below (T287.setTop (mkF m 47 #[rv a1, rv a2, rv a2] [(.int (own_eqL [u0, u1, u2] []))])) _
      refine XS.ifNo X287.here hx rfl (hb hby own_d9_47) rfl ((if0 _ _).trans (feq hc47).1) ?_
      show Steps p.tables e below (T287.setTop (mkF m 50 #[rv a1, rv a2, rv a2] [])) _
      refine XS.iconst X287.here hx rfl (hb hby own_d9_50) ?_
      show Steps p.tables e below (T287.setTop (mkF m 51 #[rv a1, rv a2, rv a2] [(.int (1 : Int32))])) _
      refine XS.goto X287.here hx rfl (pc0 := 51) (pc' := 55) rfl (hb hby own_d9_51) (by decide) (by decide) ?_
      show Steps p.tables e below (T287.setTop (mkF m 55 #[rv a1, rv a2, rv a2] [(.int (1 : Int32))])) _
      exact retN X287 hx (t := .boolean) Bd.returns (by simp) (hb hby own_d9_55) hr
    · show QSE_30 Z a1 a2 cw b1 b2 k1 k2 u0 u1 u2 h0 n0 _ T287.heap _
      rw [e287]
      exact ⟨(congrArg (fun z => some (Value.int z)) ((own_eqL1 hc47).symm : (1 : Int32) = (own_eqL [u0, u1, u2] []))), N287, rfl⟩
theorem own_ef_rmLE_31 (m : MethodId) (a1 : Addr) (a2 : Addr) : entryFrame m #[(.ref a1), (.ref a2)] 3 = mkF m 0 #[.val (.ref a1), .val (.ref a2), .unset] [] := by first | (simp [entryFrame, mkF, argsToLocals, Value.category]; done) | rfl
def QLE_31 (Z : State) (a1 : Addr) (a2 : Addr) (k1 : ClassId) (k2 : ClassId) (u0 : Int32) (u1 : Int32) (u2 : Int32) (v0 : Int32) (h0 : Heap) (n0 : Nat) (v : Option Value) (h : Heap) (L : List Loc) : Prop := v = some (.int (own_eqL [u0, u1, u2] [v0])) ∧ Fr n0 L ∧ h = h0
set_option maxRecDepth 65536 in
set_option maxHeartbeats 40000000 in
theorem rmLE_31 (l : Launch) (Z : State) (a0 : Array Value) (hw : ∀ d ∈ tables_1, d.before a0 Z = true) (ws : List Jvm.Cond) (a1 : Addr) (a2 : Addr) (k1 : ClassId) (k2 : ClassId) (u0 : Int32) (u1 : Int32) (u2 : Int32) (v0 : Int32) (h0 : Heap) (n0 : Nat) (Z0 : n0 ≤ h0.size) (V_a1 : Arv Z h0 a1 k1 .byte (3 : Int32) [(.int u0), (.int u1), (.int u2)] (.int (0 : Int32))) (V_a2 : Arv Z h0 a2 k2 .byte (1 : Int32) [(.int v0)] (.int (0 : Int32))) :
    MetFree l (⟨"java/lang/StringLatin1", "equals", "([B[B)Z"⟩ : MethodName) (head1 (Jvm.Cond.code (⟨"java/lang/StringLatin1", "equals", "([B[B)Z"⟩ : MethodName) jdk_43_method_13_code 3 (some .boolean) :: ws) ({ frames := 0, cells := 0, slots := 0, locals := 0 } : Room)) (fun a U => a = #[(.ref a1), (.ref a2)] ∧ Z.Warmed39 U.vm ∧ U.heap = h0) (fun _ _ _ _ _ => True) (fun _ U o U' => ∃ v L, o = .returned v ∧ QLE_31 Z a1 a2 k1 k2 u0 u1 u2 v0 h0 n0 v U'.heap L ∧ FrameEnd U o U' L ({ frames := 0, cells := 0, slots := 0, locals := 0 } : Room).cells ({ frames := 0, cells := 0, slots := 0, locals := 0 } : Room).slots) := by
  refine MetFree.of_bodySF (plainFor_of_name own_pn2) hisR ?_
  intro p e s m args below meth c s₁ Bd hml0 hP hK
  obtain ⟨rfl, hZ, hh⟩ := hP
  have hx := Bd.exec
  have hby := Bd.bytes
  have hml : c.maxLocals = 3 := hml0
  have hown : s.vm.findClass "java/lang/StringLatin1" = some m.cls := findClass_of_methodNamed Bd.named
  have hnm := (name_of_methodNamed Bd.named Bd.method).1
  have X0 : Stand p l e ({ frames := 0, cells := 0, slots := 0, locals := 0 } : Room) s m #[(.ref a1), (.ref a2)] below meth c s₁ [] 0 0 := Stand.of_body Bd
  have e0 : s₁.heap = h0 := by rw [← hh, Bd.state]; rfl
  have N0 := Fr.nil n0
  have K0 : Keep h0 h0 [] := Keep.refl h0 _
  have pre0 : ∀ t, Steps p.tables e below (s₁.setTop (mkF m 0 #[.val (.ref a1), .val (.ref a2), .unset] [])) t → Steps p.tables e below (s₁.setTop (entryFrame m #[(.ref a1), (.ref a2)] 3)) t := fun t k => castTop (own_ef_rmLE_31 m a1 a2) k
  obtain ⟨cl289, Ar289, q289, S289, M289, H289, G289⟩ := id V_a1
  obtain ⟨cl290, Ar290, q290, S290, M290, H290, G290⟩ := id V_a2
  obtain ⟨fs, hr, hrun, hended, hW, hsame⟩ := X0.leave (v := some (.int (0 : Int32))) (fun h => by rw [Bd.returns] at h; cases h)
  refine ⟨_, _, pre0 _ ?_, hrun, hended, _, _, rfl, ?_, ⟨_, rfl⟩, hW, hsame.mono (by decide) (by decide)⟩
  · show Steps p.tables e below (s₁.setTop (mkF m 0 #[rv a1, rv a2, .unset] [])) _
    refine XS.aloadN X0.here hx rfl (hb hby own_d10_0) rfl rfl ?_
    show Steps p.tables e below (s₁.setTop (mkF m 1 #[rv a1, rv a2, .unset] [(.ref a1)])) _
    refine X0.arraylength hx (by rw [e0]; exact Ar289.1) (State.isArrayOf_alike hZ.alike Ar289.2.1) (g := (mkF m 1 #[rv a1, rv a2, .unset] [(.ref a1)])) rfl rfl (hb hby own_d10_1) _ ?_
    rw [len_of S289 M289]
    show Steps p.tables e below (s₁.setTop (mkF m 2 #[rv a1, rv a2, .unset] [(.int (3 : Int32))])) _
    refine XS.aloadN X0.here hx rfl (hb hby own_d10_2) rfl rfl ?_
    show Steps p.tables e below (s₁.setTop (mkF m 3 #[rv a1, rv a2, .unset] [(.ref a2), (.int (3 : Int32))])) _
    refine X0.arraylength hx (by rw [e0]; exact Ar290.1) (State.isArrayOf_alike hZ.alike Ar290.2.1) (g := (mkF m 3 #[rv a1, rv a2, .unset] [(.ref a2), (.int (3 : Int32))])) rfl rfl (hb hby own_d10_3) _ ?_
    rw [len_of S290 M290]
    show Steps p.tables e below (s₁.setTop (mkF m 4 #[rv a1, rv a2, .unset] [(.int (1 : Int32)), (.int (3 : Int32))])) _
    refine XS.icmpYes X0.here hx rfl (pc0 := 4) (pc' := 34) rfl (hb hby own_d10_4) rfl (feq (by decide : ¬ ((3 : Int32) = (1 : Int32)))).2 (by decide) (by decide) ?_
    show Steps p.tables e below (s₁.setTop (mkF m 34 #[rv a1, rv a2, .unset] [])) _
    refine XS.iconst X0.here hx rfl (hb hby own_d10_34) ?_
    show Steps p.tables e below (s₁.setTop (mkF m 35 #[rv a1, rv a2, .unset] [(.int (0 : Int32))])) _
    exact retN X0 hx (t := .boolean) Bd.returns (by simp) (hb hby own_d10_35) hr
  · show QLE_31 Z a1 a2 k1 k2 u0 u1 u2 v0 h0 n0 _ s₁.heap _
    rw [e0]
    exact ⟨(congrArg (fun z => some (Value.int z)) (by simp [own_eqL] : (0 : Int32) = (own_eqL [u0, u1, u2] [v0]))), N0, rfl⟩
theorem own_ef_rmSE_31 (m : MethodId) (a1 : Addr) (a2 : Addr) : entryFrame m #[(.ref a1), (.ref a2)] 3 = mkF m 0 #[.val (.ref a1), .val (.ref a2), .unset] [] := by first | (simp [entryFrame, mkF, argsToLocals, Value.category]; done) | rfl
def QSE_31 (Z : State) (a1 : Addr) (a2 : Addr) (cw : Int32) (b1 : Addr) (b2 : Addr) (k1 : ClassId) (k2 : ClassId) (u0 : Int32) (u1 : Int32) (u2 : Int32) (v0 : Int32) (h0 : Heap) (n0 : Nat) (v : Option Value) (h : Heap) (L : List Loc) : Prop := v = some (.int (own_eqL [u0, u1, u2] [v0])) ∧ Fr n0 L ∧ h = h0
set_option maxRecDepth 65536 in
set_option maxHeartbeats 40000000 in
theorem rmSE_31 (l : Launch) (Z : State) (a0 : Array Value) (hw : ∀ d ∈ tables_1, d.before a0 Z = true) (ws : List Jvm.Cond) (a1 : Addr) (a2 : Addr) (cw : Int32) (b1 : Addr) (b2 : Addr) (k1 : ClassId) (k2 : ClassId) (u0 : Int32) (u1 : Int32) (u2 : Int32) (v0 : Int32) (h0 : Heap) (n0 : Nat) (Z0 : n0 ≤ h0.size) (E_a2 : Exa Z h0 a2 "java/lang/String") (F_a1_coder : Fld Z h0 a1 "java/lang/String" "coder" "B" (.int (0 : Int32))) (F_a1_value : Fld Z h0 a1 "java/lang/String" "value" "[B" (.ref b1)) (F_a2_coder : Fld Z h0 a2 "java/lang/String" "coder" "B" (.int (0 : Int32))) (F_a2_value : Fld Z h0 a2 "java/lang/String" "value" "[B" (.ref b2)) (V_b1 : Arv Z h0 b1 k1 .byte (3 : Int32) [(.int u0), (.int u1), (.int u2)] (.int (0 : Int32))) (V_b2 : Arv Z h0 b2 k2 .byte (1 : Int32) [(.int v0)] (.int (0 : Int32))) (S_COMPACT_STRINGS : Sta Z h0 "java/lang/String" "COMPACT_STRINGS" "Z" (.int cw)) (hw0 : ¬ (cw = (0 : Int32))) (ne_a1_a2 : a1 ≠ a2) :
    MetFree l (⟨"java/lang/String", "equals", "(Ljava/lang/Object;)Z"⟩ : MethodName) (head1 (Jvm.Cond.code (⟨"java/lang/String", "equals", "(Ljava/lang/Object;)Z"⟩ : MethodName) jdk_42_method_66_code 3 (some .boolean) :: ws) ({ frames := 1, cells := 0, slots := 0, locals := 14 } : Room)) (fun a U => a = #[(.ref a1), (.ref a2)] ∧ Z.Warmed39 U.vm ∧ U.heap = h0) (fun _ _ _ _ _ => True) (fun _ U o U' => ∃ v L, o = .returned v ∧ QSE_31 Z a1 a2 cw b1 b2 k1 k2 u0 u1 u2 v0 h0 n0 v U'.heap L ∧ FrameEnd U o U' L ({ frames := 1, cells := 0, slots := 0, locals := 14 } : Room).cells ({ frames := 1, cells := 0, slots := 0, locals := 14 } : Room).slots) := by
  refine MetFree.of_bodySF (plainFor_of_name own_pn1) hisR ?_
  intro p e s m args below meth c s₁ Bd hml0 hP hK
  obtain ⟨rfl, hZ, hh⟩ := hP
  have hx := Bd.exec
  have hby := Bd.bytes
  have hml : c.maxLocals = 3 := hml0
  have hown : s.vm.findClass "java/lang/String" = some m.cls := findClass_of_methodNamed Bd.named
  have hnm := (name_of_methodNamed Bd.named Bd.method).1
  have X0 : Stand p l e ({ frames := 1, cells := 0, slots := 0, locals := 14 } : Room) s m #[(.ref a1), (.ref a2)] below meth c s₁ [] 0 0 := Stand.of_body Bd
  have e0 : s₁.heap = h0 := by rw [← hh, Bd.state]; rfl
  have N0 := Fr.nil n0
  have K0 : Keep h0 h0 [] := Keep.refl h0 _
  have pre0 : ∀ t, Steps p.tables e below (s₁.setTop (mkF m 0 #[.val (.ref a1), .val (.ref a2), .unset] [])) t → Steps p.tables e below (s₁.setTop (entryFrame m #[(.ref a1), (.ref a2)] 3)) t := fun t k => castTop (own_ef_rmSE_31 m a1 a2) k
  obtain ⟨T291, X291, e291, st291⟩ := instY X0 hx hZ hown (hw _ (List.mem_of_getElem? (i := 26) rfl)) e0 (Ins.self E_a2) (g := (mkF m 8 #[rv a1, rv a2, .unset] [(.ref a2)])) rfl rfl (hb hby own_d9_8)
  obtain ⟨T292, X292, e292, st292⟩ := castY X291 hx hZ hown (hw _ (List.mem_of_getElem? (i := 26) rfl)) e291 (Ins.self E_a2) (g := (mkF m 15 #[rv a1, rv a2, .unset] [(.ref a2)])) rfl rfl (hb hby own_d9_15)
  obtain ⟨T293, X293, e293, st293⟩ := getS2 X292 hx hZ hown (host := "") (Or.inl (hw _ (List.mem_of_getElem? (i := 21) rfl))) Via.refl e292 S_COMPACT_STRINGS (g := (mkF m 19 #[rv a1, rv a2, rv a2] [])) rfl (hb hby own_d9_19)
  have hc22_294 : ¬ (cw = (0 : Int32)) := hw0
  obtain ⟨T295, X295, e295, st295⟩ := getF X293 hx hZ hown (host := "") (Or.inl (hw _ (List.mem_of_getElem? (i := 38) rfl))) Via.refl e293 F_a1_coder (g := (mkF m 26 #[rv a1, rv a2, rv a2] [(.ref a1)])) rfl rfl (hb hby own_d9_26)
  obtain ⟨T296, X296, e296, st296⟩ := getF X295 hx hZ hown (host := "") (Or.inl (hw _ (List.mem_of_getElem? (i := 38) rfl))) Via.refl e295 F_a2_coder (g := (mkF m 30 #[rv a1, rv a2, rv a2] [(.ref a2), (.int (0 : Int32))])) rfl rfl (hb hby own_d9_30)
  obtain ⟨T297, X297, e297, st297⟩ := getF X296 hx hZ hown (host := "") (Or.inl (hw _ (List.mem_of_getElem? (i := 37) rfl))) Via.refl e296 F_a1_value (g := (mkF m 37 #[rv a1, rv a2, rv a2] [(.ref a1)])) rfl rfl (hb hby own_d9_37)
  obtain ⟨T298, X298, e298, st298⟩ := getF X297 hx hZ hown (host := "") (Or.inl (hw _ (List.mem_of_getElem? (i := 37) rfl))) Via.refl e297 F_a2_value (g := (mkF m 41 #[rv a1, rv a2, rv a2] [(.ref a2), (.ref b1)])) rfl rfl (hb hby own_d9_41)
  obtain ⟨_, _, ⟨T299, L299, k299, n299⟩, -, X299, ⟨Lc299, hQ299, l299, y299, z299⟩, st299⟩ := Jvm.LawKit.callS X298 hx (y := (⟨"java/lang/StringLatin1", "equals", "([B[B)Z"⟩ : MethodName)) hown (mvT hZ (hw _ (List.mem_of_getElem? (i := 47) rfl))) (mvT hZ (hw _ (List.mem_of_getElem? (i := 48) rfl))) (mvT hZ (hw _ (List.mem_of_getElem? (i := 24) rfl))) (mvT hZ (hw _ (List.mem_of_getElem? (i := 49) rfl))) (by decide) (backOf (W := 0) (rmLE_31 l Z a0 hw [] b1 b2 k1 k2 u0 u1 u2 v0 h0 n0 (Nat.le_trans Z0 K0.1) V_b1 V_b2) hZ (hw _ (List.mem_of_getElem? (i := 49) rfl)) (hw _ (List.mem_of_getElem? (i := 24) rfl)) (by decide) (by decide)) (g := (mkF m 44 #[rv a1, rv a2, rv a2] [(.ref b2), (.ref b1)])) rfl (by rw [hml]; rfl) (argsL := [(.ref b1), (.ref b2)]) (rest := []) (lenOf own_pd9 rfl) rfl (by show 2 * 0 + _ ≤ _; exact Nat.le_of_eq rfl) (hb hby own_d9_44) (fun _ _ => ⟨rfl, e298, (by decide : 0 + 0 ≤ _), (by decide : 0 + 0 ≤ _)⟩)
  dsimp only [Pt.U, Pt.locs, Pt.cells, Pt.slots] at X299 l299 y299 z299 st299 hQ299
  subst l299 y299 z299
  obtain ⟨rfl, N299q, e299⟩ := hQ299
  have N299 := Fr.app N0 N299q
  have pre300 : ∀ t, Steps p.tables e below (T299.setTop (mkF m 47 #[rv a1, rv a2, rv a2] [(.int (own_eqL [u0, u1, u2] [v0]))])) t → Steps p.tables e below (s₁.setTop (entryFrame m #[(.ref a1), (.ref a2)] 3)) t := fun t k => by
    refine pre0 _ ?_
    show Steps p.tables e below (s₁.setTop (mkF m 0 #[rv a1, rv a2, .unset] [])) _
    refine XS.aloadN X0.here hx rfl (hb hby own_d9_0) rfl rfl ?_
    show Steps p.tables e below (s₁.setTop (mkF m 1 #[rv a1, rv a2, .unset] [(.ref a1)])) _
    refine XS.aloadN X0.here hx rfl (hb hby own_d9_1) rfl rfl ?_
    show Steps p.tables e below (s₁.setTop (mkF m 2 #[rv a1, rv a2, .unset] [(.ref a2), (.ref a1)])) _
    refine Jvm.RoadKit.acmp (g := (mkF m 2 #[rv a1, rv a2, .unset] [(.ref a2), (.ref a1)])) X0 hx rfl rfl rfl (pc0 := 2) (pc' := 7) (same := false) rfl (hb hby own_d9_2) rfl (decide_eq_false fun q => ne_a1_a2 (Value.ref.inj q)) (by decide) (by decide) ?_
    show Steps p.tables e below (s₁.setTop (mkF m 7 #[rv a1, rv a2, .unset] [])) _
    refine XS.aloadN X0.here hx rfl (hb hby own_d9_7) rfl rfl ?_
    show Steps p.tables e below (s₁.setTop (mkF m 8 #[rv a1, rv a2, .unset] [(.ref a2)])) _
    refine st291 _ ?_
    show Steps p.tables e below (T291.setTop (mkF m 11 #[rv a1, rv a2, .unset] [(.int (1 : Int32))])) _
    refine XS.ifNo X291.here hx rfl (hb hby own_d9_11) rfl ((if0 _ _).trans (feq (by decide : ¬ ((1 : Int32) = (0 : Int32)))).1) ?_
    show Steps p.tables e below (T291.setTop (mkF m 14 #[rv a1, rv a2, .unset] [])) _
    refine XS.aloadN X291.here hx rfl (hb hby own_d9_14) rfl rfl ?_
    show Steps p.tables e below (T291.setTop (mkF m 15 #[rv a1, rv a2, .unset] [(.ref a2)])) _
    refine st292 _ ?_
    show Steps p.tables e below (T292.setTop (mkF m 18 #[rv a1, rv a2, .unset] [(.ref a2)])) _
    refine XS.astoreN X292.here hx rfl (hb hby own_d9_18) rfl rfl (l' := #[rv a1, rv a2, rv a2]) rfl ?_
    show Steps p.tables e below (T292.setTop (mkF m 19 #[rv a1, rv a2, rv a2] [])) _
    refine st293 _ ?_
    show Steps p.tables e below (T293.setTop (mkF m 22 #[rv a1, rv a2, rv a2] [(.int cw)])) _
    refine XS.ifNo X293.here hx rfl (hb hby own_d9_22) rfl ((if0 _ _).trans (feq hc22_294).1) ?_
    show Steps p.tables e below (T293.setTop (mkF m 25 #[rv a1, rv a2, rv a2] [])) _
    refine XS.aloadN X293.here hx rfl (hb hby own_d9_25) rfl rfl ?_
    show Steps p.tables e below (T293.setTop (mkF m 26 #[rv a1, rv a2, rv a2] [(.ref a1)])) _
    refine st295 _ ?_
    show Steps p.tables e below (T295.setTop (mkF m 29 #[rv a1, rv a2, rv a2] [(.int (0 : Int32))])) _
    refine XS.aloadN X295.here hx rfl (hb hby own_d9_29) rfl rfl ?_
    show Steps p.tables e below (T295.setTop (mkF m 30 #[rv a1, rv a2, rv a2] [(.ref a2), (.int (0 : Int32))])) _
    refine st296 _ ?_
    show Steps p.tables e below (T296.setTop (mkF m 33 #[rv a1, rv a2, rv a2] [(.int (0 : Int32)), (.int (0 : Int32))])) _
    refine XS.icmpNo X296.here hx rfl (hb hby own_d9_33) rfl (teq (by decide : ((0 : Int32) = (0 : Int32)))).2 ?_
    show Steps p.tables e below (T296.setTop (mkF m 36 #[rv a1, rv a2, rv a2] [])) _
    refine XS.aloadN X296.here hx rfl (hb hby own_d9_36) rfl rfl ?_
    show Steps p.tables e below (T296.setTop (mkF m 37 #[rv a1, rv a2, rv a2] [(.ref a1)])) _
    refine st297 _ ?_
    show Steps p.tables e below (T297.setTop (mkF m 40 #[rv a1, rv a2, rv a2] [(.ref b1)])) _
    refine XS.aloadN X297.here hx rfl (hb hby own_d9_40) rfl rfl ?_
    show Steps p.tables e below (T297.setTop (mkF m 41 #[rv a1, rv a2, rv a2] [(.ref a2), (.ref b1)])) _
    refine st298 _ ?_
    show Steps p.tables e below (T298.setTop (mkF m 44 #[rv a1, rv a2, rv a2] [(.ref b2), (.ref b1)])) _
    refine st299 _ ?_
    exact k
  by_cases hc47 : (own_eqL [u0, u1, u2] [v0]) = (0 : Int32)
  · obtain ⟨fs, hr, hrun, hended, hW, hsame⟩ := X299.leave (v := some (.int (0 : Int32))) (fun h => by rw [Bd.returns] at h; cases h)
    refine ⟨_, _, pre300 _ ?_, hrun, hended, _, _, rfl, ?_, ⟨_, rfl⟩, hW, hsame.mono (by decide) (by decide)⟩
    · show Steps p.tables e below (T299.setTop (mkF m 47 #[rv a1, rv a2, rv a2] [(.int (own_eqL [u0, u1, u2] [v0]))])) _
      refine XS.ifYes X299.here hx rfl (pc0 := 47) (pc' := 54) rfl (hb hby own_d9_47) rfl ((if0 _ _).trans (teq hc47).1) (by decide) (by decide) ?_
      show Steps p.tables e below (T299.setTop (mkF m 54 #[rv a1, rv a2, rv a2] [])) _
      refine XS.iconst X299.here hx rfl (hb hby own_d9_54) ?_
      show Steps p.tables e below (T299.setTop (mkF m 55 #[rv a1, rv a2, rv a2] [(.int (0 : Int32))])) _
      exact retN X299 hx (t := .boolean) Bd.returns (by simp) (hb hby own_d9_55) hr
    · show QSE_31 Z a1 a2 cw b1 b2 k1 k2 u0 u1 u2 v0 h0 n0 _ T299.heap _
      rw [e299]
      exact ⟨(congrArg (fun z => some (Value.int z)) (hc47.symm : (0 : Int32) = (own_eqL [u0, u1, u2] [v0]))), N299, rfl⟩
  · obtain ⟨fs, hr, hrun, hended, hW, hsame⟩ := X299.leave (v := some (.int (1 : Int32))) (fun h => by rw [Bd.returns] at h; cases h)
    refine ⟨_, _, pre300 _ ?_, hrun, hended, _, _, rfl, ?_, ⟨_, rfl⟩, hW, hsame.mono (by decide) (by decide)⟩
    · show Steps p.tables e below (T299.setTop (mkF m 47 #[rv a1, rv a2, rv a2] [(.int (own_eqL [u0, u1, u2] [v0]))])) _
      refine XS.ifNo X299.here hx rfl (hb hby own_d9_47) rfl ((if0 _ _).trans (feq hc47).1) ?_
      show Steps p.tables e below (T299.setTop (mkF m 50 #[rv a1, rv a2, rv a2] [])) _
      refine XS.iconst X299.here hx rfl (hb hby own_d9_50) ?_
      show Steps p.tables e below (T299.setTop (mkF m 51 #[rv a1, rv a2, rv a2] [(.int (1 : Int32))])) _
      refine XS.goto X299.here hx rfl (pc0 := 51) (pc' := 55) rfl (hb hby own_d9_51) (by decide) (by decide) ?_
      show Steps p.tables e below (T299.setTop (mkF m 55 #[rv a1, rv a2, rv a2] [(.int (1 : Int32))])) _
      exact retN X299 hx (t := .boolean) Bd.returns (by simp) (hb hby own_d9_55) hr
    · show QSE_31 Z a1 a2 cw b1 b2 k1 k2 u0 u1 u2 v0 h0 n0 _ T299.heap _
      rw [e299]
      exact ⟨(congrArg (fun z => some (Value.int z)) ((own_eqL1 hc47).symm : (1 : Int32) = (own_eqL [u0, u1, u2] [v0]))), N299, rfl⟩
theorem own_ef_rmLE_32 (m : MethodId) (a1 : Addr) (a2 : Addr) : entryFrame m #[(.ref a1), (.ref a2)] 3 = mkF m 0 #[.val (.ref a1), .val (.ref a2), .unset] [] := by first | (simp [entryFrame, mkF, argsToLocals, Value.category]; done) | rfl
def QLE_32 (Z : State) (a1 : Addr) (a2 : Addr) (k1 : ClassId) (k2 : ClassId) (u0 : Int32) (u1 : Int32) (u2 : Int32) (v0 : Int32) (v1 : Int32) (h0 : Heap) (n0 : Nat) (v : Option Value) (h : Heap) (L : List Loc) : Prop := v = some (.int (own_eqL [u0, u1, u2] [v0, v1])) ∧ Fr n0 L ∧ h = h0
set_option maxRecDepth 65536 in
set_option maxHeartbeats 40000000 in
theorem rmLE_32 (l : Launch) (Z : State) (a0 : Array Value) (hw : ∀ d ∈ tables_1, d.before a0 Z = true) (ws : List Jvm.Cond) (a1 : Addr) (a2 : Addr) (k1 : ClassId) (k2 : ClassId) (u0 : Int32) (u1 : Int32) (u2 : Int32) (v0 : Int32) (v1 : Int32) (h0 : Heap) (n0 : Nat) (Z0 : n0 ≤ h0.size) (V_a1 : Arv Z h0 a1 k1 .byte (3 : Int32) [(.int u0), (.int u1), (.int u2)] (.int (0 : Int32))) (V_a2 : Arv Z h0 a2 k2 .byte (2 : Int32) [(.int v0), (.int v1)] (.int (0 : Int32))) :
    MetFree l (⟨"java/lang/StringLatin1", "equals", "([B[B)Z"⟩ : MethodName) (head1 (Jvm.Cond.code (⟨"java/lang/StringLatin1", "equals", "([B[B)Z"⟩ : MethodName) jdk_43_method_13_code 3 (some .boolean) :: ws) ({ frames := 0, cells := 0, slots := 0, locals := 0 } : Room)) (fun a U => a = #[(.ref a1), (.ref a2)] ∧ Z.Warmed39 U.vm ∧ U.heap = h0) (fun _ _ _ _ _ => True) (fun _ U o U' => ∃ v L, o = .returned v ∧ QLE_32 Z a1 a2 k1 k2 u0 u1 u2 v0 v1 h0 n0 v U'.heap L ∧ FrameEnd U o U' L ({ frames := 0, cells := 0, slots := 0, locals := 0 } : Room).cells ({ frames := 0, cells := 0, slots := 0, locals := 0 } : Room).slots) := by
  refine MetFree.of_bodySF (plainFor_of_name own_pn2) hisR ?_
  intro p e s m args below meth c s₁ Bd hml0 hP hK
  obtain ⟨rfl, hZ, hh⟩ := hP
  have hx := Bd.exec
  have hby := Bd.bytes
  have hml : c.maxLocals = 3 := hml0
  have hown : s.vm.findClass "java/lang/StringLatin1" = some m.cls := findClass_of_methodNamed Bd.named
  have hnm := (name_of_methodNamed Bd.named Bd.method).1
  have X0 : Stand p l e ({ frames := 0, cells := 0, slots := 0, locals := 0 } : Room) s m #[(.ref a1), (.ref a2)] below meth c s₁ [] 0 0 := Stand.of_body Bd
  have e0 : s₁.heap = h0 := by rw [← hh, Bd.state]; rfl
  have N0 := Fr.nil n0
  have K0 : Keep h0 h0 [] := Keep.refl h0 _
  have pre0 : ∀ t, Steps p.tables e below (s₁.setTop (mkF m 0 #[.val (.ref a1), .val (.ref a2), .unset] [])) t → Steps p.tables e below (s₁.setTop (entryFrame m #[(.ref a1), (.ref a2)] 3)) t := fun t k => castTop (own_ef_rmLE_32 m a1 a2) k
  obtain ⟨cl301, Ar301, q301, S301, M301, H301, G301⟩ := id V_a1
  obtain ⟨cl302, Ar302, q302, S302, M302, H302, G302⟩ := id V_a2
  obtain ⟨fs, hr, hrun, hended, hW, hsame⟩ := X0.leave (v := some (.int (0 : Int32))) (fun h => by rw [Bd.returns] at h; cases h)
  refine ⟨_, _, pre0 _ ?_, hrun, hended, _, _, rfl, ?_, ⟨_, rfl⟩, hW, hsame.mono (by decide) (by decide)⟩
  · show Steps p.tables e below (s₁.setTop (mkF m 0 #[rv a1, rv a2, .unset] [])) _
    refine XS.aloadN X0.here hx rfl (hb hby own_d10_0) rfl rfl ?_
    show Steps p.tables e below (s₁.setTop (mkF m 1 #[rv a1, rv a2, .unset] [(.ref a1)])) _
    refine X0.arraylength hx (by rw [e0]; exact Ar301.1) (State.isArrayOf_alike hZ.alike Ar301.2.1) (g := (mkF m 1 #[rv a1, rv a2, .unset] [(.ref a1)])) rfl rfl (hb hby own_d10_1) _ ?_
    rw [len_of S301 M301]
    show Steps p.tables e below (s₁.setTop (mkF m 2 #[rv a1, rv a2, .unset] [(.int (3 : Int32))])) _
    refine XS.aloadN X0.here hx rfl (hb hby own_d10_2) rfl rfl ?_
    show Steps p.tables e below (s₁.setTop (mkF m 3 #[rv a1, rv a2, .unset] [(.ref a2), (.int (3 : Int32))])) _
    refine X0.arraylength hx (by rw [e0]; exact Ar302.1) (State.isArrayOf_alike hZ.alike Ar302.2.1) (g := (mkF m 3 #[rv a1, rv a2, .unset] [(.ref a2), (.int (3 : Int32))])) rfl rfl (hb hby own_d10_3) _ ?_
    rw [len_of S302 M302]
    show Steps p.tables e below (s₁.setTop (mkF m 4 #[rv a1, rv a2, .unset] [(.int (2 : Int32)), (.int (3 : Int32))])) _
    refine XS.icmpYes X0.here hx rfl (pc0 := 4) (pc' := 34) rfl (hb hby own_d10_4) rfl (feq (by decide : ¬ ((3 : Int32) = (2 : Int32)))).2 (by decide) (by decide) ?_
    show Steps p.tables e below (s₁.setTop (mkF m 34 #[rv a1, rv a2, .unset] [])) _
    refine XS.iconst X0.here hx rfl (hb hby own_d10_34) ?_
    show Steps p.tables e below (s₁.setTop (mkF m 35 #[rv a1, rv a2, .unset] [(.int (0 : Int32))])) _
    exact retN X0 hx (t := .boolean) Bd.returns (by simp) (hb hby own_d10_35) hr
  · show QLE_32 Z a1 a2 k1 k2 u0 u1 u2 v0 v1 h0 n0 _ s₁.heap _
    rw [e0]
    exact ⟨(congrArg (fun z => some (Value.int z)) (by simp [own_eqL] : (0 : Int32) = (own_eqL [u0, u1, u2] [v0, v1]))), N0, rfl⟩
theorem own_ef_rmSE_32 (m : MethodId) (a1 : Addr) (a2 : Addr) : entryFrame m #[(.ref a1), (.ref a2)] 3 = mkF m 0 #[.val (.ref a1), .val (.ref a2), .unset] [] := by first | (simp [entryFrame, mkF, argsToLocals, Value.category]; done) | rfl
def QSE_32 (Z : State) (a1 : Addr) (a2 : Addr) (cw : Int32) (b1 : Addr) (b2 : Addr) (k1 : ClassId) (k2 : ClassId) (u0 : Int32) (u1 : Int32) (u2 : Int32) (v0 : Int32) (v1 : Int32) (h0 : Heap) (n0 : Nat) (v : Option Value) (h : Heap) (L : List Loc) : Prop := v = some (.int (own_eqL [u0, u1, u2] [v0, v1])) ∧ Fr n0 L ∧ h = h0
set_option maxRecDepth 65536 in
set_option maxHeartbeats 40000000 in
theorem rmSE_32 (l : Launch) (Z : State) (a0 : Array Value) (hw : ∀ d ∈ tables_1, d.before a0 Z = true) (ws : List Jvm.Cond) (a1 : Addr) (a2 : Addr) (cw : Int32) (b1 : Addr) (b2 : Addr) (k1 : ClassId) (k2 : ClassId) (u0 : Int32) (u1 : Int32) (u2 : Int32) (v0 : Int32) (v1 : Int32) (h0 : Heap) (n0 : Nat) (Z0 : n0 ≤ h0.size) (E_a2 : Exa Z h0 a2 "java/lang/String") (F_a1_coder : Fld Z h0 a1 "java/lang/String" "coder" "B" (.int (0 : Int32))) (F_a1_value : Fld Z h0 a1 "java/lang/String" "value" "[B" (.ref b1)) (F_a2_coder : Fld Z h0 a2 "java/lang/String" "coder" "B" (.int (0 : Int32))) (F_a2_value : Fld Z h0 a2 "java/lang/String" "value" "[B" (.ref b2)) (V_b1 : Arv Z h0 b1 k1 .byte (3 : Int32) [(.int u0), (.int u1), (.int u2)] (.int (0 : Int32))) (V_b2 : Arv Z h0 b2 k2 .byte (2 : Int32) [(.int v0), (.int v1)] (.int (0 : Int32))) (S_COMPACT_STRINGS : Sta Z h0 "java/lang/String" "COMPACT_STRINGS" "Z" (.int cw)) (hw0 : ¬ (cw = (0 : Int32))) (ne_a1_a2 : a1 ≠ a2) :
    MetFree l (⟨"java/lang/String", "equals", "(Ljava/lang/Object;)Z"⟩ : MethodName) (head1 (Jvm.Cond.code (⟨"java/lang/String", "equals", "(Ljava/lang/Object;)Z"⟩ : MethodName) jdk_42_method_66_code 3 (some .boolean) :: ws) ({ frames := 1, cells := 0, slots := 0, locals := 14 } : Room)) (fun a U => a = #[(.ref a1), (.ref a2)] ∧ Z.Warmed39 U.vm ∧ U.heap = h0) (fun _ _ _ _ _ => True) (fun _ U o U' => ∃ v L, o = .returned v ∧ QSE_32 Z a1 a2 cw b1 b2 k1 k2 u0 u1 u2 v0 v1 h0 n0 v U'.heap L ∧ FrameEnd U o U' L ({ frames := 1, cells := 0, slots := 0, locals := 14 } : Room).cells ({ frames := 1, cells := 0, slots := 0, locals := 14 } : Room).slots) := by
  refine MetFree.of_bodySF (plainFor_of_name own_pn1) hisR ?_
  intro p e s m args below meth c s₁ Bd hml0 hP hK
  obtain ⟨rfl, hZ, hh⟩ := hP
  have hx := Bd.exec
  have hby := Bd.bytes
  have hml : c.maxLocals = 3 := hml0
  have hown : s.vm.findClass "java/lang/String" = some m.cls := findClass_of_methodNamed Bd.named
  have hnm := (name_of_methodNamed Bd.named Bd.method).1
  have X0 : Stand p l e ({ frames := 1, cells := 0, slots := 0, locals := 14 } : Room) s m #[(.ref a1), (.ref a2)] below meth c s₁ [] 0 0 := Stand.of_body Bd
  have e0 : s₁.heap = h0 := by rw [← hh, Bd.state]; rfl
  have N0 := Fr.nil n0
  have K0 : Keep h0 h0 [] := Keep.refl h0 _
  have pre0 : ∀ t, Steps p.tables e below (s₁.setTop (mkF m 0 #[.val (.ref a1), .val (.ref a2), .unset] [])) t → Steps p.tables e below (s₁.setTop (entryFrame m #[(.ref a1), (.ref a2)] 3)) t := fun t k => castTop (own_ef_rmSE_32 m a1 a2) k
  obtain ⟨T303, X303, e303, st303⟩ := instY X0 hx hZ hown (hw _ (List.mem_of_getElem? (i := 26) rfl)) e0 (Ins.self E_a2) (g := (mkF m 8 #[rv a1, rv a2, .unset] [(.ref a2)])) rfl rfl (hb hby own_d9_8)
  obtain ⟨T304, X304, e304, st304⟩ := castY X303 hx hZ hown (hw _ (List.mem_of_getElem? (i := 26) rfl)) e303 (Ins.self E_a2) (g := (mkF m 15 #[rv a1, rv a2, .unset] [(.ref a2)])) rfl rfl (hb hby own_d9_15)
  obtain ⟨T305, X305, e305, st305⟩ := getS2 X304 hx hZ hown (host := "") (Or.inl (hw _ (List.mem_of_getElem? (i := 21) rfl))) Via.refl e304 S_COMPACT_STRINGS (g := (mkF m 19 #[rv a1, rv a2, rv a2] [])) rfl (hb hby own_d9_19)
  have hc22_306 : ¬ (cw = (0 : Int32)) := hw0
  obtain ⟨T307, X307, e307, st307⟩ := getF X305 hx hZ hown (host := "") (Or.inl (hw _ (List.mem_of_getElem? (i := 38) rfl))) Via.refl e305 F_a1_coder (g := (mkF m 26 #[rv a1, rv a2, rv a2] [(.ref a1)])) rfl rfl (hb hby own_d9_26)
  obtain ⟨T308, X308, e308, st308⟩ := getF X307 hx hZ hown (host := "") (Or.inl (hw _ (List.mem_of_getElem? (i := 38) rfl))) Via.refl e307 F_a2_coder (g := (mkF m 30 #[rv a1, rv a2, rv a2] [(.ref a2), (.int (0 : Int32))])) rfl rfl (hb hby own_d9_30)
  obtain ⟨T309, X309, e309, st309⟩ := getF X308 hx hZ hown (host := "") (Or.inl (hw _ (List.mem_of_getElem? (i := 37) rfl))) Via.refl e308 F_a1_value (g := (mkF m 37 #[rv a1, rv a2, rv a2] [(.ref a1)])) rfl rfl (hb hby own_d9_37)
  obtain ⟨T310, X310, e310, st310⟩ := getF X309 hx hZ hown (host := "") (Or.inl (hw _ (List.mem_of_getElem? (i := 37) rfl))) Via.refl e309 F_a2_value (g := (mkF m 41 #[rv a1, rv a2, rv a2] [(.ref a2), (.ref b1)])) rfl rfl (hb hby own_d9_41)
  obtain ⟨_, _, ⟨T311, L311, k311, n311⟩, -, X311, ⟨Lc311, hQ311, l311, y311, z311⟩, st311⟩ := Jvm.LawKit.callS X310 hx (y := (⟨"java/lang/StringLatin1", "equals", "([B[B)Z"⟩ : MethodName)) hown (mvT hZ (hw _ (List.mem_of_getElem? (i := 47) rfl))) (mvT hZ (hw _ (List.mem_of_getElem? (i := 48) rfl))) (mvT hZ (hw _ (List.mem_of_getElem? (i := 24) rfl))) (mvT hZ (hw _ (List.mem_of_getElem? (i := 49) rfl))) (by decide) (backOf (W := 0) (rmLE_32 l Z a0 hw [] b1 b2 k1 k2 u0 u1 u2 v0 v1 h0 n0 (Nat.le_trans Z0 K0.1) V_b1 V_b2) hZ (hw _ (List.mem_of_getElem? (i := 49) rfl)) (hw _ (List.mem_of_getElem? (i := 24) rfl)) (by decide) (by decide)) (g := (mkF m 44 #[rv a1, rv a2, rv a2] [(.ref b2), (.ref b1)])) rfl (by rw [hml]; rfl) (argsL := [(.ref b1), (.ref b2)]) (rest := []) (lenOf own_pd9 rfl) rfl (by show 2 * 0 + _ ≤ _; exact Nat.le_of_eq rfl) (hb hby own_d9_44) (fun _ _ => ⟨rfl, e310, (by decide : 0 + 0 ≤ _), (by decide : 0 + 0 ≤ _)⟩)
  dsimp only [Pt.U, Pt.locs, Pt.cells, Pt.slots] at X311 l311 y311 z311 st311 hQ311
  subst l311 y311 z311
  obtain ⟨rfl, N311q, e311⟩ := hQ311
  have N311 := Fr.app N0 N311q
  have pre312 : ∀ t, Steps p.tables e below (T311.setTop (mkF m 47 #[rv a1, rv a2, rv a2] [(.int (own_eqL [u0, u1, u2] [v0, v1]))])) t → Steps p.tables e below (s₁.setTop (entryFrame m #[(.ref a1), (.ref a2)] 3)) t := fun t k => by
    refine pre0 _ ?_
    show Steps p.tables e below (s₁.setTop (mkF m 0 #[rv a1, rv a2, .unset] [])) _
    refine XS.aloadN X0.here hx rfl (hb hby own_d9_0) rfl rfl ?_
    show Steps p.tables e below (s₁.setTop (mkF m 1 #[rv a1, rv a2, .unset] [(.ref a1)])) _
    refine XS.aloadN X0.here hx rfl (hb hby own_d9_1) rfl rfl ?_
    show Steps p.tables e below (s₁.setTop (mkF m 2 #[rv a1, rv a2, .unset] [(.ref a2), (.ref a1)])) _
    refine Jvm.RoadKit.acmp (g := (mkF m 2 #[rv a1, rv a2, .unset] [(.ref a2), (.ref a1)])) X0 hx rfl rfl rfl (pc0 := 2) (pc' := 7) (same := false) rfl (hb hby own_d9_2) rfl (decide_eq_false fun q => ne_a1_a2 (Value.ref.inj q)) (by decide) (by decide) ?_
    show Steps p.tables e below (s₁.setTop (mkF m 7 #[rv a1, rv a2, .unset] [])) _
    refine XS.aloadN X0.here hx rfl (hb hby own_d9_7) rfl rfl ?_
    show Steps p.tables e below (s₁.setTop (mkF m 8 #[rv a1, rv a2, .unset] [(.ref a2)])) _
    refine st303 _ ?_
    show Steps p.tables e below (T303.setTop (mkF m 11 #[rv a1, rv a2, .unset] [(.int (1 : Int32))])) _
    refine XS.ifNo X303.here hx rfl (hb hby own_d9_11) rfl ((if0 _ _).trans (feq (by decide : ¬ ((1 : Int32) = (0 : Int32)))).1) ?_
    show Steps p.tables e below (T303.setTop (mkF m 14 #[rv a1, rv a2, .unset] [])) _
    refine XS.aloadN X303.here hx rfl (hb hby own_d9_14) rfl rfl ?_
    show Steps p.tables e below (T303.setTop (mkF m 15 #[rv a1, rv a2, .unset] [(.ref a2)])) _
    refine st304 _ ?_
    show Steps p.tables e below (T304.setTop (mkF m 18 #[rv a1, rv a2, .unset] [(.ref a2)])) _
    refine XS.astoreN X304.here hx rfl (hb hby own_d9_18) rfl rfl (l' := #[rv a1, rv a2, rv a2]) rfl ?_
    show Steps p.tables e below (T304.setTop (mkF m 19 #[rv a1, rv a2, rv a2] [])) _
    refine st305 _ ?_
    show Steps p.tables e below (T305.setTop (mkF m 22 #[rv a1, rv a2, rv a2] [(.int cw)])) _
    refine XS.ifNo X305.here hx rfl (hb hby own_d9_22) rfl ((if0 _ _).trans (feq hc22_306).1) ?_
    show Steps p.tables e below (T305.setTop (mkF m 25 #[rv a1, rv a2, rv a2] [])) _
    refine XS.aloadN X305.here hx rfl (hb hby own_d9_25) rfl rfl ?_
    show Steps p.tables e below (T305.setTop (mkF m 26 #[rv a1, rv a2, rv a2] [(.ref a1)])) _
    refine st307 _ ?_
    show Steps p.tables e below (T307.setTop (mkF m 29 #[rv a1, rv a2, rv a2] [(.int (0 : Int32))])) _
    refine XS.aloadN X307.here hx rfl (hb hby own_d9_29) rfl rfl ?_
    show Steps p.tables e below (T307.setTop (mkF m 30 #[rv a1, rv a2, rv a2] [(.ref a2), (.int (0 : Int32))])) _
    refine st308 _ ?_
    show Steps p.tables e below (T308.setTop (mkF m 33 #[rv a1, rv a2, rv a2] [(.int (0 : Int32)), (.int (0 : Int32))])) _
    refine XS.icmpNo X308.here hx rfl (hb hby own_d9_33) rfl (teq (by decide : ((0 : Int32) = (0 : Int32)))).2 ?_
    show Steps p.tables e below (T308.setTop (mkF m 36 #[rv a1, rv a2, rv a2] [])) _
    refine XS.aloadN X308.here hx rfl (hb hby own_d9_36) rfl rfl ?_
    show Steps p.tables e below (T308.setTop (mkF m 37 #[rv a1, rv a2, rv a2] [(.ref a1)])) _
    refine st309 _ ?_
    show Steps p.tables e below (T309.setTop (mkF m 40 #[rv a1, rv a2, rv a2] [(.ref b1)])) _
    refine XS.aloadN X309.here hx rfl (hb hby own_d9_40) rfl rfl ?_
    show Steps p.tables e below (T309.setTop (mkF m 41 #[rv a1, rv a2, rv a2] [(.ref a2), (.ref b1)])) _
    refine st310 _ ?_
    show Steps p.tables e below (T310.setTop (mkF m 44 #[rv a1, rv a2, rv a2] [(.ref b2), (.ref b1)])) _
    refine st311 _ ?_
    exact k
  by_cases hc47 : (own_eqL [u0, u1, u2] [v0, v1]) = (0 : Int32)
  · obtain ⟨fs, hr, hrun, hended, hW, hsame⟩ := X311.leave (v := some (.int (0 : Int32))) (fun h => by rw [Bd.returns] at h; cases h)
    refine ⟨_, _, pre312 _ ?_, hrun, hended, _, _, rfl, ?_, ⟨_, rfl⟩, hW, hsame.mono (by decide) (by decide)⟩
    · show Steps p.tables e below (T311.setTop (mkF m 47 #[rv a1, rv a2, rv a2] [(.int (own_eqL [u0, u1, u2] [v0, v1]))])) _
      refine XS.ifYes X311.here hx rfl (pc0 := 47) (pc' := 54) rfl (hb hby own_d9_47) rfl ((if0 _ _).trans (teq hc47).1) (by decide) (by decide) ?_
      show Steps p.tables e below (T311.setTop (mkF m 54 #[rv a1, rv a2, rv a2] [])) _
      refine XS.iconst X311.here hx rfl (hb hby own_d9_54) ?_
      show Steps p.tables e below (T311.setTop (mkF m 55 #[rv a1, rv a2, rv a2] [(.int (0 : Int32))])) _
      exact retN X311 hx (t := .boolean) Bd.returns (by simp) (hb hby own_d9_55) hr
    · show QSE_32 Z a1 a2 cw b1 b2 k1 k2 u0 u1 u2 v0 v1 h0 n0 _ T311.heap _
      rw [e311]
      exact ⟨(congrArg (fun z => some (Value.int z)) (hc47.symm : (0 : Int32) = (own_eqL [u0, u1, u2] [v0, v1]))), N311, rfl⟩
  · obtain ⟨fs, hr, hrun, hended, hW, hsame⟩ := X311.leave (v := some (.int (1 : Int32))) (fun h => by rw [Bd.returns] at h; cases h)
    refine ⟨_, _, pre312 _ ?_, hrun, hended, _, _, rfl, ?_, ⟨_, rfl⟩, hW, hsame.mono (by decide) (by decide)⟩
    · show Steps p.tables e below (T311.setTop (mkF m 47 #[rv a1, rv a2, rv a2] [(.int (own_eqL [u0, u1, u2] [v0, v1]))])) _
      refine XS.ifNo X311.here hx rfl (hb hby own_d9_47) rfl ((if0 _ _).trans (feq hc47).1) ?_
      show Steps p.tables e below (T311.setTop (mkF m 50 #[rv a1, rv a2, rv a2] [])) _
      refine XS.iconst X311.here hx rfl (hb hby own_d9_50) ?_
      show Steps p.tables e below (T311.setTop (mkF m 51 #[rv a1, rv a2, rv a2] [(.int (1 : Int32))])) _
      refine XS.goto X311.here hx rfl (pc0 := 51) (pc' := 55) rfl (hb hby own_d9_51) (by decide) (by decide) ?_
      show Steps p.tables e below (T311.setTop (mkF m 55 #[rv a1, rv a2, rv a2] [(.int (1 : Int32))])) _
      exact retN X311 hx (t := .boolean) Bd.returns (by simp) (hb hby own_d9_55) hr
    · show QSE_32 Z a1 a2 cw b1 b2 k1 k2 u0 u1 u2 v0 v1 h0 n0 _ T311.heap _
      rw [e311]
      exact ⟨(congrArg (fun z => some (Value.int z)) ((own_eqL1 hc47).symm : (1 : Int32) = (own_eqL [u0, u1, u2] [v0, v1]))), N311, rfl⟩
theorem own_ef_rmLE_33 (m : MethodId) (a1 : Addr) (a2 : Addr) : entryFrame m #[(.ref a1), (.ref a2)] 3 = mkF m 0 #[.val (.ref a1), .val (.ref a2), .unset] [] := by first | (simp [entryFrame, mkF, argsToLocals, Value.category]; done) | rfl
def QLE_33 (Z : State) (a1 : Addr) (a2 : Addr) (k1 : ClassId) (k2 : ClassId) (u0 : Int32) (u1 : Int32) (u2 : Int32) (v0 : Int32) (v1 : Int32) (v2 : Int32) (h0 : Heap) (n0 : Nat) (v : Option Value) (h : Heap) (L : List Loc) : Prop := v = some (.int (own_eqL [u0, u1, u2] [v0, v1, v2])) ∧ Fr n0 L ∧ h = h0
set_option maxRecDepth 65536 in
set_option maxHeartbeats 40000000 in
theorem rmLE_33 (l : Launch) (Z : State) (a0 : Array Value) (hw : ∀ d ∈ tables_1, d.before a0 Z = true) (ws : List Jvm.Cond) (a1 : Addr) (a2 : Addr) (k1 : ClassId) (k2 : ClassId) (u0 : Int32) (u1 : Int32) (u2 : Int32) (v0 : Int32) (v1 : Int32) (v2 : Int32) (h0 : Heap) (n0 : Nat) (Z0 : n0 ≤ h0.size) (V_a1 : Arv Z h0 a1 k1 .byte (3 : Int32) [(.int u0), (.int u1), (.int u2)] (.int (0 : Int32))) (V_a2 : Arv Z h0 a2 k2 .byte (3 : Int32) [(.int v0), (.int v1), (.int v2)] (.int (0 : Int32))) :
    MetFree l (⟨"java/lang/StringLatin1", "equals", "([B[B)Z"⟩ : MethodName) (head1 (Jvm.Cond.code (⟨"java/lang/StringLatin1", "equals", "([B[B)Z"⟩ : MethodName) jdk_43_method_13_code 3 (some .boolean) :: ws) ({ frames := 0, cells := 0, slots := 0, locals := 0 } : Room)) (fun a U => a = #[(.ref a1), (.ref a2)] ∧ Z.Warmed39 U.vm ∧ U.heap = h0) (fun _ _ _ _ _ => True) (fun _ U o U' => ∃ v L, o = .returned v ∧ QLE_33 Z a1 a2 k1 k2 u0 u1 u2 v0 v1 v2 h0 n0 v U'.heap L ∧ FrameEnd U o U' L ({ frames := 0, cells := 0, slots := 0, locals := 0 } : Room).cells ({ frames := 0, cells := 0, slots := 0, locals := 0 } : Room).slots) := by
  refine MetFree.of_bodySF (plainFor_of_name own_pn2) hisR ?_
  intro p e s m args below meth c s₁ Bd hml0 hP hK
  obtain ⟨rfl, hZ, hh⟩ := hP
  have hx := Bd.exec
  have hby := Bd.bytes
  have hml : c.maxLocals = 3 := hml0
  have hown : s.vm.findClass "java/lang/StringLatin1" = some m.cls := findClass_of_methodNamed Bd.named
  have hnm := (name_of_methodNamed Bd.named Bd.method).1
  have X0 : Stand p l e ({ frames := 0, cells := 0, slots := 0, locals := 0 } : Room) s m #[(.ref a1), (.ref a2)] below meth c s₁ [] 0 0 := Stand.of_body Bd
  have e0 : s₁.heap = h0 := by rw [← hh, Bd.state]; rfl
  have N0 := Fr.nil n0
  have K0 : Keep h0 h0 [] := Keep.refl h0 _
  have pre0 : ∀ t, Steps p.tables e below (s₁.setTop (mkF m 0 #[.val (.ref a1), .val (.ref a2), .unset] [])) t → Steps p.tables e below (s₁.setTop (entryFrame m #[(.ref a1), (.ref a2)] 3)) t := fun t k => castTop (own_ef_rmLE_33 m a1 a2) k
  obtain ⟨cl313, Ar313, q313, S313, M313, H313, G313⟩ := id V_a1
  obtain ⟨cl314, Ar314, q314, S314, M314, H314, G314⟩ := id V_a2
  obtain ⟨cl315, Ar315, q315, S315, M315, H315, G315⟩ := id V_a1
  obtain ⟨cl316, Ar316, q316, S316, M316, H316, G316⟩ := id V_a1
  have hin316 : ¬ ((0 : Int32) < 0 ∨ cl316.slots.size ≤ ((0 : Int32)).toNatClampNeg) := inb_of S316 ⟨by decide, by decide⟩
  have hat316 : cl316.slots[((0 : Int32)).toNatClampNeg]? = some (.int u0) := Has.at H316 hin316 rfl
  obtain ⟨cl317, Ar317, q317, S317, M317, H317, G317⟩ := id V_a2
  have hin317 : ¬ ((0 : Int32) < 0 ∨ cl317.slots.size ≤ ((0 : Int32)).toNatClampNeg) := inb_of S317 ⟨by decide, by decide⟩
  have hat317 : cl317.slots[((0 : Int32)).toNatClampNeg]? = some (.int v0) := Has.at H317 hin317 rfl
  have pre318 : ∀ t, Steps p.tables e below (s₁.setTop (mkF m 21 #[rv a1, rv a2, iv (0 : Int32)] [(.int v0), (.int u0)])) t → Steps p.tables e below (s₁.setTop (entryFrame m #[(.ref a1), (.ref a2)] 3)) t := fun t k => by
    refine pre0 _ ?_
    show Steps p.tables e below (s₁.setTop (mkF m 0 #[rv a1, rv a2, .unset] [])) _
    refine XS.aloadN X0.here hx rfl (hb hby own_d10_0) rfl rfl ?_
    show Steps p.tables e below (s₁.setTop (mkF m 1 #[rv a1, rv a2, .unset] [(.ref a1)])) _
    refine X0.arraylength hx (by rw [e0]; exact Ar313.1) (State.isArrayOf_alike hZ.alike Ar313.2.1) (g := (mkF m 1 #[rv a1, rv a2, .unset] [(.ref a1)])) rfl rfl (hb hby own_d10_1) _ ?_
    rw [len_of S313 M313]
    show Steps p.tables e below (s₁.setTop (mkF m 2 #[rv a1, rv a2, .unset] [(.int (3 : Int32))])) _
    refine XS.aloadN X0.here hx rfl (hb hby own_d10_2) rfl rfl ?_
    show Steps p.tables e below (s₁.setTop (mkF m 3 #[rv a1, rv a2, .unset] [(.ref a2), (.int (3 : Int32))])) _
    refine X0.arraylength hx (by rw [e0]; exact Ar314.1) (State.isArrayOf_alike hZ.alike Ar314.2.1) (g := (mkF m 3 #[rv a1, rv a2, .unset] [(.ref a2), (.int (3 : Int32))])) rfl rfl (hb hby own_d10_3) _ ?_
    rw [len_of S314 M314]
    show Steps p.tables e below (s₁.setTop (mkF m 4 #[rv a1, rv a2, .unset] [(.int (3 : Int32)), (.int (3 : Int32))])) _
    refine XS.icmpNo X0.here hx rfl (hb hby own_d10_4) rfl (teq (by decide : ((3 : Int32) = (3 : Int32)))).2 ?_
    show Steps p.tables e below (s₁.setTop (mkF m 7 #[rv a1, rv a2, .unset] [])) _
    refine XS.iconst X0.here hx rfl (hb hby own_d10_7) ?_
    show Steps p.tables e below (s₁.setTop (mkF m 8 #[rv a1, rv a2, .unset] [(.int (0 : Int32))])) _
    refine XS.istoreN X0.here hx rfl (hb hby own_d10_8) rfl (l' := #[rv a1, rv a2, iv (0 : Int32)]) rfl ?_
    show Steps p.tables e below (s₁.setTop (mkF m 9 #[rv a1, rv a2, iv (0 : Int32)] [])) _
    refine XS.iloadN X0.here hx rfl (hb hby own_d10_9) rfl ?_
    show Steps p.tables e below (s₁.setTop (mkF m 10 #[rv a1, rv a2, iv (0 : Int32)] [(.int (0 : Int32))])) _
    refine XS.aloadN X0.here hx rfl (hb hby own_d10_10) rfl rfl ?_
    show Steps p.tables e below (s₁.setTop (mkF m 11 #[rv a1, rv a2, iv (0 : Int32)] [(.ref a1), (.int (0 : Int32))])) _
    refine X0.arraylength hx (by rw [e0]; exact Ar315.1) (State.isArrayOf_alike hZ.alike Ar315.2.1) (g := (mkF m 11 #[rv a1, rv a2, iv (0 : Int32)] [(.ref a1), (.int (0 : Int32))])) rfl rfl (hb hby own_d10_11) _ ?_
    rw [len_of S315 M315]
    show Steps p.tables e below (s₁.setTop (mkF m 12 #[rv a1, rv a2, iv (0 : Int32)] [(.int (3 : Int32)), (.int (0 : Int32))])) _
    refine XS.icmpNo X0.here hx rfl (hb hby own_d10_12) rfl (tlt (by decide : ((0 : Int32) < (3 : Int32)))).2.1 ?_
    show Steps p.tables e below (s₁.setTop (mkF m 15 #[rv a1, rv a2, iv (0 : Int32)] [])) _
    refine XS.aloadN X0.here hx rfl (hb hby own_d10_15) rfl rfl ?_
    show Steps p.tables e below (s₁.setTop (mkF m 16 #[rv a1, rv a2, iv (0 : Int32)] [(.ref a1)])) _
    refine XS.iloadN X0.here hx rfl (hb hby own_d10_16) rfl ?_
    show Steps p.tables e below (s₁.setTop (mkF m 17 #[rv a1, rv a2, iv (0 : Int32)] [(.int (0 : Int32)), (.ref a1)])) _
    refine X0.baloadBytes hx (j := (0 : Int32)) (v := (.int u0)) (by rw [e0]; exact Ar316.1) (State.isArrayOf_alike hZ.alike Ar316.2.1) Ar316.2.2 hin316 hat316 (g := (mkF m 17 #[rv a1, rv a2, iv (0 : Int32)] [(.int (0 : Int32)), (.ref a1)])) rfl rfl (hb hby own_d10_17) _ ?_
    show Steps p.tables e below (s₁.setTop (mkF m 18 #[rv a1, rv a2, iv (0 : Int32)] [(.int u0)])) _
    refine XS.aloadN X0.here hx rfl (hb hby own_d10_18) rfl rfl ?_
    show Steps p.tables e below (s₁.setTop (mkF m 19 #[rv a1, rv a2, iv (0 : Int32)] [(.ref a2), (.int u0)])) _
    refine XS.iloadN X0.here hx rfl (hb hby own_d10_19) rfl ?_
    show Steps p.tables e below (s₁.setTop (mkF m 20 #[rv a1, rv a2, iv (0 : Int32)] [(.int (0 : Int32)), (.ref a2), (.int u0)])) _
    refine X0.baloadBytes hx (j := (0 : Int32)) (v := (.int v0)) (by rw [e0]; exact Ar317.1) (State.isArrayOf_alike hZ.alike Ar317.2.1) Ar317.2.2 hin317 hat317 (g := (mkF m 20 #[rv a1, rv a2, iv (0 : Int32)] [(.int (0 : Int32)), (.ref a2), (.int u0)])) rfl rfl (hb hby own_d10_20) _ ?_
    exact k
  by_cases hc21 : u0 = v0
  · obtain ⟨cl319, Ar319, q319, S319, M319, H319, G319⟩ := id V_a1
    obtain ⟨cl320, Ar320, q320, S320, M320, H320, G320⟩ := id V_a1
    have hin320 : ¬ ((1 : Int32) < 0 ∨ cl320.slots.size ≤ ((1 : Int32)).toNatClampNeg) := inb_of S320 ⟨by decide, by decide⟩
    have hat320 : cl320.slots[((1 : Int32)).toNatClampNeg]? = some (.int u1) := Has.at H320 hin320 rfl
    obtain ⟨cl321, Ar321, q321, S321, M321, H321, G321⟩ := id V_a2
    have hin321 : ¬ ((1 : Int32) < 0 ∨ cl321.slots.size ≤ ((1 : Int32)).toNatClampNeg) := inb_of S321 ⟨by decide, by decide⟩
    have hat321 : cl321.slots[((1 : Int32)).toNatClampNeg]? = some (.int v1) := Has.at H321 hin321 rfl
    have pre322 : ∀ t, Steps p.tables e below (s₁.setTop (mkF m 21 #[rv a1, rv a2, iv (1 : Int32)] [(.int v1), (.int u1)])) t → Steps p.tables e below (s₁.setTop (entryFrame m #[(.ref a1), (.ref a2)] 3)) t := fun t k => by
      refine pre318 _ ?_
      show Steps p.tables e below (s₁.setTop (mkF m 21 #[rv a1, rv a2, iv (0 : Int32)] [(.int v0), (.int u0)])) _
      refine XS.icmpYes X0.here hx rfl (pc0 := 21) (pc' := 26) rfl (hb hby own_d10_21) rfl (teq hc21).1 (by decide) (by decide) ?_
      show Steps p.tables e below (s₁.setTop (mkF m 26 #[rv a1, rv a2, iv (0 : Int32)] [])) _
      refine XS.iinc X0.here hx rfl (hb hby own_d10_26) rfl (l' := #[rv a1, rv a2, iv (1 : Int32)]) rfl ?_
      show Steps p.tables e below (s₁.setTop (mkF m 29 #[rv a1, rv a2, iv (1 : Int32)] [])) _
      refine XS.goto X0.here hx rfl (pc0 := 29) (pc' := 9) rfl (hb hby own_d10_29) (by decide) (by decide) ?_
      show Steps p.tables e below (s₁.setTop (mkF m 9 #[rv a1, rv a2, iv (1 : Int32)] [])) _
      refine XS.iloadN X0.here hx rfl (hb hby own_d10_9) rfl ?_
      show Steps p.tables e below (s₁.setTop (mkF m 10 #[rv a1, rv a2, iv (1 : Int32)] [(.int (1 : Int32))])) _
      refine XS.aloadN X0.here hx rfl (hb hby own_d10_10) rfl rfl ?_
      show Steps p.tables e below (s₁.setTop (mkF m 11 #[rv a1, rv a2, iv (1 : Int32)] [(.ref a1), (.int (1 : Int32))])) _
      refine X0.arraylength hx (by rw [e0]; exact Ar319.1) (State.isArrayOf_alike hZ.alike Ar319.2.1) (g := (mkF m 11 #[rv a1, rv a2, iv (1 : Int32)] [(.ref a1), (.int (1 : Int32))])) rfl rfl (hb hby own_d10_11) _ ?_
      rw [len_of S319 M319]
      show Steps p.tables e below (s₁.setTop (mkF m 12 #[rv a1, rv a2, iv (1 : Int32)] [(.int (3 : Int32)), (.int (1 : Int32))])) _
      refine XS.icmpNo X0.here hx rfl (hb hby own_d10_12) rfl (tlt (by decide : ((1 : Int32) < (3 : Int32)))).2.1 ?_
      show Steps p.tables e below (s₁.setTop (mkF m 15 #[rv a1, rv a2, iv (1 : Int32)] [])) _
      refine XS.aloadN X0.here hx rfl (hb hby own_d10_15) rfl rfl ?_
      show Steps p.tables e below (s₁.setTop (mkF m 16 #[rv a1, rv a2, iv (1 : Int32)] [(.ref a1)])) _
      refine XS.iloadN X0.here hx rfl (hb hby own_d10_16) rfl ?_
      show Steps p.tables e below (s₁.setTop (mkF m 17 #[rv a1, rv a2, iv (1 : Int32)] [(.int (1 : Int32)), (.ref a1)])) _
      refine X0.baloadBytes hx (j := (1 : Int32)) (v := (.int u1)) (by rw [e0]; exact Ar320.1) (State.isArrayOf_alike hZ.alike Ar320.2.1) Ar320.2.2 hin320 hat320 (g := (mkF m 17 #[rv a1, rv a2, iv (1 : Int32)] [(.int (1 : Int32)), (.ref a1)])) rfl rfl (hb hby own_d10_17) _ ?_
      show Steps p.tables e below (s₁.setTop (mkF m 18 #[rv a1, rv a2, iv (1 : Int32)] [(.int u1)])) _
      refine XS.aloadN X0.here hx rfl (hb hby own_d10_18) rfl rfl ?_
      show Steps p.tables e below (s₁.setTop (mkF m 19 #[rv a1, rv a2, iv (1 : Int32)] [(.ref a2), (.int u1)])) _
      refine XS.iloadN X0.here hx rfl (hb hby own_d10_19) rfl ?_
      show Steps p.tables e below (s₁.setTop (mkF m 20 #[rv a1, rv a2, iv (1 : Int32)] [(.int (1 : Int32)), (.ref a2), (.int u1)])) _
      refine X0.baloadBytes hx (j := (1 : Int32)) (v := (.int v1)) (by rw [e0]; exact Ar321.1) (State.isArrayOf_alike hZ.alike Ar321.2.1) Ar321.2.2 hin321 hat321 (g := (mkF m 20 #[rv a1, rv a2, iv (1 : Int32)] [(.int (1 : Int32)), (.ref a2), (.int u1)])) rfl rfl (hb hby own_d10_20) _ ?_
      exact k
    by_cases hc21_323 : u1 = v1
    · obtain ⟨cl324, Ar324, q324, S324, M324, H324, G324⟩ := id V_a1
      obtain ⟨cl325, Ar325, q325, S325, M325, H325, G325⟩ := id V_a1
      have hin325 : ¬ ((2 : Int32) < 0 ∨ cl325.slots.size ≤ ((2 : Int32)).toNatClampNeg) := inb_of S325 ⟨by decide, by decide⟩
      have hat325 : cl325.slots[((2 : Int32)).toNatClampNeg]? = some (.int u2) := Has.at H325 hin325 rfl
      obtain ⟨cl326, Ar326, q326, S326, M326, H326, G326⟩ := id V_a2
      have hin326 : ¬ ((2 : Int32) < 0 ∨ cl326.slots.size ≤ ((2 : Int32)).toNatClampNeg) := inb_of S326 ⟨by decide, by decide⟩
      have hat326 : cl326.slots[((2 : Int32)).toNatClampNeg]? = some (.int v2) := Has.at H326 hin326 rfl
      have pre327 : ∀ t, Steps p.tables e below (s₁.setTop (mkF m 21 #[rv a1, rv a2, iv (2 : Int32)] [(.int v2), (.int u2)])) t → Steps p.tables e below (s₁.setTop (entryFrame m #[(.ref a1), (.ref a2)] 3)) t := fun t k => by
        refine pre322 _ ?_
        show Steps p.tables e below (s₁.setTop (mkF m 21 #[rv a1, rv a2, iv (1 : Int32)] [(.int v1), (.int u1)])) _
        refine XS.icmpYes X0.here hx rfl (pc0 := 21) (pc' := 26) rfl (hb hby own_d10_21) rfl (teq hc21_323).1 (by decide) (by decide) ?_
        show Steps p.tables e below (s₁.setTop (mkF m 26 #[rv a1, rv a2, iv (1 : Int32)] [])) _
        refine XS.iinc X0.here hx rfl (hb hby own_d10_26) rfl (l' := #[rv a1, rv a2, iv (2 : Int32)]) rfl ?_
        show Steps p.tables e below (s₁.setTop (mkF m 29 #[rv a1, rv a2, iv (2 : Int32)] [])) _
        refine XS.goto X0.here hx rfl (pc0 := 29) (pc' := 9) rfl (hb hby own_d10_29) (by decide) (by decide) ?_
        show Steps p.tables e below (s₁.setTop (mkF m 9 #[rv a1, rv a2, iv (2 : Int32)] [])) _
        refine XS.iloadN X0.here hx rfl (hb hby own_d10_9) rfl ?_
        show Steps p.tables e below (s₁.setTop (mkF m 10 #[rv a1, rv a2, iv (2 : Int32)] [(.int (2 : Int32))])) _
        refine XS.aloadN X0.here hx rfl (hb hby own_d10_10) rfl rfl ?_
        show Steps p.tables e below (s₁.setTop (mkF m 11 #[rv a1, rv a2, iv (2 : Int32)] [(.ref a1), (.int (2 : Int32))])) _
        refine X0.arraylength hx (by rw [e0]; exact Ar324.1) (State.isArrayOf_alike hZ.alike Ar324.2.1) (g := (mkF m 11 #[rv a1, rv a2, iv (2 : Int32)] [(.ref a1), (.int (2 : Int32))])) rfl rfl (hb hby own_d10_11) _ ?_
        rw [len_of S324 M324]
        show Steps p.tables e below (s₁.setTop (mkF m 12 #[rv a1, rv a2, iv (2 : Int32)] [(.int (3 : Int32)), (.int (2 : Int32))])) _
        refine XS.icmpNo X0.here hx rfl (hb hby own_d10_12) rfl (tlt (by decide : ((2 : Int32) < (3 : Int32)))).2.1 ?_
        show Steps p.tables e below (s₁.setTop (mkF m 15 #[rv a1, rv a2, iv (2 : Int32)] [])) _
        refine XS.aloadN X0.here hx rfl (hb hby own_d10_15) rfl rfl ?_
        show Steps p.tables e below (s₁.setTop (mkF m 16 #[rv a1, rv a2, iv (2 : Int32)] [(.ref a1)])) _
        refine XS.iloadN X0.here hx rfl (hb hby own_d10_16) rfl ?_
        show Steps p.tables e below (s₁.setTop (mkF m 17 #[rv a1, rv a2, iv (2 : Int32)] [(.int (2 : Int32)), (.ref a1)])) _
        refine X0.baloadBytes hx (j := (2 : Int32)) (v := (.int u2)) (by rw [e0]; exact Ar325.1) (State.isArrayOf_alike hZ.alike Ar325.2.1) Ar325.2.2 hin325 hat325 (g := (mkF m 17 #[rv a1, rv a2, iv (2 : Int32)] [(.int (2 : Int32)), (.ref a1)])) rfl rfl (hb hby own_d10_17) _ ?_
        show Steps p.tables e below (s₁.setTop (mkF m 18 #[rv a1, rv a2, iv (2 : Int32)] [(.int u2)])) _
        refine XS.aloadN X0.here hx rfl (hb hby own_d10_18) rfl rfl ?_
        show Steps p.tables e below (s₁.setTop (mkF m 19 #[rv a1, rv a2, iv (2 : Int32)] [(.ref a2), (.int u2)])) _
        refine XS.iloadN X0.here hx rfl (hb hby own_d10_19) rfl ?_
        show Steps p.tables e below (s₁.setTop (mkF m 20 #[rv a1, rv a2, iv (2 : Int32)] [(.int (2 : Int32)), (.ref a2), (.int u2)])) _
        refine X0.baloadBytes hx (j := (2 : Int32)) (v := (.int v2)) (by rw [e0]; exact Ar326.1) (State.isArrayOf_alike hZ.alike Ar326.2.1) Ar326.2.2 hin326 hat326 (g := (mkF m 20 #[rv a1, rv a2, iv (2 : Int32)] [(.int (2 : Int32)), (.ref a2), (.int u2)])) rfl rfl (hb hby own_d10_20) _ ?_
        exact k
      by_cases hc21_328 : u2 = v2
      · obtain ⟨cl329, Ar329, q329, S329, M329, H329, G329⟩ := id V_a1
        obtain ⟨fs, hr, hrun, hended, hW, hsame⟩ := X0.leave (v := some (.int (1 : Int32))) (fun h => by rw [Bd.returns] at h; cases h)
        refine ⟨_, _, pre327 _ ?_, hrun, hended, _, _, rfl, ?_, ⟨_, rfl⟩, hW, hsame.mono (by decide) (by decide)⟩
        · show Steps p.tables e below (s₁.setTop (mkF m 21 #[rv a1, rv a2, iv (2 : Int32)] [(.int v2), (.int u2)])) _
          refine XS.icmpYes X0.here hx rfl (pc0 := 21) (pc' := 26) rfl (hb hby own_d10_21) rfl (teq hc21_328).1 (by decide) (by decide) ?_
          show Steps p.tables e below (s₁.setTop (mkF m 26 #[rv a1, rv a2, iv (2 : Int32)] [])) _
          refine XS.iinc X0.here hx rfl (hb hby own_d10_26) rfl (l' := #[rv a1, rv a2, iv (3 : Int32)]) rfl ?_
          show Steps p.tables e below (s₁.setTop (mkF m 29 #[rv a1, rv a2, iv (3 : Int32)] [])) _
          refine XS.goto X0.here hx rfl (pc0 := 29) (pc' := 9) rfl (hb hby own_d10_29) (by decide) (by decide) ?_
          show Steps p.tables e below (s₁.setTop (mkF m 9 #[rv a1, rv a2, iv (3 : Int32)] [])) _
          refine XS.iloadN X0.here hx rfl (hb hby own_d10_9) rfl ?_
          show Steps p.tables e below (s₁.setTop (mkF m 10 #[rv a1, rv a2, iv (3 : Int32)] [(.int (3 : Int32))])) _
          refine XS.aloadN X0.here hx rfl (hb hby own_d10_10) rfl rfl ?_
          show Steps p.tables e below (s₁.setTop (mkF m 11 #[rv a1, rv a2, iv (3 : Int32)] [(.ref a1), (.int (3 : Int32))])) _
          refine X0.arraylength hx (by rw [e0]; exact Ar329.1) (State.isArrayOf_alike hZ.alike Ar329.2.1) (g := (mkF m 11 #[rv a1, rv a2, iv (3 : Int32)] [(.ref a1), (.int (3 : Int32))])) rfl rfl (hb hby own_d10_11) _ ?_
          rw [len_of S329 M329]
          show Steps p.tables e below (s₁.setTop (mkF m 12 #[rv a1, rv a2, iv (3 : Int32)] [(.int (3 : Int32)), (.int (3 : Int32))])) _
          refine XS.icmpYes X0.here hx rfl (pc0 := 12) (pc' := 32) rfl (hb hby own_d10_12) rfl (flt (by decide : ¬ ((3 : Int32) < (3 : Int32)))).2.1 (by decide) (by decide) ?_
          show Steps p.tables e below (s₁.setTop (mkF m 32 #[rv a1, rv a2, iv (3 : Int32)] [])) _
          refine XS.iconst X0.here hx rfl (hb hby own_d10_32) ?_
          show Steps p.tables e below (s₁.setTop (mkF m 33 #[rv a1, rv a2, iv (3 : Int32)] [(.int (1 : Int32))])) _
          exact retN X0 hx (t := .boolean) Bd.returns (by simp) (hb hby own_d10_33) hr
        · show QLE_33 Z a1 a2 k1 k2 u0 u1 u2 v0 v1 v2 h0 n0 _ s₁.heap _
          rw [e0]
          exact ⟨(congrArg (fun z => some (Value.int z)) (by simp [own_eqL, hc21, hc21_323, hc21_328] : (1 : Int32) = (own_eqL [u0, u1, u2] [v0, v1, v2]))), N0, rfl⟩
      · obtain ⟨fs, hr, hrun, hended, hW, hsame⟩ := X0.leave (v := some (.int (0 : Int32))) (fun h => by rw [Bd.returns] at h; cases h)
        refine ⟨_, _, pre327 _ ?_, hrun, hended, _, _, rfl, ?_, ⟨_, rfl⟩, hW, hsame.mono (by decide) (by decide)⟩
        · show Steps p.tables e below (s₁.setTop (mkF m 21 #[rv a1, rv a2, iv (2 : Int32)] [(.int v2), (.int u2)])) _
          refine XS.icmpNo X0.here hx rfl (hb hby own_d10_21) rfl (feq hc21_328).1 ?_
          show Steps p.tables e below (s₁.setTop (mkF m 24 #[rv a1, rv a2, iv (2 : Int32)] [])) _
          refine XS.iconst X0.here hx rfl (hb hby own_d10_24) ?_
          show Steps p.tables e below (s₁.setTop (mkF m 25 #[rv a1, rv a2, iv (2 : Int32)] [(.int (0 : Int32))])) _
          exact retN X0 hx (t := .boolean) Bd.returns (by simp) (hb hby own_d10_25) hr
        · show QLE_33 Z a1 a2 k1 k2 u0 u1 u2 v0 v1 v2 h0 n0 _ s₁.heap _
          rw [e0]
          exact ⟨(congrArg (fun z => some (Value.int z)) (by simp [own_eqL, hc21, hc21_323, hc21_328] : (0 : Int32) = (own_eqL [u0, u1, u2] [v0, v1, v2]))), N0, rfl⟩
    · obtain ⟨fs, hr, hrun, hended, hW, hsame⟩ := X0.leave (v := some (.int (0 : Int32))) (fun h => by rw [Bd.returns] at h; cases h)
      refine ⟨_, _, pre322 _ ?_, hrun, hended, _, _, rfl, ?_, ⟨_, rfl⟩, hW, hsame.mono (by decide) (by decide)⟩
      · show Steps p.tables e below (s₁.setTop (mkF m 21 #[rv a1, rv a2, iv (1 : Int32)] [(.int v1), (.int u1)])) _
        refine XS.icmpNo X0.here hx rfl (hb hby own_d10_21) rfl (feq hc21_323).1 ?_
        show Steps p.tables e below (s₁.setTop (mkF m 24 #[rv a1, rv a2, iv (1 : Int32)] [])) _
        refine XS.iconst X0.here hx rfl (hb hby own_d10_24) ?_
        show Steps p.tables e below (s₁.setTop (mkF m 25 #[rv a1, rv a2, iv (1 : Int32)] [(.int (0 : Int32))])) _
        exact retN X0 hx (t := .boolean) Bd.returns (by simp) (hb hby own_d10_25) hr
      · show QLE_33 Z a1 a2 k1 k2 u0 u1 u2 v0 v1 v2 h0 n0 _ s₁.heap _
        rw [e0]
        exact ⟨(congrArg (fun z => some (Value.int z)) (by simp [own_eqL, hc21, hc21_323] : (0 : Int32) = (own_eqL [u0, u1, u2] [v0, v1, v2]))), N0, rfl⟩
  · obtain ⟨fs, hr, hrun, hended, hW, hsame⟩ := X0.leave (v := some (.int (0 : Int32))) (fun h => by rw [Bd.returns] at h; cases h)
    refine ⟨_, _, pre318 _ ?_, hrun, hended, _, _, rfl, ?_, ⟨_, rfl⟩, hW, hsame.mono (by decide) (by decide)⟩
    · show Steps p.tables e below (s₁.setTop (mkF m 21 #[rv a1, rv a2, iv (0 : Int32)] [(.int v0), (.int u0)])) _
      refine XS.icmpNo X0.here hx rfl (hb hby own_d10_21) rfl (feq hc21).1 ?_
      show Steps p.tables e below (s₁.setTop (mkF m 24 #[rv a1, rv a2, iv (0 : Int32)] [])) _
      refine XS.iconst X0.here hx rfl (hb hby own_d10_24) ?_
      show Steps p.tables e below (s₁.setTop (mkF m 25 #[rv a1, rv a2, iv (0 : Int32)] [(.int (0 : Int32))])) _
      exact retN X0 hx (t := .boolean) Bd.returns (by simp) (hb hby own_d10_25) hr
    · show QLE_33 Z a1 a2 k1 k2 u0 u1 u2 v0 v1 v2 h0 n0 _ s₁.heap _
      rw [e0]
      exact ⟨(congrArg (fun z => some (Value.int z)) (by simp [own_eqL, hc21] : (0 : Int32) = (own_eqL [u0, u1, u2] [v0, v1, v2]))), N0, rfl⟩
theorem own_ef_rmSE_33 (m : MethodId) (a1 : Addr) (a2 : Addr) : entryFrame m #[(.ref a1), (.ref a2)] 3 = mkF m 0 #[.val (.ref a1), .val (.ref a2), .unset] [] := by first | (simp [entryFrame, mkF, argsToLocals, Value.category]; done) | rfl
def QSE_33 (Z : State) (a1 : Addr) (a2 : Addr) (cw : Int32) (b1 : Addr) (b2 : Addr) (k1 : ClassId) (k2 : ClassId) (u0 : Int32) (u1 : Int32) (u2 : Int32) (v0 : Int32) (v1 : Int32) (v2 : Int32) (h0 : Heap) (n0 : Nat) (v : Option Value) (h : Heap) (L : List Loc) : Prop := v = some (.int (own_eqL [u0, u1, u2] [v0, v1, v2])) ∧ Fr n0 L ∧ h = h0
set_option maxRecDepth 65536 in
set_option maxHeartbeats 40000000 in
theorem rmSE_33 (l : Launch) (Z : State) (a0 : Array Value) (hw : ∀ d ∈ tables_1, d.before a0 Z = true) (ws : List Jvm.Cond) (a1 : Addr) (a2 : Addr) (cw : Int32) (b1 : Addr) (b2 : Addr) (k1 : ClassId) (k2 : ClassId) (u0 : Int32) (u1 : Int32) (u2 : Int32) (v0 : Int32) (v1 : Int32) (v2 : Int32) (h0 : Heap) (n0 : Nat) (Z0 : n0 ≤ h0.size) (E_a2 : Exa Z h0 a2 "java/lang/String") (F_a1_coder : Fld Z h0 a1 "java/lang/String" "coder" "B" (.int (0 : Int32))) (F_a1_value : Fld Z h0 a1 "java/lang/String" "value" "[B" (.ref b1)) (F_a2_coder : Fld Z h0 a2 "java/lang/String" "coder" "B" (.int (0 : Int32))) (F_a2_value : Fld Z h0 a2 "java/lang/String" "value" "[B" (.ref b2)) (V_b1 : Arv Z h0 b1 k1 .byte (3 : Int32) [(.int u0), (.int u1), (.int u2)] (.int (0 : Int32))) (V_b2 : Arv Z h0 b2 k2 .byte (3 : Int32) [(.int v0), (.int v1), (.int v2)] (.int (0 : Int32))) (S_COMPACT_STRINGS : Sta Z h0 "java/lang/String" "COMPACT_STRINGS" "Z" (.int cw)) (hw0 : ¬ (cw = (0 : Int32))) (ne_a1_a2 : a1 ≠ a2) :
    MetFree l (⟨"java/lang/String", "equals", "(Ljava/lang/Object;)Z"⟩ : MethodName) (head1 (Jvm.Cond.code (⟨"java/lang/String", "equals", "(Ljava/lang/Object;)Z"⟩ : MethodName) jdk_42_method_66_code 3 (some .boolean) :: ws) ({ frames := 1, cells := 0, slots := 0, locals := 14 } : Room)) (fun a U => a = #[(.ref a1), (.ref a2)] ∧ Z.Warmed39 U.vm ∧ U.heap = h0) (fun _ _ _ _ _ => True) (fun _ U o U' => ∃ v L, o = .returned v ∧ QSE_33 Z a1 a2 cw b1 b2 k1 k2 u0 u1 u2 v0 v1 v2 h0 n0 v U'.heap L ∧ FrameEnd U o U' L ({ frames := 1, cells := 0, slots := 0, locals := 14 } : Room).cells ({ frames := 1, cells := 0, slots := 0, locals := 14 } : Room).slots) := by
  refine MetFree.of_bodySF (plainFor_of_name own_pn1) hisR ?_
  intro p e s m args below meth c s₁ Bd hml0 hP hK
  obtain ⟨rfl, hZ, hh⟩ := hP
  have hx := Bd.exec
  have hby := Bd.bytes
  have hml : c.maxLocals = 3 := hml0
  have hown : s.vm.findClass "java/lang/String" = some m.cls := findClass_of_methodNamed Bd.named
  have hnm := (name_of_methodNamed Bd.named Bd.method).1
  have X0 : Stand p l e ({ frames := 1, cells := 0, slots := 0, locals := 14 } : Room) s m #[(.ref a1), (.ref a2)] below meth c s₁ [] 0 0 := Stand.of_body Bd
  have e0 : s₁.heap = h0 := by rw [← hh, Bd.state]; rfl
  have N0 := Fr.nil n0
  have K0 : Keep h0 h0 [] := Keep.refl h0 _
  have pre0 : ∀ t, Steps p.tables e below (s₁.setTop (mkF m 0 #[.val (.ref a1), .val (.ref a2), .unset] [])) t → Steps p.tables e below (s₁.setTop (entryFrame m #[(.ref a1), (.ref a2)] 3)) t := fun t k => castTop (own_ef_rmSE_33 m a1 a2) k
  obtain ⟨T330, X330, e330, st330⟩ := instY X0 hx hZ hown (hw _ (List.mem_of_getElem? (i := 26) rfl)) e0 (Ins.self E_a2) (g := (mkF m 8 #[rv a1, rv a2, .unset] [(.ref a2)])) rfl rfl (hb hby own_d9_8)
  obtain ⟨T331, X331, e331, st331⟩ := castY X330 hx hZ hown (hw _ (List.mem_of_getElem? (i := 26) rfl)) e330 (Ins.self E_a2) (g := (mkF m 15 #[rv a1, rv a2, .unset] [(.ref a2)])) rfl rfl (hb hby own_d9_15)
  obtain ⟨T332, X332, e332, st332⟩ := getS2 X331 hx hZ hown (host := "") (Or.inl (hw _ (List.mem_of_getElem? (i := 21) rfl))) Via.refl e331 S_COMPACT_STRINGS (g := (mkF m 19 #[rv a1, rv a2, rv a2] [])) rfl (hb hby own_d9_19)
  have hc22_333 : ¬ (cw = (0 : Int32)) := hw0
  obtain ⟨T334, X334, e334, st334⟩ := getF X332 hx hZ hown (host := "") (Or.inl (hw _ (List.mem_of_getElem? (i := 38) rfl))) Via.refl e332 F_a1_coder (g := (mkF m 26 #[rv a1, rv a2, rv a2] [(.ref a1)])) rfl rfl (hb hby own_d9_26)
  obtain ⟨T335, X335, e335, st335⟩ := getF X334 hx hZ hown (host := "") (Or.inl (hw _ (List.mem_of_getElem? (i := 38) rfl))) Via.refl e334 F_a2_coder (g := (mkF m 30 #[rv a1, rv a2, rv a2] [(.ref a2), (.int (0 : Int32))])) rfl rfl (hb hby own_d9_30)
  obtain ⟨T336, X336, e336, st336⟩ := getF X335 hx hZ hown (host := "") (Or.inl (hw _ (List.mem_of_getElem? (i := 37) rfl))) Via.refl e335 F_a1_value (g := (mkF m 37 #[rv a1, rv a2, rv a2] [(.ref a1)])) rfl rfl (hb hby own_d9_37)
  obtain ⟨T337, X337, e337, st337⟩ := getF X336 hx hZ hown (host := "") (Or.inl (hw _ (List.mem_of_getElem? (i := 37) rfl))) Via.refl e336 F_a2_value (g := (mkF m 41 #[rv a1, rv a2, rv a2] [(.ref a2), (.ref b1)])) rfl rfl (hb hby own_d9_41)
  obtain ⟨_, _, ⟨T338, L338, k338, n338⟩, -, X338, ⟨Lc338, hQ338, l338, y338, z338⟩, st338⟩ := Jvm.LawKit.callS X337 hx (y := (⟨"java/lang/StringLatin1", "equals", "([B[B)Z"⟩ : MethodName)) hown (mvT hZ (hw _ (List.mem_of_getElem? (i := 47) rfl))) (mvT hZ (hw _ (List.mem_of_getElem? (i := 48) rfl))) (mvT hZ (hw _ (List.mem_of_getElem? (i := 24) rfl))) (mvT hZ (hw _ (List.mem_of_getElem? (i := 49) rfl))) (by decide) (backOf (W := 0) (rmLE_33 l Z a0 hw [] b1 b2 k1 k2 u0 u1 u2 v0 v1 v2 h0 n0 (Nat.le_trans Z0 K0.1) V_b1 V_b2) hZ (hw _ (List.mem_of_getElem? (i := 49) rfl)) (hw _ (List.mem_of_getElem? (i := 24) rfl)) (by decide) (by decide)) (g := (mkF m 44 #[rv a1, rv a2, rv a2] [(.ref b2), (.ref b1)])) rfl (by rw [hml]; rfl) (argsL := [(.ref b1), (.ref b2)]) (rest := []) (lenOf own_pd9 rfl) rfl (by show 2 * 0 + _ ≤ _; exact Nat.le_of_eq rfl) (hb hby own_d9_44) (fun _ _ => ⟨rfl, e337, (by decide : 0 + 0 ≤ _), (by decide : 0 + 0 ≤ _)⟩)
  dsimp only [Pt.U, Pt.locs, Pt.cells, Pt.slots] at X338 l338 y338 z338 st338 hQ338
  subst l338 y338 z338
  obtain ⟨rfl, N338q, e338⟩ := hQ338
  have N338 := Fr.app N0 N338q
  have pre339 : ∀ t, Steps p.tables e below (T338.setTop (mkF m 47 #[rv a1, rv a2, rv a2] [(.int (own_eqL [u0, u1, u2] [v0, v1, v2]))])) t → Steps p.tables e below (s₁.setTop (entryFrame m #[(.ref a1), (.ref a2)] 3)) t := fun t k => by
    refine pre0 _ ?_
    show Steps p.tables e below (s₁.setTop (mkF m 0 #[rv a1, rv a2, .unset] [])) _
    refine XS.aloadN X0.here hx rfl (hb hby own_d9_0) rfl rfl ?_
    show Steps p.tables e below (s₁.setTop (mkF m 1 #[rv a1, rv a2, .unset] [(.ref a1)])) _
    refine XS.aloadN X0.here hx rfl (hb hby own_d9_1) rfl rfl ?_
    show Steps p.tables e below (s₁.setTop (mkF m 2 #[rv a1, rv a2, .unset] [(.ref a2), (.ref a1)])) _
    refine Jvm.RoadKit.acmp (g := (mkF m 2 #[rv a1, rv a2, .unset] [(.ref a2), (.ref a1)])) X0 hx rfl rfl rfl (pc0 := 2) (pc' := 7) (same := false) rfl (hb hby own_d9_2) rfl (decide_eq_false fun q => ne_a1_a2 (Value.ref.inj q)) (by decide) (by decide) ?_
    show Steps p.tables e below (s₁.setTop (mkF m 7 #[rv a1, rv a2, .unset] [])) _
    refine XS.aloadN X0.here hx rfl (hb hby own_d9_7) rfl rfl ?_
    show Steps p.tables e below (s₁.setTop (mkF m 8 #[rv a1, rv a2, .unset] [(.ref a2)])) _
    refine st330 _ ?_
    show Steps p.tables e below (T330.setTop (mkF m 11 #[rv a1, rv a2, .unset] [(.int (1 : Int32))])) _
    refine XS.ifNo X330.here hx rfl (hb hby own_d9_11) rfl ((if0 _ _).trans (feq (by decide : ¬ ((1 : Int32) = (0 : Int32)))).1) ?_
    show Steps p.tables e below (T330.setTop (mkF m 14 #[rv a1, rv a2, .unset] [])) _
    refine XS.aloadN X330.here hx rfl (hb hby own_d9_14) rfl rfl ?_
    show Steps p.tables e below (T330.setTop (mkF m 15 #[rv a1, rv a2, .unset] [(.ref a2)])) _
    refine st331 _ ?_
    show Steps p.tables e below (T331.setTop (mkF m 18 #[rv a1, rv a2, .unset] [(.ref a2)])) _
    refine XS.astoreN X331.here hx rfl (hb hby own_d9_18) rfl rfl (l' := #[rv a1, rv a2, rv a2]) rfl ?_
    show Steps p.tables e below (T331.setTop (mkF m 19 #[rv a1, rv a2, rv a2] [])) _
    refine st332 _ ?_
    show Steps p.tables e below (T332.setTop (mkF m 22 #[rv a1, rv a2, rv a2] [(.int cw)])) _
    refine XS.ifNo X332.here hx rfl (hb hby own_d9_22) rfl ((if0 _ _).trans (feq hc22_333).1) ?_
    show Steps p.tables e below (T332.setTop (mkF m 25 #[rv a1, rv a2, rv a2] [])) _
    refine XS.aloadN X332.here hx rfl (hb hby own_d9_25) rfl rfl ?_
    show Steps p.tables e below (T332.setTop (mkF m 26 #[rv a1, rv a2, rv a2] [(.ref a1)])) _
    refine st334 _ ?_
    show Steps p.tables e below (T334.setTop (mkF m 29 #[rv a1, rv a2, rv a2] [(.int (0 : Int32))])) _
    refine XS.aloadN X334.here hx rfl (hb hby own_d9_29) rfl rfl ?_
    show Steps p.tables e below (T334.setTop (mkF m 30 #[rv a1, rv a2, rv a2] [(.ref a2), (.int (0 : Int32))])) _
    refine st335 _ ?_
    show Steps p.tables e below (T335.setTop (mkF m 33 #[rv a1, rv a2, rv a2] [(.int (0 : Int32)), (.int (0 : Int32))])) _
    refine XS.icmpNo X335.here hx rfl (hb hby own_d9_33) rfl (teq (by decide : ((0 : Int32) = (0 : Int32)))).2 ?_
    show Steps p.tables e below (T335.setTop (mkF m 36 #[rv a1, rv a2, rv a2] [])) _
    refine XS.aloadN X335.here hx rfl (hb hby own_d9_36) rfl rfl ?_
    show Steps p.tables e below (T335.setTop (mkF m 37 #[rv a1, rv a2, rv a2] [(.ref a1)])) _
    refine st336 _ ?_
    show Steps p.tables e below (T336.setTop (mkF m 40 #[rv a1, rv a2, rv a2] [(.ref b1)])) _
    refine XS.aloadN X336.here hx rfl (hb hby own_d9_40) rfl rfl ?_
    show Steps p.tables e below (T336.setTop (mkF m 41 #[rv a1, rv a2, rv a2] [(.ref a2), (.ref b1)])) _
    refine st337 _ ?_
    show Steps p.tables e below (T337.setTop (mkF m 44 #[rv a1, rv a2, rv a2] [(.ref b2), (.ref b1)])) _
    refine st338 _ ?_
    exact k
  by_cases hc47 : (own_eqL [u0, u1, u2] [v0, v1, v2]) = (0 : Int32)
  · obtain ⟨fs, hr, hrun, hended, hW, hsame⟩ := X338.leave (v := some (.int (0 : Int32))) (fun h => by rw [Bd.returns] at h; cases h)
    refine ⟨_, _, pre339 _ ?_, hrun, hended, _, _, rfl, ?_, ⟨_, rfl⟩, hW, hsame.mono (by decide) (by decide)⟩
    · show Steps p.tables e below (T338.setTop (mkF m 47 #[rv a1, rv a2, rv a2] [(.int (own_eqL [u0, u1, u2] [v0, v1, v2]))])) _
      refine XS.ifYes X338.here hx rfl (pc0 := 47) (pc' := 54) rfl (hb hby own_d9_47) rfl ((if0 _ _).trans (teq hc47).1) (by decide) (by decide) ?_
      show Steps p.tables e below (T338.setTop (mkF m 54 #[rv a1, rv a2, rv a2] [])) _
      refine XS.iconst X338.here hx rfl (hb hby own_d9_54) ?_
      show Steps p.tables e below (T338.setTop (mkF m 55 #[rv a1, rv a2, rv a2] [(.int (0 : Int32))])) _
      exact retN X338 hx (t := .boolean) Bd.returns (by simp) (hb hby own_d9_55) hr
    · show QSE_33 Z a1 a2 cw b1 b2 k1 k2 u0 u1 u2 v0 v1 v2 h0 n0 _ T338.heap _
      rw [e338]
      exact ⟨(congrArg (fun z => some (Value.int z)) (hc47.symm : (0 : Int32) = (own_eqL [u0, u1, u2] [v0, v1, v2]))), N338, rfl⟩
  · obtain ⟨fs, hr, hrun, hended, hW, hsame⟩ := X338.leave (v := some (.int (1 : Int32))) (fun h => by rw [Bd.returns] at h; cases h)
    refine ⟨_, _, pre339 _ ?_, hrun, hended, _, _, rfl, ?_, ⟨_, rfl⟩, hW, hsame.mono (by decide) (by decide)⟩
    · show Steps p.tables e below (T338.setTop (mkF m 47 #[rv a1, rv a2, rv a2] [(.int (own_eqL [u0, u1, u2] [v0, v1, v2]))])) _
      refine XS.ifNo X338.here hx rfl (hb hby own_d9_47) rfl ((if0 _ _).trans (feq hc47).1) ?_
      show Steps p.tables e below (T338.setTop (mkF m 50 #[rv a1, rv a2, rv a2] [])) _
      refine XS.iconst X338.here hx rfl (hb hby own_d9_50) ?_
      show Steps p.tables e below (T338.setTop (mkF m 51 #[rv a1, rv a2, rv a2] [(.int (1 : Int32))])) _
      refine XS.goto X338.here hx rfl (pc0 := 51) (pc' := 55) rfl (hb hby own_d9_51) (by decide) (by decide) ?_
      show Steps p.tables e below (T338.setTop (mkF m 55 #[rv a1, rv a2, rv a2] [(.int (1 : Int32))])) _
      exact retN X338 hx (t := .boolean) Bd.returns (by simp) (hb hby own_d9_55) hr
    · show QSE_33 Z a1 a2 cw b1 b2 k1 k2 u0 u1 u2 v0 v1 v2 h0 n0 _ T338.heap _
      rw [e338]
      exact ⟨(congrArg (fun z => some (Value.int z)) ((own_eqL1 hc47).symm : (1 : Int32) = (own_eqL [u0, u1, u2] [v0, v1, v2]))), N338, rfl⟩
theorem own_d9_5 : decode jdk_42_method_66_code 5 = .ok (.iconst 1, 1) := by decide +kernel
theorem own_d9_6 : decode jdk_42_method_66_code 6 = .ok (.ireturn, 1) := by decide +kernel
theorem own_ef_rmSE_s (m : MethodId) (a1 : Addr) : entryFrame m #[(.ref a1), (.ref a1)] 3 = mkF m 0 #[.val (.ref a1), .val (.ref a1), .unset] [] := by first | (simp [entryFrame, mkF, argsToLocals, Value.category]; done) | rfl
def QSE_s (Z : State) (a1 : Addr) (h0 : Heap) (n0 : Nat) (v : Option Value) (h : Heap) (L : List Loc) : Prop := v = some (.int (1 : Int32)) ∧ Fr n0 L ∧ h = h0
set_option maxRecDepth 65536 in
set_option maxHeartbeats 40000000 in
theorem rmSE_s (l : Launch) (Z : State) (a0 : Array Value) (hw : ∀ d ∈ tables_1, d.before a0 Z = true) (ws : List Jvm.Cond) (a1 : Addr) (h0 : Heap) (n0 : Nat) (Z0 : n0 ≤ h0.size) :
    MetFree l (⟨"java/lang/String", "equals", "(Ljava/lang/Object;)Z"⟩ : MethodName) (head1 (Jvm.Cond.code (⟨"java/lang/String", "equals", "(Ljava/lang/Object;)Z"⟩ : MethodName) jdk_42_method_66_code 3 (some .boolean) :: ws) ({ frames := 1, cells := 0, slots := 0, locals := 14 } : Room)) (fun a U => a = #[(.ref a1), (.ref a1)] ∧ Z.Warmed39 U.vm ∧ U.heap = h0) (fun _ _ _ _ _ => True) (fun _ U o U' => ∃ v L, o = .returned v ∧ QSE_s Z a1 h0 n0 v U'.heap L ∧ FrameEnd U o U' L ({ frames := 1, cells := 0, slots := 0, locals := 14 } : Room).cells ({ frames := 1, cells := 0, slots := 0, locals := 14 } : Room).slots) := by
  refine MetFree.of_bodySF (plainFor_of_name own_pn1) hisR ?_
  intro p e s m args below meth c s₁ Bd hml0 hP hK
  obtain ⟨rfl, hZ, hh⟩ := hP
  have hx := Bd.exec
  have hby := Bd.bytes
  have hml : c.maxLocals = 3 := hml0
  have hown : s.vm.findClass "java/lang/String" = some m.cls := findClass_of_methodNamed Bd.named
  have hnm := (name_of_methodNamed Bd.named Bd.method).1
  have X0 : Stand p l e ({ frames := 1, cells := 0, slots := 0, locals := 14 } : Room) s m #[(.ref a1), (.ref a1)] below meth c s₁ [] 0 0 := Stand.of_body Bd
  have e0 : s₁.heap = h0 := by rw [← hh, Bd.state]; rfl
  have N0 := Fr.nil n0
  have K0 : Keep h0 h0 [] := Keep.refl h0 _
  have pre0 : ∀ t, Steps p.tables e below (s₁.setTop (mkF m 0 #[.val (.ref a1), .val (.ref a1), .unset] [])) t → Steps p.tables e below (s₁.setTop (entryFrame m #[(.ref a1), (.ref a1)] 3)) t := fun t k => castTop (own_ef_rmSE_s m a1) k
  obtain ⟨fs, hr, hrun, hended, hW, hsame⟩ := X0.leave (v := some (.int (1 : Int32))) (fun h => by rw [Bd.returns] at h; cases h)
  refine ⟨_, _, pre0 _ ?_, hrun, hended, _, _, rfl, ?_, ⟨_, rfl⟩, hW, hsame.mono (by decide) (by decide)⟩
  · show Steps p.tables e below (s₁.setTop (mkF m 0 #[rv a1, rv a1, .unset] [])) _
    refine XS.aloadN X0.here hx rfl (hb hby own_d9_0) rfl rfl ?_
    show Steps p.tables e below (s₁.setTop (mkF m 1 #[rv a1, rv a1, .unset] [(.ref a1)])) _
    refine XS.aloadN X0.here hx rfl (hb hby own_d9_1) rfl rfl ?_
    show Steps p.tables e below (s₁.setTop (mkF m 2 #[rv a1, rv a1, .unset] [(.ref a1), (.ref a1)])) _
    refine Jvm.RoadKit.acmp (g := (mkF m 2 #[rv a1, rv a1, .unset] [(.ref a1), (.ref a1)])) X0 hx rfl rfl rfl (pc0 := 2) (pc' := 5) (same := true) rfl (hb hby own_d9_2) rfl (decide_eq_true rfl) (by decide) (by decide) ?_
    show Steps p.tables e below (s₁.setTop (mkF m 5 #[rv a1, rv a1, .unset] [])) _
    refine XS.iconst X0.here hx rfl (hb hby own_d9_5) ?_
    show Steps p.tables e below (s₁.setTop (mkF m 6 #[rv a1, rv a1, .unset] [(.int (1 : Int32))])) _
    exact retN X0 hx (t := .boolean) Bd.returns (by simp) (hb hby own_d9_6) hr
  · show QSE_s Z a1 h0 n0 _ s₁.heap _
    rw [e0]
    exact ⟨rfl, N0, rfl⟩
def QSE (Z : State) (a1 : Addr) (a2 : Addr) (cw : Int32) (L1 : List Int32) (L2 : List Int32) (h0 : Heap) (n0 : Nat) (v : Option Value) (h : Heap) (L : List Loc) : Prop := v = some (.int (own_eqL L1 L2)) ∧ Fr n0 L ∧ h = h0
set_option maxRecDepth 65536 in
theorem rmSE (l : Launch) (Z : State) (a0 : Array Value) (hw : ∀ d ∈ tables_1, d.before a0 Z = true) (ws : List Jvm.Cond) (a1 : Addr) (a2 : Addr) (cw : Int32) (L1 : List Int32) (L2 : List Int32) (h0 : Heap) (n0 : Nat) (Z0 : n0 ≤ h0.size) (T_a1 : own_Str Z h0 a1 L1) (T_a2 : own_Str Z h0 a2 L2) (S_COMPACT_STRINGS : Sta Z h0 "java/lang/String" "COMPACT_STRINGS" "Z" (.int cw)) (hw0 : ¬ (cw = (0 : Int32))) (hl1 : L1.length ≤ 3) (hl2 : L2.length ≤ 3) :
    MetFree l (⟨"java/lang/String", "equals", "(Ljava/lang/Object;)Z"⟩ : MethodName) (head1 (Jvm.Cond.code (⟨"java/lang/String", "equals", "(Ljava/lang/Object;)Z"⟩ : MethodName) jdk_42_method_66_code 3 (some .boolean) :: ws) ({ frames := 1, cells := 0, slots := 0, locals := 14 } : Room)) (fun a U => a = #[(.ref a1), (.ref a2)] ∧ Z.Warmed39 U.vm ∧ U.heap = h0) (fun _ _ _ _ _ => True) (fun _ U o U' => ∃ v L, o = .returned v ∧ QSE Z a1 a2 cw L1 L2 h0 n0 v U'.heap L ∧ FrameEnd U o U' L ({ frames := 1, cells := 0, slots := 0, locals := 14 } : Room).cells ({ frames := 1, cells := 0, slots := 0, locals := 14 } : Room).slots) := by
  by_cases q : a1 = a2
  · subst q
    have e : own_eqL L1 L2 = (1 : Int32) := by unfold own_eqL; rw [if_pos (own_Str.inj T_a1 T_a2 hl1 hl2)]
    unfold QSE
    rw [e]
    exact rmSE_s l Z a0 hw ws a1 h0 n0 Z0
  · obtain ⟨-, C1, b1, k1, F1, V1⟩ := T_a1
    obtain ⟨-, C2, b2, k2, F2, V2⟩ := id T_a2
    match L1, L2, V1, V2, hl1, hl2 with
    | [], [], V1, V2, _, _ => exact rmSE_00 l Z a0 hw ws a1 a2 cw b1 b2 k1 k2   h0 n0 Z0 T_a2.1 C1 F1 C2 F2 V1 V2 S_COMPACT_STRINGS hw0 q
    | [], [v0], V1, V2, _, _ => exact rmSE_01 l Z a0 hw ws a1 a2 cw b1 b2 k1 k2  v0 h0 n0 Z0 T_a2.1 C1 F1 C2 F2 V1 V2 S_COMPACT_STRINGS hw0 q
    | [], [v0, v1], V1, V2, _, _ => exact rmSE_02 l Z a0 hw ws a1 a2 cw b1 b2 k1 k2  v0 v1 h0 n0 Z0 T_a2.1 C1 F1 C2 F2 V1 V2 S_COMPACT_STRINGS hw0 q
    | [], [v0, v1, v2], V1, V2, _, _ => exact rmSE_03 l Z a0 hw ws a1 a2 cw b1 b2 k1 k2  v0 v1 v2 h0 n0 Z0 T_a2.1 C1 F1 C2 F2 V1 V2 S_COMPACT_STRINGS hw0 q
    | [u0], [], V1, V2, _, _ => exact rmSE_10 l Z a0 hw ws a1 a2 cw b1 b2 k1 k2 u0  h0 n0 Z0 T_a2.1 C1 F1 C2 F2 V1 V2 S_COMPACT_STRINGS hw0 q
    | [u0], [v0], V1, V2, _, _ => exact rmSE_11 l Z a0 hw ws a1 a2 cw b1 b2 k1 k2 u0 v0 h0 n0 Z0 T_a2.1 C1 F1 C2 F2 V1 V2 S_COMPACT_STRINGS hw0 q
    | [u0], [v0, v1], V1, V2, _, _ => exact rmSE_12 l Z a0 hw ws a1 a2 cw b1 b2 k1 k2 u0 v0 v1 h0 n0 Z0 T_a2.1 C1 F1 C2 F2 V1 V2 S_COMPACT_STRINGS hw0 q
    | [u0], [v0, v1, v2], V1, V2, _, _ => exact rmSE_13 l Z a0 hw ws a1 a2 cw b1 b2 k1 k2 u0 v0 v1 v2 h0 n0 Z0 T_a2.1 C1 F1 C2 F2 V1 V2 S_COMPACT_STRINGS hw0 q
    | [u0, u1], [], V1, V2, _, _ => exact rmSE_20 l Z a0 hw ws a1 a2 cw b1 b2 k1 k2 u0 u1  h0 n0 Z0 T_a2.1 C1 F1 C2 F2 V1 V2 S_COMPACT_STRINGS hw0 q
    | [u0, u1], [v0], V1, V2, _, _ => exact rmSE_21 l Z a0 hw ws a1 a2 cw b1 b2 k1 k2 u0 u1 v0 h0 n0 Z0 T_a2.1 C1 F1 C2 F2 V1 V2 S_COMPACT_STRINGS hw0 q
    | [u0, u1], [v0, v1], V1, V2, _, _ => exact rmSE_22 l Z a0 hw ws a1 a2 cw b1 b2 k1 k2 u0 u1 v0 v1 h0 n0 Z0 T_a2.1 C1 F1 C2 F2 V1 V2 S_COMPACT_STRINGS hw0 q
    | [u0, u1], [v0, v1, v2], V1, V2, _, _ => exact rmSE_23 l Z a0 hw ws a1 a2 cw b1 b2 k1 k2 u0 u1 v0 v1 v2 h0 n0 Z0 T_a2.1 C1 F1 C2 F2 V1 V2 S_COMPACT_STRINGS hw0 q
    | [u0, u1, u2], [], V1, V2, _, _ => exact rmSE_30 l Z a0 hw ws a1 a2 cw b1 b2 k1 k2 u0 u1 u2  h0 n0 Z0 T_a2.1 C1 F1 C2 F2 V1 V2 S_COMPACT_STRINGS hw0 q
    | [u0, u1, u2], [v0], V1, V2, _, _ => exact rmSE_31 l Z a0 hw ws a1 a2 cw b1 b2 k1 k2 u0 u1 u2 v0 h0 n0 Z0 T_a2.1 C1 F1 C2 F2 V1 V2 S_COMPACT_STRINGS hw0 q
    | [u0, u1, u2], [v0, v1], V1, V2, _, _ => exact rmSE_32 l Z a0 hw ws a1 a2 cw b1 b2 k1 k2 u0 u1 u2 v0 v1 h0 n0 Z0 T_a2.1 C1 F1 C2 F2 V1 V2 S_COMPACT_STRINGS hw0 q
    | [u0, u1, u2], [v0, v1, v2], V1, V2, _, _ => exact rmSE_33 l Z a0 hw ws a1 a2 cw b1 b2 k1 k2 u0 u1 u2 v0 v1 v2 h0 n0 Z0 T_a2.1 C1 F1 C2 F2 V1 V2 S_COMPACT_STRINGS hw0 q
    | _ :: _ :: _ :: _ :: _, _, _, _, h, _ => exact absurd h (by simp)
    | _, _ :: _ :: _ :: _ :: _, _, _, _, h => exact absurd h (by simp)
theorem own_d2_0 : decode prog_38_method_21_code 0 = .ok (.aload_n 1, 1) := by decide +kernel
theorem own_d2_1 : decode prog_38_method_21_code 1 = .ok (.astore_n 2, 1) := by decide +kernel
theorem own_d2_2 : decode prog_38_method_21_code 2 = .ok (.aload_n 2, 1) := by decide +kernel
theorem own_d2_3 : decode prog_38_method_21_code 3 = .ok (.arraylength, 1) := by decide +kernel
theorem own_d2_4 : decode prog_38_method_21_code 4 = .ok (.istore_n 3, 1) := by decide +kernel
theorem own_d2_5 : decode prog_38_method_21_code 5 = .ok (.iconst 0, 1) := by decide +kernel
theorem own_d2_6 : decode prog_38_method_21_code 6 = .ok (.istore 4, 2) := by decide +kernel
theorem own_d2_8 : decode prog_38_method_21_code 8 = .ok (.iload 4, 2) := by decide +kernel
theorem own_d2_10 : decode prog_38_method_21_code 10 = .ok (.iload_n 3, 1) := by decide +kernel
theorem own_d2_11 : decode prog_38_method_21_code 11 = .ok (.if_icmp .ge 26, 3) := by decide +kernel
theorem own_d2_37 : decode prog_38_method_21_code 37 = .ok (.iconst 0, 1) := by decide +kernel
theorem own_d2_38 : decode prog_38_method_21_code 38 = .ok (.ireturn, 1) := by decide +kernel
def own_f_rmO_0 (LN : List Int32) : Int32 := (0 : Int32)
theorem own_pn4 : plainName "com/example/partybook/partybook/io/XmlInput" = true := by first | (simp [plainName, overriddenIn]; done) | decide +kernel
theorem own_ef_rmO_0 (m : MethodId) (a1 : Addr) (a2 : Addr) : entryFrame m #[(.ref a1), (.ref a2)] 6 = mkF m 0 #[.val (.ref a1), .val (.ref a2), .unset, .unset, .unset, .unset] [] := by first | (simp [entryFrame, mkF, argsToLocals, Value.category]; done) | rfl
def QO_0 (Z : State) (a1 : Addr) (a2 : Addr) (cw : Int32) (k2 : ClassId) (LN : List Int32) (h0 : Heap) (n0 : Nat) (v : Option Value) (h : Heap) (L : List Loc) : Prop := v = some (.int (own_f_rmO_0 LN)) ∧ Fr n0 L ∧ h = h0
set_option maxRecDepth 65536 in
set_option maxHeartbeats 40000000 in
theorem rmO_0 (l : Launch) (Z : State) (a0 : Array Value) (hw : ∀ d ∈ tables_1, d.before a0 Z = true) (ws : List Jvm.Cond) (a1 : Addr) (a2 : Addr) (cw : Int32) (k2 : ClassId) (LN : List Int32) (h0 : Heap) (n0 : Nat) (Z0 : n0 ≤ h0.size) (T_a1 : own_Str Z h0 a1 LN) (V_a2 : Arv Z h0 a2 k2 (.object "java/lang/String") (0 : Int32) [] .null) (S_COMPACT_STRINGS : Sta Z h0 "java/lang/String" "COMPACT_STRINGS" "Z" (.int cw)) (hw0 : ¬ (cw = (0 : Int32))) (hn_LN : LN.length ≤ 3) :
    MetFree l (⟨"com/example/partybook/partybook/io/XmlInput", "isOneOf", "(Ljava/lang/String;[Ljava/lang/String;)Z"⟩ : MethodName) (head1 (Jvm.Cond.code (⟨"com/example/partybook/partybook/io/XmlInput", "isOneOf", "(Ljava/lang/String;[Ljava/lang/String;)Z"⟩ : MethodName) prog_38_method_21_code 6 (some .boolean) :: ws) ({ frames := 0, cells := 0, slots := 0, locals := 0 } : Room)) (fun a U => a = #[(.ref a1), (.ref a2)] ∧ Z.Warmed39 U.vm ∧ U.heap = h0) (fun _ _ _ _ _ => True) (fun _ U o U' => ∃ v L, o = .returned v ∧ QO_0 Z a1 a2 cw k2 LN h0 n0 v U'.heap L ∧ FrameEnd U o U' L ({ frames := 0, cells := 0, slots := 0, locals := 0 } : Room).cells ({ frames := 0, cells := 0, slots := 0, locals := 0 } : Room).slots) := by
  refine MetFree.of_bodySF (plainFor_of_name own_pn4) hisR ?_
  intro p e s m args below meth c s₁ Bd hml0 hP hK
  obtain ⟨rfl, hZ, hh⟩ := hP
  have hx := Bd.exec
  have hby := Bd.bytes
  have hml : c.maxLocals = 6 := hml0
  have hown : s.vm.findClass "com/example/partybook/partybook/io/XmlInput" = some m.cls := findClass_of_methodNamed Bd.named
  have hnm := (name_of_methodNamed Bd.named Bd.method).1
  have X0 : Stand p l e ({ frames := 0, cells := 0, slots := 0, locals := 0 } : Room) s m #[(.ref a1), (.ref a2)] below meth c s₁ [] 0 0 := Stand.of_body Bd
  have e0 : s₁.heap = h0 := by rw [← hh, Bd.state]; rfl
  have N0 := Fr.nil n0
  have K0 : Keep h0 h0 [] := Keep.refl h0 _
  have pre0 : ∀ t, Steps p.tables e below (s₁.setTop (mkF m 0 #[.val (.ref a1), .val (.ref a2), .unset, .unset, .unset, .unset] [])) t → Steps p.tables e below (s₁.setTop (entryFrame m #[(.ref a1), (.ref a2)] 6)) t := fun t k => castTop (own_ef_rmO_0 m a1 a2) k
  obtain ⟨cl341, Ar341, q341, S341, M341, H341, G341⟩ := id V_a2
  obtain ⟨fs, hr, hrun, hended, hW, hsame⟩ := X0.leave (v := some (.int (0 : Int32))) (fun h => by rw [Bd.returns] at h; cases h)
  refine ⟨_, _, pre0 _ ?_, hrun, hended, _, _, rfl, ?_, ⟨_, rfl⟩, hW, hsame.mono (by decide) (by decide)⟩
  · show Steps p.tables e below (s₁.setTop (mkF m 0 #[rv a1, rv a2, .unset, .unset, .unset, .unset] [])) _
    refine XS.aloadN X0.here hx rfl (hb hby own_d2_0) rfl rfl ?_
    show Steps p.tables e below (s₁.setTop (mkF m 1 #[rv a1, rv a2, .unset, .unset, .unset, .unset] [(.ref a2)])) _
    refine XS.astoreN X0.here hx rfl (hb hby own_d2_1) rfl rfl (l' := #[rv a1, rv a2, rv a2, .unset, .unset, .unset]) rfl ?_
    show Steps p.tables e below (s₁.setTop (mkF m 2 #[rv a1, rv a2, rv a2, .unset, .unset, .unset] [])) _
    refine XS.aloadN X0.here hx rfl (hb hby own_d2_2) rfl rfl ?_
    show Steps p.tables e below (s₁.setTop (mkF m 3 #[rv a1, rv a2, rv a2, .unset, .unset, .unset] [(.ref a2)])) _
    refine X0.arraylength hx (by rw [e0]; exact Ar341.1) (State.isArrayOf_alike hZ.alike Ar341.2.1) (g := (mkF m 3 #[rv a1, rv a2, rv a2, .unset, .unset, .unset] [(.ref a2)])) rfl rfl (hb hby own_d2_3) _ ?_
    rw [len_of S341 M341]
    show Steps p.tables e below (s₁.setTop (mkF m 4 #[rv a1, rv a2, rv a2, .unset, .unset, .unset] [(.int (0 : Int32))])) _
    refine XS.istoreN X0.here hx rfl (hb hby own_d2_4) rfl (l' := #[rv a1, rv a2, rv a2, iv (0 : Int32), .unset, .unset]) rfl ?_
    show Steps p.tables e below (s₁.setTop (mkF m 5 #[rv a1, rv a2, rv a2, iv (0 : Int32), .unset, .unset] [])) _
    refine XS.iconst X0.here hx rfl (hb hby own_d2_5) ?_
    show Steps p.tables e below (s₁.setTop (mkF m 6 #[rv a1, rv a2, rv a2, iv (0 : Int32), .unset, .unset] [(.int (0 : Int32))])) _
    refine XS.istore X0.here hx rfl (hb hby own_d2_6) rfl (l' := #[rv a1, rv a2, rv a2, iv (0 : Int32), iv (0 : Int32), .unset]) rfl ?_
    show Steps p.tables e below (s₁.setTop (mkF m 8 #[rv a1, rv a2, rv a2, iv (0 : Int32), iv (0 : Int32), .unset] [])) _
    refine XS.iload X0.here hx rfl (hb hby own_d2_8) rfl ?_
    show Steps p.tables e below (s₁.setTop (mkF m 10 #[rv a1, rv a2, rv a2, iv (0 : Int32), iv (0 : Int32), .unset] [(.int (0 : Int32))])) _
    refine XS.iloadN X0.here hx rfl (hb hby own_d2_10) rfl ?_
    show Steps p.tables e below (s₁.setTop (mkF m 11 #[rv a1, rv a2, rv a2, iv (0 : Int32), iv (0 : Int32), .unset] [(.int (0 : Int32)), (.int (0 : Int32))])) _
    refine XS.icmpYes X0.here hx rfl (pc0 := 11) (pc' := 37) rfl (hb hby own_d2_11) rfl (flt (by decide : ¬ ((0 : Int32) < (0 : Int32)))).2.1 (by decide) (by decide) ?_
    show Steps p.tables e below (s₁.setTop (mkF m 37 #[rv a1, rv a2, rv a2, iv (0 : Int32), iv (0 : Int32), .unset] [])) _
    refine XS.iconst X0.here hx rfl (hb hby own_d2_37) ?_
    show Steps p.tables e below (s₁.setTop (mkF m 38 #[rv a1, rv a2, rv a2, iv (0 : Int32), iv (0 : Int32), .unset] [(.int (0 : Int32))])) _
    exact retN X0 hx (t := .boolean) Bd.returns (by simp) (hb hby own_d2_38) hr
  · show QO_0 Z a1 a2 cw k2 LN h0 n0 _ s₁.heap _
    rw [e0]
    exact ⟨(congrArg (fun z => some (Value.int z)) (by unfold own_f_rmO_0; rfl : (0 : Int32) = (own_f_rmO_0 LN))), N0, rfl⟩
theorem own_d2_14 : decode prog_38_method_21_code 14 = .ok (.aload_n 2, 1) := by decide +kernel
theorem own_d2_15 : decode prog_38_method_21_code 15 = .ok (.iload 4, 2) := by decide +kernel
theorem own_d2_17 : decode prog_38_method_21_code 17 = .ok (.aaload, 1) := by decide +kernel
theorem own_d2_18 : decode prog_38_method_21_code 18 = .ok (.astore 5, 2) := by decide +kernel
theorem own_d2_20 : decode prog_38_method_21_code 20 = .ok (.aload 5, 2) := by decide +kernel
theorem own_d2_22 : decode prog_38_method_21_code 22 = .ok (.aload_n 0, 1) := by decide +kernel
theorem own_d2_23 : decode prog_38_method_21_code 23 = .ok (.invokevirtual 160, 3) := by decide +kernel
theorem own_pd10 : parseMethodDescriptor "(Ljava/lang/Object;)Z" = some ⟨[(.object "java/lang/Object")], some .boolean⟩ := by decide +kernel
theorem own_d2_26 : decode prog_38_method_21_code 26 = .ok (.ifCond .eq 5, 3) := by decide +kernel
theorem own_d2_31 : decode prog_38_method_21_code 31 = .ok (.iinc 4 1, 3) := by decide +kernel
theorem own_d2_34 : decode prog_38_method_21_code 34 = .ok (.goto (-26), 3) := by decide +kernel
theorem own_d2_29 : decode prog_38_method_21_code 29 = .ok (.iconst 1, 1) := by decide +kernel
theorem own_d2_30 : decode prog_38_method_21_code 30 = .ok (.ireturn, 1) := by decide +kernel
def own_f_rmO_1 (LN : List Int32) (L0 : List Int32) : Int32 := if (own_eqL L0 LN) = (0 : Int32) then (0 : Int32) else (1 : Int32)
theorem own_ef_rmO_1 (m : MethodId) (a1 : Addr) (a2 : Addr) : entryFrame m #[(.ref a1), (.ref a2)] 6 = mkF m 0 #[.val (.ref a1), .val (.ref a2), .unset, .unset, .unset, .unset] [] := by first | (simp [entryFrame, mkF, argsToLocals, Value.category]; done) | rfl
def QO_1 (Z : State) (a1 : Addr) (a2 : Addr) (cw : Int32) (k2 : ClassId) (LN : List Int32) (s0 : Addr) (L0 : List Int32) (h0 : Heap) (n0 : Nat) (v : Option Value) (h : Heap) (L : List Loc) : Prop := v = some (.int (own_f_rmO_1 LN L0)) ∧ Fr n0 L ∧ h = h0
set_option maxRecDepth 65536 in
set_option maxHeartbeats 40000000 in
theorem rmO_1 (l : Launch) (Z : State) (a0 : Array Value) (hw : ∀ d ∈ tables_1, d.before a0 Z = true) (ws : List Jvm.Cond) (a1 : Addr) (a2 : Addr) (cw : Int32) (k2 : ClassId) (LN : List Int32) (s0 : Addr) (L0 : List Int32) (h0 : Heap) (n0 : Nat) (Z0 : n0 ≤ h0.size) (T_a1 : own_Str Z h0 a1 LN) (V_a2 : Arv Z h0 a2 k2 (.object "java/lang/String") (1 : Int32) [(.ref s0)] .null) (T_s0 : own_Str Z h0 s0 L0) (S_COMPACT_STRINGS : Sta Z h0 "java/lang/String" "COMPACT_STRINGS" "Z" (.int cw)) (hw0 : ¬ (cw = (0 : Int32))) (hn_LN : LN.length ≤ 3) (hn_L0 : L0.length ≤ 3) :
    MetFree l (⟨"com/example/partybook/partybook/io/XmlInput", "isOneOf", "(Ljava/lang/String;[Ljava/lang/String;)Z"⟩ : MethodName) (head1 (Jvm.Cond.code (⟨"com/example/partybook/partybook/io/XmlInput", "isOneOf", "(Ljava/lang/String;[Ljava/lang/String;)Z"⟩ : MethodName) prog_38_method_21_code 6 (some .boolean) :: ws) ({ frames := 2, cells := 0, slots := 0, locals := 28 } : Room)) (fun a U => a = #[(.ref a1), (.ref a2)] ∧ Z.Warmed39 U.vm ∧ U.heap = h0) (fun _ _ _ _ _ => True) (fun _ U o U' => ∃ v L, o = .returned v ∧ QO_1 Z a1 a2 cw k2 LN s0 L0 h0 n0 v U'.heap L ∧ FrameEnd U o U' L ({ frames := 2, cells := 0, slots := 0, locals := 28 } : Room).cells ({ frames := 2, cells := 0, slots := 0, locals := 28 } : Room).slots) := by
  refine MetFree.of_bodySF (plainFor_of_name own_pn4) hisR ?_
  intro p e s m args below meth c s₁ Bd hml0 hP hK
  obtain ⟨rfl, hZ, hh⟩ := hP
  have hx := Bd.exec
  have hby := Bd.bytes
  have hml : c.maxLocals = 6 := hml0
  have hown : s.vm.findClass "com/example/partybook/partybook/io/XmlInput" = some m.cls := findClass_of_methodNamed Bd.named
  have hnm := (name_of_methodNamed Bd.named Bd.method).1
  have X0 : Stand p l e ({ frames := 2, cells := 0, slots := 0, locals := 28 } : Room) s m #[(.ref a1), (.ref a2)] below meth c s₁ [] 0 0 := Stand.of_body Bd
  have e0 : s₁.heap = h0 := by rw [← hh, Bd.state]; rfl
  have N0 := Fr.nil n0
  have K0 : Keep h0 h0 [] := Keep.refl h0 _
  have pre0 : ∀ t, Steps p.tables e below (s₁.setTop (mkF m 0 #[.val (.ref a1), .val (.ref a2), .unset, .unset, .unset, .unset] [])) t → Steps p.tables e below (s₁.setTop (entryFrame m #[(.ref a1), (.ref a2)] 6)) t := fun t k => castTop (own_ef_rmO_1 m a1 a2) k
  obtain ⟨cl346, Ar346, q346, S346, M346, H346, G346⟩ := id V_a2
  obtain ⟨cl347, Ar347, q347, S347, M347, H347, G347⟩ := id V_a2
  have hin347 : ¬ ((0 : Int32) < 0 ∨ cl347.slots.size ≤ ((0 : Int32)).toNatClampNeg) := inb_of S347 ⟨by decide, by decide⟩
  have hat347 : cl347.slots[((0 : Int32)).toNatClampNeg]? = some (.ref s0) := Has.at H347 hin347 rfl
  obtain ⟨cq348, kq348, q348a, q348b, q348c⟩ := isOf hZ e0 T_s0.1
  obtain ⟨_, _, ⟨T348, L348, k348, n348⟩, -, X348, ⟨Lc348, hQ348, l348, y348, z348⟩, st348⟩ := X0.virtualBack hx (y := (⟨"java/lang/String", "equals", "(Ljava/lang/Object;)Z"⟩ : MethodName)) (z := (⟨"java/lang/String", "equals", "(Ljava/lang/Object;)Z"⟩ : MethodName)) hown (mvT hZ (hw _ (List.mem_of_getElem? (i := 42) rfl))) (mvT hZ (hw _ (List.mem_of_getElem? (i := 43) rfl))) (notFace_of_selects (args := #[]) (mvT hZ (hw _ (List.mem_of_getElem? (i := 45) rfl)))) (mvT hZ (hw _ (List.mem_of_getElem? (i := 45) rfl))) (mvT hZ (hw _ (List.mem_of_getElem? (i := 44) rfl))) (by decide) (backOf (W := 0) (rmSE l Z a0 hw [] s0 a1 cw L0 LN h0 n0 (Nat.le_trans Z0 K0.1) T_s0 T_a1 S_COMPACT_STRINGS hw0 hn_L0 hn_LN) hZ (hw _ (List.mem_of_getElem? (i := 46) rfl)) (hw _ (List.mem_of_getElem? (i := 5) rfl)) (by decide) (by decide)) q348a q348c (g := (mkF m 23 #[rv a1, rv a2, rv a2, iv (1 : Int32), iv (0 : Int32), rv s0] [(.ref a1), (.ref s0)])) rfl (by rw [hml]; rfl) (Steps.refl _) (argsL := [(.ref a1)]) (rest := []) (lenOf own_pd10 rfl) rfl (by show 2 * 0 + _ ≤ _; exact Nat.le_of_eq rfl) (hb hby own_d2_23) (fun _ _ => ⟨rfl, e0, (by decide : 0 + 0 ≤ _), (by decide : 0 + 0 ≤ _)⟩)
  dsimp only [Pt.U, Pt.locs, Pt.cells, Pt.slots] at X348 l348 y348 z348 st348 hQ348
  subst l348 y348 z348
  obtain ⟨rfl, N348q, e348⟩ := hQ348
  have N348 := Fr.app N0 N348q
  have pre349 : ∀ t, Steps p.tables e below (T348.setTop (mkF m 26 #[rv a1, rv a2, rv a2, iv (1 : Int32), iv (0 : Int32), rv s0] [(.int (own_eqL L0 LN))])) t → Steps p.tables e below (s₁.setTop (entryFrame m #[(.ref a1), (.ref a2)] 6)) t := fun t k => by
    refine pre0 _ ?_
    show Steps p.tables e below (s₁.setTop (mkF m 0 #[rv a1, rv a2, .unset, .unset, .unset, .unset] [])) _
    refine XS.aloadN X0.here hx rfl (hb hby own_d2_0) rfl rfl ?_
    show Steps p.tables e below (s₁.setTop (mkF m 1 #[rv a1, rv a2, .unset, .unset, .unset, .unset] [(.ref a2)])) _
    refine XS.astoreN X0.here hx rfl (hb hby own_d2_1) rfl rfl (l' := #[rv a1, rv a2, rv a2, .unset, .unset, .unset]) rfl ?_
    show Steps p.tables e below (s₁.setTop (mkF m 2 #[rv a1, rv a2, rv a2, .unset, .unset, .unset] [])) _
    refine XS.aloadN X0.here hx rfl (hb hby own_d2_2) rfl rfl ?_
    show Steps p.tables e below (s₁.setTop (mkF m 3 #[rv a1, rv a2, rv a2, .unset, .unset, .unset] [(.ref a2)])) _
    refine X0.arraylength hx (by rw [e0]; exact Ar346.1) (State.isArrayOf_alike hZ.alike Ar346.2.1) (g := (mkF m 3 #[rv a1, rv a2, rv a2, .unset, .unset, .unset] [(.ref a2)])) rfl rfl (hb hby own_d2_3) _ ?_
    rw [len_of S346 M346]
    show Steps p.tables e below (s₁.setTop (mkF m 4 #[rv a1, rv a2, rv a2, .unset, .unset, .unset] [(.int (1 : Int32))])) _
    refine XS.istoreN X0.here hx rfl (hb hby own_d2_4) rfl (l' := #[rv a1, rv a2, rv a2, iv (1 : Int32), .unset, .unset]) rfl ?_
    show Steps p.tables e below (s₁.setTop (mkF m 5 #[rv a1, rv a2, rv a2, iv (1 : Int32), .unset, .unset] [])) _
    refine XS.iconst X0.here hx rfl (hb hby own_d2_5) ?_
    show Steps p.tables e below (s₁.setTop (mkF m 6 #[rv a1, rv a2, rv a2, iv (1 : Int32), .unset, .unset] [(.int (0 : Int32))])) _
    refine XS.istore X0.here hx rfl (hb hby own_d2_6) rfl (l' := #[rv a1, rv a2, rv a2, iv (1 : Int32), iv (0 : Int32), .unset]) rfl ?_
    show Steps p.tables e below (s₁.setTop (mkF m 8 #[rv a1, rv a2, rv a2, iv (1 : Int32), iv (0 : Int32), .unset] [])) _
    refine XS.iload X0.here hx rfl (hb hby own_d2_8) rfl ?_
    show Steps p.tables e below (s₁.setTop (mkF m 10 #[rv a1, rv a2, rv a2, iv (1 : Int32), iv (0 : Int32), .unset] [(.int (0 : Int32))])) _
    refine XS.iloadN X0.here hx rfl (hb hby own_d2_10) rfl ?_
    show Steps p.tables e below (s₁.setTop (mkF m 11 #[rv a1, rv a2, rv a2, iv (1 : Int32), iv (0 : Int32), .unset] [(.int (1 : Int32)), (.int (0 : Int32))])) _
    refine XS.icmpNo X0.here hx rfl (hb hby own_d2_11) rfl (tlt (by decide : ((0 : Int32) < (1 : Int32)))).2.1 ?_
    show Steps p.tables e below (s₁.setTop (mkF m 14 #[rv a1, rv a2, rv a2, iv (1 : Int32), iv (0 : Int32), .unset] [])) _
    refine XS.aloadN X0.here hx rfl (hb hby own_d2_14) rfl rfl ?_
    show Steps p.tables e below (s₁.setTop (mkF m 15 #[rv a1, rv a2, rv a2, iv (1 : Int32), iv (0 : Int32), .unset] [(.ref a2)])) _
    refine XS.iload X0.here hx rfl (hb hby own_d2_15) rfl ?_
    show Steps p.tables e below (s₁.setTop (mkF m 17 #[rv a1, rv a2, rv a2, iv (1 : Int32), iv (0 : Int32), .unset] [(.int (0 : Int32)), (.ref a2)])) _
    refine X0.aaload hx (j := (0 : Int32)) (v := (.ref s0)) (by rw [e0]; exact Ar347.1) (State.isArrayOf_alike hZ.alike Ar347.2.1) rfl Ar347.2.2 hin347 hat347 (g := (mkF m 17 #[rv a1, rv a2, rv a2, iv (1 : Int32), iv (0 : Int32), .unset] [(.int (0 : Int32)), (.ref a2)])) rfl rfl (hb hby own_d2_17) _ ?_
    show Steps p.tables e below (s₁.setTop (mkF m 18 #[rv a1, rv a2, rv a2, iv (1 : Int32), iv (0 : Int32), .unset] [(.ref s0)])) _
    refine XS.astore X0.here hx rfl (hb hby own_d2_18) rfl rfl (l' := #[rv a1, rv a2, rv a2, iv (1 : Int32), iv (0 : Int32), rv s0]) rfl ?_
    show Steps p.tables e below (s₁.setTop (mkF m 20 #[rv a1, rv a2, rv a2, iv (1 : Int32), iv (0 : Int32), rv s0] [])) _
    refine XS.aload X0.here hx rfl (hb hby own_d2_20) rfl rfl ?_
    show Steps p.tables e below (s₁.setTop (mkF m 22 #[rv a1, rv a2, rv a2, iv (1 : Int32), iv (0 : Int32), rv s0] [(.ref s0)])) _
    refine XS.aloadN X0.here hx rfl (hb hby own_d2_22) rfl rfl ?_
    show Steps p.tables e below (s₁.setTop (mkF m 23 #[rv a1, rv a2, rv a2, iv (1 : Int32), iv (0 : Int32), rv s0] [(.ref a1), (.ref s0)])) _
    refine st348.trans ?_
    exact k
  by_cases hc26 : (own_eqL L0 LN) = (0 : Int32)
  · obtain ⟨fs, hr, hrun, hended, hW, hsame⟩ := X348.leave (v := some (.int (0 : Int32))) (fun h => by rw [Bd.returns] at h; cases h)
    refine ⟨_, _, pre349 _ ?_, hrun, hended, _, _, rfl, ?_, ⟨_, rfl⟩, hW, hsame.mono (by decide) (by decide)⟩
    · show Steps p.tables e below (T348.setTop (mkF m 26 #[rv a1, rv a2, rv a2, iv (1 : Int32), iv (0 : Int32), rv s0] [(.int (own_eqL L0 LN))])) _
      refine XS.ifYes X348.here hx rfl (pc0 := 26) (pc' := 31) rfl (hb hby own_d2_26) rfl ((if0 _ _).trans (teq hc26).1) (by decide) (by decide) ?_
      show Steps p.tables e below (T348.setTop (mkF m 31 #[rv a1, rv a2, rv a2, iv (1 : Int32), iv (0 : Int32), rv s0] [])) _
      refine XS.iinc X348.here hx rfl (hb hby own_d2_31) rfl (l' := #[rv a1, rv a2, rv a2, iv (1 : Int32), iv (1 : Int32), rv s0]) rfl ?_
      show Steps p.tables e below (T348.setTop (mkF m 34 #[rv a1, rv a2, rv a2, iv (1 : Int32), iv (1 : Int32), rv s0] [])) _
      refine XS.goto X348.here hx rfl (pc0 := 34) (pc' := 8) rfl (hb hby own_d2_34) (by decide) (by decide) ?_
      show Steps p.tables e below (T348.setTop (mkF m 8 #[rv a1, rv a2, rv a2, iv (1 : Int32), iv (1 : Int32), rv s0] [])) _
      refine XS.iload X348.here hx rfl (hb hby own_d2_8) rfl ?_
      show Steps p.tables e below (T348.setTop (mkF m 10 #[rv a1, rv a2, rv a2, iv (1 : Int32), iv (1 : Int32), rv s0] [(.int (1 : Int32))])) _
      refine XS.iloadN X348.here hx rfl (hb hby own_d2_10) rfl ?_
      show Steps p.tables e below (T348.setTop (mkF m 11 #[rv a1, rv a2, rv a2, iv (1 : Int32), iv (1 : Int32), rv s0] [(.int (1 : Int32)), (.int (1 : Int32))])) _
      refine XS.icmpYes X348.here hx rfl (pc0 := 11) (pc' := 37) rfl (hb hby own_d2_11) rfl (flt (by decide : ¬ ((1 : Int32) < (1 : Int32)))).2.1 (by decide) (by decide) ?_
      show Steps p.tables e below (T348.setTop (mkF m 37 #[rv a1, rv a2, rv a2, iv (1 : Int32), iv (1 : Int32), rv s0] [])) _
      refine XS.iconst X348.here hx rfl (hb hby own_d2_37) ?_
      show Steps p.tables e below (T348.setTop (mkF m 38 #[rv a1, rv a2, rv a2, iv (1 : Int32), iv (1 : Int32), rv s0] [(.int (0 : Int32))])) _
      exact retN X348 hx (t := .boolean) Bd.returns (by simp) (hb hby own_d2_38) hr
    · show QO_1 Z a1 a2 cw k2 LN s0 L0 h0 n0 _ T348.heap _
      rw [e348]
      exact ⟨(congrArg (fun z => some (Value.int z)) (by unfold own_f_rmO_1; rw [if_pos hc26] : (0 : Int32) = (own_f_rmO_1 LN L0))), N348, rfl⟩
  · obtain ⟨fs, hr, hrun, hended, hW, hsame⟩ := X348.leave (v := some (.int (1 : Int32))) (fun h => by rw [Bd.returns] at h; cases h)
    refine ⟨_, _, pre349 _ ?_, hrun, hended, _, _, rfl, ?_, ⟨_, rfl⟩, hW, hsame.mono (by decide) (by decide)⟩
    · show Steps p.tables e below (T348.setTop (mkF m 26 #[rv a1, rv a2, rv a2, iv (1 : Int32), iv (0 : Int32), rv s0] [(.int (own_eqL L0 LN))])) _
      refine XS.ifNo X348.here hx rfl (hb hby own_d2_26) rfl ((if0 _ _).trans (feq hc26).1) ?_
      show Steps p.tables e below (T348.setTop (mkF m 29 #[rv a1, rv a2, rv a2, iv (1 : Int32), iv (0 : Int32), rv s0] [])) _
      refine XS.iconst X348.here hx rfl (hb hby own_d2_29) ?_
      show Steps p.tables e below (T348.setTop (mkF m 30 #[rv a1, rv a2, rv a2, iv (1 : Int32), iv (0 : Int32), rv s0] [(.int (1 : Int32))])) _
      exact retN X348 hx (t := .boolean) Bd.returns (by simp) (hb hby own_d2_30) hr
    · show QO_1 Z a1 a2 cw k2 LN s0 L0 h0 n0 _ T348.heap _
      rw [e348]
      exact ⟨(congrArg (fun z => some (Value.int z)) (by unfold own_f_rmO_1; rw [if_neg hc26] : (1 : Int32) = (own_f_rmO_1 LN L0))), N348, rfl⟩
def own_f_rmO_2 (LN : List Int32) (L0 : List Int32) (L1 : List Int32) : Int32 := if (own_eqL L0 LN) = (0 : Int32) then if (own_eqL L1 LN) = (0 : Int32) then (0 : Int32) else (1 : Int32) else (1 : Int32)
theorem own_ef_rmO_2 (m : MethodId) (a1 : Addr) (a2 : Addr) : entryFrame m #[(.ref a1), (.ref a2)] 6 = mkF m 0 #[.val (.ref a1), .val (.ref a2), .unset, .unset, .unset, .unset] [] := by first | (simp [entryFrame, mkF, argsToLocals, Value.category]; done) | rfl
def QO_2 (Z : State) (a1 : Addr) (a2 : Addr) (cw : Int32) (k2 : ClassId) (LN : List Int32) (s0 : Addr) (s1 : Addr) (L0 : List Int32) (L1 : List Int32) (h0 : Heap) (n0 : Nat) (v : Option Value) (h : Heap) (L : List Loc) : Prop := v = some (.int (own_f_rmO_2 LN L0 L1)) ∧ Fr n0 L ∧ h = h0
set_option maxRecDepth 65536 in
set_option maxHeartbeats 40000000 in
theorem rmO_2 (l : Launch) (Z : State) (a0 : Array Value) (hw : ∀ d ∈ tables_1, d.before a0 Z = true) (ws : List Jvm.Cond) (a1 : Addr) (a2 : Addr) (cw : Int32) (k2 : ClassId) (LN : List Int32) (s0 : Addr) (s1 : Addr) (L0 : List Int32) (L1 : List Int32) (h0 : Heap) (n0 : Nat) (Z0 : n0 ≤ h0.size) (T_a1 : own_Str Z h0 a1 LN) (V_a2 : Arv Z h0 a2 k2 (.object "java/lang/String") (2 : Int32) [(.ref s0), (.ref s1)] .null) (T_s0 : own_Str Z h0 s0 L0) (T_s1 : own_Str Z h0 s1 L1) (S_COMPACT_STRINGS : Sta Z h0 "java/lang/String" "COMPACT_STRINGS" "Z" (.int cw)) (hw0 : ¬ (cw = (0 : Int32))) (hn_LN : LN.length ≤ 3) (hn_L0 : L0.length ≤ 3) (hn_L1 : L1.length ≤ 3) :
    MetFree l (⟨"com/example/partybook/partybook/io/XmlInput", "isOneOf", "(Ljava/lang/String;[Ljava/lang/String;)Z"⟩ : MethodName) (head1 (Jvm.Cond.code (⟨"com/example/partybook/partybook/io/XmlInput", "isOneOf", "(Ljava/lang/String;[Ljava/lang/String;)Z"⟩ : MethodName) prog_38_method_21_code 6 (some .boolean) :: ws) ({ frames := 2, cells := 0, slots := 0, locals := 28 } : Room)) (fun a U => a = #[(.ref a1), (.ref a2)] ∧ Z.Warmed39 U.vm ∧ U.heap = h0) (fun _ _ _ _ _ => True) (fun _ U o U' => ∃ v L, o = .returned v ∧ QO_2 Z a1 a2 cw k2 LN s0 s1 L0 L1 h0 n0 v U'.heap L ∧ FrameEnd U o U' L ({ frames := 2, cells := 0, slots := 0, locals := 28 } : Room).cells ({ frames := 2, cells := 0, slots := 0, locals := 28 } : Room).slots) := by
  refine MetFree.of_bodySF (plainFor_of_name own_pn4) hisR ?_
  intro p e s m args below meth c s₁ Bd hml0 hP hK
  obtain ⟨rfl, hZ, hh⟩ := hP
  have hx := Bd.exec
  have hby := Bd.bytes
  have hml : c.maxLocals = 6 := hml0
  have hown : s.vm.findClass "com/example/partybook/partybook/io/XmlInput" = some m.cls := findClass_of_methodNamed Bd.named
  have hnm := (name_of_methodNamed Bd.named Bd.method).1
  have X0 : Stand p l e ({ frames := 2, cells := 0, slots := 0, locals := 28 } : Room) s m #[(.ref a1), (.ref a2)] below meth c s₁ [] 0 0 := Stand.of_body Bd
  have e0 : s₁.heap = h0 := by rw [← hh, Bd.state]; rfl
  have N0 := Fr.nil n0
  have K0 : Keep h0 h0 [] := Keep.refl h0 _
  have pre0 : ∀ t, Steps p.tables e below (s₁.setTop (mkF m 0 #[.val (.ref a1), .val (.ref a2), .unset, .unset, .unset, .unset] [])) t → Steps p.tables e below (s₁.setTop (entryFrame m #[(.ref a1), (.ref a2)] 6)) t := fun t k => castTop (own_ef_rmO_2 m a1 a2) k
  obtain ⟨cl358, Ar358, q358, S358, M358, H358, G358⟩ := id V_a2
  obtain ⟨cl359, Ar359, q359, S359, M359, H359, G359⟩ := id V_a2
  have hin359 : ¬ ((0 : Int32) < 0 ∨ cl359.slots.size ≤ ((0 : Int32)).toNatClampNeg) := inb_of S359 ⟨by decide, by decide⟩
  have hat359 : cl359.slots[((0 : Int32)).toNatClampNeg]? = some (.ref s0) := Has.at H359 hin359 rfl
  obtain ⟨cq360, kq360, q360a, q360b, q360c⟩ := isOf hZ e0 T_s0.1
  obtain ⟨_, _, ⟨T360, L360, k360, n360⟩, -, X360, ⟨Lc360, hQ360, l360, y360, z360⟩, st360⟩ := X0.virtualBack hx (y := (⟨"java/lang/String", "equals", "(Ljava/lang/Object;)Z"⟩ : MethodName)) (z := (⟨"java/lang/String", "equals", "(Ljava/lang/Object;)Z"⟩ : MethodName)) hown (mvT hZ (hw _ (List.mem_of_getElem? (i := 42) rfl))) (mvT hZ (hw _ (List.mem_of_getElem? (i := 43) rfl))) (notFace_of_selects (args := #[]) (mvT hZ (hw _ (List.mem_of_getElem? (i := 45) rfl)))) (mvT hZ (hw _ (List.mem_of_getElem? (i := 45) rfl))) (mvT hZ (hw _ (List.mem_of_getElem? (i := 44) rfl))) (by decide) (backOf (W := 0) (rmSE l Z a0 hw [] s0 a1 cw L0 LN h0 n0 (Nat.le_trans Z0 K0.1) T_s0 T_a1 S_COMPACT_STRINGS hw0 hn_L0 hn_LN) hZ (hw _ (List.mem_of_getElem? (i := 46) rfl)) (hw _ (List.mem_of_getElem? (i := 5) rfl)) (by decide) (by decide)) q360a q360c (g := (mkF m 23 #[rv a1, rv a2, rv a2, iv (2 : Int32), iv (0 : Int32), rv s0] [(.ref a1), (.ref s0)])) rfl (by rw [hml]; rfl) (Steps.refl _) (argsL := [(.ref a1)]) (rest := []) (lenOf own_pd10 rfl) rfl (by show 2 * 0 + _ ≤ _; exact Nat.le_of_eq rfl) (hb hby own_d2_23) (fun _ _ => ⟨rfl, e0, (by decide : 0 + 0 ≤ _), (by decide : 0 + 0 ≤ _)⟩)
  dsimp only [Pt.U, Pt.locs, Pt.cells, Pt.slots] at X360 l360 y360 z360 st360 hQ360
  subst l360 y360 z360
  obtain ⟨rfl, N360q, e360⟩ := hQ360
  have N360 := Fr.app N0 N360q
  have pre361 : ∀ t, Steps p.tables e below (T360.setTop (mkF m 26 #[rv a1, rv a2, rv a2, iv (2 : Int32), iv (0 : Int32), rv s0] [(.int (own_eqL L0 LN))])) t → Steps p.tables e below (s₁.setTop (entryFrame m #[(.ref a1), (.ref a2)] 6)) t := fun t k => by
    refine pre0 _ ?_
    show Steps p.tables e below (s₁.setTop (mkF m 0 #[rv a1, rv a2, .unset, .unset, .unset, .unset] [])) _
    refine XS.aloadN X0.here hx rfl (hb hby own_d2_0) rfl rfl ?_
    show Steps p.tables e below (s₁.setTop (mkF m 1 #[rv a1, rv a2, .unset, .unset, .unset, .unset] [(.ref a2)])) _
    refine XS.astoreN X0.here hx rfl (hb hby own_d2_1) rfl rfl (l' := #[rv a1, rv a2, rv a2, .unset, .unset, .unset]) rfl ?_
    show Steps p.tables e below (s₁.setTop (mkF m 2 #[rv a1, rv a2, rv a2, .unset, .unset, .unset] [])) _
    refine XS.aloadN X0.here hx rfl (hb hby own_d2_2) rfl rfl ?_
    show Steps p.tables e below (s₁.setTop (mkF m 3 #[rv a1, rv a2, rv a2, .unset, .unset, .unset] [(.ref a2)])) _
    refine X0.arraylength hx (by rw [e0]; exact Ar358.1) (State.isArrayOf_alike hZ.alike Ar358.2.1) (g := (mkF m 3 #[rv a1, rv a2, rv a2, .unset, .unset, .unset] [(.ref a2)])) rfl rfl (hb hby own_d2_3) _ ?_
    rw [len_of S358 M358]
    show Steps p.tables e below (s₁.setTop (mkF m 4 #[rv a1, rv a2, rv a2, .unset, .unset, .unset] [(.int (2 : Int32))])) _
    refine XS.istoreN X0.here hx rfl (hb hby own_d2_4) rfl (l' := #[rv a1, rv a2, rv a2, iv (2 : Int32), .unset, .unset]) rfl ?_
    show Steps p.tables e below (s₁.setTop (mkF m 5 #[rv a1, rv a2, rv a2, iv (2 : Int32), .unset, .unset] [])) _
    refine XS.iconst X0.here hx rfl (hb hby own_d2_5) ?_
    show Steps p.tables e below (s₁.setTop (mkF m 6 #[rv a1, rv a2, rv a2, iv (2 : Int32), .unset, .unset] [(.int (0 : Int32))])) _
    refine XS.istore X0.here hx rfl (hb hby own_d2_6) rfl (l' := #[rv a1, rv a2, rv a2, iv (2 : Int32), iv (0 : Int32), .unset]) rfl ?_
    show Steps p.tables e below (s₁.setTop (mkF m 8 #[rv a1, rv a2, rv a2, iv (2 : Int32), iv (0 : Int32), .unset] [])) _
    refine XS.iload X0.here hx rfl (hb hby own_d2_8) rfl ?_
    show Steps p.tables e below (s₁.setTop (mkF m 10 #[rv a1, rv a2, rv a2, iv (2 : Int32), iv (0 : Int32), .unset] [(.int (0 : Int32))])) _
    refine XS.iloadN X0.here hx rfl (hb hby own_d2_10) rfl ?_
    show Steps p.tables e below (s₁.setTop (mkF m 11 #[rv a1, rv a2, rv a2, iv (2 : Int32), iv (0 : Int32), .unset] [(.int (2 : Int32)), (.int (0 : Int32))])) _
    refine XS.icmpNo X0.here hx rfl (hb hby own_d2_11) rfl (tlt (by decide : ((0 : Int32) < (2 : Int32)))).2.1 ?_
    show Steps p.tables e below (s₁.setTop (mkF m 14 #[rv a1, rv a2, rv a2, iv (2 : Int32), iv (0 : Int32), .unset] [])) _
    refine XS.aloadN X0.here hx rfl (hb hby own_d2_14) rfl rfl ?_
    show Steps p.tables e below (s₁.setTop (mkF m 15 #[rv a1, rv a2, rv a2, iv (2 : Int32), iv (0 : Int32), .unset] [(.ref a2)])) _
    refine XS.iload X0.here hx rfl (hb hby own_d2_15) rfl ?_
    show Steps p.tables e below (s₁.setTop (mkF m 17 #[rv a1, rv a2, rv a2, iv (2 : Int32), iv (0 : Int32), .unset] [(.int (0 : Int32)), (.ref a2)])) _
    refine X0.aaload hx (j := (0 : Int32)) (v := (.ref s0)) (by rw [e0]; exact Ar359.1) (State.isArrayOf_alike hZ.alike Ar359.2.1) rfl Ar359.2.2 hin359 hat359 (g := (mkF m 17 #[rv a1, rv a2, rv a2, iv (2 : Int32), iv (0 : Int32), .unset] [(.int (0 : Int32)), (.ref a2)])) rfl rfl (hb hby own_d2_17) _ ?_
    show Steps p.tables e below (s₁.setTop (mkF m 18 #[rv a1, rv a2, rv a2, iv (2 : Int32), iv (0 : Int32), .unset] [(.ref s0)])) _
    refine XS.astore X0.here hx rfl (hb hby own_d2_18) rfl rfl (l' := #[rv a1, rv a2, rv a2, iv (2 : Int32), iv (0 : Int32), rv s0]) rfl ?_
    show Steps p.tables e below (s₁.setTop (mkF m 20 #[rv a1, rv a2, rv a2, iv (2 : Int32), iv (0 : Int32), rv s0] [])) _
    refine XS.aload X0.here hx rfl (hb hby own_d2_20) rfl rfl ?_
    show Steps p.tables e below (s₁.setTop (mkF m 22 #[rv a1, rv a2, rv a2, iv (2 : Int32), iv (0 : Int32), rv s0] [(.ref s0)])) _
    refine XS.aloadN X0.here hx rfl (hb hby own_d2_22) rfl rfl ?_
    show Steps p.tables e below (s₁.setTop (mkF m 23 #[rv a1, rv a2, rv a2, iv (2 : Int32), iv (0 : Int32), rv s0] [(.ref a1), (.ref s0)])) _
    refine st360.trans ?_
    exact k
  by_cases hc26 : (own_eqL L0 LN) = (0 : Int32)
  · obtain ⟨cl362, Ar362, q362, S362, M362, H362, G362⟩ := id V_a2
    have hin362 : ¬ ((1 : Int32) < 0 ∨ cl362.slots.size ≤ ((1 : Int32)).toNatClampNeg) := inb_of S362 ⟨by decide, by decide⟩
    have hat362 : cl362.slots[((1 : Int32)).toNatClampNeg]? = some (.ref s1) := Has.at H362 hin362 rfl
    obtain ⟨cq363, kq363, q363a, q363b, q363c⟩ := isOf hZ e360 T_s1.1
    obtain ⟨_, _, ⟨T363, L363, k363, n363⟩, -, X363, ⟨Lc363, hQ363, l363, y363, z363⟩, st363⟩ := X360.virtualBack hx (y := (⟨"java/lang/String", "equals", "(Ljava/lang/Object;)Z"⟩ : MethodName)) (z := (⟨"java/lang/String", "equals", "(Ljava/lang/Object;)Z"⟩ : MethodName)) hown (mvT hZ (hw _ (List.mem_of_getElem? (i := 42) rfl))) (mvT hZ (hw _ (List.mem_of_getElem? (i := 43) rfl))) (notFace_of_selects (args := #[]) (mvT hZ (hw _ (List.mem_of_getElem? (i := 45) rfl)))) (mvT hZ (hw _ (List.mem_of_getElem? (i := 45) rfl))) (mvT hZ (hw _ (List.mem_of_getElem? (i := 44) rfl))) (by decide) (backOf (W := 0) (rmSE l Z a0 hw [] s1 a1 cw L1 LN h0 n0 (Nat.le_trans Z0 K0.1) T_s1 T_a1 S_COMPACT_STRINGS hw0 hn_L1 hn_LN) hZ (hw _ (List.mem_of_getElem? (i := 46) rfl)) (hw _ (List.mem_of_getElem? (i := 5) rfl)) (by decide) (by decide)) q363a q363c (g := (mkF m 23 #[rv a1, rv a2, rv a2, iv (2 : Int32), iv (1 : Int32), rv s1] [(.ref a1), (.ref s1)])) rfl (by rw [hml]; rfl) (Steps.refl _) (argsL := [(.ref a1)]) (rest := []) (lenOf own_pd10 rfl) rfl (by show 2 * 0 + _ ≤ _; exact Nat.le_of_eq rfl) (hb hby own_d2_23) (fun _ _ => ⟨rfl, e360, (by decide : 0 + 0 ≤ _), (by decide : 0 + 0 ≤ _)⟩)
    dsimp only [Pt.U, Pt.locs, Pt.cells, Pt.slots] at X363 l363 y363 z363 st363 hQ363
    subst l363 y363 z363
    obtain ⟨rfl, N363q, e363⟩ := hQ363
    have N363 := Fr.app N360 N363q
    have pre364 : ∀ t, Steps p.tables e below (T363.setTop (mkF m 26 #[rv a1, rv a2, rv a2, iv (2 : Int32), iv (1 : Int32), rv s1] [(.int (own_eqL L1 LN))])) t → Steps p.tables e below (s₁.setTop (entryFrame m #[(.ref a1), (.ref a2)] 6)) t := fun t k => by
      refine pre361 _ ?_
      show Steps p.tables e below (T360.setTop (mkF m 26 #[rv a1, rv a2, rv a2, iv (2 : Int32), iv (0 : Int32), rv s0] [(.int (own_eqL L0 LN))])) _
      refine XS.ifYes X360.here hx rfl (pc0 := 26) (pc' := 31) rfl (hb hby own_d2_26) rfl ((if0 _ _).trans (teq hc26).1) (by decide) (by decide) ?_
      show Steps p.tables e below (T360.setTop (mkF m 31 #[rv a1, rv a2, rv a2, iv (2 : Int32), iv (0 : Int32), rv s0] [])) _
      refine XS.iinc X360.here hx rfl (hb hby own_d2_31) rfl (l' := #[rv a1, rv a2, rv a2, iv (2 : Int32), iv (1 : Int32), rv s0]) rfl ?_
      show Steps p.tables e below (T360.setTop (mkF m 34 #[rv a1, rv a2, rv a2, iv (2 : Int32), iv (1 : Int32), rv s0] [])) _
      refine XS.goto X360.here hx rfl (pc0 := 34) (pc' := 8) rfl (hb hby own_d2_34) (by decide) (by decide) ?_
      show Steps p.tables e below (T360.setTop (mkF m 8 #[rv a1, rv a2, rv a2, iv (2 : Int32), iv (1 : Int32), rv s0] [])) _
      refine XS.iload X360.here hx rfl (hb hby own_d2_8) rfl ?_
      show Steps p.tables e below (T360.setTop (mkF m 10 #[rv a1, rv a2, rv a2, iv (2 : Int32), iv (1 : Int32), rv s0] [(.int (1 : Int32))])) _
      refine XS.iloadN X360.here hx rfl (hb hby own_d2_10) rfl ?_
      show Steps p.tables e below (T360.setTop (mkF m 11 #[rv a1, rv a2, rv a2, iv (2 : Int32), iv (1 : Int32), rv s0] [(.int (2 : Int32)), (.int (1 : Int32))])) _
      refine XS.icmpNo X360.here hx rfl (hb hby own_d2_11) rfl (tlt (by decide : ((1 : Int32) < (2 : Int32)))).2.1 ?_
      show Steps p.tables e below (T360.setTop (mkF m 14 #[rv a1, rv a2, rv a2, iv (2 : Int32), iv (1 : Int32), rv s0] [])) _
      refine XS.aloadN X360.here hx rfl (hb hby own_d2_14) rfl rfl ?_
      show Steps p.tables e below (T360.setTop (mkF m 15 #[rv a1, rv a2, rv a2, iv (2 : Int32), iv (1 : Int32), rv s0] [(.ref a2)])) _
      refine XS.iload X360.here hx rfl (hb hby own_d2_15) rfl ?_
      show Steps p.tables e below (T360.setTop (mkF m 17 #[rv a1, rv a2, rv a2, iv (2 : Int32), iv (1 : Int32), rv s0] [(.int (1 : Int32)), (.ref a2)])) _
      refine X360.aaload hx (j := (1 : Int32)) (v := (.ref s1)) (by rw [e360]; exact Ar362.1) (State.isArrayOf_alike hZ.alike Ar362.2.1) rfl Ar362.2.2 hin362 hat362 (g := (mkF m 17 #[rv a1, rv a2, rv a2, iv (2 : Int32), iv (1 : Int32), rv s0] [(.int (1 : Int32)), (.ref a2)])) rfl rfl (hb hby own_d2_17) _ ?_
      show Steps p.tables e below (T360.setTop (mkF m 18 #[rv a1, rv a2, rv a2, iv (2 : Int32), iv (1 : Int32), rv s0] [(.ref s1)])) _
      refine XS.astore X360.here hx rfl (hb hby own_d2_18) rfl rfl (l' := #[rv a1, rv a2, rv a2, iv (2 : Int32), iv (1 : Int32), rv s1]) rfl ?_
      show Steps p.tables e below (T360.setTop (mkF m 20 #[rv a1, rv a2, rv a2, iv (2 : Int32), iv (1 : Int32), rv s1] [])) _
      refine XS.aload X360.here hx rfl (hb hby own_d2_20) rfl rfl ?_
      show Steps p.tables e below (T360.setTop (mkF m 22 #[rv a1, rv a2, rv a2, iv (2 : Int32), iv (1 : Int32), rv s1] [(.ref s1)])) _
      refine XS.aloadN X360.here hx rfl (hb hby own_d2_22) rfl rfl ?_
      show Steps p.tables e below (T360.setTop (mkF m 23 #[rv a1, rv a2, rv a2, iv (2 : Int32), iv (1 : Int32), rv s1] [(.ref a1), (.ref s1)])) _
      refine st363.trans ?_
      exact k
    by_cases hc26_365 : (own_eqL L1 LN) = (0 : Int32)
    · obtain ⟨fs, hr, hrun, hended, hW, hsame⟩ := X363.leave (v := some (.int (0 : Int32))) (fun h => by rw [Bd.returns] at h; cases h)
      refine ⟨_, _, pre364 _ ?_, hrun, hended, _, _, rfl, ?_, ⟨_, rfl⟩, hW, hsame.mono (by decide) (by decide)⟩
      · show Steps p.tables e below (T363.setTop (mkF m 26 #[rv a1, rv a2, rv a2, iv (2 : Int32), iv (1 : Int32), rv s1] [(.int (own_eqL L1 LN))])) _
        refine XS.ifYes X363.here hx rfl (pc0 := 26) (pc' := 31) rfl (hb hby own_d2_26) rfl ((if0 _ _).trans (teq hc26_365).1) (by decide) (by decide) ?_
        show Steps p.tables e below (T363.setTop (mkF m 31 #[rv a1, rv a2, rv a2, iv (2 : Int32), iv (1 : Int32), rv s1] [])) _
        refine XS.iinc X363.here hx rfl (hb hby own_d2_31) rfl (l' := #[rv a1, rv a2, rv a2, iv (2 : Int32), iv (2 : Int32), rv s1]) rfl ?_
        show Steps p.tables e below (T363.setTop (mkF m 34 #[rv a1, rv a2, rv a2, iv (2 : Int32), iv (2 : Int32), rv s1] [])) _
        refine XS.goto X363.here hx rfl (pc0 := 34) (pc' := 8) rfl (hb hby own_d2_34) (by decide) (by decide) ?_
        show Steps p.tables e below (T363.setTop (mkF m 8 #[rv a1, rv a2, rv a2, iv (2 : Int32), iv (2 : Int32), rv s1] [])) _
        refine XS.iload X363.here hx rfl (hb hby own_d2_8) rfl ?_
        show Steps p.tables e below (T363.setTop (mkF m 10 #[rv a1, rv a2, rv a2, iv (2 : Int32), iv (2 : Int32), rv s1] [(.int (2 : Int32))])) _
        refine XS.iloadN X363.here hx rfl (hb hby own_d2_10) rfl ?_
        show Steps p.tables e below (T363.setTop (mkF m 11 #[rv a1, rv a2, rv a2, iv (2 : Int32), iv (2 : Int32), rv s1] [(.int (2 : Int32)), (.int (2 : Int32))])) _
        refine XS.icmpYes X363.here hx rfl (pc0 := 11) (pc' := 37) rfl (hb hby own_d2_11) rfl (flt (by decide : ¬ ((2 : Int32) < (2 : Int32)))).2.1 (by decide) (by decide) ?_
        show Steps p.tables e below (T363.setTop (mkF m 37 #[rv a1, rv a2, rv a2, iv (2 : Int32), iv (2 : Int32), rv s1] [])) _
        refine XS.iconst X363.here hx rfl (hb hby own_d2_37) ?_
        show Steps p.tables e below (T363.setTop (mkF m 38 #[rv a1, rv a2, rv a2, iv (2 : Int32), iv (2 : Int32), rv s1] [(.int (0 : Int32))])) _
        exact retN X363 hx (t := .boolean) Bd.returns (by simp) (hb hby own_d2_38) hr
      · show QO_2 Z a1 a2 cw k2 LN s0 s1 L0 L1 h0 n0 _ T363.heap _
        rw [e363]
        exact ⟨(congrArg (fun z => some (Value.int z)) (by unfold own_f_rmO_2; rw [if_pos hc26, if_pos hc26_365] : (0 : Int32) = (own_f_rmO_2 LN L0 L1))), N363, rfl⟩
    · obtain ⟨fs, hr, hrun, hended, hW, hsame⟩ := X363.leave (v := some (.int (1 : Int32))) (fun h => by rw [Bd.returns] at h; cases h)
      refine ⟨_, _, pre364 _ ?_, hrun, hended, _, _, rfl, ?_, ⟨_, rfl⟩, hW, hsame.mono (by decide) (by decide)⟩
      · show Steps p.tables e below (T363.setTop (mkF m 26 #[rv a1, rv a2, rv a2, iv (2 : Int32), iv (1 : Int32), rv s1] [(.int (own_eqL L1 LN))])) _
        refine XS.ifNo X363.here hx rfl (hb hby own_d2_26) rfl ((if0 _ _).trans (feq hc26_365).1) ?_
        show Steps p.tables e below (T363.setTop (mkF m 29 #[rv a1, rv a2, rv a2, iv (2 : Int32), iv (1 : Int32), rv s1] [])) _
        refine XS.iconst X363.here hx rfl (hb hby own_d2_29) ?_
        show Steps p.tables e below (T363.setTop (mkF m 30 #[rv a1, rv a2, rv a2, iv (2 : Int32), iv (1 : Int32), rv s1] [(.int (1 : Int32))])) _
        exact retN X363 hx (t := .boolean) Bd.returns (by simp) (hb hby own_d2_30) hr
      · show QO_2 Z a1 a2 cw k2 LN s0 s1 L0 L1 h0 n0 _ T363.heap _
        rw [e363]
        exact ⟨(congrArg (fun z => some (Value.int z)) (by unfold own_f_rmO_2; rw [if_pos hc26, if_neg hc26_365] : (1 : Int32) = (own_f_rmO_2 LN L0 L1))), N363, rfl⟩
  · obtain ⟨fs, hr, hrun, hended, hW, hsame⟩ := X360.leave (v := some (.int (1 : Int32))) (fun h => by rw [Bd.returns] at h; cases h)
    refine ⟨_, _, pre361 _ ?_, hrun, hended, _, _, rfl, ?_, ⟨_, rfl⟩, hW, hsame.mono (by decide) (by decide)⟩
    · show Steps p.tables e below (T360.setTop (mkF m 26 #[rv a1, rv a2, rv a2, iv (2 : Int32), iv (0 : Int32), rv s0] [(.int (own_eqL L0 LN))])) _
      refine XS.ifNo X360.here hx rfl (hb hby own_d2_26) rfl ((if0 _ _).trans (feq hc26).1) ?_
      show Steps p.tables e below (T360.setTop (mkF m 29 #[rv a1, rv a2, rv a2, iv (2 : Int32), iv (0 : Int32), rv s0] [])) _
      refine XS.iconst X360.here hx rfl (hb hby own_d2_29) ?_
      show Steps p.tables e below (T360.setTop (mkF m 30 #[rv a1, rv a2, rv a2, iv (2 : Int32), iv (0 : Int32), rv s0] [(.int (1 : Int32))])) _
      exact retN X360 hx (t := .boolean) Bd.returns (by simp) (hb hby own_d2_30) hr
    · show QO_2 Z a1 a2 cw k2 LN s0 s1 L0 L1 h0 n0 _ T360.heap _
      rw [e360]
      exact ⟨(congrArg (fun z => some (Value.int z)) (by unfold own_f_rmO_2; rw [if_neg hc26] : (1 : Int32) = (own_f_rmO_2 LN L0 L1))), N360, rfl⟩
def own_f_rmO_3 (LN : List Int32) (L0 : List Int32) (L1 : List Int32) (L2 : List Int32) : Int32 := if (own_eqL L0 LN) = (0 : Int32) then if (own_eqL L1 LN) = (0 : Int32) then if (own_eqL L2 LN) = (0 : Int32) then (0 : Int32) else (1 : Int32) else (1 : Int32) else (1 : Int32)
theorem own_ef_rmO_3 (m : MethodId) (a1 : Addr) (a2 : Addr) : entryFrame m #[(.ref a1), (.ref a2)] 6 = mkF m 0 #[.val (.ref a1), .val (.ref a2), .unset, .unset, .unset, .unset] [] := by first | (simp [entryFrame, mkF, argsToLocals, Value.category]; done) | rfl
def QO_3 (Z : State) (a1 : Addr) (a2 : Addr) (cw : Int32) (k2 : ClassId) (LN : List Int32) (s0 : Addr) (s1 : Addr) (s2 : Addr) (L0 : List Int32) (L1 : List Int32) (L2 : List Int32) (h0 : Heap) (n0 : Nat) (v : Option Value) (h : Heap) (L : List Loc) : Prop := v = some (.int (own_f_rmO_3 LN L0 L1 L2)) ∧ Fr n0 L ∧ h = h0
set_option maxRecDepth 65536 in
set_option maxHeartbeats 40000000 in
theorem rmO_3 (l : Launch) (Z : State) (a0 : Array Value) (hw : ∀ d ∈ tables_1, d.before a0 Z = true) (ws : List Jvm.Cond) (a1 : Addr) (a2 : Addr) (cw : Int32) (k2 : ClassId) (LN : List Int32) (s0 : Addr) (s1 : Addr) (s2 : Addr) (L0 : List Int32) (L1 : List Int32) (L2 : List Int32) (h0 : Heap) (n0 : Nat) (Z0 : n0 ≤ h0.size) (T_a1 : own_Str Z h0 a1 LN) (V_a2 : Arv Z h0 a2 k2 (.object "java/lang/String") (3 : Int32) [(.ref s0), (.ref s1), (.ref s2)] .null) (T_s0 : own_Str Z h0 s0 L0) (T_s1 : own_Str Z h0 s1 L1) (T_s2 : own_Str Z h0 s2 L2) (S_COMPACT_STRINGS : Sta Z h0 "java/lang/String" "COMPACT_STRINGS" "Z" (.int cw)) (hw0 : ¬ (cw = (0 : Int32))) (hn_LN : LN.length ≤ 3) (hn_L0 : L0.length ≤ 3) (hn_L1 : L1.length ≤ 3) (hn_L2 : L2.length ≤ 3) :
    MetFree l (⟨"com/example/partybook/partybook/io/XmlInput", "isOneOf", "(Ljava/lang/String;[Ljava/lang/String;)Z"⟩ : MethodName) (head1 (Jvm.Cond.code (⟨"com/example/partybook/partybook/io/XmlInput", "isOneOf", "(Ljava/lang/String;[Ljava/lang/String;)Z"⟩ : MethodName) prog_38_method_21_code 6 (some .boolean) :: ws) ({ frames := 2, cells := 0, slots := 0, locals := 28 } : Room)) (fun a U => a = #[(.ref a1), (.ref a2)] ∧ Z.Warmed39 U.vm ∧ U.heap = h0) (fun _ _ _ _ _ => True) (fun _ U o U' => ∃ v L, o = .returned v ∧ QO_3 Z a1 a2 cw k2 LN s0 s1 s2 L0 L1 L2 h0 n0 v U'.heap L ∧ FrameEnd U o U' L ({ frames := 2, cells := 0, slots := 0, locals := 28 } : Room).cells ({ frames := 2, cells := 0, slots := 0, locals := 28 } : Room).slots) := by
  refine MetFree.of_bodySF (plainFor_of_name own_pn4) hisR ?_
  intro p e s m args below meth c s₁ Bd hml0 hP hK
  obtain ⟨rfl, hZ, hh⟩ := hP
  have hx := Bd.exec
  have hby := Bd.bytes
  have hml : c.maxLocals = 6 := hml0
  have hown : s.vm.findClass "com/example/partybook/partybook/io/XmlInput" = some m.cls := findClass_of_methodNamed Bd.named
  have hnm := (name_of_methodNamed Bd.named Bd.method).1
  have X0 : Stand p l e ({ frames := 2, cells := 0, slots := 0, locals := 28 } : Room) s m #[(.ref a1), (.ref a2)] below meth c s₁ [] 0 0 := Stand.of_body Bd
  have e0 : s₁.heap = h0 := by rw [← hh, Bd.state]; rfl
  have N0 := Fr.nil n0
  have K0 : Keep h0 h0 [] := Keep.refl h0 _
  have pre0 : ∀ t, Steps p.tables e below (s₁.setTop (mkF m 0 #[.val (.ref a1), .val (.ref a2), .unset, .unset, .unset, .unset] [])) t → Steps p.tables e below (s₁.setTop (entryFrame m #[(.ref a1), (.ref a2)] 6)) t := fun t k => castTop (own_ef_rmO_3 m a1 a2) k
  obtain ⟨cl378, Ar378, q378, S378, M378, H378, G378⟩ := id V_a2
  obtain ⟨cl379, Ar379, q379, S379, M379, H379, G379⟩ := id V_a2
  have hin379 : ¬ ((0 : Int32) < 0 ∨ cl379.slots.size ≤ ((0 : Int32)).toNatClampNeg) := inb_of S379 ⟨by decide, by decide⟩
  have hat379 : cl379.slots[((0 : Int32)).toNatClampNeg]? = some (.ref s0) := Has.at H379 hin379 rfl
  obtain ⟨cq380, kq380, q380a, q380b, q380c⟩ := isOf hZ e0 T_s0.1
  obtain ⟨_, _, ⟨T380, L380, k380, n380⟩, -, X380, ⟨Lc380, hQ380, l380, y380, z380⟩, st380⟩ := X0.virtualBack hx (y := (⟨"java/lang/String", "equals", "(Ljava/lang/Object;)Z"⟩ : MethodName)) (z := (⟨"java/lang/String", "equals", "(Ljava/lang/Object;)Z"⟩ : MethodName)) hown (mvT hZ (hw _ (List.mem_of_getElem? (i := 42) rfl))) (mvT hZ (hw _ (List.mem_of_getElem? (i := 43) rfl))) (notFace_of_selects (args := #[]) (mvT hZ (hw _ (List.mem_of_getElem? (i := 45) rfl)))) (mvT hZ (hw _ (List.mem_of_getElem? (i := 45) rfl))) (mvT hZ (hw _ (List.mem_of_getElem? (i := 44) rfl))) (by decide) (backOf (W := 0) (rmSE l Z a0 hw [] s0 a1 cw L0 LN h0 n0 (Nat.le_trans Z0 K0.1) T_s0 T_a1 S_COMPACT_STRINGS hw0 hn_L0 hn_LN) hZ (hw _ (List.mem_of_getElem? (i := 46) rfl)) (hw _ (List.mem_of_getElem? (i := 5) rfl)) (by decide) (by decide)) q380a q380c (g := (mkF m 23 #[rv a1, rv a2, rv a2, iv (3 : Int32), iv (0 : Int32), rv s0] [(.ref a1), (.ref s0)])) rfl (by rw [hml]; rfl) (Steps.refl _) (argsL := [(.ref a1)]) (rest := []) (lenOf own_pd10 rfl) rfl (by show 2 * 0 + _ ≤ _; exact Nat.le_of_eq rfl) (hb hby own_d2_23) (fun _ _ => ⟨rfl, e0, (by decide : 0 + 0 ≤ _), (by decide : 0 + 0 ≤ _)⟩)
  dsimp only [Pt.U, Pt.locs, Pt.cells, Pt.slots] at X380 l380 y380 z380 st380 hQ380
  subst l380 y380 z380
  obtain ⟨rfl, N380q, e380⟩ := hQ380
  have N380 := Fr.app N0 N380q
  have pre381 : ∀ t, Steps p.tables e below (T380.setTop (mkF m 26 #[rv a1, rv a2, rv a2, iv (3 : Int32), iv (0 : Int32), rv s0] [(.int (own_eqL L0 LN))])) t → Steps p.tables e below (s₁.setTop (entryFrame m #[(.ref a1), (.ref a2)] 6)) t := fun t k => by
    refine pre0 _ ?_
    show Steps p.tables e below (s₁.setTop (mkF m 0 #[rv a1, rv a2, .unset, .unset, .unset, .unset] [])) _
    refine XS.aloadN X0.here hx rfl (hb hby own_d2_0) rfl rfl ?_
    show Steps p.tables e below (s₁.setTop (mkF m 1 #[rv a1, rv a2, .unset, .unset, .unset, .unset] [(.ref a2)])) _
    refine XS.astoreN X0.here hx rfl (hb hby own_d2_1) rfl rfl (l' := #[rv a1, rv a2, rv a2, .unset, .unset, .unset]) rfl ?_
    show Steps p.tables e below (s₁.setTop (mkF m 2 #[rv a1, rv a2, rv a2, .unset, .unset, .unset] [])) _
    refine XS.aloadN X0.here hx rfl (hb hby own_d2_2) rfl rfl ?_
    show Steps p.tables e below (s₁.setTop (mkF m 3 #[rv a1, rv a2, rv a2, .unset, .unset, .unset] [(.ref a2)])) _
    refine X0.arraylength hx (by rw [e0]; exact Ar378.1) (State.isArrayOf_alike hZ.alike Ar378.2.1) (g := (mkF m 3 #[rv a1, rv a2, rv a2, .unset, .unset, .unset] [(.ref a2)])) rfl rfl (hb hby own_d2_3) _ ?_
    rw [len_of S378 M378]
    show Steps p.tables e below (s₁.setTop (mkF m 4 #[rv a1, rv a2, rv a2, .unset, .unset, .unset] [(.int (3 : Int32))])) _
    refine XS.istoreN X0.here hx rfl (hb hby own_d2_4) rfl (l' := #[rv a1, rv a2, rv a2, iv (3 : Int32), .unset, .unset]) rfl ?_
    show Steps p.tables e below (s₁.setTop (mkF m 5 #[rv a1, rv a2, rv a2, iv (3 : Int32), .unset, .unset] [])) _
    refine XS.iconst X0.here hx rfl (hb hby own_d2_5) ?_
    show Steps p.tables e below (s₁.setTop (mkF m 6 #[rv a1, rv a2, rv a2, iv (3 : Int32), .unset, .unset] [(.int (0 : Int32))])) _
    refine XS.istore X0.here hx rfl (hb hby own_d2_6) rfl (l' := #[rv a1, rv a2, rv a2, iv (3 : Int32), iv (0 : Int32), .unset]) rfl ?_
    show Steps p.tables e below (s₁.setTop (mkF m 8 #[rv a1, rv a2, rv a2, iv (3 : Int32), iv (0 : Int32), .unset] [])) _
    refine XS.iload X0.here hx rfl (hb hby own_d2_8) rfl ?_
    show Steps p.tables e below (s₁.setTop (mkF m 10 #[rv a1, rv a2, rv a2, iv (3 : Int32), iv (0 : Int32), .unset] [(.int (0 : Int32))])) _
    refine XS.iloadN X0.here hx rfl (hb hby own_d2_10) rfl ?_
    show Steps p.tables e below (s₁.setTop (mkF m 11 #[rv a1, rv a2, rv a2, iv (3 : Int32), iv (0 : Int32), .unset] [(.int (3 : Int32)), (.int (0 : Int32))])) _
    refine XS.icmpNo X0.here hx rfl (hb hby own_d2_11) rfl (tlt (by decide : ((0 : Int32) < (3 : Int32)))).2.1 ?_
    show Steps p.tables e below (s₁.setTop (mkF m 14 #[rv a1, rv a2, rv a2, iv (3 : Int32), iv (0 : Int32), .unset] [])) _
    refine XS.aloadN X0.here hx rfl (hb hby own_d2_14) rfl rfl ?_
    show Steps p.tables e below (s₁.setTop (mkF m 15 #[rv a1, rv a2, rv a2, iv (3 : Int32), iv (0 : Int32), .unset] [(.ref a2)])) _
    refine XS.iload X0.here hx rfl (hb hby own_d2_15) rfl ?_
    show Steps p.tables e below (s₁.setTop (mkF m 17 #[rv a1, rv a2, rv a2, iv (3 : Int32), iv (0 : Int32), .unset] [(.int (0 : Int32)), (.ref a2)])) _
    refine X0.aaload hx (j := (0 : Int32)) (v := (.ref s0)) (by rw [e0]; exact Ar379.1) (State.isArrayOf_alike hZ.alike Ar379.2.1) rfl Ar379.2.2 hin379 hat379 (g := (mkF m 17 #[rv a1, rv a2, rv a2, iv (3 : Int32), iv (0 : Int32), .unset] [(.int (0 : Int32)), (.ref a2)])) rfl rfl (hb hby own_d2_17) _ ?_
    show Steps p.tables e below (s₁.setTop (mkF m 18 #[rv a1, rv a2, rv a2, iv (3 : Int32), iv (0 : Int32), .unset] [(.ref s0)])) _
    refine XS.astore X0.here hx rfl (hb hby own_d2_18) rfl rfl (l' := #[rv a1, rv a2, rv a2, iv (3 : Int32), iv (0 : Int32), rv s0]) rfl ?_
    show Steps p.tables e below (s₁.setTop (mkF m 20 #[rv a1, rv a2, rv a2, iv (3 : Int32), iv (0 : Int32), rv s0] [])) _
    refine XS.aload X0.here hx rfl (hb hby own_d2_20) rfl rfl ?_
    show Steps p.tables e below (s₁.setTop (mkF m 22 #[rv a1, rv a2, rv a2, iv (3 : Int32), iv (0 : Int32), rv s0] [(.ref s0)])) _
    refine XS.aloadN X0.here hx rfl (hb hby own_d2_22) rfl rfl ?_
    show Steps p.tables e below (s₁.setTop (mkF m 23 #[rv a1, rv a2, rv a2, iv (3 : Int32), iv (0 : Int32), rv s0] [(.ref a1), (.ref s0)])) _
    refine st380.trans ?_
    exact k
  by_cases hc26 : (own_eqL L0 LN) = (0 : Int32)
  · obtain ⟨cl382, Ar382, q382, S382, M382, H382, G382⟩ := id V_a2
    have hin382 : ¬ ((1 : Int32) < 0 ∨ cl382.slots.size ≤ ((1 : Int32)).toNatClampNeg) := inb_of S382 ⟨by decide, by decide⟩
    have hat382 : cl382.slots[((1 : Int32)).toNatClampNeg]? = some (.ref s1) := Has.at H382 hin382 rfl
    obtain ⟨cq383, kq383, q383a, q383b, q383c⟩ := isOf hZ e380 T_s1.1
    obtain ⟨_, _, ⟨T383, L383, k383, n383⟩, -, X383, ⟨Lc383, hQ383, l383, y383, z383⟩, st383⟩ := X380.virtualBack hx (y := (⟨"java/lang/String", "equals", "(Ljava/lang/Object;)Z"⟩ : MethodName)) (z := (⟨"java/lang/String", "equals", "(Ljava/lang/Object;)Z"⟩ : MethodName)) hown (mvT hZ (hw _ (List.mem_of_getElem? (i := 42) rfl))) (mvT hZ (hw _ (List.mem_of_getElem? (i := 43) rfl))) (notFace_of_selects (args := #[]) (mvT hZ (hw _ (List.mem_of_getElem? (i := 45) rfl)))) (mvT hZ (hw _ (List.mem_of_getElem? (i := 45) rfl))) (mvT hZ (hw _ (List.mem_of_getElem? (i := 44) rfl))) (by decide) (backOf (W := 0) (rmSE l Z a0 hw [] s1 a1 cw L1 LN h0 n0 (Nat.le_trans Z0 K0.1) T_s1 T_a1 S_COMPACT_STRINGS hw0 hn_L1 hn_LN) hZ (hw _ (List.mem_of_getElem? (i := 46) rfl)) (hw _ (List.mem_of_getElem? (i := 5) rfl)) (by decide) (by decide)) q383a q383c (g := (mkF m 23 #[rv a1, rv a2, rv a2, iv (3 : Int32), iv (1 : Int32), rv s1] [(.ref a1), (.ref s1)])) rfl (by rw [hml]; rfl) (Steps.refl _) (argsL := [(.ref a1)]) (rest := []) (lenOf own_pd10 rfl) rfl (by show 2 * 0 + _ ≤ _; exact Nat.le_of_eq rfl) (hb hby own_d2_23) (fun _ _ => ⟨rfl, e380, (by decide : 0 + 0 ≤ _), (by decide : 0 + 0 ≤ _)⟩)
    dsimp only [Pt.U, Pt.locs, Pt.cells, Pt.slots] at X383 l383 y383 z383 st383 hQ383
    subst l383 y383 z383
    obtain ⟨rfl, N383q, e383⟩ := hQ383
    have N383 := Fr.app N380 N383q
    have pre384 : ∀ t, Steps p.tables e below (T383.setTop (mkF m 26 #[rv a1, rv a2, rv a2, iv (3 : Int32), iv (1 : Int32), rv s1] [(.int (own_eqL L1 LN))])) t → Steps p.tables e below (s₁.setTop (entryFrame m #[(.ref a1), (.ref a2)] 6)) t := fun t k => by
      refine pre381 _ ?_
      show Steps p.tables e below (T380.setTop (mkF m 26 #[rv a1, rv a2, rv a2, iv (3 : Int32), iv (0 : Int32), rv s0] [(.int (own_eqL L0 LN))])) _
      refine XS.ifYes X380.here hx rfl (pc0 := 26) (pc' := 31) rfl (hb hby own_d2_26) rfl ((if0 _ _).trans (teq hc26).1) (by decide) (by decide) ?_
      show Steps p.tables e below (T380.setTop (mkF m 31 #[rv a1, rv a2, rv a2, iv (3 : Int32), iv (0 : Int32), rv s0] [])) _
      refine XS.iinc X380.here hx rfl (hb hby own_d2_31) rfl (l' := #[rv a1, rv a2, rv a2, iv (3 : Int32), iv (1 : Int32), rv s0]) rfl ?_
      show Steps p.tables e below (T380.setTop (mkF m 34 #[rv a1, rv a2, rv a2, iv (3 : Int32), iv (1 : Int32), rv s0] [])) _
      refine XS.goto X380.here hx rfl (pc0 := 34) (pc' := 8) rfl (hb hby own_d2_34) (by decide) (by decide) ?_
      show Steps p.tables e below (T380.setTop (mkF m 8 #[rv a1, rv a2, rv a2, iv (3 : Int32), iv (1 : Int32), rv s0] [])) _
      refine XS.iload X380.here hx rfl (hb hby own_d2_8) rfl ?_
      show Steps p.tables e below (T380.setTop (mkF m 10 #[rv a1, rv a2, rv a2, iv (3 : Int32), iv (1 : Int32), rv s0] [(.int (1 : Int32))])) _
      refine XS.iloadN X380.here hx rfl (hb hby own_d2_10) rfl ?_
      show Steps p.tables e below (T380.setTop (mkF m 11 #[rv a1, rv a2, rv a2, iv (3 : Int32), iv (1 : Int32), rv s0] [(.int (3 : Int32)), (.int (1 : Int32))])) _
      refine XS.icmpNo X380.here hx rfl (hb hby own_d2_11) rfl (tlt (by decide : ((1 : Int32) < (3 : Int32)))).2.1 ?_
      show Steps p.tables e below (T380.setTop (mkF m 14 #[rv a1, rv a2, rv a2, iv (3 : Int32), iv (1 : Int32), rv s0] [])) _
      refine XS.aloadN X380.here hx rfl (hb hby own_d2_14) rfl rfl ?_
      show Steps p.tables e below (T380.setTop (mkF m 15 #[rv a1, rv a2, rv a2, iv (3 : Int32), iv (1 : Int32), rv s0] [(.ref a2)])) _
      refine XS.iload X380.here hx rfl (hb hby own_d2_15) rfl ?_
      show Steps p.tables e below (T380.setTop (mkF m 17 #[rv a1, rv a2, rv a2, iv (3 : Int32), iv (1 : Int32), rv s0] [(.int (1 : Int32)), (.ref a2)])) _
      refine X380.aaload hx (j := (1 : Int32)) (v := (.ref s1)) (by rw [e380]; exact Ar382.1) (State.isArrayOf_alike hZ.alike Ar382.2.1) rfl Ar382.2.2 hin382 hat382 (g := (mkF m 17 #[rv a1, rv a2, rv a2, iv (3 : Int32), iv (1 : Int32), rv s0] [(.int (1 : Int32)), (.ref a2)])) rfl rfl (hb hby own_d2_17) _ ?_
      show Steps p.tables e below (T380.setTop (mkF m 18 #[rv a1, rv a2, rv a2, iv (3 : Int32), iv (1 : Int32), rv s0] [(.ref s1)])) _
      refine XS.astore X380.here hx rfl (hb hby own_d2_18) rfl rfl (l' := #[rv a1, rv a2, rv a2, iv (3 : Int32), iv (1 : Int32), rv s1]) rfl ?_
      show Steps p.tables e below (T380.setTop (mkF m 20 #[rv a1, rv a2, rv a2, iv (3 : Int32), iv (1 : Int32), rv s1] [])) _
      refine XS.aload X380.here hx rfl (hb hby own_d2_20) rfl rfl ?_
      show Steps p.tables e below (T380.setTop (mkF m 22 #[rv a1, rv a2, rv a2, iv (3 : Int32), iv (1 : Int32), rv s1] [(.ref s1)])) _
      refine XS.aloadN X380.here hx rfl (hb hby own_d2_22) rfl rfl ?_
      show Steps p.tables e below (T380.setTop (mkF m 23 #[rv a1, rv a2, rv a2, iv (3 : Int32), iv (1 : Int32), rv s1] [(.ref a1), (.ref s1)])) _
      refine st383.trans ?_
      exact k
    by_cases hc26_385 : (own_eqL L1 LN) = (0 : Int32)
    · obtain ⟨cl386, Ar386, q386, S386, M386, H386, G386⟩ := id V_a2
      have hin386 : ¬ ((2 : Int32) < 0 ∨ cl386.slots.size ≤ ((2 : Int32)).toNatClampNeg) := inb_of S386 ⟨by decide, by decide⟩
      have hat386 : cl386.slots[((2 : Int32)).toNatClampNeg]? = some (.ref s2) := Has.at H386 hin386 rfl
      obtain ⟨cq387, kq387, q387a, q387b, q387c⟩ := isOf hZ e383 T_s2.1
      obtain ⟨_, _, ⟨T387, L387, k387, n387⟩, -, X387, ⟨Lc387, hQ387, l387, y387, z387⟩, st387⟩ := X383.virtualBack hx (y := (⟨"java/lang/String", "equals", "(Ljava/lang/Object;)Z"⟩ : MethodName)) (z := (⟨"java/lang/String", "equals", "(Ljava/lang/Object;)Z"⟩ : MethodName)) hown (mvT hZ (hw _ (List.mem_of_getElem? (i := 42) rfl))) (mvT hZ (hw _ (List.mem_of_getElem? (i := 43) rfl))) (notFace_of_selects (args := #[]) (mvT hZ (hw _ (List.mem_of_getElem? (i := 45) rfl)))) (mvT hZ (hw _ (List.mem_of_getElem? (i := 45) rfl))) (mvT hZ (hw _ (List.mem_of_getElem? (i := 44) rfl))) (by decide) (backOf (W := 0) (rmSE l Z a0 hw [] s2 a1 cw L2 LN h0 n0 (Nat.le_trans Z0 K0.1) T_s2 T_a1 S_COMPACT_STRINGS hw0 hn_L2 hn_LN) hZ (hw _ (List.mem_of_getElem? (i := 46) rfl)) (hw _ (List.mem_of_getElem? (i := 5) rfl)) (by decide) (by decide)) q387a q387c (g := (mkF m 23 #[rv a1, rv a2, rv a2, iv (3 : Int32), iv (2 : Int32), rv s2] [(.ref a1), (.ref s2)])) rfl (by rw [hml]; rfl) (Steps.refl _) (argsL := [(.ref a1)]) (rest := []) (lenOf own_pd10 rfl) rfl (by show 2 * 0 + _ ≤ _; exact Nat.le_of_eq rfl) (hb hby own_d2_23) (fun _ _ => ⟨rfl, e383, (by decide : 0 + 0 ≤ _), (by decide : 0 + 0 ≤ _)⟩)
      dsimp only [Pt.U, Pt.locs, Pt.cells, Pt.slots] at X387 l387 y387 z387 st387 hQ387
      subst l387 y387 z387
      obtain ⟨rfl, N387q, e387⟩ := hQ387
      have N387 := Fr.app N383 N387q
      have pre388 : ∀ t, Steps p.tables e below (T387.setTop (mkF m 26 #[rv a1, rv a2, rv a2, iv (3 : Int32), iv (2 : Int32), rv s2] [(.int (own_eqL L2 LN))])) t → Steps p.tables e below (s₁.setTop (entryFrame m #[(.ref a1), (.ref a2)] 6)) t := fun t k => by
        refine pre384 _ ?_
        show Steps p.tables e below (T383.setTop (mkF m 26 #[rv a1, rv a2, rv a2, iv (3 : Int32), iv (1 : Int32), rv s1] [(.int (own_eqL L1 LN))])) _
        refine XS.ifYes X383.here hx rfl (pc0 := 26) (pc' := 31) rfl (hb hby own_d2_26) rfl ((if0 _ _).trans (teq hc26_385).1) (by decide) (by decide) ?_
        show Steps p.tables e below (T383.setTop (mkF m 31 #[rv a1, rv a2, rv a2, iv (3 : Int32), iv (1 : Int32), rv s1] [])) _
        refine XS.iinc X383.here hx rfl (hb hby own_d2_31) rfl (l' := #[rv a1, rv a2, rv a2, iv (3 : Int32), iv (2 : Int32), rv s1]) rfl ?_
        show Steps p.tables e below (T383.setTop (mkF m 34 #[rv a1, rv a2, rv a2, iv (3 : Int32), iv (2 : Int32), rv s1] [])) _
        refine XS.goto X383.here hx rfl (pc0 := 34) (pc' := 8) rfl (hb hby own_d2_34) (by decide) (by decide) ?_
        show Steps p.tables e below (T383.setTop (mkF m 8 #[rv a1, rv a2, rv a2, iv (3 : Int32), iv (2 : Int32), rv s1] [])) _
        refine XS.iload X383.here hx rfl (hb hby own_d2_8) rfl ?_
        show Steps p.tables e below (T383.setTop (mkF m 10 #[rv a1, rv a2, rv a2, iv (3 : Int32), iv (2 : Int32), rv s1] [(.int (2 : Int32))])) _
        refine XS.iloadN X383.here hx rfl (hb hby own_d2_10) rfl ?_
        show Steps p.tables e below (T383.setTop (mkF m 11 #[rv a1, rv a2, rv a2, iv (3 : Int32), iv (2 : Int32), rv s1] [(.int (3 : Int32)), (.int (2 : Int32))])) _
        refine XS.icmpNo X383.here hx rfl (hb hby own_d2_11) rfl (tlt (by decide : ((2 : Int32) < (3 : Int32)))).2.1 ?_
        show Steps p.tables e below (T383.setTop (mkF m 14 #[rv a1, rv a2, rv a2, iv (3 : Int32), iv (2 : Int32), rv s1] [])) _
        refine XS.aloadN X383.here hx rfl (hb hby own_d2_14) rfl rfl ?_
        show Steps p.tables e below (T383.setTop (mkF m 15 #[rv a1, rv a2, rv a2, iv (3 : Int32), iv (2 : Int32), rv s1] [(.ref a2)])) _
        refine XS.iload X383.here hx rfl (hb hby own_d2_15) rfl ?_
        show Steps p.tables e below (T383.setTop (mkF m 17 #[rv a1, rv a2, rv a2, iv (3 : Int32), iv (2 : Int32), rv s1] [(.int (2 : Int32)), (.ref a2)])) _
        refine X383.aaload hx (j := (2 : Int32)) (v := (.ref s2)) (by rw [e383]; exact Ar386.1) (State.isArrayOf_alike hZ.alike Ar386.2.1) rfl Ar386.2.2 hin386 hat386 (g := (mkF m 17 #[rv a1, rv a2, rv a2, iv (3 : Int32), iv (2 : Int32), rv s1] [(.int (2 : Int32)), (.ref a2)])) rfl rfl (hb hby own_d2_17) _ ?_
        show Steps p.tables e below (T383.setTop (mkF m 18 #[rv a1, rv a2, rv a2, iv (3 : Int32), iv (2 : Int32), rv s1] [(.ref s2)])) _
        refine XS.astore X383.here hx rfl (hb hby own_d2_18) rfl rfl (l' := #[rv a1, rv a2, rv a2, iv (3 : Int32), iv (2 : Int32), rv s2]) rfl ?_
        show Steps p.tables e below (T383.setTop (mkF m 20 #[rv a1, rv a2, rv a2, iv (3 : Int32), iv (2 : Int32), rv s2] [])) _
        refine XS.aload X383.here hx rfl (hb hby own_d2_20) rfl rfl ?_
        show Steps p.tables e below (T383.setTop (mkF m 22 #[rv a1, rv a2, rv a2, iv (3 : Int32), iv (2 : Int32), rv s2] [(.ref s2)])) _
        refine XS.aloadN X383.here hx rfl (hb hby own_d2_22) rfl rfl ?_
        show Steps p.tables e below (T383.setTop (mkF m 23 #[rv a1, rv a2, rv a2, iv (3 : Int32), iv (2 : Int32), rv s2] [(.ref a1), (.ref s2)])) _
        refine st387.trans ?_
        exact k
      by_cases hc26_389 : (own_eqL L2 LN) = (0 : Int32)
      · obtain ⟨fs, hr, hrun, hended, hW, hsame⟩ := X387.leave (v := some (.int (0 : Int32))) (fun h => by rw [Bd.returns] at h; cases h)
        refine ⟨_, _, pre388 _ ?_, hrun, hended, _, _, rfl, ?_, ⟨_, rfl⟩, hW, hsame.mono (by decide) (by decide)⟩
        · show Steps p.tables e below (T387.setTop (mkF m 26 #[rv a1, rv a2, rv a2, iv (3 : Int32), iv (2 : Int32), rv s2] [(.int (own_eqL L2 LN))])) _
          refine XS.ifYes X387.here hx rfl (pc0 := 26) (pc' := 31) rfl (hb hby own_d2_26) rfl ((if0 _ _).trans (teq hc26_389).1) (by decide) (by decide) ?_
          show Steps p.tables e below (T387.setTop (mkF m 31 #[rv a1, rv a2, rv a2, iv (3 : Int32), iv (2 : Int32), rv s2] [])) _
          refine XS.iinc X387.here hx rfl (hb hby own_d2_31) rfl (l' := #[rv a1, rv a2, rv a2, iv (3 : Int32), iv (3 : Int32), rv s2]) rfl ?_
          show Steps p.tables e below (T387.setTop (mkF m 34 #[rv a1, rv a2, rv a2, iv (3 : Int32), iv (3 : Int32), rv s2] [])) _
          refine XS.goto X387.here hx rfl (pc0 := 34) (pc' := 8) rfl (hb hby own_d2_34) (by decide) (by decide) ?_
          show Steps p.tables e below (T387.setTop (mkF m 8 #[rv a1, rv a2, rv a2, iv (3 : Int32), iv (3 : Int32), rv s2] [])) _
          refine XS.iload X387.here hx rfl (hb hby own_d2_8) rfl ?_
          show Steps p.tables e below (T387.setTop (mkF m 10 #[rv a1, rv a2, rv a2, iv (3 : Int32), iv (3 : Int32), rv s2] [(.int (3 : Int32))])) _
          refine XS.iloadN X387.here hx rfl (hb hby own_d2_10) rfl ?_
          show Steps p.tables e below (T387.setTop (mkF m 11 #[rv a1, rv a2, rv a2, iv (3 : Int32), iv (3 : Int32), rv s2] [(.int (3 : Int32)), (.int (3 : Int32))])) _
          refine XS.icmpYes X387.here hx rfl (pc0 := 11) (pc' := 37) rfl (hb hby own_d2_11) rfl (flt (by decide : ¬ ((3 : Int32) < (3 : Int32)))).2.1 (by decide) (by decide) ?_
          show Steps p.tables e below (T387.setTop (mkF m 37 #[rv a1, rv a2, rv a2, iv (3 : Int32), iv (3 : Int32), rv s2] [])) _
          refine XS.iconst X387.here hx rfl (hb hby own_d2_37) ?_
          show Steps p.tables e below (T387.setTop (mkF m 38 #[rv a1, rv a2, rv a2, iv (3 : Int32), iv (3 : Int32), rv s2] [(.int (0 : Int32))])) _
          exact retN X387 hx (t := .boolean) Bd.returns (by simp) (hb hby own_d2_38) hr
        · show QO_3 Z a1 a2 cw k2 LN s0 s1 s2 L0 L1 L2 h0 n0 _ T387.heap _
          rw [e387]
          exact ⟨(congrArg (fun z => some (Value.int z)) (by unfold own_f_rmO_3; rw [if_pos hc26, if_pos hc26_385, if_pos hc26_389] : (0 : Int32) = (own_f_rmO_3 LN L0 L1 L2))), N387, rfl⟩
      · obtain ⟨fs, hr, hrun, hended, hW, hsame⟩ := X387.leave (v := some (.int (1 : Int32))) (fun h => by rw [Bd.returns] at h; cases h)
        refine ⟨_, _, pre388 _ ?_, hrun, hended, _, _, rfl, ?_, ⟨_, rfl⟩, hW, hsame.mono (by decide) (by decide)⟩
        · show Steps p.tables e below (T387.setTop (mkF m 26 #[rv a1, rv a2, rv a2, iv (3 : Int32), iv (2 : Int32), rv s2] [(.int (own_eqL L2 LN))])) _
          refine XS.ifNo X387.here hx rfl (hb hby own_d2_26) rfl ((if0 _ _).trans (feq hc26_389).1) ?_
          show Steps p.tables e below (T387.setTop (mkF m 29 #[rv a1, rv a2, rv a2, iv (3 : Int32), iv (2 : Int32), rv s2] [])) _
          refine XS.iconst X387.here hx rfl (hb hby own_d2_29) ?_
          show Steps p.tables e below (T387.setTop (mkF m 30 #[rv a1, rv a2, rv a2, iv (3 : Int32), iv (2 : Int32), rv s2] [(.int (1 : Int32))])) _
          exact retN X387 hx (t := .boolean) Bd.returns (by simp) (hb hby own_d2_30) hr
        · show QO_3 Z a1 a2 cw k2 LN s0 s1 s2 L0 L1 L2 h0 n0 _ T387.heap _
          rw [e387]
          exact ⟨(congrArg (fun z => some (Value.int z)) (by unfold own_f_rmO_3; rw [if_pos hc26, if_pos hc26_385, if_neg hc26_389] : (1 : Int32) = (own_f_rmO_3 LN L0 L1 L2))), N387, rfl⟩
    · obtain ⟨fs, hr, hrun, hended, hW, hsame⟩ := X383.leave (v := some (.int (1 : Int32))) (fun h => by rw [Bd.returns] at h; cases h)
      refine ⟨_, _, pre384 _ ?_, hrun, hended, _, _, rfl, ?_, ⟨_, rfl⟩, hW, hsame.mono (by decide) (by decide)⟩
      · show Steps p.tables e below (T383.setTop (mkF m 26 #[rv a1, rv a2, rv a2, iv (3 : Int32), iv (1 : Int32), rv s1] [(.int (own_eqL L1 LN))])) _
        refine XS.ifNo X383.here hx rfl (hb hby own_d2_26) rfl ((if0 _ _).trans (feq hc26_385).1) ?_
        show Steps p.tables e below (T383.setTop (mkF m 29 #[rv a1, rv a2, rv a2, iv (3 : Int32), iv (1 : Int32), rv s1] [])) _
        refine XS.iconst X383.here hx rfl (hb hby own_d2_29) ?_
        show Steps p.tables e below (T383.setTop (mkF m 30 #[rv a1, rv a2, rv a2, iv (3 : Int32), iv (1 : Int32), rv s1] [(.int (1 : Int32))])) _
        exact retN X383 hx (t := .boolean) Bd.returns (by simp) (hb hby own_d2_30) hr
      · show QO_3 Z a1 a2 cw k2 LN s0 s1 s2 L0 L1 L2 h0 n0 _ T383.heap _
        rw [e383]
        exact ⟨(congrArg (fun z => some (Value.int z)) (by unfold own_f_rmO_3; rw [if_pos hc26, if_neg hc26_385] : (1 : Int32) = (own_f_rmO_3 LN L0 L1 L2))), N383, rfl⟩
  · obtain ⟨fs, hr, hrun, hended, hW, hsame⟩ := X380.leave (v := some (.int (1 : Int32))) (fun h => by rw [Bd.returns] at h; cases h)
    refine ⟨_, _, pre381 _ ?_, hrun, hended, _, _, rfl, ?_, ⟨_, rfl⟩, hW, hsame.mono (by decide) (by decide)⟩
    · show Steps p.tables e below (T380.setTop (mkF m 26 #[rv a1, rv a2, rv a2, iv (3 : Int32), iv (0 : Int32), rv s0] [(.int (own_eqL L0 LN))])) _
      refine XS.ifNo X380.here hx rfl (hb hby own_d2_26) rfl ((if0 _ _).trans (feq hc26).1) ?_
      show Steps p.tables e below (T380.setTop (mkF m 29 #[rv a1, rv a2, rv a2, iv (3 : Int32), iv (0 : Int32), rv s0] [])) _
      refine XS.iconst X380.here hx rfl (hb hby own_d2_29) ?_
      show Steps p.tables e below (T380.setTop (mkF m 30 #[rv a1, rv a2, rv a2, iv (3 : Int32), iv (0 : Int32), rv s0] [(.int (1 : Int32))])) _
      exact retN X380 hx (t := .boolean) Bd.returns (by simp) (hb hby own_d2_30) hr
    · show QO_3 Z a1 a2 cw k2 LN s0 s1 s2 L0 L1 L2 h0 n0 _ T380.heap _
      rw [e380]
      exact ⟨(congrArg (fun z => some (Value.int z)) (by unfold own_f_rmO_3; rw [if_neg hc26] : (1 : Int32) = (own_f_rmO_3 LN L0 L1 L2))), N380, rfl⟩
theorem own_d8_0 : decode method_4_code 0 = .ok (.iload_n 1, 1) := by decide +kernel
theorem own_d8_1 : decode method_4_code 1 = .ok (.iload_n 3, 1) := by decide +kernel
theorem own_d8_2 : decode method_4_code 2 = .ok (.if_icmp .eq 5, 3) := by decide +kernel
theorem own_d8_7 : decode method_4_code 7 = .ok (.iload_n 1, 1) := by decide +kernel
theorem own_d8_8 : decode method_4_code 8 = .ok (.iconst 1, 1) := by decide +kernel
theorem own_d8_9 : decode method_4_code 9 = .ok (.if_icmp .lt 18, 3) := by decide +kernel
theorem own_d8_27 : decode method_4_code 27 = .ok (.iload_n 1, 1) := by decide +kernel
theorem own_d8_28 : decode method_4_code 28 = .ok (.iconst 2, 1) := by decide +kernel
theorem own_d8_29 : decode method_4_code 29 = .ok (.if_icmp .lt 24, 3) := by decide +kernel
theorem own_d8_53 : decode method_4_code 53 = .ok (.iload_n 1, 1) := by decide +kernel
theorem own_d8_54 : decode method_4_code 54 = .ok (.iconst 3, 1) := by decide +kernel
theorem own_d8_55 : decode method_4_code 55 = .ok (.if_icmp .lt 24, 3) := by decide +kernel
theorem own_d8_79 : decode method_4_code 79 = .ok (.iconst 1, 1) := by decide +kernel
theorem own_d8_80 : decode method_4_code 80 = .ok (.ireturn, 1) := by decide +kernel
theorem own_d8_58 : decode method_4_code 58 = .ok (.iload_n 0, 1) := by decide +kernel
theorem own_d8_59 : decode method_4_code 59 = .ok (.bipush 16, 2) := by decide +kernel
theorem own_d8_61 : decode method_4_code 61 = .ok (.iushr, 1) := by decide +kernel
theorem own_d8_62 : decode method_4_code 62 = .ok (.sipush 255, 3) := by decide +kernel
theorem own_d8_65 : decode method_4_code 65 = .ok (.iand, 1) := by decide +kernel
theorem own_d8_66 : decode method_4_code 66 = .ok (.iload_n 2, 1) := by decide +kernel
theorem own_d8_67 : decode method_4_code 67 = .ok (.bipush 16, 2) := by decide +kernel
theorem own_d8_69 : decode method_4_code 69 = .ok (.iushr, 1) := by decide +kernel
theorem own_d8_70 : decode method_4_code 70 = .ok (.sipush 255, 3) := by decide +kernel
theorem own_d8_73 : decode method_4_code 73 = .ok (.iand, 1) := by decide +kernel
theorem own_d8_74 : decode method_4_code 74 = .ok (.if_icmp .eq 5, 3) := by decide +kernel
theorem own_d8_77 : decode method_4_code 77 = .ok (.iconst 0, 1) := by decide +kernel
theorem own_d8_78 : decode method_4_code 78 = .ok (.ireturn, 1) := by decide +kernel
theorem own_d8_32 : decode method_4_code 32 = .ok (.iload_n 0, 1) := by decide +kernel
theorem own_d8_33 : decode method_4_code 33 = .ok (.bipush 8, 2) := by decide +kernel
theorem own_d8_35 : decode method_4_code 35 = .ok (.iushr, 1) := by decide +kernel
theorem own_d8_36 : decode method_4_code 36 = .ok (.sipush 255, 3) := by decide +kernel
theorem own_d8_39 : decode method_4_code 39 = .ok (.iand, 1) := by decide +kernel
theorem own_d8_40 : decode method_4_code 40 = .ok (.iload_n 2, 1) := by decide +kernel
theorem own_d8_41 : decode method_4_code 41 = .ok (.bipush 8, 2) := by decide +kernel
theorem own_d8_43 : decode method_4_code 43 = .ok (.iushr, 1) := by decide +kernel
theorem own_d8_44 : decode method_4_code 44 = .ok (.sipush 255, 3) := by decide +kernel
theorem own_d8_47 : decode method_4_code 47 = .ok (.iand, 1) := by decide +kernel
theorem own_d8_48 : decode method_4_code 48 = .ok (.if_icmp .eq 5, 3) := by decide +kernel
theorem own_d8_51 : decode method_4_code 51 = .ok (.iconst 0, 1) := by decide +kernel
theorem own_d8_52 : decode method_4_code 52 = .ok (.ireturn, 1) := by decide +kernel
theorem own_d8_12 : decode method_4_code 12 = .ok (.iload_n 0, 1) := by decide +kernel
theorem own_d8_13 : decode method_4_code 13 = .ok (.sipush 255, 3) := by decide +kernel
theorem own_d8_16 : decode method_4_code 16 = .ok (.iand, 1) := by decide +kernel
theorem own_d8_17 : decode method_4_code 17 = .ok (.iload_n 2, 1) := by decide +kernel
theorem own_d8_18 : decode method_4_code 18 = .ok (.sipush 255, 3) := by decide +kernel
theorem own_d8_21 : decode method_4_code 21 = .ok (.iand, 1) := by decide +kernel
theorem own_d8_22 : decode method_4_code 22 = .ok (.if_icmp .eq 5, 3) := by decide +kernel
theorem own_d8_25 : decode method_4_code 25 = .ok (.iconst 0, 1) := by decide +kernel
theorem own_d8_26 : decode method_4_code 26 = .ok (.ireturn, 1) := by decide +kernel
theorem own_d8_5 : decode method_4_code 5 = .ok (.iconst 0, 1) := by decide +kernel
theorem own_d8_6 : decode method_4_code 6 = .ok (.ireturn, 1) := by decide +kernel
def own_f_rmS (p1 : Int32) (p2 : Int32) (p3 : Int32) (p4 : Int32) : Int32 := if p2 = p4 then if p2 < (1 : Int32) then if p2 < (2 : Int32) then if p2 < (3 : Int32) then (1 : Int32) else if (((p1.toUInt32 >>> ((16 : Int32) &&& 31).toUInt32).toInt32) &&& (255 : Int32)) = (((p3.toUInt32 >>> ((16 : Int32) &&& 31).toUInt32).toInt32) &&& (255 : Int32)) then (1 : Int32) else (0 : Int32) else if (((p1.toUInt32 >>> ((8 : Int32) &&& 31).toUInt32).toInt32) &&& (255 : Int32)) = (((p3.toUInt32 >>> ((8 : Int32) &&& 31).toUInt32).toInt32) &&& (255 : Int32)) then if p2 < (3 : Int32) then (1 : Int32) else if (((p1.toUInt32 >>> ((16 : Int32) &&& 31).toUInt32).toInt32) &&& (255 : Int32)) = (((p3.toUInt32 >>> ((16 : Int32) &&& 31).toUInt32).toInt32) &&& (255 : Int32)) then (1 : Int32) else (0 : Int32) else (0 : Int32) else if (p1 &&& (255 : Int32)) = (p3 &&& (255 : Int32)) then if p2 < (2 : Int32) then if p2 < (3 : Int32) then (1 : Int32) else if (((p1.toUInt32 >>> ((16 : Int32) &&& 31).toUInt32).toInt32) &&& (255 : Int32)) = (((p3.toUInt32 >>> ((16 : Int32) &&& 31).toUInt32).toInt32) &&& (255 : Int32)) then (1 : Int32) else (0 : Int32) else if (((p1.toUInt32 >>> ((8 : Int32) &&& 31).toUInt32).toInt32) &&& (255 : Int32)) = (((p3.toUInt32 >>> ((8 : Int32) &&& 31).toUInt32).toInt32) &&& (255 : Int32)) then if p2 < (3 : Int32) then (1 : Int32) else if (((p1.toUInt32 >>> ((16 : Int32) &&& 31).toUInt32).toInt32) &&& (255 : Int32)) = (((p3.toUInt32 >>> ((16 : Int32) &&& 31).toUInt32).toInt32) &&& (255 : Int32)) then (1 : Int32) else (0 : Int32) else (0 : Int32) else (0 : Int32) else (0 : Int32)
theorem own_ef_rmS (m : MethodId) (p1 : Int32) (p2 : Int32) (p3 : Int32) (p4 : Int32) : entryFrame m #[(.int p1), (.int p2), (.int p3), (.int p4)] 4 = mkF m 0 #[.val (.int p1), .val (.int p2), .val (.int p3), .val (.int p4)] [] := by first | (simp [entryFrame, mkF, argsToLocals, Value.category]; done) | rfl
def QS (Z : State) (p1 : Int32) (p2 : Int32) (p3 : Int32) (p4 : Int32) (h0 : Heap) (n0 : Nat) (v : Option Value) (h : Heap) (L : List Loc) : Prop := v = some (.int (own_f_rmS p1 p2 p3 p4)) ∧ Fr n0 L ∧ h = h0
set_option maxRecDepth 65536 in
set_option maxHeartbeats 40000000 in
theorem rmS (l : Launch) (Z : State) (a0 : Array Value) (hw : ∀ d ∈ tables_1, d.before a0 Z = true) (ws : List Jvm.Cond) (p1 : Int32) (p2 : Int32) (p3 : Int32) (p4 : Int32) (h0 : Heap) (n0 : Nat) (Z0 : n0 ≤ h0.size) :
    MetFree l (⟨"com/example/partybook/partybook/io/XmlInputIsOneOfPinLaw", "same", "(IIII)Z"⟩ : MethodName) (head1 (Jvm.Cond.code (⟨"com/example/partybook/partybook/io/XmlInputIsOneOfPinLaw", "same", "(IIII)Z"⟩ : MethodName) method_4_code 4 (some .boolean) :: ws) ({ frames := 0, cells := 0, slots := 0, locals := 0 } : Room)) (fun a U => a = #[(.int p1), (.int p2), (.int p3), (.int p4)] ∧ Z.Warmed39 U.vm ∧ U.heap = h0) (fun _ _ _ _ _ => True) (fun _ U o U' => ∃ v L, o = .returned v ∧ QS Z p1 p2 p3 p4 h0 n0 v U'.heap L ∧ FrameEnd U o U' L ({ frames := 0, cells := 0, slots := 0, locals := 0 } : Room).cells ({ frames := 0, cells := 0, slots := 0, locals := 0 } : Room).slots) := by
  refine MetFree.of_bodySF (plainFor_of_name own_pn3) hisR ?_
  intro p e s m args below meth c s₁ Bd hml0 hP hK
  obtain ⟨rfl, hZ, hh⟩ := hP
  have hx := Bd.exec
  have hby := Bd.bytes
  have hml : c.maxLocals = 4 := hml0
  have hown : s.vm.findClass "com/example/partybook/partybook/io/XmlInputIsOneOfPinLaw" = some m.cls := findClass_of_methodNamed Bd.named
  have hnm := (name_of_methodNamed Bd.named Bd.method).1
  have X0 : Stand p l e ({ frames := 0, cells := 0, slots := 0, locals := 0 } : Room) s m #[(.int p1), (.int p2), (.int p3), (.int p4)] below meth c s₁ [] 0 0 := Stand.of_body Bd
  have e0 : s₁.heap = h0 := by rw [← hh, Bd.state]; rfl
  have N0 := Fr.nil n0
  have K0 : Keep h0 h0 [] := Keep.refl h0 _
  have pre0 : ∀ t, Steps p.tables e below (s₁.setTop (mkF m 0 #[.val (.int p1), .val (.int p2), .val (.int p3), .val (.int p4)] [])) t → Steps p.tables e below (s₁.setTop (entryFrame m #[(.int p1), (.int p2), (.int p3), (.int p4)] 4)) t := fun t k => castTop (own_ef_rmS m p1 p2 p3 p4) k
  have pre405 : ∀ t, Steps p.tables e below (s₁.setTop (mkF m 2 #[iv p1, iv p2, iv p3, iv p4] [(.int p4), (.int p2)])) t → Steps p.tables e below (s₁.setTop (entryFrame m #[(.int p1), (.int p2), (.int p3), (.int p4)] 4)) t := fun t k => by
    refine pre0 _ ?_
    show Steps p.tables e below (s₁.setTop (mkF m 0 #[iv p1, iv p2, iv p3, iv p4] [])) _
    refine XS.iloadN X0.here hx rfl (hb hby own_d8_0) rfl ?_
    show Steps p.tables e below (s₁.setTop (mkF m 1 #[iv p1, iv p2, iv p3, iv p4] [(.int p2)])) _
    refine XS.iloadN X0.here hx rfl (hb hby own_d8_1) rfl ?_
    exact k
  by_cases hc2 : p2 = p4
  · have pre406 : ∀ t, Steps p.tables e below (s₁.setTop (mkF m 9 #[iv p1, iv p2, iv p3, iv p4] [(.int (1 : Int32)), (.int p2)])) t → Steps p.tables e below (s₁.setTop (entryFrame m #[(.int p1), (.int p2), (.int p3), (.int p4)] 4)) t := fun t k => by
      refine pre405 _ ?_
      show Steps p.tables e below (s₁.setTop (mkF m 2 #[iv p1, iv p2, iv p3, iv p4] [(.int p4), (.int p2)])) _
      refine XS.icmpYes X0.here hx rfl (pc0 := 2) (pc' := 7) rfl (hb hby own_d8_2) rfl (teq hc2).1 (by decide) (by decide) ?_
      show Steps p.tables e below (s₁.setTop (mkF m 7 #[iv p1, iv p2, iv p3, iv p4] [])) _
      refine XS.iloadN X0.here hx rfl (hb hby own_d8_7) rfl ?_
      show Steps p.tables e below (s₁.setTop (mkF m 8 #[iv p1, iv p2, iv p3, iv p4] [(.int p2)])) _
      refine XS.iconst X0.here hx rfl (hb hby own_d8_8) ?_
      exact k
    by_cases hc9 : p2 < (1 : Int32)
    · have pre407 : ∀ t, Steps p.tables e below (s₁.setTop (mkF m 29 #[iv p1, iv p2, iv p3, iv p4] [(.int (2 : Int32)), (.int p2)])) t → Steps p.tables e below (s₁.setTop (entryFrame m #[(.int p1), (.int p2), (.int p3), (.int p4)] 4)) t := fun t k => by
        refine pre406 _ ?_
        show Steps p.tables e below (s₁.setTop (mkF m 9 #[iv p1, iv p2, iv p3, iv p4] [(.int (1 : Int32)), (.int p2)])) _
        refine XS.icmpYes X0.here hx rfl (pc0 := 9) (pc' := 27) rfl (hb hby own_d8_9) rfl (tlt hc9).1 (by decide) (by decide) ?_
        show Steps p.tables e below (s₁.setTop (mkF m 27 #[iv p1, iv p2, iv p3, iv p4] [])) _
        refine XS.iloadN X0.here hx rfl (hb hby own_d8_27) rfl ?_
        show Steps p.tables e below (s₁.setTop (mkF m 28 #[iv p1, iv p2, iv p3, iv p4] [(.int p2)])) _
        refine XS.iconst X0.here hx rfl (hb hby own_d8_28) ?_
        exact k
      by_cases hc29 : p2 < (2 : Int32)
      · have pre408 : ∀ t, Steps p.tables e below (s₁.setTop (mkF m 55 #[iv p1, iv p2, iv p3, iv p4] [(.int (3 : Int32)), (.int p2)])) t → Steps p.tables e below (s₁.setTop (entryFrame m #[(.int p1), (.int p2), (.int p3), (.int p4)] 4)) t := fun t k => by
          refine pre407 _ ?_
          show Steps p.tables e below (s₁.setTop (mkF m 29 #[iv p1, iv p2, iv p3, iv p4] [(.int (2 : Int32)), (.int p2)])) _
          refine XS.icmpYes X0.here hx rfl (pc0 := 29) (pc' := 53) rfl (hb hby own_d8_29) rfl (tlt hc29).1 (by decide) (by decide) ?_
          show Steps p.tables e below (s₁.setTop (mkF m 53 #[iv p1, iv p2, iv p3, iv p4] [])) _
          refine XS.iloadN X0.here hx rfl (hb hby own_d8_53) rfl ?_
          show Steps p.tables e below (s₁.setTop (mkF m 54 #[iv p1, iv p2, iv p3, iv p4] [(.int p2)])) _
          refine XS.iconst X0.here hx rfl (hb hby own_d8_54) ?_
          exact k
        by_cases hc55 : p2 < (3 : Int32)
        · obtain ⟨fs, hr, hrun, hended, hW, hsame⟩ := X0.leave (v := some (.int (1 : Int32))) (fun h => by rw [Bd.returns] at h; cases h)
          refine ⟨_, _, pre408 _ ?_, hrun, hended, _, _, rfl, ?_, ⟨_, rfl⟩, hW, hsame.mono (by decide) (by decide)⟩
          · show Steps p.tables e below (s₁.setTop (mkF m 55 #[iv p1, iv p2, iv p3, iv p4] [(.int (3 : Int32)), (.int p2)])) _
            refine XS.icmpYes X0.here hx rfl (pc0 := 55) (pc' := 79) rfl (hb hby own_d8_55) rfl (tlt hc55).1 (by decide) (by decide) ?_
            show Steps p.tables e below (s₁.setTop (mkF m 79 #[iv p1, iv p2, iv p3, iv p4] [])) _
            refine XS.iconst X0.here hx rfl (hb hby own_d8_79) ?_
            show Steps p.tables e below (s₁.setTop (mkF m 80 #[iv p1, iv p2, iv p3, iv p4] [(.int (1 : Int32))])) _
            exact retN X0 hx (t := .boolean) Bd.returns (by simp) (hb hby own_d8_80) hr
          · show QS Z p1 p2 p3 p4 h0 n0 _ s₁.heap _
            rw [e0]
            exact ⟨(congrArg (fun z => some (Value.int z)) (by unfold own_f_rmS; rw [if_pos hc2, if_pos hc9, if_pos hc29, if_pos hc55] : (1 : Int32) = (own_f_rmS p1 p2 p3 p4))), N0, rfl⟩
        · have pre409 : ∀ t, Steps p.tables e below (s₁.setTop (mkF m 74 #[iv p1, iv p2, iv p3, iv p4] [(.int (((p3.toUInt32 >>> ((16 : Int32) &&& 31).toUInt32).toInt32) &&& (255 : Int32))), (.int (((p1.toUInt32 >>> ((16 : Int32) &&& 31).toUInt32).toInt32) &&& (255 : Int32)))])) t → Steps p.tables e below (s₁.setTop (entryFrame m #[(.int p1), (.int p2), (.int p3), (.int p4)] 4)) t := fun t k => by
            refine pre408 _ ?_
            show Steps p.tables e below (s₁.setTop (mkF m 55 #[iv p1, iv p2, iv p3, iv p4] [(.int (3 : Int32)), (.int p2)])) _
            refine XS.icmpNo X0.here hx rfl (hb hby own_d8_55) rfl (flt hc55).1 ?_
            show Steps p.tables e below (s₁.setTop (mkF m 58 #[iv p1, iv p2, iv p3, iv p4] [])) _
            refine XS.iloadN X0.here hx rfl (hb hby own_d8_58) rfl ?_
            show Steps p.tables e below (s₁.setTop (mkF m 59 #[iv p1, iv p2, iv p3, iv p4] [(.int p1)])) _
            refine XS.bipush X0.here hx rfl (hb hby own_d8_59) ?_
            show Steps p.tables e below (s₁.setTop (mkF m 61 #[iv p1, iv p2, iv p3, iv p4] [(.int (16 : Int32)), (.int p1)])) _
            refine XS.iushr X0.here hx rfl (hb hby own_d8_61) rfl ?_
            show Steps p.tables e below (s₁.setTop (mkF m 62 #[iv p1, iv p2, iv p3, iv p4] [(.int ((p1.toUInt32 >>> ((16 : Int32) &&& 31).toUInt32).toInt32))])) _
            refine XS.sipush X0.here hx rfl (hb hby own_d8_62) ?_
            show Steps p.tables e below (s₁.setTop (mkF m 65 #[iv p1, iv p2, iv p3, iv p4] [(.int (255 : Int32)), (.int ((p1.toUInt32 >>> ((16 : Int32) &&& 31).toUInt32).toInt32))])) _
            refine XS.iand X0.here hx rfl (hb hby own_d8_65) rfl ?_
            show Steps p.tables e below (s₁.setTop (mkF m 66 #[iv p1, iv p2, iv p3, iv p4] [(.int (((p1.toUInt32 >>> ((16 : Int32) &&& 31).toUInt32).toInt32) &&& (255 : Int32)))])) _
            refine XS.iloadN X0.here hx rfl (hb hby own_d8_66) rfl ?_
            show Steps p.tables e below (s₁.setTop (mkF m 67 #[iv p1, iv p2, iv p3, iv p4] [(.int p3), (.int (((p1.toUInt32 >>> ((16 : Int32) &&& 31).toUInt32).toInt32) &&& (255 : Int32)))])) _
            refine XS.bipush X0.here hx rfl (hb hby own_d8_67) ?_
            show Steps p.tables e below (s₁.setTop (mkF m 69 #[iv p1, iv p2, iv p3, iv p4] [(.int (16 : Int32)), (.int p3), (.int (((p1.toUInt32 >>> ((16 : Int32) &&& 31).toUInt32).toInt32) &&& (255 : Int32)))])) _
            refine XS.iushr X0.here hx rfl (hb hby own_d8_69) rfl ?_
            show Steps p.tables e below (s₁.setTop (mkF m 70 #[iv p1, iv p2, iv p3, iv p4] [(.int ((p3.toUInt32 >>> ((16 : Int32) &&& 31).toUInt32).toInt32)), (.int (((p1.toUInt32 >>> ((16 : Int32) &&& 31).toUInt32).toInt32) &&& (255 : Int32)))])) _
            refine XS.sipush X0.here hx rfl (hb hby own_d8_70) ?_
            show Steps p.tables e below (s₁.setTop (mkF m 73 #[iv p1, iv p2, iv p3, iv p4] [(.int (255 : Int32)), (.int ((p3.toUInt32 >>> ((16 : Int32) &&& 31).toUInt32).toInt32)), (.int (((p1.toUInt32 >>> ((16 : Int32) &&& 31).toUInt32).toInt32) &&& (255 : Int32)))])) _
            refine XS.iand X0.here hx rfl (hb hby own_d8_73) rfl ?_
            exact k
          by_cases hc74 : (((p1.toUInt32 >>> ((16 : Int32) &&& 31).toUInt32).toInt32) &&& (255 : Int32)) = (((p3.toUInt32 >>> ((16 : Int32) &&& 31).toUInt32).toInt32) &&& (255 : Int32))
          · obtain ⟨fs, hr, hrun, hended, hW, hsame⟩ := X0.leave (v := some (.int (1 : Int32))) (fun h => by rw [Bd.returns] at h; cases h)
            refine ⟨_, _, pre409 _ ?_, hrun, hended, _, _, rfl, ?_, ⟨_, rfl⟩, hW, hsame.mono (by decide) (by decide)⟩
            · show Steps p.tables e below (s₁.setTop (mkF m 74 #[iv p1, iv p2, iv p3, iv p4] [(.int (((p3.toUInt32 >>> ((16 : Int32) &&& 31).toUInt32).toInt32) &&& (255 : Int32))), (.int (((p1.toUInt32 >>> ((16 : Int32) &&& 31).toUInt32).toInt32) &&& (255 : Int32)))])) _
              refine XS.icmpYes X0.here hx rfl (pc0 := 74) (pc' := 79) rfl (hb hby own_d8_74) rfl (teq hc74).1 (by decide) (by decide) ?_
              show Steps p.tables e below (s₁.setTop (mkF m 79 #[iv p1, iv p2, iv p3, iv p4] [])) _
              refine XS.iconst X0.here hx rfl (hb hby own_d8_79) ?_
              show Steps p.tables e below (s₁.setTop (mkF m 80 #[iv p1, iv p2, iv p3, iv p4] [(.int (1 : Int32))])) _
              exact retN X0 hx (t := .boolean) Bd.returns (by simp) (hb hby own_d8_80) hr
            · show QS Z p1 p2 p3 p4 h0 n0 _ s₁.heap _
              rw [e0]
              exact ⟨(congrArg (fun z => some (Value.int z)) (by unfold own_f_rmS; rw [if_pos hc2, if_pos hc9, if_pos hc29, if_neg hc55, if_pos hc74] : (1 : Int32) = (own_f_rmS p1 p2 p3 p4))), N0, rfl⟩
          · obtain ⟨fs, hr, hrun, hended, hW, hsame⟩ := X0.leave (v := some (.int (0 : Int32))) (fun h => by rw [Bd.returns] at h; cases h)
            refine ⟨_, _, pre409 _ ?_, hrun, hended, _, _, rfl, ?_, ⟨_, rfl⟩, hW, hsame.mono (by decide) (by decide)⟩
            · show Steps p.tables e below (s₁.setTop (mkF m 74 #[iv p1, iv p2, iv p3, iv p4] [(.int (((p3.toUInt32 >>> ((16 : Int32) &&& 31).toUInt32).toInt32) &&& (255 : Int32))), (.int (((p1.toUInt32 >>> ((16 : Int32) &&& 31).toUInt32).toInt32) &&& (255 : Int32)))])) _
              refine XS.icmpNo X0.here hx rfl (hb hby own_d8_74) rfl (feq hc74).1 ?_
              show Steps p.tables e below (s₁.setTop (mkF m 77 #[iv p1, iv p2, iv p3, iv p4] [])) _
              refine XS.iconst X0.here hx rfl (hb hby own_d8_77) ?_
              show Steps p.tables e below (s₁.setTop (mkF m 78 #[iv p1, iv p2, iv p3, iv p4] [(.int (0 : Int32))])) _
              exact retN X0 hx (t := .boolean) Bd.returns (by simp) (hb hby own_d8_78) hr
            · show QS Z p1 p2 p3 p4 h0 n0 _ s₁.heap _
              rw [e0]
              exact ⟨(congrArg (fun z => some (Value.int z)) (by unfold own_f_rmS; rw [if_pos hc2, if_pos hc9, if_pos hc29, if_neg hc55, if_neg hc74] : (0 : Int32) = (own_f_rmS p1 p2 p3 p4))), N0, rfl⟩
      · have pre410 : ∀ t, Steps p.tables e below (s₁.setTop (mkF m 48 #[iv p1, iv p2, iv p3, iv p4] [(.int (((p3.toUInt32 >>> ((8 : Int32) &&& 31).toUInt32).toInt32) &&& (255 : Int32))), (.int (((p1.toUInt32 >>> ((8 : Int32) &&& 31).toUInt32).toInt32) &&& (255 : Int32)))])) t → Steps p.tables e below (s₁.setTop (entryFrame m #[(.int p1), (.int p2), (.int p3), (.int p4)] 4)) t := fun t k => by
          refine pre407 _ ?_
          show Steps p.tables e below (s₁.setTop (mkF m 29 #[iv p1, iv p2, iv p3, iv p4] [(.int (2 : Int32)), (.int p2)])) _
          refine XS.icmpNo X0.here hx rfl (hb hby own_d8_29) rfl (flt hc29).1 ?_
          show Steps p.tables e below (s₁.setTop (mkF m 32 #[iv p1, iv p2, iv p3, iv p4] [])) _
          refine XS.iloadN X0.here hx rfl (hb hby own_d8_32) rfl ?_
          show Steps p.tables e below (s₁.setTop (mkF m 33 #[iv p1, iv p2, iv p3, iv p4] [(.int p1)])) _
          refine XS.bipush X0.here hx rfl (hb hby own_d8_33) ?_
          show Steps p.tables e below (s₁.setTop (mkF m 35 #[iv p1, iv p2, iv p3, iv p4] [(.int (8 : Int32)), (.int p1)])) _
          refine XS.iushr X0.here hx rfl (hb hby own_d8_35) rfl ?_
          show Steps p.tables e below (s₁.setTop (mkF m 36 #[iv p1, iv p2, iv p3, iv p4] [(.int ((p1.toUInt32 >>> ((8 : Int32) &&& 31).toUInt32).toInt32))])) _
          refine XS.sipush X0.here hx rfl (hb hby own_d8_36) ?_
          show Steps p.tables e below (s₁.setTop (mkF m 39 #[iv p1, iv p2, iv p3, iv p4] [(.int (255 : Int32)), (.int ((p1.toUInt32 >>> ((8 : Int32) &&& 31).toUInt32).toInt32))])) _
          refine XS.iand X0.here hx rfl (hb hby own_d8_39) rfl ?_
          show Steps p.tables e below (s₁.setTop (mkF m 40 #[iv p1, iv p2, iv p3, iv p4] [(.int (((p1.toUInt32 >>> ((8 : Int32) &&& 31).toUInt32).toInt32) &&& (255 : Int32)))])) _
          refine XS.iloadN X0.here hx rfl (hb hby own_d8_40) rfl ?_
          show Steps p.tables e below (s₁.setTop (mkF m 41 #[iv p1, iv p2, iv p3, iv p4] [(.int p3), (.int (((p1.toUInt32 >>> ((8 : Int32) &&& 31).toUInt32).toInt32) &&& (255 : Int32)))])) _
          refine XS.bipush X0.here hx rfl (hb hby own_d8_41) ?_
          show Steps p.tables e below (s₁.setTop (mkF m 43 #[iv p1, iv p2, iv p3, iv p4] [(.int (8 : Int32)), (.int p3), (.int (((p1.toUInt32 >>> ((8 : Int32) &&& 31).toUInt32).toInt32) &&& (255 : Int32)))])) _
          refine XS.iushr X0.here hx rfl (hb hby own_d8_43) rfl ?_
          show Steps p.tables e below (s₁.setTop (mkF m 44 #[iv p1, iv p2, iv p3, iv p4] [(.int ((p3.toUInt32 >>> ((8 : Int32) &&& 31).toUInt32).toInt32)), (.int (((p1.toUInt32 >>> ((8 : Int32) &&& 31).toUInt32).toInt32) &&& (255 : Int32)))])) _
          refine XS.sipush X0.here hx rfl (hb hby own_d8_44) ?_
          show Steps p.tables e below (s₁.setTop (mkF m 47 #[iv p1, iv p2, iv p3, iv p4] [(.int (255 : Int32)), (.int ((p3.toUInt32 >>> ((8 : Int32) &&& 31).toUInt32).toInt32)), (.int (((p1.toUInt32 >>> ((8 : Int32) &&& 31).toUInt32).toInt32) &&& (255 : Int32)))])) _
          refine XS.iand X0.here hx rfl (hb hby own_d8_47) rfl ?_
          exact k
        by_cases hc48 : (((p1.toUInt32 >>> ((8 : Int32) &&& 31).toUInt32).toInt32) &&& (255 : Int32)) = (((p3.toUInt32 >>> ((8 : Int32) &&& 31).toUInt32).toInt32) &&& (255 : Int32))
        · have pre411 : ∀ t, Steps p.tables e below (s₁.setTop (mkF m 55 #[iv p1, iv p2, iv p3, iv p4] [(.int (3 : Int32)), (.int p2)])) t → Steps p.tables e below (s₁.setTop (entryFrame m #[(.int p1), (.int p2), (.int p3), (.int p4)] 4)) t := fun t k => by
            refine pre410 _ ?_
            show Steps p.tables e below (s₁.setTop (mkF m 48 #[iv p1, iv p2, iv p3, iv p4] [(.int (((p3.toUInt32 >>> ((8 : Int32) &&& 31).toUInt32).toInt32) &&& (255 : Int32))), (.int (((p1.toUInt32 >>> ((8 : Int32) &&& 31).toUInt32).toInt32) &&& (255 : Int32)))])) _
            refine XS.icmpYes X0.here hx rfl (pc0 := 48) (pc' := 53) rfl (hb hby own_d8_48) rfl (teq hc48).1 (by decide) (by decide) ?_
            show Steps p.tables e below (s₁.setTop (mkF m 53 #[iv p1, iv p2, iv p3, iv p4] [])) _
            refine XS.iloadN X0.here hx rfl (hb hby own_d8_53) rfl ?_
            show Steps p.tables e below (s₁.setTop (mkF m 54 #[iv p1, iv p2, iv p3, iv p4] [(.int p2)])) _
            refine XS.iconst X0.here hx rfl (hb hby own_d8_54) ?_
            exact k
          by_cases hc55 : p2 < (3 : Int32)
          · obtain ⟨fs, hr, hrun, hended, hW, hsame⟩ := X0.leave (v := some (.int (1 : Int32))) (fun h => by rw [Bd.returns] at h; cases h)
            refine ⟨_, _, pre411 _ ?_, hrun, hended, _, _, rfl, ?_, ⟨_, rfl⟩, hW, hsame.mono (by decide) (by decide)⟩
            · show Steps p.tables e below (s₁.setTop (mkF m 55 #[iv p1, iv p2, iv p3, iv p4] [(.int (3 : Int32)), (.int p2)])) _
              refine XS.icmpYes X0.here hx rfl (pc0 := 55) (pc' := 79) rfl (hb hby own_d8_55) rfl (tlt hc55).1 (by decide) (by decide) ?_
              show Steps p.tables e below (s₁.setTop (mkF m 79 #[iv p1, iv p2, iv p3, iv p4] [])) _
              refine XS.iconst X0.here hx rfl (hb hby own_d8_79) ?_
              show Steps p.tables e below (s₁.setTop (mkF m 80 #[iv p1, iv p2, iv p3, iv p4] [(.int (1 : Int32))])) _
              exact retN X0 hx (t := .boolean) Bd.returns (by simp) (hb hby own_d8_80) hr
            · show QS Z p1 p2 p3 p4 h0 n0 _ s₁.heap _
              rw [e0]
              exact ⟨(congrArg (fun z => some (Value.int z)) (by unfold own_f_rmS; rw [if_pos hc2, if_pos hc9, if_neg hc29, if_pos hc48, if_pos hc55] : (1 : Int32) = (own_f_rmS p1 p2 p3 p4))), N0, rfl⟩
          · have pre412 : ∀ t, Steps p.tables e below (s₁.setTop (mkF m 74 #[iv p1, iv p2, iv p3, iv p4] [(.int (((p3.toUInt32 >>> ((16 : Int32) &&& 31).toUInt32).toInt32) &&& (255 : Int32))), (.int (((p1.toUInt32 >>> ((16 : Int32) &&& 31).toUInt32).toInt32) &&& (255 : Int32)))])) t → Steps p.tables e below (s₁.setTop (entryFrame m #[(.int p1), (.int p2), (.int p3), (.int p4)] 4)) t := fun t k => by
              refine pre411 _ ?_
              show Steps p.tables e below (s₁.setTop (mkF m 55 #[iv p1, iv p2, iv p3, iv p4] [(.int (3 : Int32)), (.int p2)])) _
              refine XS.icmpNo X0.here hx rfl (hb hby own_d8_55) rfl (flt hc55).1 ?_
              show Steps p.tables e below (s₁.setTop (mkF m 58 #[iv p1, iv p2, iv p3, iv p4] [])) _
              refine XS.iloadN X0.here hx rfl (hb hby own_d8_58) rfl ?_
              show Steps p.tables e below (s₁.setTop (mkF m 59 #[iv p1, iv p2, iv p3, iv p4] [(.int p1)])) _
              refine XS.bipush X0.here hx rfl (hb hby own_d8_59) ?_
              show Steps p.tables e below (s₁.setTop (mkF m 61 #[iv p1, iv p2, iv p3, iv p4] [(.int (16 : Int32)), (.int p1)])) _
              refine XS.iushr X0.here hx rfl (hb hby own_d8_61) rfl ?_
              show Steps p.tables e below (s₁.setTop (mkF m 62 #[iv p1, iv p2, iv p3, iv p4] [(.int ((p1.toUInt32 >>> ((16 : Int32) &&& 31).toUInt32).toInt32))])) _
              refine XS.sipush X0.here hx rfl (hb hby own_d8_62) ?_
              show Steps p.tables e below (s₁.setTop (mkF m 65 #[iv p1, iv p2, iv p3, iv p4] [(.int (255 : Int32)), (.int ((p1.toUInt32 >>> ((16 : Int32) &&& 31).toUInt32).toInt32))])) _
              refine XS.iand X0.here hx rfl (hb hby own_d8_65) rfl ?_
              show Steps p.tables e below (s₁.setTop (mkF m 66 #[iv p1, iv p2, iv p3, iv p4] [(.int (((p1.toUInt32 >>> ((16 : Int32) &&& 31).toUInt32).toInt32) &&& (255 : Int32)))])) _
              refine XS.iloadN X0.here hx rfl (hb hby own_d8_66) rfl ?_
              show Steps p.tables e below (s₁.setTop (mkF m 67 #[iv p1, iv p2, iv p3, iv p4] [(.int p3), (.int (((p1.toUInt32 >>> ((16 : Int32) &&& 31).toUInt32).toInt32) &&& (255 : Int32)))])) _
              refine XS.bipush X0.here hx rfl (hb hby own_d8_67) ?_
              show Steps p.tables e below (s₁.setTop (mkF m 69 #[iv p1, iv p2, iv p3, iv p4] [(.int (16 : Int32)), (.int p3), (.int (((p1.toUInt32 >>> ((16 : Int32) &&& 31).toUInt32).toInt32) &&& (255 : Int32)))])) _
              refine XS.iushr X0.here hx rfl (hb hby own_d8_69) rfl ?_
              show Steps p.tables e below (s₁.setTop (mkF m 70 #[iv p1, iv p2, iv p3, iv p4] [(.int ((p3.toUInt32 >>> ((16 : Int32) &&& 31).toUInt32).toInt32)), (.int (((p1.toUInt32 >>> ((16 : Int32) &&& 31).toUInt32).toInt32) &&& (255 : Int32)))])) _
              refine XS.sipush X0.here hx rfl (hb hby own_d8_70) ?_
              show Steps p.tables e below (s₁.setTop (mkF m 73 #[iv p1, iv p2, iv p3, iv p4] [(.int (255 : Int32)), (.int ((p3.toUInt32 >>> ((16 : Int32) &&& 31).toUInt32).toInt32)), (.int (((p1.toUInt32 >>> ((16 : Int32) &&& 31).toUInt32).toInt32) &&& (255 : Int32)))])) _
              refine XS.iand X0.here hx rfl (hb hby own_d8_73) rfl ?_
              exact k
            by_cases hc74 : (((p1.toUInt32 >>> ((16 : Int32) &&& 31).toUInt32).toInt32) &&& (255 : Int32)) = (((p3.toUInt32 >>> ((16 : Int32) &&& 31).toUInt32).toInt32) &&& (255 : Int32))
            · obtain ⟨fs, hr, hrun, hended, hW, hsame⟩ := X0.leave (v := some (.int (1 : Int32))) (fun h => by rw [Bd.returns] at h; cases h)
              refine ⟨_, _, pre412 _ ?_, hrun, hended, _, _, rfl, ?_, ⟨_, rfl⟩, hW, hsame.mono (by decide) (by decide)⟩
              · show Steps p.tables e below (s₁.setTop (mkF m 74 #[iv p1, iv p2, iv p3, iv p4] [(.int (((p3.toUInt32 >>> ((16 : Int32) &&& 31).toUInt32).toInt32) &&& (255 : Int32))), (.int (((p1.toUInt32 >>> ((16 : Int32) &&& 31).toUInt32).toInt32) &&& (255 : Int32)))])) _
                refine XS.icmpYes X0.here hx rfl (pc0 := 74) (pc' := 79) rfl (hb hby own_d8_74) rfl (teq hc74).1 (by decide) (by decide) ?_
                show Steps p.tables e below (s₁.setTop (mkF m 79 #[iv p1, iv p2, iv p3, iv p4] [])) _
                refine XS.iconst X0.here hx rfl (hb hby own_d8_79) ?_
                show Steps p.tables e below (s₁.setTop (mkF m 80 #[iv p1, iv p2, iv p3, iv p4] [(.int (1 : Int32))])) _
                exact retN X0 hx (t := .boolean) Bd.returns (by simp) (hb hby own_d8_80) hr
              · show QS Z p1 p2 p3 p4 h0 n0 _ s₁.heap _
                rw [e0]
                exact ⟨(congrArg (fun z => some (Value.int z)) (by unfold own_f_rmS; rw [if_pos hc2, if_pos hc9, if_neg hc29, if_pos hc48, if_neg hc55, if_pos hc74] : (1 : Int32) = (own_f_rmS p1 p2 p3 p4))), N0, rfl⟩
            · obtain ⟨fs, hr, hrun, hended, hW, hsame⟩ := X0.leave (v := some (.int (0 : Int32))) (fun h => by rw [Bd.returns] at h; cases h)
              refine ⟨_, _, pre412 _ ?_, hrun, hended, _, _, rfl, ?_, ⟨_, rfl⟩, hW, hsame.mono (by decide) (by decide)⟩
              · show Steps p.tables e below (s₁.setTop (mkF m 74 #[iv p1, iv p2, iv p3, iv p4] [(.int (((p3.toUInt32 >>> ((16 : Int32) &&& 31).toUInt32).toInt32) &&& (255 : Int32))), (.int (((p1.toUInt32 >>> ((16 : Int32) &&& 31).toUInt32).toInt32) &&& (255 : Int32)))])) _
                refine XS.icmpNo X0.here hx rfl (hb hby own_d8_74) rfl (feq hc74).1 ?_
                show Steps p.tables e below (s₁.setTop (mkF m 77 #[iv p1, iv p2, iv p3, iv p4] [])) _
                refine XS.iconst X0.here hx rfl (hb hby own_d8_77) ?_
                show Steps p.tables e below (s₁.setTop (mkF m 78 #[iv p1, iv p2, iv p3, iv p4] [(.int (0 : Int32))])) _
                exact retN X0 hx (t := .boolean) Bd.returns (by simp) (hb hby own_d8_78) hr
              · show QS Z p1 p2 p3 p4 h0 n0 _ s₁.heap _
                rw [e0]
                exact ⟨(congrArg (fun z => some (Value.int z)) (by unfold own_f_rmS; rw [if_pos hc2, if_pos hc9, if_neg hc29, if_pos hc48, if_neg hc55, if_neg hc74] : (0 : Int32) = (own_f_rmS p1 p2 p3 p4))), N0, rfl⟩
        · obtain ⟨fs, hr, hrun, hended, hW, hsame⟩ := X0.leave (v := some (.int (0 : Int32))) (fun h => by rw [Bd.returns] at h; cases h)
          refine ⟨_, _, pre410 _ ?_, hrun, hended, _, _, rfl, ?_, ⟨_, rfl⟩, hW, hsame.mono (by decide) (by decide)⟩
          · show Steps p.tables e below (s₁.setTop (mkF m 48 #[iv p1, iv p2, iv p3, iv p4] [(.int (((p3.toUInt32 >>> ((8 : Int32) &&& 31).toUInt32).toInt32) &&& (255 : Int32))), (.int (((p1.toUInt32 >>> ((8 : Int32) &&& 31).toUInt32).toInt32) &&& (255 : Int32)))])) _
            refine XS.icmpNo X0.here hx rfl (hb hby own_d8_48) rfl (feq hc48).1 ?_
            show Steps p.tables e below (s₁.setTop (mkF m 51 #[iv p1, iv p2, iv p3, iv p4] [])) _
            refine XS.iconst X0.here hx rfl (hb hby own_d8_51) ?_
            show Steps p.tables e below (s₁.setTop (mkF m 52 #[iv p1, iv p2, iv p3, iv p4] [(.int (0 : Int32))])) _
            exact retN X0 hx (t := .boolean) Bd.returns (by simp) (hb hby own_d8_52) hr
          · show QS Z p1 p2 p3 p4 h0 n0 _ s₁.heap _
            rw [e0]
            exact ⟨(congrArg (fun z => some (Value.int z)) (by unfold own_f_rmS; rw [if_pos hc2, if_pos hc9, if_neg hc29, if_neg hc48] : (0 : Int32) = (own_f_rmS p1 p2 p3 p4))), N0, rfl⟩
    · have pre413 : ∀ t, Steps p.tables e below (s₁.setTop (mkF m 22 #[iv p1, iv p2, iv p3, iv p4] [(.int (p3 &&& (255 : Int32))), (.int (p1 &&& (255 : Int32)))])) t → Steps p.tables e below (s₁.setTop (entryFrame m #[(.int p1), (.int p2), (.int p3), (.int p4)] 4)) t := fun t k => by
        refine pre406 _ ?_
        show Steps p.tables e below (s₁.setTop (mkF m 9 #[iv p1, iv p2, iv p3, iv p4] [(.int (1 : Int32)), (.int p2)])) _
        refine XS.icmpNo X0.here hx rfl (hb hby own_d8_9) rfl (flt hc9).1 ?_
        show Steps p.tables e below (s₁.setTop (mkF m 12 #[iv p1, iv p2, iv p3, iv p4] [])) _
        refine XS.iloadN X0.here hx rfl (hb hby own_d8_12) rfl ?_
        show Steps p.tables e below (s₁.setTop (mkF m 13 #[iv p1, iv p2, iv p3, iv p4] [(.int p1)])) _
        refine XS.sipush X0.here hx rfl (hb hby own_d8_13) ?_
        show Steps p.tables e below (s₁.setTop (mkF m 16 #[iv p1, iv p2, iv p3, iv p4] [(.int (255 : Int32)), (.int p1)])) _
        refine XS.iand X0.here hx rfl (hb hby own_d8_16) rfl ?_
        show Steps p.tables e below (s₁.setTop (mkF m 17 #[iv p1, iv p2, iv p3, iv p4] [(.int (p1 &&& (255 : Int32)))])) _
        refine XS.iloadN X0.here hx rfl (hb hby own_d8_17) rfl ?_
        show Steps p.tables e below (s₁.setTop (mkF m 18 #[iv p1, iv p2, iv p3, iv p4] [(.int p3), (.int (p1 &&& (255 : Int32)))])) _
        refine XS.sipush X0.here hx rfl (hb hby own_d8_18) ?_
        show Steps p.tables e below (s₁.setTop (mkF m 21 #[iv p1, iv p2, iv p3, iv p4] [(.int (255 : Int32)), (.int p3), (.int (p1 &&& (255 : Int32)))])) _
        refine XS.iand X0.here hx rfl (hb hby own_d8_21) rfl ?_
        exact k
      by_cases hc22 : (p1 &&& (255 : Int32)) = (p3 &&& (255 : Int32))
      · have pre414 : ∀ t, Steps p.tables e below (s₁.setTop (mkF m 29 #[iv p1, iv p2, iv p3, iv p4] [(.int (2 : Int32)), (.int p2)])) t → Steps p.tables e below (s₁.setTop (entryFrame m #[(.int p1), (.int p2), (.int p3), (.int p4)] 4)) t := fun t k => by
          refine pre413 _ ?_
          show Steps p.tables e below (s₁.setTop (mkF m 22 #[iv p1, iv p2, iv p3, iv p4] [(.int (p3 &&& (255 : Int32))), (.int (p1 &&& (255 : Int32)))])) _
          refine XS.icmpYes X0.here hx rfl (pc0 := 22) (pc' := 27) rfl (hb hby own_d8_22) rfl (teq hc22).1 (by decide) (by decide) ?_
          show Steps p.tables e below (s₁.setTop (mkF m 27 #[iv p1, iv p2, iv p3, iv p4] [])) _
          refine XS.iloadN X0.here hx rfl (hb hby own_d8_27) rfl ?_
          show Steps p.tables e below (s₁.setTop (mkF m 28 #[iv p1, iv p2, iv p3, iv p4] [(.int p2)])) _
          refine XS.iconst X0.here hx rfl (hb hby own_d8_28) ?_
          exact k
        by_cases hc29 : p2 < (2 : Int32)
        · have pre415 : ∀ t, Steps p.tables e below (s₁.setTop (mkF m 55 #[iv p1, iv p2, iv p3, iv p4] [(.int (3 : Int32)), (.int p2)])) t → Steps p.tables e below (s₁.setTop (entryFrame m #[(.int p1), (.int p2), (.int p3), (.int p4)] 4)) t := fun t k => by
            refine pre414 _ ?_
            show Steps p.tables e below (s₁.setTop (mkF m 29 #[iv p1, iv p2, iv p3, iv p4] [(.int (2 : Int32)), (.int p2)])) _
            refine XS.icmpYes X0.here hx rfl (pc0 := 29) (pc' := 53) rfl (hb hby own_d8_29) rfl (tlt hc29).1 (by decide) (by decide) ?_
            show Steps p.tables e below (s₁.setTop (mkF m 53 #[iv p1, iv p2, iv p3, iv p4] [])) _
            refine XS.iloadN X0.here hx rfl (hb hby own_d8_53) rfl ?_
            show Steps p.tables e below (s₁.setTop (mkF m 54 #[iv p1, iv p2, iv p3, iv p4] [(.int p2)])) _
            refine XS.iconst X0.here hx rfl (hb hby own_d8_54) ?_
            exact k
          by_cases hc55 : p2 < (3 : Int32)
          · obtain ⟨fs, hr, hrun, hended, hW, hsame⟩ := X0.leave (v := some (.int (1 : Int32))) (fun h => by rw [Bd.returns] at h; cases h)
            refine ⟨_, _, pre415 _ ?_, hrun, hended, _, _, rfl, ?_, ⟨_, rfl⟩, hW, hsame.mono (by decide) (by decide)⟩
            · show Steps p.tables e below (s₁.setTop (mkF m 55 #[iv p1, iv p2, iv p3, iv p4] [(.int (3 : Int32)), (.int p2)])) _
              refine XS.icmpYes X0.here hx rfl (pc0 := 55) (pc' := 79) rfl (hb hby own_d8_55) rfl (tlt hc55).1 (by decide) (by decide) ?_
              show Steps p.tables e below (s₁.setTop (mkF m 79 #[iv p1, iv p2, iv p3, iv p4] [])) _
              refine XS.iconst X0.here hx rfl (hb hby own_d8_79) ?_
              show Steps p.tables e below (s₁.setTop (mkF m 80 #[iv p1, iv p2, iv p3, iv p4] [(.int (1 : Int32))])) _
              exact retN X0 hx (t := .boolean) Bd.returns (by simp) (hb hby own_d8_80) hr
            · show QS Z p1 p2 p3 p4 h0 n0 _ s₁.heap _
              rw [e0]
              exact ⟨(congrArg (fun z => some (Value.int z)) (by unfold own_f_rmS; rw [if_pos hc2, if_neg hc9, if_pos hc22, if_pos hc29, if_pos hc55] : (1 : Int32) = (own_f_rmS p1 p2 p3 p4))), N0, rfl⟩
          · have pre416 : ∀ t, Steps p.tables e below (s₁.setTop (mkF m 74 #[iv p1, iv p2, iv p3, iv p4] [(.int (((p3.toUInt32 >>> ((16 : Int32) &&& 31).toUInt32).toInt32) &&& (255 : Int32))), (.int (((p1.toUInt32 >>> ((16 : Int32) &&& 31).toUInt32).toInt32) &&& (255 : Int32)))])) t → Steps p.tables e below (s₁.setTop (entryFrame m #[(.int p1), (.int p2), (.int p3), (.int p4)] 4)) t := fun t k => by
              refine pre415 _ ?_
              show Steps p.tables e below (s₁.setTop (mkF m 55 #[iv p1, iv p2, iv p3, iv p4] [(.int (3 : Int32)), (.int p2)])) _
              refine XS.icmpNo X0.here hx rfl (hb hby own_d8_55) rfl (flt hc55).1 ?_
              show Steps p.tables e below (s₁.setTop (mkF m 58 #[iv p1, iv p2, iv p3, iv p4] [])) _
              refine XS.iloadN X0.here hx rfl (hb hby own_d8_58) rfl ?_
              show Steps p.tables e below (s₁.setTop (mkF m 59 #[iv p1, iv p2, iv p3, iv p4] [(.int p1)])) _
              refine XS.bipush X0.here hx rfl (hb hby own_d8_59) ?_
              show Steps p.tables e below (s₁.setTop (mkF m 61 #[iv p1, iv p2, iv p3, iv p4] [(.int (16 : Int32)), (.int p1)])) _
              refine XS.iushr X0.here hx rfl (hb hby own_d8_61) rfl ?_
              show Steps p.tables e below (s₁.setTop (mkF m 62 #[iv p1, iv p2, iv p3, iv p4] [(.int ((p1.toUInt32 >>> ((16 : Int32) &&& 31).toUInt32).toInt32))])) _
              refine XS.sipush X0.here hx rfl (hb hby own_d8_62) ?_
              show Steps p.tables e below (s₁.setTop (mkF m 65 #[iv p1, iv p2, iv p3, iv p4] [(.int (255 : Int32)), (.int ((p1.toUInt32 >>> ((16 : Int32) &&& 31).toUInt32).toInt32))])) _
              refine XS.iand X0.here hx rfl (hb hby own_d8_65) rfl ?_
              show Steps p.tables e below (s₁.setTop (mkF m 66 #[iv p1, iv p2, iv p3, iv p4] [(.int (((p1.toUInt32 >>> ((16 : Int32) &&& 31).toUInt32).toInt32) &&& (255 : Int32)))])) _
              refine XS.iloadN X0.here hx rfl (hb hby own_d8_66) rfl ?_
              show Steps p.tables e below (s₁.setTop (mkF m 67 #[iv p1, iv p2, iv p3, iv p4] [(.int p3), (.int (((p1.toUInt32 >>> ((16 : Int32) &&& 31).toUInt32).toInt32) &&& (255 : Int32)))])) _
              refine XS.bipush X0.here hx rfl (hb hby own_d8_67) ?_
              show Steps p.tables e below (s₁.setTop (mkF m 69 #[iv p1, iv p2, iv p3, iv p4] [(.int (16 : Int32)), (.int p3), (.int (((p1.toUInt32 >>> ((16 : Int32) &&& 31).toUInt32).toInt32) &&& (255 : Int32)))])) _
              refine XS.iushr X0.here hx rfl (hb hby own_d8_69) rfl ?_
              show Steps p.tables e below (s₁.setTop (mkF m 70 #[iv p1, iv p2, iv p3, iv p4] [(.int ((p3.toUInt32 >>> ((16 : Int32) &&& 31).toUInt32).toInt32)), (.int (((p1.toUInt32 >>> ((16 : Int32) &&& 31).toUInt32).toInt32) &&& (255 : Int32)))])) _
              refine XS.sipush X0.here hx rfl (hb hby own_d8_70) ?_
              show Steps p.tables e below (s₁.setTop (mkF m 73 #[iv p1, iv p2, iv p3, iv p4] [(.int (255 : Int32)), (.int ((p3.toUInt32 >>> ((16 : Int32) &&& 31).toUInt32).toInt32)), (.int (((p1.toUInt32 >>> ((16 : Int32) &&& 31).toUInt32).toInt32) &&& (255 : Int32)))])) _
              refine XS.iand X0.here hx rfl (hb hby own_d8_73) rfl ?_
              exact k
            by_cases hc74 : (((p1.toUInt32 >>> ((16 : Int32) &&& 31).toUInt32).toInt32) &&& (255 : Int32)) = (((p3.toUInt32 >>> ((16 : Int32) &&& 31).toUInt32).toInt32) &&& (255 : Int32))
            · obtain ⟨fs, hr, hrun, hended, hW, hsame⟩ := X0.leave (v := some (.int (1 : Int32))) (fun h => by rw [Bd.returns] at h; cases h)
              refine ⟨_, _, pre416 _ ?_, hrun, hended, _, _, rfl, ?_, ⟨_, rfl⟩, hW, hsame.mono (by decide) (by decide)⟩
              · show Steps p.tables e below (s₁.setTop (mkF m 74 #[iv p1, iv p2, iv p3, iv p4] [(.int (((p3.toUInt32 >>> ((16 : Int32) &&& 31).toUInt32).toInt32) &&& (255 : Int32))), (.int (((p1.toUInt32 >>> ((16 : Int32) &&& 31).toUInt32).toInt32) &&& (255 : Int32)))])) _
                refine XS.icmpYes X0.here hx rfl (pc0 := 74) (pc' := 79) rfl (hb hby own_d8_74) rfl (teq hc74).1 (by decide) (by decide) ?_
                show Steps p.tables e below (s₁.setTop (mkF m 79 #[iv p1, iv p2, iv p3, iv p4] [])) _
                refine XS.iconst X0.here hx rfl (hb hby own_d8_79) ?_
                show Steps p.tables e below (s₁.setTop (mkF m 80 #[iv p1, iv p2, iv p3, iv p4] [(.int (1 : Int32))])) _
                exact retN X0 hx (t := .boolean) Bd.returns (by simp) (hb hby own_d8_80) hr
              · show QS Z p1 p2 p3 p4 h0 n0 _ s₁.heap _
                rw [e0]
                exact ⟨(congrArg (fun z => some (Value.int z)) (by unfold own_f_rmS; rw [if_pos hc2, if_neg hc9, if_pos hc22, if_pos hc29, if_neg hc55, if_pos hc74] : (1 : Int32) = (own_f_rmS p1 p2 p3 p4))), N0, rfl⟩
            · obtain ⟨fs, hr, hrun, hended, hW, hsame⟩ := X0.leave (v := some (.int (0 : Int32))) (fun h => by rw [Bd.returns] at h; cases h)
              refine ⟨_, _, pre416 _ ?_, hrun, hended, _, _, rfl, ?_, ⟨_, rfl⟩, hW, hsame.mono (by decide) (by decide)⟩
              · show Steps p.tables e below (s₁.setTop (mkF m 74 #[iv p1, iv p2, iv p3, iv p4] [(.int (((p3.toUInt32 >>> ((16 : Int32) &&& 31).toUInt32).toInt32) &&& (255 : Int32))), (.int (((p1.toUInt32 >>> ((16 : Int32) &&& 31).toUInt32).toInt32) &&& (255 : Int32)))])) _
                refine XS.icmpNo X0.here hx rfl (hb hby own_d8_74) rfl (feq hc74).1 ?_
                show Steps p.tables e below (s₁.setTop (mkF m 77 #[iv p1, iv p2, iv p3, iv p4] [])) _
                refine XS.iconst X0.here hx rfl (hb hby own_d8_77) ?_
                show Steps p.tables e below (s₁.setTop (mkF m 78 #[iv p1, iv p2, iv p3, iv p4] [(.int (0 : Int32))])) _
                exact retN X0 hx (t := .boolean) Bd.returns (by simp) (hb hby own_d8_78) hr
              · show QS Z p1 p2 p3 p4 h0 n0 _ s₁.heap _
                rw [e0]
                exact ⟨(congrArg (fun z => some (Value.int z)) (by unfold own_f_rmS; rw [if_pos hc2, if_neg hc9, if_pos hc22, if_pos hc29, if_neg hc55, if_neg hc74] : (0 : Int32) = (own_f_rmS p1 p2 p3 p4))), N0, rfl⟩
        · have pre417 : ∀ t, Steps p.tables e below (s₁.setTop (mkF m 48 #[iv p1, iv p2, iv p3, iv p4] [(.int (((p3.toUInt32 >>> ((8 : Int32) &&& 31).toUInt32).toInt32) &&& (255 : Int32))), (.int (((p1.toUInt32 >>> ((8 : Int32) &&& 31).toUInt32).toInt32) &&& (255 : Int32)))])) t → Steps p.tables e below (s₁.setTop (entryFrame m #[(.int p1), (.int p2), (.int p3), (.int p4)] 4)) t := fun t k => by
            refine pre414 _ ?_
            show Steps p.tables e below (s₁.setTop (mkF m 29 #[iv p1, iv p2, iv p3, iv p4] [(.int (2 : Int32)), (.int p2)])) _
            refine XS.icmpNo X0.here hx rfl (hb hby own_d8_29) rfl (flt hc29).1 ?_
            show Steps p.tables e below (s₁.setTop (mkF m 32 #[iv p1, iv p2, iv p3, iv p4] [])) _
            refine XS.iloadN X0.here hx rfl (hb hby own_d8_32) rfl ?_
            show Steps p.tables e below (s₁.setTop (mkF m 33 #[iv p1, iv p2, iv p3, iv p4] [(.int p1)])) _
            refine XS.bipush X0.here hx rfl (hb hby own_d8_33) ?_
            show Steps p.tables e below (s₁.setTop (mkF m 35 #[iv p1, iv p2, iv p3, iv p4] [(.int (8 : Int32)), (.int p1)])) _
            refine XS.iushr X0.here hx rfl (hb hby own_d8_35) rfl ?_
            show Steps p.tables e below (s₁.setTop (mkF m 36 #[iv p1, iv p2, iv p3, iv p4] [(.int ((p1.toUInt32 >>> ((8 : Int32) &&& 31).toUInt32).toInt32))])) _
            refine XS.sipush X0.here hx rfl (hb hby own_d8_36) ?_
            show Steps p.tables e below (s₁.setTop (mkF m 39 #[iv p1, iv p2, iv p3, iv p4] [(.int (255 : Int32)), (.int ((p1.toUInt32 >>> ((8 : Int32) &&& 31).toUInt32).toInt32))])) _
            refine XS.iand X0.here hx rfl (hb hby own_d8_39) rfl ?_
            show Steps p.tables e below (s₁.setTop (mkF m 40 #[iv p1, iv p2, iv p3, iv p4] [(.int (((p1.toUInt32 >>> ((8 : Int32) &&& 31).toUInt32).toInt32) &&& (255 : Int32)))])) _
            refine XS.iloadN X0.here hx rfl (hb hby own_d8_40) rfl ?_
            show Steps p.tables e below (s₁.setTop (mkF m 41 #[iv p1, iv p2, iv p3, iv p4] [(.int p3), (.int (((p1.toUInt32 >>> ((8 : Int32) &&& 31).toUInt32).toInt32) &&& (255 : Int32)))])) _
            refine XS.bipush X0.here hx rfl (hb hby own_d8_41) ?_
            show Steps p.tables e below (s₁.setTop (mkF m 43 #[iv p1, iv p2, iv p3, iv p4] [(.int (8 : Int32)), (.int p3), (.int (((p1.toUInt32 >>> ((8 : Int32) &&& 31).toUInt32).toInt32) &&& (255 : Int32)))])) _
            refine XS.iushr X0.here hx rfl (hb hby own_d8_43) rfl ?_
            show Steps p.tables e below (s₁.setTop (mkF m 44 #[iv p1, iv p2, iv p3, iv p4] [(.int ((p3.toUInt32 >>> ((8 : Int32) &&& 31).toUInt32).toInt32)), (.int (((p1.toUInt32 >>> ((8 : Int32) &&& 31).toUInt32).toInt32) &&& (255 : Int32)))])) _
            refine XS.sipush X0.here hx rfl (hb hby own_d8_44) ?_
            show Steps p.tables e below (s₁.setTop (mkF m 47 #[iv p1, iv p2, iv p3, iv p4] [(.int (255 : Int32)), (.int ((p3.toUInt32 >>> ((8 : Int32) &&& 31).toUInt32).toInt32)), (.int (((p1.toUInt32 >>> ((8 : Int32) &&& 31).toUInt32).toInt32) &&& (255 : Int32)))])) _
            refine XS.iand X0.here hx rfl (hb hby own_d8_47) rfl ?_
            exact k
          by_cases hc48 : (((p1.toUInt32 >>> ((8 : Int32) &&& 31).toUInt32).toInt32) &&& (255 : Int32)) = (((p3.toUInt32 >>> ((8 : Int32) &&& 31).toUInt32).toInt32) &&& (255 : Int32))
          · have pre418 : ∀ t, Steps p.tables e below (s₁.setTop (mkF m 55 #[iv p1, iv p2, iv p3, iv p4] [(.int (3 : Int32)), (.int p2)])) t → Steps p.tables e below (s₁.setTop (entryFrame m #[(.int p1), (.int p2), (.int p3), (.int p4)] 4)) t := fun t k => by
              refine pre417 _ ?_
              show Steps p.tables e below (s₁.setTop (mkF m 48 #[iv p1, iv p2, iv p3, iv p4] [(.int (((p3.toUInt32 >>> ((8 : Int32) &&& 31).toUInt32).toInt32) &&& (255 : Int32))), (.int (((p1.toUInt32 >>> ((8 : Int32) &&& 31).toUInt32).toInt32) &&& (255 : Int32)))])) _
              refine XS.icmpYes X0.here hx rfl (pc0 := 48) (pc' := 53) rfl (hb hby own_d8_48) rfl (teq hc48).1 (by decide) (by decide) ?_
              show Steps p.tables e below (s₁.setTop (mkF m 53 #[iv p1, iv p2, iv p3, iv p4] [])) _
              refine XS.iloadN X0.here hx rfl (hb hby own_d8_53) rfl ?_
              show Steps p.tables e below (s₁.setTop (mkF m 54 #[iv p1, iv p2, iv p3, iv p4] [(.int p2)])) _
              refine XS.iconst X0.here hx rfl (hb hby own_d8_54) ?_
              exact k
            by_cases hc55 : p2 < (3 : Int32)
            · obtain ⟨fs, hr, hrun, hended, hW, hsame⟩ := X0.leave (v := some (.int (1 : Int32))) (fun h => by rw [Bd.returns] at h; cases h)
              refine ⟨_, _, pre418 _ ?_, hrun, hended, _, _, rfl, ?_, ⟨_, rfl⟩, hW, hsame.mono (by decide) (by decide)⟩
              · show Steps p.tables e below (s₁.setTop (mkF m 55 #[iv p1, iv p2, iv p3, iv p4] [(.int (3 : Int32)), (.int p2)])) _
                refine XS.icmpYes X0.here hx rfl (pc0 := 55) (pc' := 79) rfl (hb hby own_d8_55) rfl (tlt hc55).1 (by decide) (by decide) ?_
                show Steps p.tables e below (s₁.setTop (mkF m 79 #[iv p1, iv p2, iv p3, iv p4] [])) _
                refine XS.iconst X0.here hx rfl (hb hby own_d8_79) ?_
                show Steps p.tables e below (s₁.setTop (mkF m 80 #[iv p1, iv p2, iv p3, iv p4] [(.int (1 : Int32))])) _
                exact retN X0 hx (t := .boolean) Bd.returns (by simp) (hb hby own_d8_80) hr
              · show QS Z p1 p2 p3 p4 h0 n0 _ s₁.heap _
                rw [e0]
                exact ⟨(congrArg (fun z => some (Value.int z)) (by unfold own_f_rmS; rw [if_pos hc2, if_neg hc9, if_pos hc22, if_neg hc29, if_pos hc48, if_pos hc55] : (1 : Int32) = (own_f_rmS p1 p2 p3 p4))), N0, rfl⟩
            · have pre419 : ∀ t, Steps p.tables e below (s₁.setTop (mkF m 74 #[iv p1, iv p2, iv p3, iv p4] [(.int (((p3.toUInt32 >>> ((16 : Int32) &&& 31).toUInt32).toInt32) &&& (255 : Int32))), (.int (((p1.toUInt32 >>> ((16 : Int32) &&& 31).toUInt32).toInt32) &&& (255 : Int32)))])) t → Steps p.tables e below (s₁.setTop (entryFrame m #[(.int p1), (.int p2), (.int p3), (.int p4)] 4)) t := fun t k => by
                refine pre418 _ ?_
                show Steps p.tables e below (s₁.setTop (mkF m 55 #[iv p1, iv p2, iv p3, iv p4] [(.int (3 : Int32)), (.int p2)])) _
                refine XS.icmpNo X0.here hx rfl (hb hby own_d8_55) rfl (flt hc55).1 ?_
                show Steps p.tables e below (s₁.setTop (mkF m 58 #[iv p1, iv p2, iv p3, iv p4] [])) _
                refine XS.iloadN X0.here hx rfl (hb hby own_d8_58) rfl ?_
                show Steps p.tables e below (s₁.setTop (mkF m 59 #[iv p1, iv p2, iv p3, iv p4] [(.int p1)])) _
                refine XS.bipush X0.here hx rfl (hb hby own_d8_59) ?_
                show Steps p.tables e below (s₁.setTop (mkF m 61 #[iv p1, iv p2, iv p3, iv p4] [(.int (16 : Int32)), (.int p1)])) _
                refine XS.iushr X0.here hx rfl (hb hby own_d8_61) rfl ?_
                show Steps p.tables e below (s₁.setTop (mkF m 62 #[iv p1, iv p2, iv p3, iv p4] [(.int ((p1.toUInt32 >>> ((16 : Int32) &&& 31).toUInt32).toInt32))])) _
                refine XS.sipush X0.here hx rfl (hb hby own_d8_62) ?_
                show Steps p.tables e below (s₁.setTop (mkF m 65 #[iv p1, iv p2, iv p3, iv p4] [(.int (255 : Int32)), (.int ((p1.toUInt32 >>> ((16 : Int32) &&& 31).toUInt32).toInt32))])) _
                refine XS.iand X0.here hx rfl (hb hby own_d8_65) rfl ?_
                show Steps p.tables e below (s₁.setTop (mkF m 66 #[iv p1, iv p2, iv p3, iv p4] [(.int (((p1.toUInt32 >>> ((16 : Int32) &&& 31).toUInt32).toInt32) &&& (255 : Int32)))])) _
                refine XS.iloadN X0.here hx rfl (hb hby own_d8_66) rfl ?_
                show Steps p.tables e below (s₁.setTop (mkF m 67 #[iv p1, iv p2, iv p3, iv p4] [(.int p3), (.int (((p1.toUInt32 >>> ((16 : Int32) &&& 31).toUInt32).toInt32) &&& (255 : Int32)))])) _
                refine XS.bipush X0.here hx rfl (hb hby own_d8_67) ?_
                show Steps p.tables e below (s₁.setTop (mkF m 69 #[iv p1, iv p2, iv p3, iv p4] [(.int (16 : Int32)), (.int p3), (.int (((p1.toUInt32 >>> ((16 : Int32) &&& 31).toUInt32).toInt32) &&& (255 : Int32)))])) _
                refine XS.iushr X0.here hx rfl (hb hby own_d8_69) rfl ?_
                show Steps p.tables e below (s₁.setTop (mkF m 70 #[iv p1, iv p2, iv p3, iv p4] [(.int ((p3.toUInt32 >>> ((16 : Int32) &&& 31).toUInt32).toInt32)), (.int (((p1.toUInt32 >>> ((16 : Int32) &&& 31).toUInt32).toInt32) &&& (255 : Int32)))])) _
                refine XS.sipush X0.here hx rfl (hb hby own_d8_70) ?_
                show Steps p.tables e below (s₁.setTop (mkF m 73 #[iv p1, iv p2, iv p3, iv p4] [(.int (255 : Int32)), (.int ((p3.toUInt32 >>> ((16 : Int32) &&& 31).toUInt32).toInt32)), (.int (((p1.toUInt32 >>> ((16 : Int32) &&& 31).toUInt32).toInt32) &&& (255 : Int32)))])) _
                refine XS.iand X0.here hx rfl (hb hby own_d8_73) rfl ?_
                exact k
              by_cases hc74 : (((p1.toUInt32 >>> ((16 : Int32) &&& 31).toUInt32).toInt32) &&& (255 : Int32)) = (((p3.toUInt32 >>> ((16 : Int32) &&& 31).toUInt32).toInt32) &&& (255 : Int32))
              · obtain ⟨fs, hr, hrun, hended, hW, hsame⟩ := X0.leave (v := some (.int (1 : Int32))) (fun h => by rw [Bd.returns] at h; cases h)
                refine ⟨_, _, pre419 _ ?_, hrun, hended, _, _, rfl, ?_, ⟨_, rfl⟩, hW, hsame.mono (by decide) (by decide)⟩
                · show Steps p.tables e below (s₁.setTop (mkF m 74 #[iv p1, iv p2, iv p3, iv p4] [(.int (((p3.toUInt32 >>> ((16 : Int32) &&& 31).toUInt32).toInt32) &&& (255 : Int32))), (.int (((p1.toUInt32 >>> ((16 : Int32) &&& 31).toUInt32).toInt32) &&& (255 : Int32)))])) _
                  refine XS.icmpYes X0.here hx rfl (pc0 := 74) (pc' := 79) rfl (hb hby own_d8_74) rfl (teq hc74).1 (by decide) (by decide) ?_
                  show Steps p.tables e below (s₁.setTop (mkF m 79 #[iv p1, iv p2, iv p3, iv p4] [])) _
                  refine XS.iconst X0.here hx rfl (hb hby own_d8_79) ?_
                  show Steps p.tables e below (s₁.setTop (mkF m 80 #[iv p1, iv p2, iv p3, iv p4] [(.int (1 : Int32))])) _
                  exact retN X0 hx (t := .boolean) Bd.returns (by simp) (hb hby own_d8_80) hr
                · show QS Z p1 p2 p3 p4 h0 n0 _ s₁.heap _
                  rw [e0]
                  exact ⟨(congrArg (fun z => some (Value.int z)) (by unfold own_f_rmS; rw [if_pos hc2, if_neg hc9, if_pos hc22, if_neg hc29, if_pos hc48, if_neg hc55, if_pos hc74] : (1 : Int32) = (own_f_rmS p1 p2 p3 p4))), N0, rfl⟩
              · obtain ⟨fs, hr, hrun, hended, hW, hsame⟩ := X0.leave (v := some (.int (0 : Int32))) (fun h => by rw [Bd.returns] at h; cases h)
                refine ⟨_, _, pre419 _ ?_, hrun, hended, _, _, rfl, ?_, ⟨_, rfl⟩, hW, hsame.mono (by decide) (by decide)⟩
                · show Steps p.tables e below (s₁.setTop (mkF m 74 #[iv p1, iv p2, iv p3, iv p4] [(.int (((p3.toUInt32 >>> ((16 : Int32) &&& 31).toUInt32).toInt32) &&& (255 : Int32))), (.int (((p1.toUInt32 >>> ((16 : Int32) &&& 31).toUInt32).toInt32) &&& (255 : Int32)))])) _
                  refine XS.icmpNo X0.here hx rfl (hb hby own_d8_74) rfl (feq hc74).1 ?_
                  show Steps p.tables e below (s₁.setTop (mkF m 77 #[iv p1, iv p2, iv p3, iv p4] [])) _
                  refine XS.iconst X0.here hx rfl (hb hby own_d8_77) ?_
                  show Steps p.tables e below (s₁.setTop (mkF m 78 #[iv p1, iv p2, iv p3, iv p4] [(.int (0 : Int32))])) _
                  exact retN X0 hx (t := .boolean) Bd.returns (by simp) (hb hby own_d8_78) hr
                · show QS Z p1 p2 p3 p4 h0 n0 _ s₁.heap _
                  rw [e0]
                  exact ⟨(congrArg (fun z => some (Value.int z)) (by unfold own_f_rmS; rw [if_pos hc2, if_neg hc9, if_pos hc22, if_neg hc29, if_pos hc48, if_neg hc55, if_neg hc74] : (0 : Int32) = (own_f_rmS p1 p2 p3 p4))), N0, rfl⟩
          · obtain ⟨fs, hr, hrun, hended, hW, hsame⟩ := X0.leave (v := some (.int (0 : Int32))) (fun h => by rw [Bd.returns] at h; cases h)
            refine ⟨_, _, pre417 _ ?_, hrun, hended, _, _, rfl, ?_, ⟨_, rfl⟩, hW, hsame.mono (by decide) (by decide)⟩
            · show Steps p.tables e below (s₁.setTop (mkF m 48 #[iv p1, iv p2, iv p3, iv p4] [(.int (((p3.toUInt32 >>> ((8 : Int32) &&& 31).toUInt32).toInt32) &&& (255 : Int32))), (.int (((p1.toUInt32 >>> ((8 : Int32) &&& 31).toUInt32).toInt32) &&& (255 : Int32)))])) _
              refine XS.icmpNo X0.here hx rfl (hb hby own_d8_48) rfl (feq hc48).1 ?_
              show Steps p.tables e below (s₁.setTop (mkF m 51 #[iv p1, iv p2, iv p3, iv p4] [])) _
              refine XS.iconst X0.here hx rfl (hb hby own_d8_51) ?_
              show Steps p.tables e below (s₁.setTop (mkF m 52 #[iv p1, iv p2, iv p3, iv p4] [(.int (0 : Int32))])) _
              exact retN X0 hx (t := .boolean) Bd.returns (by simp) (hb hby own_d8_52) hr
            · show QS Z p1 p2 p3 p4 h0 n0 _ s₁.heap _
              rw [e0]
              exact ⟨(congrArg (fun z => some (Value.int z)) (by unfold own_f_rmS; rw [if_pos hc2, if_neg hc9, if_pos hc22, if_neg hc29, if_neg hc48] : (0 : Int32) = (own_f_rmS p1 p2 p3 p4))), N0, rfl⟩
      · obtain ⟨fs, hr, hrun, hended, hW, hsame⟩ := X0.leave (v := some (.int (0 : Int32))) (fun h => by rw [Bd.returns] at h; cases h)
        refine ⟨_, _, pre413 _ ?_, hrun, hended, _, _, rfl, ?_, ⟨_, rfl⟩, hW, hsame.mono (by decide) (by decide)⟩
        · show Steps p.tables e below (s₁.setTop (mkF m 22 #[iv p1, iv p2, iv p3, iv p4] [(.int (p3 &&& (255 : Int32))), (.int (p1 &&& (255 : Int32)))])) _
          refine XS.icmpNo X0.here hx rfl (hb hby own_d8_22) rfl (feq hc22).1 ?_
          show Steps p.tables e below (s₁.setTop (mkF m 25 #[iv p1, iv p2, iv p3, iv p4] [])) _
          refine XS.iconst X0.here hx rfl (hb hby own_d8_25) ?_
          show Steps p.tables e below (s₁.setTop (mkF m 26 #[iv p1, iv p2, iv p3, iv p4] [(.int (0 : Int32))])) _
          exact retN X0 hx (t := .boolean) Bd.returns (by simp) (hb hby own_d8_26) hr
        · show QS Z p1 p2 p3 p4 h0 n0 _ s₁.heap _
          rw [e0]
          exact ⟨(congrArg (fun z => some (Value.int z)) (by unfold own_f_rmS; rw [if_pos hc2, if_neg hc9, if_neg hc22] : (0 : Int32) = (own_f_rmS p1 p2 p3 p4))), N0, rfl⟩
  · obtain ⟨fs, hr, hrun, hended, hW, hsame⟩ := X0.leave (v := some (.int (0 : Int32))) (fun h => by rw [Bd.returns] at h; cases h)
    refine ⟨_, _, pre405 _ ?_, hrun, hended, _, _, rfl, ?_, ⟨_, rfl⟩, hW, hsame.mono (by decide) (by decide)⟩
    · show Steps p.tables e below (s₁.setTop (mkF m 2 #[iv p1, iv p2, iv p3, iv p4] [(.int p4), (.int p2)])) _
      refine XS.icmpNo X0.here hx rfl (hb hby own_d8_2) rfl (feq hc2).1 ?_
      show Steps p.tables e below (s₁.setTop (mkF m 5 #[iv p1, iv p2, iv p3, iv p4] [])) _
      refine XS.iconst X0.here hx rfl (hb hby own_d8_5) ?_
      show Steps p.tables e below (s₁.setTop (mkF m 6 #[iv p1, iv p2, iv p3, iv p4] [(.int (0 : Int32))])) _
      exact retN X0 hx (t := .boolean) Bd.returns (by simp) (hb hby own_d8_6) hr
    · show QS Z p1 p2 p3 p4 h0 n0 _ s₁.heap _
      rw [e0]
      exact ⟨(congrArg (fun z => some (Value.int z)) (by unfold own_f_rmS; rw [if_neg hc2] : (0 : Int32) = (own_f_rmS p1 p2 p3 p4))), N0, rfl⟩
theorem own_byC (x y : Int32) : (nar .byte ((nar .char ((x &&& (255 : Int32)).toUInt32.toUInt16.toUInt32.toInt32)).toInt8.toInt32)) = (nar .byte ((nar .char ((y &&& (255 : Int32)).toUInt32.toUInt16.toUInt32.toInt32)).toInt8.toInt32)) ↔ (x &&& (255 : Int32)) = (y &&& (255 : Int32)) := by
  have k : ∀ z : Int32, ((nar .byte ((nar .char ((z &&& (255 : Int32)).toUInt32.toUInt16.toUInt32.toInt32)).toInt8.toInt32)).toInt - (z &&& (255 : Int32)).toInt) % 256 = 0 ∧ 0 ≤ (z &&& (255 : Int32)).toInt ∧ (z &&& (255 : Int32)).toInt < 256 := fun z => by
    have h1 := c_mask z 255 8 (by decide) (by decide)
    have h2 := c_i2c (z &&& (255 : Int32))
    have h3 := c_i2c ((z &&& (255 : Int32)).toUInt32.toUInt16.toUInt32.toInt32)
    have h4 := c_i2b (((z &&& (255 : Int32)).toUInt32.toUInt16.toUInt32.toInt32.toUInt32.toUInt16.toUInt32.toInt32))
    have h5 := c_i2b (((z &&& (255 : Int32)).toUInt32.toUInt16.toUInt32.toInt32.toUInt32.toUInt16.toUInt32.toInt32).toInt8.toInt32)
    refine ⟨?_, by omega, by omega⟩
    show ((((z &&& (255 : Int32)).toUInt32.toUInt16.toUInt32.toInt32.toUInt32.toUInt16.toUInt32.toInt32).toInt8.toInt32.toInt8.toInt32).toInt - _) % 256 = 0
    omega
  obtain ⟨kx, kx1, kx2⟩ := k x
  obtain ⟨ky, ky1, ky2⟩ := k y
  constructor
  · intro q; rw [← Int32.toInt_inj]; rw [q] at kx; omega
  · intro q; rw [q]
theorem own_byV (x y : Int32) : (nar .byte (((x &&& (255 : Int32)).toUInt32.toUInt16.toUInt32.toInt32).toInt8.toInt32)) = (nar .byte (((y &&& (255 : Int32)).toUInt32.toUInt16.toUInt32.toInt32).toInt8.toInt32)) ↔ (x &&& (255 : Int32)) = (y &&& (255 : Int32)) := by
  have k : ∀ z : Int32, ((nar .byte (((z &&& (255 : Int32)).toUInt32.toUInt16.toUInt32.toInt32).toInt8.toInt32)).toInt - (z &&& (255 : Int32)).toInt) % 256 = 0 ∧ 0 ≤ (z &&& (255 : Int32)).toInt ∧ (z &&& (255 : Int32)).toInt < 256 := fun z => by
    have h1 := c_mask z 255 8 (by decide) (by decide)
    have h2 := c_i2c (z &&& (255 : Int32))
    have h3 := c_i2c ((z &&& (255 : Int32)).toUInt32.toUInt16.toUInt32.toInt32)
    have h4 := c_i2b (((z &&& (255 : Int32)).toUInt32.toUInt16.toUInt32.toInt32))
    have h5 := c_i2b (((z &&& (255 : Int32)).toUInt32.toUInt16.toUInt32.toInt32).toInt8.toInt32)
    refine ⟨?_, by omega, by omega⟩
    show ((((z &&& (255 : Int32)).toUInt32.toUInt16.toUInt32.toInt32).toInt8.toInt32.toInt8.toInt32).toInt - _) % 256 = 0
    omega
  obtain ⟨kx, kx1, kx2⟩ := k x
  obtain ⟨ky, ky1, ky2⟩ := k y
  constructor
  · intro q; rw [← Int32.toInt_inj]; rw [q] at kx; omega
  · intro q; rw [q]
theorem own_l4 (x : Int32) : (x &&& (3 : Int32)) = (0 : Int32) ∨ (x &&& (3 : Int32)) = (1 : Int32) ∨ (x &&& (3 : Int32)) = (2 : Int32) ∨ (x &&& (3 : Int32)) = (3 : Int32) := by
  have h1 := c_mask x 3 2 (by decide) (by decide)
  simp only [← Int32.toInt_inj]
  have e0 : (0 : Int32).toInt = 0 := by decide
  have e1 : (1 : Int32).toInt = 1 := by decide
  have e2 : (2 : Int32).toInt = 2 := by decide
  have e3 : (3 : Int32).toInt = 3 := by decide
  omega
theorem own_same (b1 l1 b2 l2 : Int32) (h1 : l1 = (0 : Int32) ∨ l1 = (1 : Int32) ∨ l1 = (2 : Int32) ∨ l1 = (3 : Int32)) (h2 : l2 = (0 : Int32) ∨ l2 = (1 : Int32) ∨ l2 = (2 : Int32) ∨ l2 = (3 : Int32)) : own_f_rmS b1 l1 b2 l2 = own_eqL (own_mk b1 l1) (own_mk b2 l2) := by
  have qv : own_v0 b1 = own_v0 b2 ↔ (b1 &&& (255 : Int32)) = (b2 &&& (255 : Int32)) := own_byV b1 b2
  have q0 : own_c0 b1 = own_c0 b2 ↔ (b1 &&& (255 : Int32)) = (b2 &&& (255 : Int32)) := own_byC b1 b2
  have q1 : own_c1 b1 = own_c1 b2 ↔ (((b1.toUInt32 >>> ((8 : Int32) &&& 31).toUInt32).toInt32) &&& (255 : Int32)) = (((b2.toUInt32 >>> ((8 : Int32) &&& 31).toUInt32).toInt32) &&& (255 : Int32)) := own_byC ((b1.toUInt32 >>> ((8 : Int32) &&& 31).toUInt32).toInt32) ((b2.toUInt32 >>> ((8 : Int32) &&& 31).toUInt32).toInt32)
  have q2 : own_c2 b1 = own_c2 b2 ↔ (((b1.toUInt32 >>> ((16 : Int32) &&& 31).toUInt32).toInt32) &&& (255 : Int32)) = (((b2.toUInt32 >>> ((16 : Int32) &&& 31).toUInt32).toInt32) &&& (255 : Int32)) := own_byC ((b1.toUInt32 >>> ((16 : Int32) &&& 31).toUInt32).toInt32) ((b2.toUInt32 >>> ((16 : Int32) &&& 31).toUInt32).toInt32)
  unfold own_f_rmS own_eqL own_mk
  generalize own_v0 b1 = w1 at *
  generalize own_v0 b2 = w2 at *
  generalize own_c0 b1 = x1 at *
  generalize own_c0 b2 = x2 at *
  generalize own_c1 b1 = y1 at *
  generalize own_c1 b2 = y2 at *
  generalize own_c2 b1 = z1 at *
  generalize own_c2 b2 = z2 at *
  generalize (((b1.toUInt32 >>> ((8 : Int32) &&& 31).toUInt32).toInt32) &&& (255 : Int32)) = n1 at *
  generalize (((b2.toUInt32 >>> ((8 : Int32) &&& 31).toUInt32).toInt32) &&& (255 : Int32)) = n2 at *
  generalize (((b1.toUInt32 >>> ((16 : Int32) &&& 31).toUInt32).toInt32) &&& (255 : Int32)) = o1 at *
  generalize (((b2.toUInt32 >>> ((16 : Int32) &&& 31).toUInt32).toInt32) &&& (255 : Int32)) = o2 at *
  generalize (b1 &&& (255 : Int32)) = m1 at *
  generalize (b2 &&& (255 : Int32)) = m2 at *
  rcases h1 with rfl | rfl | rfl | rfl <;> rcases h2 with rfl | rfl | rfl | rfl <;> simp only [List.cons.injEq, qv, q0, q1, q2, and_true] <;> simp <;> grind
def own_n (e k : Int32) : Int32 := (((e.toUInt32 >>> (k &&& 31).toUInt32).toInt32) &&& (3 : Int32))
theorem own_pd11 : parseMethodDescriptor "(II)Ljava/lang/String;" = some ⟨[.int, .int], some (.object "java/lang/String")⟩ := by decide +kernel
theorem own_pd12 : parseMethodDescriptor "(Ljava/lang/String;[Ljava/lang/String;)Z" = some ⟨[(.object "java/lang/String"), (.array (.object "java/lang/String"))], some .boolean⟩ := by decide +kernel
theorem own_pd13 : parseMethodDescriptor "(IIII)Z" = some ⟨[.int, .int, .int, .int], some .boolean⟩ := by decide +kernel
theorem own_join {A G : Prop} (h1 : A → G) (h2 : A) : G := h1 h2
theorem own_ef_rm0 (m : MethodId) (p0 : Int32) (p1 : Int32) (p2 : Int32) (p3 : Int32) (p4 : Int32) : entryFrame m #[(.int p0), (.int p1), (.int p2), (.int p3), (.int p4)] maxLocals = mkF m 0 #[.val (.int p0), .val (.int p1), .val (.int p2), .val (.int p3), .val (.int p4), .unset, .unset, .unset, .unset, .unset, .unset, .unset, .unset, .unset, .unset, .unset, .unset, .unset, .unset] [] := by first | (simp [entryFrame, mkF, argsToLocals, Value.category, maxLocals]; done) | rfl
def Q0 (Z : State) (p0 : Int32) (p1 : Int32) (p2 : Int32) (p3 : Int32) (p4 : Int32) (cw : Int32) (h0 : Heap) (n0 : Nat) (v : Option Value) (h : Heap) (L : List Loc) : Prop := v = some (.int (1 : Int32)) ∧ Fr n0 L
set_option maxRecDepth 65536 in
set_option maxHeartbeats 40000000 in
theorem rm0 (l : Launch) (Z : State) (a0 : Array Value) (hw : ∀ d ∈ tables_1, d.before a0 Z = true) (ws : List Jvm.Cond) (p0 : Int32) (p1 : Int32) (p2 : Int32) (p3 : Int32) (p4 : Int32) (cw : Int32) (h0 : Heap) (n0 : Nat) (Z0 : n0 ≤ h0.size) (S_COMPACT_STRINGS : Sta Z h0 "java/lang/String" "COMPACT_STRINGS" "Z" (.int cw)) (hw0 : ¬ (cw = (0 : Int32))) :
    MetFree l x (head1 (Jvm.Cond.code x code maxLocals ret :: ws) room_1) (fun a U => a = #[(.int p0), (.int p1), (.int p2), (.int p3), (.int p4)] ∧ Z.Warmed39 U.vm ∧ U.heap = h0 ∧ CHv Z own_EL U.vm h0) (fun _ _ _ _ _ => True) (fun _ U o U' => ∃ v L, o = .returned v ∧ Q0 Z p0 p1 p2 p3 p4 cw h0 n0 v U'.heap L ∧ CHr Z own_EL U.vm U.heap U'.vm U'.heap ∧ ReturnedEndW U o U' L room_1.cells room_1.slots) := by
  refine MetFree.of_bodySF (plainFor_of_name own_pn3) hisR ?_
  intro p e s m args below meth c s₁ Bd hml0 hP hK
  obtain ⟨rfl, hZ, hh, hCH⟩ := hP
  have hx := Bd.exec
  have hby := Bd.bytes
  have hml : c.maxLocals = 19 := hml0
  have hown : s.vm.findClass "com/example/partybook/partybook/io/XmlInputIsOneOfPinLaw" = some m.cls := findClass_of_methodNamed Bd.named
  have hnm := (name_of_methodNamed Bd.named Bd.method).1
  have X0 : Stand p l e room_1 (s.setVm s.vm) m #[(.int p0), (.int p1), (.int p2), (.int p3), (.int p4)] below meth c s₁ [] 0 0 := Stand.of_body Bd
  have e0 : s₁.heap = h0 := by rw [← hh, Bd.state]; rfl
  have N0 := Fr.nil n0
  have K0 : Keep h0 h0 [] := Keep.refl h0 _
  have pre0 : ∀ t, Steps p.tables e below (s₁.setTop (mkF m 0 #[.val (.int p0), .val (.int p1), .val (.int p2), .val (.int p3), .val (.int p4), .unset, .unset, .unset, .unset, .unset, .unset, .unset, .unset, .unset, .unset, .unset, .unset, .unset, .unset] [])) t → Steps p.tables e below (s₁.setTop (entryFrame m #[(.int p0), (.int p1), (.int p2), (.int p3), (.int p4)] maxLocals)) t := fun t k => castTop (own_ef_rm0 m p0 p1 p2 p3 p4) k
  have hS : s.Since s.vm 0 := (State.WarmedH.refl s).since 0
  have hk : 0 ≤ h0.size := Nat.zero_le _
  have CH0 := CHr.refl hCH
  have hEL := own_hEL hw
  have wS := own_wS hw
  refine own_join (A := ∃ (x0 : Int32) (x1 : Int32) (x2 : Int32) (n6 : Int32) (n7 : Int32) (n8 : Int32) (n9 : Int32) (TJ : State), Stand p l e room_1 (s.setVm s.vm) m #[(.int p0), (.int p1), (.int p2), (.int p3), (.int p4)] below meth c TJ [] 0 0 ∧ TJ.heap = h0 ∧ (∀ t, Steps p.tables e below (TJ.setTop (mkF m 91 #[iv p0, iv p1, iv p2, iv p3, iv p4, iv (p4 &&& (3 : Int32)), iv n6, iv n7, iv n8, iv n9, iv x0, iv x1, iv x2, .unset, .unset, .unset, .unset, .unset, .unset] [])) t → Steps p.tables e below (s₁.setTop (entryFrame m #[(.int p0), (.int p1), (.int p2), (.int p3), (.int p4)] maxLocals)) t) ∧ (n6 = (0 : Int32) ∨ n6 = (1 : Int32) ∨ n6 = (2 : Int32) ∨ n6 = (3 : Int32)) ∧ (n7 = (0 : Int32) ∨ n7 = (1 : Int32) ∨ n7 = (2 : Int32) ∨ n7 = (3 : Int32)) ∧ (n8 = (0 : Int32) ∨ n8 = (1 : Int32) ∨ n8 = (2 : Int32) ∨ n8 = (3 : Int32)) ∧ (n9 = (0 : Int32) ∨ n9 = (1 : Int32) ∨ n9 = (2 : Int32) ∨ n9 = (3 : Int32))) ?_ ?_
  · rintro ⟨x0, x1, x2, n6, n7, n8, n9, TJ, XJ, eJ, preJ, h6n, h7n, h8n, h9n⟩
    have pre435 : ∀ t, Steps p.tables e below (TJ.setTop (mkF m 94 #[iv p0, iv p1, iv p2, iv p3, iv p4, iv (p4 &&& (3 : Int32)), iv n6, iv n7, iv n8, iv n9, iv x0, iv x1, iv x2, .unset, .unset, .unset, .unset, .unset, .unset] [(.int n6), (.int p0)])) t → Steps p.tables e below (s₁.setTop (entryFrame m #[(.int p0), (.int p1), (.int p2), (.int p3), (.int p4)] maxLocals)) t := fun t k => by
      refine preJ _ ?_
      show Steps p.tables e below (TJ.setTop (mkF m 91 #[iv p0, iv p1, iv p2, iv p3, iv p4, iv (p4 &&& (3 : Int32)), iv n6, iv n7, iv n8, iv n9, iv x0, iv x1, iv x2, .unset, .unset, .unset, .unset, .unset, .unset] [])) _
      refine XS.iloadN XJ.here hx rfl (hb hby at_91) rfl ?_
      show Steps p.tables e below (TJ.setTop (mkF m 92 #[iv p0, iv p1, iv p2, iv p3, iv p4, iv (p4 &&& (3 : Int32)), iv n6, iv n7, iv n8, iv n9, iv x0, iv x1, iv x2, .unset, .unset, .unset, .unset, .unset, .unset] [(.int p0)])) _
      refine XS.iload XJ.here hx rfl (hb hby at_92) rfl ?_
      exact k
    obtain ⟨_, _, ⟨T436, L436, k436, n436⟩, -, XC436, hSC436, hgC436, ⟨Lc436, hQ436, l436, y436, z436, CR436⟩, st436⟩ := callSS XJ hx (y := (⟨"com/example/partybook/partybook/io/XmlInputIsOneOfPinLaw", "mk", "(II)Ljava/lang/String;"⟩ : MethodName)) hown (mvT hZ (hw _ (List.mem_of_getElem? (i := 0) rfl))) (mvT hZ (hw _ (List.mem_of_getElem? (i := 1) rfl))) (mvT hZ (hw _ (List.mem_of_getElem? (i := 2) rfl))) (mvT hZ (hw _ (List.mem_of_getElem? (i := 3) rfl))) (by decide) (backOfSH (W := 0) (rmM l Z a0 hw [] p0 n6 cw h0 n0 (Nat.le_trans Z0 K0.1) S_COMPACT_STRINGS hw0) hZ (hw _ (List.mem_of_getElem? (i := 3) rfl)) (hw _ (List.mem_of_getElem? (i := 2) rfl)) (by decide) (by decide) hEL CH0.1) (g := (mkF m 94 #[iv p0, iv p1, iv p2, iv p3, iv p4, iv (p4 &&& (3 : Int32)), iv n6, iv n7, iv n8, iv n9, iv x0, iv x1, iv x2, .unset, .unset, .unset, .unset, .unset, .unset] [(.int n6), (.int p0)])) rfl (by rw [hml]; rfl) (argsL := [(.int p0), (.int n6)]) (rest := []) (lenOf own_pd11 rfl) rfl (by show 2 * 0 + _ ≤ _; exact Nat.le_of_eq rfl) (hb hby at_94) (fun _ _ => ⟨rfl, eJ, (by decide : 0 + 3 ≤ _), (by decide : 0 + 10 ≤ _)⟩)
    dsimp only [Pt.U, Pt.locs, Pt.cells, Pt.slots] at XC436 l436 y436 z436 st436 hQ436 hSC436 hgC436 CR436
    subst l436 y436 z436
    obtain ⟨X436, hS, hZ, hown⟩ := rebS hS (n1 := TJ.heap.size) (by rw [eJ]; exact hk) XC436 hSC436 hgC436 hZ hown
    obtain ⟨r_436, rfl, N436q, i436_3, i436_4⟩ := hQ436
    have N436 := Fr.app N0 N436q
    have CH436 := CH0.trans CR436
    have hk := Nat.le_refl T436.heap.size
    have K436 := K0.trans i436_3 all0
    have Q437 := (own_staKeep S_COMPACT_STRINGS i436_3 all0)
    have pre438 : ∀ t, Steps p.tables e below (T436.setTop (mkF m 103 #[iv p0, iv p1, iv p2, iv p3, iv p4, iv (p4 &&& (3 : Int32)), iv n6, iv n7, iv n8, iv n9, iv x0, iv x1, iv x2, rv r_436, .unset, .unset, .unset, .unset, .unset] [(.int n7), (.int x0)])) t → Steps p.tables e below (s₁.setTop (entryFrame m #[(.int p0), (.int p1), (.int p2), (.int p3), (.int p4)] maxLocals)) t := fun t k => by
      refine pre435 _ ?_
      show Steps p.tables e below (TJ.setTop (mkF m 94 #[iv p0, iv p1, iv p2, iv p3, iv p4, iv (p4 &&& (3 : Int32)), iv n6, iv n7, iv n8, iv n9, iv x0, iv x1, iv x2, .unset, .unset, .unset, .unset, .unset, .unset] [(.int n6), (.int p0)])) _
      refine st436.trans ?_
      show Steps p.tables e below (T436.setTop (mkF m 97 #[iv p0, iv p1, iv p2, iv p3, iv p4, iv (p4 &&& (3 : Int32)), iv n6, iv n7, iv n8, iv n9, iv x0, iv x1, iv x2, .unset, .unset, .unset, .unset, .unset, .unset] [(.ref r_436)])) _
      refine XS.astore X436.here hx rfl (hb hby at_97) rfl rfl (l' := #[iv p0, iv p1, iv p2, iv p3, iv p4, iv (p4 &&& (3 : Int32)), iv n6, iv n7, iv n8, iv n9, iv x0, iv x1, iv x2, rv r_436, .unset, .unset, .unset, .unset, .unset]) rfl ?_
      show Steps p.tables e below (T436.setTop (mkF m 99 #[iv p0, iv p1, iv p2, iv p3, iv p4, iv (p4 &&& (3 : Int32)), iv n6, iv n7, iv n8, iv n9, iv x0, iv x1, iv x2, rv r_436, .unset, .unset, .unset, .unset, .unset] [])) _
      refine XS.iload X436.here hx rfl (hb hby at_99) rfl ?_
      show Steps p.tables e below (T436.setTop (mkF m 101 #[iv p0, iv p1, iv p2, iv p3, iv p4, iv (p4 &&& (3 : Int32)), iv n6, iv n7, iv n8, iv n9, iv x0, iv x1, iv x2, rv r_436, .unset, .unset, .unset, .unset, .unset] [(.int x0)])) _
      refine XS.iload X436.here hx rfl (hb hby at_101) rfl ?_
      exact k
    obtain ⟨_, _, ⟨T439, L439, k439, n439⟩, -, XC439, hSC439, hgC439, ⟨Lc439, hQ439, l439, y439, z439, CR439⟩, st439⟩ := callSS X436 hx (y := (⟨"com/example/partybook/partybook/io/XmlInputIsOneOfPinLaw", "mk", "(II)Ljava/lang/String;"⟩ : MethodName)) hown (mvT hZ (hw _ (List.mem_of_getElem? (i := 0) rfl))) (mvT hZ (hw _ (List.mem_of_getElem? (i := 1) rfl))) (mvT hZ (hw _ (List.mem_of_getElem? (i := 2) rfl))) (mvT hZ (hw _ (List.mem_of_getElem? (i := 3) rfl))) (by decide) (backOfSH (W := 0) (rmM l Z a0 hw [] x0 n7 cw T436.heap n0 (Nat.le_trans Z0 K436.1) Q437 hw0) hZ (hw _ (List.mem_of_getElem? (i := 3) rfl)) (hw _ (List.mem_of_getElem? (i := 2) rfl)) (by decide) (by decide) hEL CH436.1) (g := (mkF m 103 #[iv p0, iv p1, iv p2, iv p3, iv p4, iv (p4 &&& (3 : Int32)), iv n6, iv n7, iv n8, iv n9, iv x0, iv x1, iv x2, rv r_436, .unset, .unset, .unset, .unset, .unset] [(.int n7), (.int x0)])) rfl (by rw [hml]; rfl) (argsL := [(.int x0), (.int n7)]) (rest := []) (lenOf own_pd11 rfl) rfl (by show 2 * 0 + _ ≤ _; exact Nat.le_of_eq rfl) (hb hby at_103) (fun _ _ => ⟨rfl, rfl, (by decide : 3 + 3 ≤ _), (by decide : 10 + 10 ≤ _)⟩)
    dsimp only [Pt.U, Pt.locs, Pt.cells, Pt.slots] at XC439 l439 y439 z439 st439 hQ439 hSC439 hgC439 CR439
    subst l439 y439 z439
    obtain ⟨X439, hS, hZ, hown⟩ := rebS hS (n1 := T436.heap.size) hk XC439 hSC439 hgC439 hZ hown
    obtain ⟨r_439, rfl, N439q, i439_3, i439_4⟩ := hQ439
    have N439 := Fr.app N436 N439q
    have CH439 := CH436.trans CR439
    have hk := Nat.le_refl T439.heap.size
    have K439 := K436.trans i439_3 all0
    have Q440 := (own_staKeep Q437 i439_3 all0)
    have pre441 : ∀ t, Steps p.tables e below (T439.setTop (mkF m 112 #[iv p0, iv p1, iv p2, iv p3, iv p4, iv (p4 &&& (3 : Int32)), iv n6, iv n7, iv n8, iv n9, iv x0, iv x1, iv x2, rv r_436, rv r_439, .unset, .unset, .unset, .unset] [(.int n8), (.int x1)])) t → Steps p.tables e below (s₁.setTop (entryFrame m #[(.int p0), (.int p1), (.int p2), (.int p3), (.int p4)] maxLocals)) t := fun t k => by
      refine pre438 _ ?_
      show Steps p.tables e below (T436.setTop (mkF m 103 #[iv p0, iv p1, iv p2, iv p3, iv p4, iv (p4 &&& (3 : Int32)), iv n6, iv n7, iv n8, iv n9, iv x0, iv x1, iv x2, rv r_436, .unset, .unset, .unset, .unset, .unset] [(.int n7), (.int x0)])) _
      refine st439.trans ?_
      show Steps p.tables e below (T439.setTop (mkF m 106 #[iv p0, iv p1, iv p2, iv p3, iv p4, iv (p4 &&& (3 : Int32)), iv n6, iv n7, iv n8, iv n9, iv x0, iv x1, iv x2, rv r_436, .unset, .unset, .unset, .unset, .unset] [(.ref r_439)])) _
      refine XS.astore X439.here hx rfl (hb hby at_106) rfl rfl (l' := #[iv p0, iv p1, iv p2, iv p3, iv p4, iv (p4 &&& (3 : Int32)), iv n6, iv n7, iv n8, iv n9, iv x0, iv x1, iv x2, rv r_436, rv r_439, .unset, .unset, .unset, .unset]) rfl ?_
      show Steps p.tables e below (T439.setTop (mkF m 108 #[iv p0, iv p1, iv p2, iv p3, iv p4, iv (p4 &&& (3 : Int32)), iv n6, iv n7, iv n8, iv n9, iv x0, iv x1, iv x2, rv r_436, rv r_439, .unset, .unset, .unset, .unset] [])) _
      refine XS.iload X439.here hx rfl (hb hby at_108) rfl ?_
      show Steps p.tables e below (T439.setTop (mkF m 110 #[iv p0, iv p1, iv p2, iv p3, iv p4, iv (p4 &&& (3 : Int32)), iv n6, iv n7, iv n8, iv n9, iv x0, iv x1, iv x2, rv r_436, rv r_439, .unset, .unset, .unset, .unset] [(.int x1)])) _
      refine XS.iload X439.here hx rfl (hb hby at_110) rfl ?_
      exact k
    obtain ⟨_, _, ⟨T442, L442, k442, n442⟩, -, XC442, hSC442, hgC442, ⟨Lc442, hQ442, l442, y442, z442, CR442⟩, st442⟩ := callSS X439 hx (y := (⟨"com/example/partybook/partybook/io/XmlInputIsOneOfPinLaw", "mk", "(II)Ljava/lang/String;"⟩ : MethodName)) hown (mvT hZ (hw _ (List.mem_of_getElem? (i := 0) rfl))) (mvT hZ (hw _ (List.mem_of_getElem? (i := 1) rfl))) (mvT hZ (hw _ (List.mem_of_getElem? (i := 2) rfl))) (mvT hZ (hw _ (List.mem_of_getElem? (i := 3) rfl))) (by decide) (backOfSH (W := 0) (rmM l Z a0 hw [] x1 n8 cw T439.heap n0 (Nat.le_trans Z0 K439.1) Q440 hw0) hZ (hw _ (List.mem_of_getElem? (i := 3) rfl)) (hw _ (List.mem_of_getElem? (i := 2) rfl)) (by decide) (by decide) hEL CH439.1) (g := (mkF m 112 #[iv p0, iv p1, iv p2, iv p3, iv p4, iv (p4 &&& (3 : Int32)), iv n6, iv n7, iv n8, iv n9, iv x0, iv x1, iv x2, rv r_436, rv r_439, .unset, .unset, .unset, .unset] [(.int n8), (.int x1)])) rfl (by rw [hml]; rfl) (argsL := [(.int x1), (.int n8)]) (rest := []) (lenOf own_pd11 rfl) rfl (by show 2 * 0 + _ ≤ _; exact Nat.le_of_eq rfl) (hb hby at_112) (fun _ _ => ⟨rfl, rfl, (by decide : 6 + 3 ≤ _), (by decide : 20 + 10 ≤ _)⟩)
    dsimp only [Pt.U, Pt.locs, Pt.cells, Pt.slots] at XC442 l442 y442 z442 st442 hQ442 hSC442 hgC442 CR442
    subst l442 y442 z442
    obtain ⟨X442, hS, hZ, hown⟩ := rebS hS (n1 := T439.heap.size) hk XC442 hSC442 hgC442 hZ hown
    obtain ⟨r_442, rfl, N442q, i442_3, i442_4⟩ := hQ442
    have N442 := Fr.app N439 N442q
    have CH442 := CH439.trans CR442
    have hk := Nat.le_refl T442.heap.size
    have K442 := K439.trans i442_3 all0
    have Q443 := (own_staKeep Q440 i442_3 all0)
    have pre444 : ∀ t, Steps p.tables e below (T442.setTop (mkF m 121 #[iv p0, iv p1, iv p2, iv p3, iv p4, iv (p4 &&& (3 : Int32)), iv n6, iv n7, iv n8, iv n9, iv x0, iv x1, iv x2, rv r_436, rv r_439, rv r_442, .unset, .unset, .unset] [(.int n9), (.int x2)])) t → Steps p.tables e below (s₁.setTop (entryFrame m #[(.int p0), (.int p1), (.int p2), (.int p3), (.int p4)] maxLocals)) t := fun t k => by
      refine pre441 _ ?_
      show Steps p.tables e below (T439.setTop (mkF m 112 #[iv p0, iv p1, iv p2, iv p3, iv p4, iv (p4 &&& (3 : Int32)), iv n6, iv n7, iv n8, iv n9, iv x0, iv x1, iv x2, rv r_436, rv r_439, .unset, .unset, .unset, .unset] [(.int n8), (.int x1)])) _
      refine st442.trans ?_
      show Steps p.tables e below (T442.setTop (mkF m 115 #[iv p0, iv p1, iv p2, iv p3, iv p4, iv (p4 &&& (3 : Int32)), iv n6, iv n7, iv n8, iv n9, iv x0, iv x1, iv x2, rv r_436, rv r_439, .unset, .unset, .unset, .unset] [(.ref r_442)])) _
      refine XS.astore X442.here hx rfl (hb hby at_115) rfl rfl (l' := #[iv p0, iv p1, iv p2, iv p3, iv p4, iv (p4 &&& (3 : Int32)), iv n6, iv n7, iv n8, iv n9, iv x0, iv x1, iv x2, rv r_436, rv r_439, rv r_442, .unset, .unset, .unset]) rfl ?_
      show Steps p.tables e below (T442.setTop (mkF m 117 #[iv p0, iv p1, iv p2, iv p3, iv p4, iv (p4 &&& (3 : Int32)), iv n6, iv n7, iv n8, iv n9, iv x0, iv x1, iv x2, rv r_436, rv r_439, rv r_442, .unset, .unset, .unset] [])) _
      refine XS.iload X442.here hx rfl (hb hby at_117) rfl ?_
      show Steps p.tables e below (T442.setTop (mkF m 119 #[iv p0, iv p1, iv p2, iv p3, iv p4, iv (p4 &&& (3 : Int32)), iv n6, iv n7, iv n8, iv n9, iv x0, iv x1, iv x2, rv r_436, rv r_439, rv r_442, .unset, .unset, .unset] [(.int x2)])) _
      refine XS.iload X442.here hx rfl (hb hby at_119) rfl ?_
      exact k
    obtain ⟨_, _, ⟨T445, L445, k445, n445⟩, -, XC445, hSC445, hgC445, ⟨Lc445, hQ445, l445, y445, z445, CR445⟩, st445⟩ := callSS X442 hx (y := (⟨"com/example/partybook/partybook/io/XmlInputIsOneOfPinLaw", "mk", "(II)Ljava/lang/String;"⟩ : MethodName)) hown (mvT hZ (hw _ (List.mem_of_getElem? (i := 0) rfl))) (mvT hZ (hw _ (List.mem_of_getElem? (i := 1) rfl))) (mvT hZ (hw _ (List.mem_of_getElem? (i := 2) rfl))) (mvT hZ (hw _ (List.mem_of_getElem? (i := 3) rfl))) (by decide) (backOfSH (W := 0) (rmM l Z a0 hw [] x2 n9 cw T442.heap n0 (Nat.le_trans Z0 K442.1) Q443 hw0) hZ (hw _ (List.mem_of_getElem? (i := 3) rfl)) (hw _ (List.mem_of_getElem? (i := 2) rfl)) (by decide) (by decide) hEL CH442.1) (g := (mkF m 121 #[iv p0, iv p1, iv p2, iv p3, iv p4, iv (p4 &&& (3 : Int32)), iv n6, iv n7, iv n8, iv n9, iv x0, iv x1, iv x2, rv r_436, rv r_439, rv r_442, .unset, .unset, .unset] [(.int n9), (.int x2)])) rfl (by rw [hml]; rfl) (argsL := [(.int x2), (.int n9)]) (rest := []) (lenOf own_pd11 rfl) rfl (by show 2 * 0 + _ ≤ _; exact Nat.le_of_eq rfl) (hb hby at_121) (fun _ _ => ⟨rfl, rfl, (by decide : 9 + 3 ≤ _), (by decide : 30 + 10 ≤ _)⟩)
    dsimp only [Pt.U, Pt.locs, Pt.cells, Pt.slots] at XC445 l445 y445 z445 st445 hQ445 hSC445 hgC445 CR445
    subst l445 y445 z445
    obtain ⟨X445, hS, hZ, hown⟩ := rebS hS (n1 := T442.heap.size) hk XC445 hSC445 hgC445 hZ hown
    obtain ⟨r_445, rfl, N445q, i445_3, i445_4⟩ := hQ445
    have N445 := Fr.app N442 N445q
    have CH445 := CH442.trans CR445
    have hk := Nat.le_refl T445.heap.size
    have K445 := K442.trans i445_3 all0
    have pre446 : ∀ t, Steps p.tables e below (T445.setTop (mkF m 126 #[iv p0, iv p1, iv p2, iv p3, iv p4, iv (p4 &&& (3 : Int32)), iv n6, iv n7, iv n8, iv n9, iv x0, iv x1, iv x2, rv r_436, rv r_439, rv r_442, rv r_445, .unset, .unset] [])) t → Steps p.tables e below (s₁.setTop (entryFrame m #[(.int p0), (.int p1), (.int p2), (.int p3), (.int p4)] maxLocals)) t := fun t k => by
      refine pre444 _ ?_
      show Steps p.tables e below (T442.setTop (mkF m 121 #[iv p0, iv p1, iv p2, iv p3, iv p4, iv (p4 &&& (3 : Int32)), iv n6, iv n7, iv n8, iv n9, iv x0, iv x1, iv x2, rv r_436, rv r_439, rv r_442, .unset, .unset, .unset] [(.int n9), (.int x2)])) _
      refine st445.trans ?_
      show Steps p.tables e below (T445.setTop (mkF m 124 #[iv p0, iv p1, iv p2, iv p3, iv p4, iv (p4 &&& (3 : Int32)), iv n6, iv n7, iv n8, iv n9, iv x0, iv x1, iv x2, rv r_436, rv r_439, rv r_442, .unset, .unset, .unset] [(.ref r_445)])) _
      refine XS.astore X445.here hx rfl (hb hby at_124) rfl rfl (l' := #[iv p0, iv p1, iv p2, iv p3, iv p4, iv (p4 &&& (3 : Int32)), iv n6, iv n7, iv n8, iv n9, iv x0, iv x1, iv x2, rv r_436, rv r_439, rv r_442, rv r_445, .unset, .unset]) rfl ?_
      exact k
    rcases own_l4 p4 with hq4 | hq4 | hq4 | hq4
    · obtain ⟨T447, h447, k447, X447, e447, E447, A447, O447, st447⟩ := newR X445 hx hZ hown (hw _ (List.mem_of_getElem? (i := 12) rfl)) (hw _ (List.mem_of_getElem? (i := 13) rfl)) rfl (g := (mkF m 132 #[iv p0, iv p1, iv p2, iv p3, iv p4, iv (0 : Int32), iv n6, iv n7, iv n8, iv n9, iv x0, iv x1, iv x2, rv r_436, rv r_439, rv r_442, rv r_445, .unset, .unset] [(.int (0 : Int32))])) rfl (hb hby at_132) rfl (by decide) (cap := 0) (by decide) (by decide) (by decide) (by decide)
      obtain ⟨b447, g447⟩ : ∃ z, z = T445.heap.size := ⟨_, rfl⟩
      rw [← g447] at A447 st447
      have gg_b447 : n0 ≤ b447 := Nat.le_trans (Nat.le_trans Z0 K445.1) (Nat.le_of_eq g447.symm)
      have sz_b447 : h0.size ≤ b447 := Nat.le_trans K445.1 (Nat.le_of_eq g447.symm)
      have K447 := K445.ext E447
      have sf447_b447 := Safe.ext E447 CH445.1 (Safe.new (Nat.le_of_eq g447.symm) : Safe Z own_EL _ _ b447)
      have CH447 := CH445.trans (CHr.ext E447 CH445.1)
      have hk := Nat.le_trans hk E447.1
      have V447 : Arv Z h447 b447 k447 (.object "java/lang/String") (0 : Int32) [] .null := (Arv.new A447 (by decide)).pad (pad_rep [] .null 0)
      have Q448 := ((((i436_4.keep0 i439_3).keep0 i442_3).keep0 i445_3).ext E447)
      have Q449 := ((own_staKeep Q443 i445_3 all0).ext E447)
      obtain ⟨_, _, ⟨T450, L450, k450, n450⟩, -, X450, ⟨Lc450, hQ450, l450, y450, z450⟩, st450⟩ := Jvm.LawKit.callS X447 hx (y := (⟨"com/example/partybook/partybook/io/XmlInput", "isOneOf", "(Ljava/lang/String;[Ljava/lang/String;)Z"⟩ : MethodName)) hown (mvT hZ (hw _ (List.mem_of_getElem? (i := 14) rfl))) (mvT hZ (hw _ (List.mem_of_getElem? (i := 15) rfl))) (mvT hZ (hw _ (List.mem_of_getElem? (i := 16) rfl))) (mvT hZ (hw _ (List.mem_of_getElem? (i := 17) rfl))) (by decide) (backOf (W := 0) (rmO_0 l Z a0 hw [] r_436 b447 cw k447 (own_mk p0 n6) h447 n0 (Nat.le_trans Z0 K447.1) Q448 V447 Q449 hw0 (own_mkLen _ _)) hZ (hw _ (List.mem_of_getElem? (i := 17) rfl)) (hw _ (List.mem_of_getElem? (i := 16) rfl)) (by decide) (by decide)) (g := (mkF m 274 #[iv p0, iv p1, iv p2, iv p3, iv p4, iv (0 : Int32), iv n6, iv n7, iv n8, iv n9, iv x0, iv x1, iv x2, rv r_436, rv r_439, rv r_442, rv r_445, rv b447, iv (0 : Int32)] [(.ref b447), (.ref r_436)])) rfl (by rw [hml]; rfl) (argsL := [(.ref r_436), (.ref b447)]) (rest := []) (lenOf own_pd12 rfl) rfl (by show 2 * 0 + _ ≤ _; exact Nat.le_of_eq rfl) (hb hby at_274) (fun _ _ => ⟨rfl, e447, (by decide : 13 + 0 ≤ _), (by decide : 40 + 0 ≤ _)⟩)
      dsimp only [Pt.U, Pt.locs, Pt.cells, Pt.slots] at X450 l450 y450 z450 st450 hQ450
      subst l450 y450 z450
      obtain ⟨rfl, N450q, e450⟩ := hQ450
      have N450 := Fr.app N445 N450q
      have hc279_451 : (own_f_rmO_0 (own_mk p0 n6)) = (0 : Int32) := by unfold own_f_rmO_0; rfl
      obtain ⟨fs, hr, hrun, hended, hW, hsame⟩ := X450.leave (v := some (.int (1 : Int32))) (fun h => by rw [Bd.returns] at h; cases h)
      refine ⟨_, _, pre446 _ ?_, hrun, hended, _, _, rfl, ?_, (by show CHr Z own_EL s.vm s.heap T450.vm T450.heap; rw [hh, e450]; exact CH447.trans (CHv.at X450 hZ hEL CH447.1)), own_endW hS (by show _ ≤ T450.heap.size; rw [e450]; exact hk) hW (hsame.mono (by decide) (by decide))⟩
      · show Steps p.tables e below (T445.setTop (mkF m 126 #[iv p0, iv p1, iv p2, iv p3, iv p4, iv (p4 &&& (3 : Int32)), iv n6, iv n7, iv n8, iv n9, iv x0, iv x1, iv x2, rv r_436, rv r_439, rv r_442, rv r_445, .unset, .unset] [])) _
        rw [hq4]
        show Steps p.tables e below (T445.setTop (mkF m 126 #[iv p0, iv p1, iv p2, iv p3, iv p4, iv (0 : Int32), iv n6, iv n7, iv n8, iv n9, iv x0, iv x1, iv x2, rv r_436, rv r_439, rv r_442, rv r_445, .unset, .unset] [])) _
        refine XS.iload X445.here hx rfl (hb hby at_126) rfl ?_
        show Steps p.tables e below (T445.setTop (mkF m 128 #[iv p0, iv p1, iv p2, iv p3, iv p4, iv (0 : Int32), iv n6, iv n7, iv n8, iv n9, iv x0, iv x1, iv x2, rv r_436, rv r_439, rv r_442, rv r_445, .unset, .unset] [(.int (0 : Int32))])) _
        refine XS.ifNo X445.here hx rfl (hb hby at_128) rfl ((if0 _ _).trans (teq (by decide : ((0 : Int32) = (0 : Int32)))).2) ?_
        show Steps p.tables e below (T445.setTop (mkF m 131 #[iv p0, iv p1, iv p2, iv p3, iv p4, iv (0 : Int32), iv n6, iv n7, iv n8, iv n9, iv x0, iv x1, iv x2, rv r_436, rv r_439, rv r_442, rv r_445, .unset, .unset] [])) _
        refine XS.iconst X445.here hx rfl (hb hby at_131) ?_
        show Steps p.tables e below (T445.setTop (mkF m 132 #[iv p0, iv p1, iv p2, iv p3, iv p4, iv (0 : Int32), iv n6, iv n7, iv n8, iv n9, iv x0, iv x1, iv x2, rv r_436, rv r_439, rv r_442, rv r_445, .unset, .unset] [(.int (0 : Int32))])) _
        refine st447 _ ?_
        show Steps p.tables e below (T447.setTop (mkF m 135 #[iv p0, iv p1, iv p2, iv p3, iv p4, iv (0 : Int32), iv n6, iv n7, iv n8, iv n9, iv x0, iv x1, iv x2, rv r_436, rv r_439, rv r_442, rv r_445, .unset, .unset] [(.ref b447)])) _
        refine XS.astore X447.here hx rfl (hb hby at_135) rfl rfl (l' := #[iv p0, iv p1, iv p2, iv p3, iv p4, iv (0 : Int32), iv n6, iv n7, iv n8, iv n9, iv x0, iv x1, iv x2, rv r_436, rv r_439, rv r_442, rv r_445, rv b447, .unset]) rfl ?_
        show Steps p.tables e below (T447.setTop (mkF m 137 #[iv p0, iv p1, iv p2, iv p3, iv p4, iv (0 : Int32), iv n6, iv n7, iv n8, iv n9, iv x0, iv x1, iv x2, rv r_436, rv r_439, rv r_442, rv r_445, rv b447, .unset] [])) _
        refine XS.goto X447.here hx rfl (pc0 := 137) (pc' := 206) rfl (hb hby at_137) (by decide) (by decide) ?_
        show Steps p.tables e below (T447.setTop (mkF m 206 #[iv p0, iv p1, iv p2, iv p3, iv p4, iv (0 : Int32), iv n6, iv n7, iv n8, iv n9, iv x0, iv x1, iv x2, rv r_436, rv r_439, rv r_442, rv r_445, rv b447, .unset] [])) _
        refine XS.iload X447.here hx rfl (hb hby at_206) rfl ?_
        show Steps p.tables e below (T447.setTop (mkF m 208 #[iv p0, iv p1, iv p2, iv p3, iv p4, iv (0 : Int32), iv n6, iv n7, iv n8, iv n9, iv x0, iv x1, iv x2, rv r_436, rv r_439, rv r_442, rv r_445, rv b447, .unset] [(.int (0 : Int32))])) _
        refine XS.iconst X447.here hx rfl (hb hby at_208) ?_
        show Steps p.tables e below (T447.setTop (mkF m 209 #[iv p0, iv p1, iv p2, iv p3, iv p4, iv (0 : Int32), iv n6, iv n7, iv n8, iv n9, iv x0, iv x1, iv x2, rv r_436, rv r_439, rv r_442, rv r_445, rv b447, .unset] [(.int (1 : Int32)), (.int (0 : Int32))])) _
        refine XS.icmpYes X447.here hx rfl (pc0 := 209) (pc' := 225) rfl (hb hby at_209) rfl (tlt (by decide : ((0 : Int32) < (1 : Int32)))).1 (by decide) (by decide) ?_
        show Steps p.tables e below (T447.setTop (mkF m 225 #[iv p0, iv p1, iv p2, iv p3, iv p4, iv (0 : Int32), iv n6, iv n7, iv n8, iv n9, iv x0, iv x1, iv x2, rv r_436, rv r_439, rv r_442, rv r_445, rv b447, .unset] [])) _
        refine XS.iload X447.here hx rfl (hb hby at_225) rfl ?_
        show Steps p.tables e below (T447.setTop (mkF m 227 #[iv p0, iv p1, iv p2, iv p3, iv p4, iv (0 : Int32), iv n6, iv n7, iv n8, iv n9, iv x0, iv x1, iv x2, rv r_436, rv r_439, rv r_442, rv r_445, rv b447, .unset] [(.int (0 : Int32))])) _
        refine XS.iconst X447.here hx rfl (hb hby at_227) ?_
        show Steps p.tables e below (T447.setTop (mkF m 228 #[iv p0, iv p1, iv p2, iv p3, iv p4, iv (0 : Int32), iv n6, iv n7, iv n8, iv n9, iv x0, iv x1, iv x2, rv r_436, rv r_439, rv r_442, rv r_445, rv b447, .unset] [(.int (2 : Int32)), (.int (0 : Int32))])) _
        refine XS.icmpYes X447.here hx rfl (pc0 := 228) (pc' := 244) rfl (hb hby at_228) rfl (tlt (by decide : ((0 : Int32) < (2 : Int32)))).1 (by decide) (by decide) ?_
        show Steps p.tables e below (T447.setTop (mkF m 244 #[iv p0, iv p1, iv p2, iv p3, iv p4, iv (0 : Int32), iv n6, iv n7, iv n8, iv n9, iv x0, iv x1, iv x2, rv r_436, rv r_439, rv r_442, rv r_445, rv b447, .unset] [])) _
        refine XS.iload X447.here hx rfl (hb hby at_244) rfl ?_
        show Steps p.tables e below (T447.setTop (mkF m 246 #[iv p0, iv p1, iv p2, iv p3, iv p4, iv (0 : Int32), iv n6, iv n7, iv n8, iv n9, iv x0, iv x1, iv x2, rv r_436, rv r_439, rv r_442, rv r_445, rv b447, .unset] [(.int (0 : Int32))])) _
        refine XS.iconst X447.here hx rfl (hb hby at_246) ?_
        show Steps p.tables e below (T447.setTop (mkF m 247 #[iv p0, iv p1, iv p2, iv p3, iv p4, iv (0 : Int32), iv n6, iv n7, iv n8, iv n9, iv x0, iv x1, iv x2, rv r_436, rv r_439, rv r_442, rv r_445, rv b447, .unset] [(.int (3 : Int32)), (.int (0 : Int32))])) _
        refine XS.icmpYes X447.here hx rfl (pc0 := 247) (pc' := 267) rfl (hb hby at_247) rfl (tlt (by decide : ((0 : Int32) < (3 : Int32)))).1 (by decide) (by decide) ?_
        show Steps p.tables e below (T447.setTop (mkF m 267 #[iv p0, iv p1, iv p2, iv p3, iv p4, iv (0 : Int32), iv n6, iv n7, iv n8, iv n9, iv x0, iv x1, iv x2, rv r_436, rv r_439, rv r_442, rv r_445, rv b447, .unset] [])) _
        refine XS.iconst X447.here hx rfl (hb hby at_267) ?_
        show Steps p.tables e below (T447.setTop (mkF m 268 #[iv p0, iv p1, iv p2, iv p3, iv p4, iv (0 : Int32), iv n6, iv n7, iv n8, iv n9, iv x0, iv x1, iv x2, rv r_436, rv r_439, rv r_442, rv r_445, rv b447, .unset] [(.int (0 : Int32))])) _
        refine XS.istore X447.here hx rfl (hb hby at_268) rfl (l' := #[iv p0, iv p1, iv p2, iv p3, iv p4, iv (0 : Int32), iv n6, iv n7, iv n8, iv n9, iv x0, iv x1, iv x2, rv r_436, rv r_439, rv r_442, rv r_445, rv b447, iv (0 : Int32)]) rfl ?_
        show Steps p.tables e below (T447.setTop (mkF m 270 #[iv p0, iv p1, iv p2, iv p3, iv p4, iv (0 : Int32), iv n6, iv n7, iv n8, iv n9, iv x0, iv x1, iv x2, rv r_436, rv r_439, rv r_442, rv r_445, rv b447, iv (0 : Int32)] [])) _
        refine XS.aload X447.here hx rfl (hb hby at_270) rfl rfl ?_
        show Steps p.tables e below (T447.setTop (mkF m 272 #[iv p0, iv p1, iv p2, iv p3, iv p4, iv (0 : Int32), iv n6, iv n7, iv n8, iv n9, iv x0, iv x1, iv x2, rv r_436, rv r_439, rv r_442, rv r_445, rv b447, iv (0 : Int32)] [(.ref r_436)])) _
        refine XS.aload X447.here hx rfl (hb hby at_272) rfl rfl ?_
        show Steps p.tables e below (T447.setTop (mkF m 274 #[iv p0, iv p1, iv p2, iv p3, iv p4, iv (0 : Int32), iv n6, iv n7, iv n8, iv n9, iv x0, iv x1, iv x2, rv r_436, rv r_439, rv r_442, rv r_445, rv b447, iv (0 : Int32)] [(.ref b447), (.ref r_436)])) _
        refine st450 _ ?_
        show Steps p.tables e below (T450.setTop (mkF m 277 #[iv p0, iv p1, iv p2, iv p3, iv p4, iv (0 : Int32), iv n6, iv n7, iv n8, iv n9, iv x0, iv x1, iv x2, rv r_436, rv r_439, rv r_442, rv r_445, rv b447, iv (0 : Int32)] [(.int (own_f_rmO_0 (own_mk p0 n6)))])) _
        refine XS.iload X450.here hx rfl (hb hby at_277) rfl ?_
        show Steps p.tables e below (T450.setTop (mkF m 279 #[iv p0, iv p1, iv p2, iv p3, iv p4, iv (0 : Int32), iv n6, iv n7, iv n8, iv n9, iv x0, iv x1, iv x2, rv r_436, rv r_439, rv r_442, rv r_445, rv b447, iv (0 : Int32)] [(.int (0 : Int32)), (.int (own_f_rmO_0 (own_mk p0 n6)))])) _
        refine XS.icmpNo X450.here hx rfl (hb hby at_279) rfl (teq hc279_451).2 ?_
        show Steps p.tables e below (T450.setTop (mkF m 282 #[iv p0, iv p1, iv p2, iv p3, iv p4, iv (0 : Int32), iv n6, iv n7, iv n8, iv n9, iv x0, iv x1, iv x2, rv r_436, rv r_439, rv r_442, rv r_445, rv b447, iv (0 : Int32)] [])) _
        refine XS.iconst X450.here hx rfl (hb hby at_282) ?_
        show Steps p.tables e below (T450.setTop (mkF m 283 #[iv p0, iv p1, iv p2, iv p3, iv p4, iv (0 : Int32), iv n6, iv n7, iv n8, iv n9, iv x0, iv x1, iv x2, rv r_436, rv r_439, rv r_442, rv r_445, rv b447, iv (0 : Int32)] [(.int (1 : Int32))])) _
        refine XS.goto X450.here hx rfl (pc0 := 283) (pc' := 287) rfl (hb hby at_283) (by decide) (by decide) ?_
        show Steps p.tables e below (T450.setTop (mkF m 287 #[iv p0, iv p1, iv p2, iv p3, iv p4, iv (0 : Int32), iv n6, iv n7, iv n8, iv n9, iv x0, iv x1, iv x2, rv r_436, rv r_439, rv r_442, rv r_445, rv b447, iv (0 : Int32)] [(.int (1 : Int32))])) _
        exact retN X450 hx (t := .boolean) Bd.returns (by simp) (hb hby at_287) hr
      · show Q0 Z p0 p1 p2 p3 p4 cw h0 n0 _ T450.heap _
        rw [e450]
        exact ⟨rfl, N450⟩
    · obtain ⟨T452, h452, k452, X452, e452, E452, A452, O452, st452⟩ := newR X445 hx hZ hown (hw _ (List.mem_of_getElem? (i := 12) rfl)) (hw _ (List.mem_of_getElem? (i := 13) rfl)) rfl (g := (mkF m 147 #[iv p0, iv p1, iv p2, iv p3, iv p4, iv (1 : Int32), iv n6, iv n7, iv n8, iv n9, iv x0, iv x1, iv x2, rv r_436, rv r_439, rv r_442, rv r_445, .unset, .unset] [(.int (1 : Int32))])) rfl (hb hby at_147) rfl (by decide) (cap := 1) (by decide) (by decide) (by decide) (by decide)
      obtain ⟨b452, g452⟩ : ∃ z, z = T445.heap.size := ⟨_, rfl⟩
      rw [← g452] at A452 st452
      have gg_b452 : n0 ≤ b452 := Nat.le_trans (Nat.le_trans Z0 K445.1) (Nat.le_of_eq g452.symm)
      have sz_b452 : h0.size ≤ b452 := Nat.le_trans K445.1 (Nat.le_of_eq g452.symm)
      have K452 := K445.ext E452
      have sf452_b452 := Safe.ext E452 CH445.1 (Safe.new (Nat.le_of_eq g452.symm) : Safe Z own_EL _ _ b452)
      have CH452 := CH445.trans (CHr.ext E452 CH445.1)
      have hk := Nat.le_trans hk E452.1
      have V452 : Arv Z h452 b452 k452 (.object "java/lang/String") (1 : Int32) [.null] .null := (Arv.new A452 (by decide)).pad (pad_rep [] .null 1)
      obtain ⟨cl453, Ar453, q453, S453, M453, H453, G453⟩ := id V452
      have hin453 : ¬ ((0 : Int32) < 0 ∨ cl453.slots.size ≤ ((0 : Int32)).toNatClampNeg) := inb_of S453 ⟨by decide, by decide⟩
      have Q454 := (((i439_4.1.keep i442_3).keep i445_3).ext E452)
      obtain ⟨T455, h455, X455, e455, W455, st455⟩ := stR X452 hx hZ e452 Ar453 (j := (0 : Int32)) hin453 rfl (Sto.ofV Ar453 q453 O452 (Ins.self Q454)) (g := (mkF m 154 #[iv p0, iv p1, iv p2, iv p3, iv p4, iv (1 : Int32), iv n6, iv n7, iv n8, iv n9, iv x0, iv x1, iv x2, rv r_436, rv r_439, rv r_442, rv r_445, .unset, .unset] [(.ref r_439), (.int (0 : Int32)), (.ref b452), (.ref b452)])) rfl rfl (hb hby at_154)
      have V455 : Arv Z h455 b452 k452 (.object "java/lang/String") (1 : Int32) [(.ref r_439)] .null := Arv.set Ar453 q453 S453 M453 H453 G453 rfl W455 0 rfl (Nat.le_of_ble_eq_true rfl)
      have K455 := K452.wr W455 (Or.inr sz_b452)
      have N455 := Fr.snoc X455 N445 gg_b452
      have sf455_b452 := Safe.wr W455 sf452_b452 CH452.1 sf452_b452
      have CH455 := CH452.trans (CHr.wr W455 sf452_b452 CH452.1)
      have hk := Nat.le_trans hk (Keep.of_wr W455).1
      obtain ⟨_, _, ⟨T456, L456, k456, n456⟩, -, X456, ⟨Lc456, hQ456, l456, y456, z456⟩, st456⟩ := Jvm.LawKit.callS X455 hx (y := (⟨"com/example/partybook/partybook/io/XmlInputIsOneOfPinLaw", "same", "(IIII)Z"⟩ : MethodName)) hown (mvT hZ (hw _ (List.mem_of_getElem? (i := 39) rfl))) (mvT hZ (hw _ (List.mem_of_getElem? (i := 40) rfl))) (mvT hZ (hw _ (List.mem_of_getElem? (i := 2) rfl))) (mvT hZ (hw _ (List.mem_of_getElem? (i := 41) rfl))) (by decide) (backOf (W := 0) (rmS l Z a0 hw [] p0 n6 x0 n7 h455 n0 (Nat.le_trans Z0 K455.1) ) hZ (hw _ (List.mem_of_getElem? (i := 41) rfl)) (hw _ (List.mem_of_getElem? (i := 2) rfl)) (by decide) (by decide)) (g := (mkF m 219 #[iv p0, iv p1, iv p2, iv p3, iv p4, iv (1 : Int32), iv n6, iv n7, iv n8, iv n9, iv x0, iv x1, iv x2, rv r_436, rv r_439, rv r_442, rv r_445, rv b452, .unset] [(.int n7), (.int x0), (.int n6), (.int p0)])) rfl (by rw [hml]; rfl) (argsL := [(.int p0), (.int n6), (.int x0), (.int n7)]) (rest := []) (lenOf own_pd13 rfl) rfl (by show 2 * 0 + _ ≤ _; exact Nat.le_of_eq rfl) (hb hby at_219) (fun _ _ => ⟨rfl, e455, (by decide : 13 + 0 ≤ _), (by decide : 41 + 0 ≤ _)⟩)
      dsimp only [Pt.U, Pt.locs, Pt.cells, Pt.slots] at X456 l456 y456 z456 st456 hQ456
      subst l456 y456 z456
      obtain ⟨rfl, N456q, e456⟩ := hQ456
      have N456 := Fr.app N455 N456q
      have pre457 : ∀ t, Steps p.tables e below (T456.setTop (mkF m 222 #[iv p0, iv p1, iv p2, iv p3, iv p4, iv (1 : Int32), iv n6, iv n7, iv n8, iv n9, iv x0, iv x1, iv x2, rv r_436, rv r_439, rv r_442, rv r_445, rv b452, .unset] [(.int (own_f_rmS p0 n6 x0 n7))])) t → Steps p.tables e below (s₁.setTop (entryFrame m #[(.int p0), (.int p1), (.int p2), (.int p3), (.int p4)] maxLocals)) t := fun t k => by
        refine pre446 _ ?_
        show Steps p.tables e below (T445.setTop (mkF m 126 #[iv p0, iv p1, iv p2, iv p3, iv p4, iv (p4 &&& (3 : Int32)), iv n6, iv n7, iv n8, iv n9, iv x0, iv x1, iv x2, rv r_436, rv r_439, rv r_442, rv r_445, .unset, .unset] [])) _
        rw [hq4]
        show Steps p.tables e below (T445.setTop (mkF m 126 #[iv p0, iv p1, iv p2, iv p3, iv p4, iv (1 : Int32), iv n6, iv n7, iv n8, iv n9, iv x0, iv x1, iv x2, rv r_436, rv r_439, rv r_442, rv r_445, .unset, .unset] [])) _
        refine XS.iload X445.here hx rfl (hb hby at_126) rfl ?_
        show Steps p.tables e below (T445.setTop (mkF m 128 #[iv p0, iv p1, iv p2, iv p3, iv p4, iv (1 : Int32), iv n6, iv n7, iv n8, iv n9, iv x0, iv x1, iv x2, rv r_436, rv r_439, rv r_442, rv r_445, .unset, .unset] [(.int (1 : Int32))])) _
        refine XS.ifYes X445.here hx rfl (pc0 := 128) (pc' := 140) rfl (hb hby at_128) rfl ((if0 _ _).trans (feq (by decide : ¬ ((1 : Int32) = (0 : Int32)))).2) (by decide) (by decide) ?_
        show Steps p.tables e below (T445.setTop (mkF m 140 #[iv p0, iv p1, iv p2, iv p3, iv p4, iv (1 : Int32), iv n6, iv n7, iv n8, iv n9, iv x0, iv x1, iv x2, rv r_436, rv r_439, rv r_442, rv r_445, .unset, .unset] [])) _
        refine XS.iload X445.here hx rfl (hb hby at_140) rfl ?_
        show Steps p.tables e below (T445.setTop (mkF m 142 #[iv p0, iv p1, iv p2, iv p3, iv p4, iv (1 : Int32), iv n6, iv n7, iv n8, iv n9, iv x0, iv x1, iv x2, rv r_436, rv r_439, rv r_442, rv r_445, .unset, .unset] [(.int (1 : Int32))])) _
        refine XS.iconst X445.here hx rfl (hb hby at_142) ?_
        show Steps p.tables e below (T445.setTop (mkF m 143 #[iv p0, iv p1, iv p2, iv p3, iv p4, iv (1 : Int32), iv n6, iv n7, iv n8, iv n9, iv x0, iv x1, iv x2, rv r_436, rv r_439, rv r_442, rv r_445, .unset, .unset] [(.int (1 : Int32)), (.int (1 : Int32))])) _
        refine XS.icmpNo X445.here hx rfl (hb hby at_143) rfl (teq (by decide : ((1 : Int32) = (1 : Int32)))).2 ?_
        show Steps p.tables e below (T445.setTop (mkF m 146 #[iv p0, iv p1, iv p2, iv p3, iv p4, iv (1 : Int32), iv n6, iv n7, iv n8, iv n9, iv x0, iv x1, iv x2, rv r_436, rv r_439, rv r_442, rv r_445, .unset, .unset] [])) _
        refine XS.iconst X445.here hx rfl (hb hby at_146) ?_
        show Steps p.tables e below (T445.setTop (mkF m 147 #[iv p0, iv p1, iv p2, iv p3, iv p4, iv (1 : Int32), iv n6, iv n7, iv n8, iv n9, iv x0, iv x1, iv x2, rv r_436, rv r_439, rv r_442, rv r_445, .unset, .unset] [(.int (1 : Int32))])) _
        refine st452 _ ?_
        show Steps p.tables e below (T452.setTop (mkF m 150 #[iv p0, iv p1, iv p2, iv p3, iv p4, iv (1 : Int32), iv n6, iv n7, iv n8, iv n9, iv x0, iv x1, iv x2, rv r_436, rv r_439, rv r_442, rv r_445, .unset, .unset] [(.ref b452)])) _
        refine XS.dup X452.here hx rfl (hb hby at_150) rfl rfl ?_
        show Steps p.tables e below (T452.setTop (mkF m 151 #[iv p0, iv p1, iv p2, iv p3, iv p4, iv (1 : Int32), iv n6, iv n7, iv n8, iv n9, iv x0, iv x1, iv x2, rv r_436, rv r_439, rv r_442, rv r_445, .unset, .unset] [(.ref b452), (.ref b452)])) _
        refine XS.iconst X452.here hx rfl (hb hby at_151) ?_
        show Steps p.tables e below (T452.setTop (mkF m 152 #[iv p0, iv p1, iv p2, iv p3, iv p4, iv (1 : Int32), iv n6, iv n7, iv n8, iv n9, iv x0, iv x1, iv x2, rv r_436, rv r_439, rv r_442, rv r_445, .unset, .unset] [(.int (0 : Int32)), (.ref b452), (.ref b452)])) _
        refine XS.aload X452.here hx rfl (hb hby at_152) rfl rfl ?_
        show Steps p.tables e below (T452.setTop (mkF m 154 #[iv p0, iv p1, iv p2, iv p3, iv p4, iv (1 : Int32), iv n6, iv n7, iv n8, iv n9, iv x0, iv x1, iv x2, rv r_436, rv r_439, rv r_442, rv r_445, .unset, .unset] [(.ref r_439), (.int (0 : Int32)), (.ref b452), (.ref b452)])) _
        refine st455 _ ?_
        show Steps p.tables e below (T455.setTop (mkF m 155 #[iv p0, iv p1, iv p2, iv p3, iv p4, iv (1 : Int32), iv n6, iv n7, iv n8, iv n9, iv x0, iv x1, iv x2, rv r_436, rv r_439, rv r_442, rv r_445, .unset, .unset] [(.ref b452)])) _
        refine XS.astore X455.here hx rfl (hb hby at_155) rfl rfl (l' := #[iv p0, iv p1, iv p2, iv p3, iv p4, iv (1 : Int32), iv n6, iv n7, iv n8, iv n9, iv x0, iv x1, iv x2, rv r_436, rv r_439, rv r_442, rv r_445, rv b452, .unset]) rfl ?_
        show Steps p.tables e below (T455.setTop (mkF m 157 #[iv p0, iv p1, iv p2, iv p3, iv p4, iv (1 : Int32), iv n6, iv n7, iv n8, iv n9, iv x0, iv x1, iv x2, rv r_436, rv r_439, rv r_442, rv r_445, rv b452, .unset] [])) _
        refine XS.goto X455.here hx rfl (pc0 := 157) (pc' := 206) rfl (hb hby at_157) (by decide) (by decide) ?_
        show Steps p.tables e below (T455.setTop (mkF m 206 #[iv p0, iv p1, iv p2, iv p3, iv p4, iv (1 : Int32), iv n6, iv n7, iv n8, iv n9, iv x0, iv x1, iv x2, rv r_436, rv r_439, rv r_442, rv r_445, rv b452, .unset] [])) _
        refine XS.iload X455.here hx rfl (hb hby at_206) rfl ?_
        show Steps p.tables e below (T455.setTop (mkF m 208 #[iv p0, iv p1, iv p2, iv p3, iv p4, iv (1 : Int32), iv n6, iv n7, iv n8, iv n9, iv x0, iv x1, iv x2, rv r_436, rv r_439, rv r_442, rv r_445, rv b452, .unset] [(.int (1 : Int32))])) _
        refine XS.iconst X455.here hx rfl (hb hby at_208) ?_
        show Steps p.tables e below (T455.setTop (mkF m 209 #[iv p0, iv p1, iv p2, iv p3, iv p4, iv (1 : Int32), iv n6, iv n7, iv n8, iv n9, iv x0, iv x1, iv x2, rv r_436, rv r_439, rv r_442, rv r_445, rv b452, .unset] [(.int (1 : Int32)), (.int (1 : Int32))])) _
        refine XS.icmpNo X455.here hx rfl (hb hby at_209) rfl (flt (by decide : ¬ ((1 : Int32) < (1 : Int32)))).1 ?_
        show Steps p.tables e below (T455.setTop (mkF m 212 #[iv p0, iv p1, iv p2, iv p3, iv p4, iv (1 : Int32), iv n6, iv n7, iv n8, iv n9, iv x0, iv x1, iv x2, rv r_436, rv r_439, rv r_442, rv r_445, rv b452, .unset] [])) _
        refine XS.iloadN X455.here hx rfl (hb hby at_212) rfl ?_
        show Steps p.tables e below (T455.setTop (mkF m 213 #[iv p0, iv p1, iv p2, iv p3, iv p4, iv (1 : Int32), iv n6, iv n7, iv n8, iv n9, iv x0, iv x1, iv x2, rv r_436, rv r_439, rv r_442, rv r_445, rv b452, .unset] [(.int p0)])) _
        refine XS.iload X455.here hx rfl (hb hby at_213) rfl ?_
        show Steps p.tables e below (T455.setTop (mkF m 215 #[iv p0, iv p1, iv p2, iv p3, iv p4, iv (1 : Int32), iv n6, iv n7, iv n8, iv n9, iv x0, iv x1, iv x2, rv r_436, rv r_439, rv r_442, rv r_445, rv b452, .unset] [(.int n6), (.int p0)])) _
        refine XS.iload X455.here hx rfl (hb hby at_215) rfl ?_
        show Steps p.tables e below (T455.setTop (mkF m 217 #[iv p0, iv p1, iv p2, iv p3, iv p4, iv (1 : Int32), iv n6, iv n7, iv n8, iv n9, iv x0, iv x1, iv x2, rv r_436, rv r_439, rv r_442, rv r_445, rv b452, .unset] [(.int x0), (.int n6), (.int p0)])) _
        refine XS.iload X455.here hx rfl (hb hby at_217) rfl ?_
        show Steps p.tables e below (T455.setTop (mkF m 219 #[iv p0, iv p1, iv p2, iv p3, iv p4, iv (1 : Int32), iv n6, iv n7, iv n8, iv n9, iv x0, iv x1, iv x2, rv r_436, rv r_439, rv r_442, rv r_445, rv b452, .unset] [(.int n7), (.int x0), (.int n6), (.int p0)])) _
        refine st456 _ ?_
        exact k
      by_cases hc222 : (own_f_rmS p0 n6 x0 n7) = (0 : Int32)
      · have Q458 := (((((i436_4.keep0 i439_3).keep0 i442_3).keep0 i445_3).ext E452).wr W455 Ar453 (hw _ (List.mem_of_getElem? (i := 6) rfl)) (by decide))
        have Q459 := ((((i439_4.keep0 i442_3).keep0 i445_3).ext E452).wr W455 Ar453 (hw _ (List.mem_of_getElem? (i := 6) rfl)) (by decide))
        have Q460 := (((own_staKeep Q443 i445_3 all0).ext E452).wr W455)
        obtain ⟨_, _, ⟨T461, L461, k461, n461⟩, -, X461, ⟨Lc461, hQ461, l461, y461, z461⟩, st461⟩ := Jvm.LawKit.callS X456 hx (y := (⟨"com/example/partybook/partybook/io/XmlInput", "isOneOf", "(Ljava/lang/String;[Ljava/lang/String;)Z"⟩ : MethodName)) hown (mvT hZ (hw _ (List.mem_of_getElem? (i := 14) rfl))) (mvT hZ (hw _ (List.mem_of_getElem? (i := 15) rfl))) (mvT hZ (hw _ (List.mem_of_getElem? (i := 16) rfl))) (mvT hZ (hw _ (List.mem_of_getElem? (i := 17) rfl))) (by decide) (backOf (W := 0) (rmO_1 l Z a0 hw [] r_436 b452 cw k452 (own_mk p0 n6) r_439 (own_mk x0 n7) h455 n0 (Nat.le_trans Z0 K455.1) Q458 V455 Q459 Q460 hw0 (own_mkLen _ _) (own_mkLen _ _)) hZ (hw _ (List.mem_of_getElem? (i := 17) rfl)) (hw _ (List.mem_of_getElem? (i := 16) rfl)) (by decide) (by decide)) (g := (mkF m 274 #[iv p0, iv p1, iv p2, iv p3, iv p4, iv (1 : Int32), iv n6, iv n7, iv n8, iv n9, iv x0, iv x1, iv x2, rv r_436, rv r_439, rv r_442, rv r_445, rv b452, iv (0 : Int32)] [(.ref b452), (.ref r_436)])) rfl (by rw [hml]; rfl) (argsL := [(.ref r_436), (.ref b452)]) (rest := []) (lenOf own_pd12 rfl) rfl (by show 2 * 0 + _ ≤ _; exact Nat.le_of_eq rfl) (hb hby at_274) (fun _ _ => ⟨rfl, e456, (by decide : 13 + 0 ≤ _), (by decide : 41 + 0 ≤ _)⟩)
        dsimp only [Pt.U, Pt.locs, Pt.cells, Pt.slots] at X461 l461 y461 z461 st461 hQ461
        subst l461 y461 z461
        obtain ⟨rfl, N461q, e461⟩ := hQ461
        have N461 := Fr.app N456 N461q
        have hc279_462 : (own_f_rmO_1 (own_mk p0 n6) (own_mk x0 n7)) = (0 : Int32) := by unfold own_f_rmO_1; rw [own_eqLc, ← own_same _ _ _ _ h6n h7n, if_pos hc222]
        obtain ⟨fs, hr, hrun, hended, hW, hsame⟩ := X461.leave (v := some (.int (1 : Int32))) (fun h => by rw [Bd.returns] at h; cases h)
        refine ⟨_, _, pre457 _ ?_, hrun, hended, _, _, rfl, ?_, (by show CHr Z own_EL s.vm s.heap T461.vm T461.heap; rw [hh, e461]; exact CH455.trans (CHv.at X461 hZ hEL CH455.1)), own_endW hS (by show _ ≤ T461.heap.size; rw [e461]; exact hk) hW (hsame.mono (by decide) (by decide))⟩
        · show Steps p.tables e below (T456.setTop (mkF m 222 #[iv p0, iv p1, iv p2, iv p3, iv p4, iv (1 : Int32), iv n6, iv n7, iv n8, iv n9, iv x0, iv x1, iv x2, rv r_436, rv r_439, rv r_442, rv r_445, rv b452, .unset] [(.int (own_f_rmS p0 n6 x0 n7))])) _
          refine XS.ifNo X456.here hx rfl (hb hby at_222) rfl ((if0 _ _).trans (teq hc222).2) ?_
          show Steps p.tables e below (T456.setTop (mkF m 225 #[iv p0, iv p1, iv p2, iv p3, iv p4, iv (1 : Int32), iv n6, iv n7, iv n8, iv n9, iv x0, iv x1, iv x2, rv r_436, rv r_439, rv r_442, rv r_445, rv b452, .unset] [])) _
          refine XS.iload X456.here hx rfl (hb hby at_225) rfl ?_
          show Steps p.tables e below (T456.setTop (mkF m 227 #[iv p0, iv p1, iv p2, iv p3, iv p4, iv (1 : Int32), iv n6, iv n7, iv n8, iv n9, iv x0, iv x1, iv x2, rv r_436, rv r_439, rv r_442, rv r_445, rv b452, .unset] [(.int (1 : Int32))])) _
          refine XS.iconst X456.here hx rfl (hb hby at_227) ?_
          show Steps p.tables e below (T456.setTop (mkF m 228 #[iv p0, iv p1, iv p2, iv p3, iv p4, iv (1 : Int32), iv n6, iv n7, iv n8, iv n9, iv x0, iv x1, iv x2, rv r_436, rv r_439, rv r_442, rv r_445, rv b452, .unset] [(.int (2 : Int32)), (.int (1 : Int32))])) _
          refine XS.icmpYes X456.here hx rfl (pc0 := 228) (pc' := 244) rfl (hb hby at_228) rfl (tlt (by decide : ((1 : Int32) < (2 : Int32)))).1 (by decide) (by decide) ?_
          show Steps p.tables e below (T456.setTop (mkF m 244 #[iv p0, iv p1, iv p2, iv p3, iv p4, iv (1 : Int32), iv n6, iv n7, iv n8, iv n9, iv x0, iv x1, iv x2, rv r_436, rv r_439, rv r_442, rv r_445, rv b452, .unset] [])) _
          refine XS.iload X456.here hx rfl (hb hby at_244) rfl ?_
          show Steps p.tables e below (T456.setTop (mkF m 246 #[iv p0, iv p1, iv p2, iv p3, iv p4, iv (1 : Int32), iv n6, iv n7, iv n8, iv n9, iv x0, iv x1, iv x2, rv r_436, rv r_439, rv r_442, rv r_445, rv b452, .unset] [(.int (1 : Int32))])) _
          refine XS.iconst X456.here hx rfl (hb hby at_246) ?_
          show Steps p.tables e below (T456.setTop (mkF m 247 #[iv p0, iv p1, iv p2, iv p3, iv p4, iv (1 : Int32), iv n6, iv n7, iv n8, iv n9, iv x0, iv x1, iv x2, rv r_436, rv r_439, rv r_442, rv r_445, rv b452, .unset] [(.int (3 : Int32)), (.int (1 : Int32))])) _
          refine XS.icmpYes X456.here hx rfl (pc0 := 247) (pc' := 267) rfl (hb hby at_247) rfl (tlt (by decide : ((1 : Int32) < (3 : Int32)))).1 (by decide) (by decide) ?_
          show Steps p.tables e below (T456.setTop (mkF m 267 #[iv p0, iv p1, iv p2, iv p3, iv p4, iv (1 : Int32), iv n6, iv n7, iv n8, iv n9, iv x0, iv x1, iv x2, rv r_436, rv r_439, rv r_442, rv r_445, rv b452, .unset] [])) _
          refine XS.iconst X456.here hx rfl (hb hby at_267) ?_
          show Steps p.tables e below (T456.setTop (mkF m 268 #[iv p0, iv p1, iv p2, iv p3, iv p4, iv (1 : Int32), iv n6, iv n7, iv n8, iv n9, iv x0, iv x1, iv x2, rv r_436, rv r_439, rv r_442, rv r_445, rv b452, .unset] [(.int (0 : Int32))])) _
          refine XS.istore X456.here hx rfl (hb hby at_268) rfl (l' := #[iv p0, iv p1, iv p2, iv p3, iv p4, iv (1 : Int32), iv n6, iv n7, iv n8, iv n9, iv x0, iv x1, iv x2, rv r_436, rv r_439, rv r_442, rv r_445, rv b452, iv (0 : Int32)]) rfl ?_
          show Steps p.tables e below (T456.setTop (mkF m 270 #[iv p0, iv p1, iv p2, iv p3, iv p4, iv (1 : Int32), iv n6, iv n7, iv n8, iv n9, iv x0, iv x1, iv x2, rv r_436, rv r_439, rv r_442, rv r_445, rv b452, iv (0 : Int32)] [])) _
          refine XS.aload X456.here hx rfl (hb hby at_270) rfl rfl ?_
          show Steps p.tables e below (T456.setTop (mkF m 272 #[iv p0, iv p1, iv p2, iv p3, iv p4, iv (1 : Int32), iv n6, iv n7, iv n8, iv n9, iv x0, iv x1, iv x2, rv r_436, rv r_439, rv r_442, rv r_445, rv b452, iv (0 : Int32)] [(.ref r_436)])) _
          refine XS.aload X456.here hx rfl (hb hby at_272) rfl rfl ?_
          show Steps p.tables e below (T456.setTop (mkF m 274 #[iv p0, iv p1, iv p2, iv p3, iv p4, iv (1 : Int32), iv n6, iv n7, iv n8, iv n9, iv x0, iv x1, iv x2, rv r_436, rv r_439, rv r_442, rv r_445, rv b452, iv (0 : Int32)] [(.ref b452), (.ref r_436)])) _
          refine st461 _ ?_
          show Steps p.tables e below (T461.setTop (mkF m 277 #[iv p0, iv p1, iv p2, iv p3, iv p4, iv (1 : Int32), iv n6, iv n7, iv n8, iv n9, iv x0, iv x1, iv x2, rv r_436, rv r_439, rv r_442, rv r_445, rv b452, iv (0 : Int32)] [(.int (own_f_rmO_1 (own_mk p0 n6) (own_mk x0 n7)))])) _
          refine XS.iload X461.here hx rfl (hb hby at_277) rfl ?_
          show Steps p.tables e below (T461.setTop (mkF m 279 #[iv p0, iv p1, iv p2, iv p3, iv p4, iv (1 : Int32), iv n6, iv n7, iv n8, iv n9, iv x0, iv x1, iv x2, rv r_436, rv r_439, rv r_442, rv r_445, rv b452, iv (0 : Int32)] [(.int (0 : Int32)), (.int (own_f_rmO_1 (own_mk p0 n6) (own_mk x0 n7)))])) _
          refine XS.icmpNo X461.here hx rfl (hb hby at_279) rfl (teq hc279_462).2 ?_
          show Steps p.tables e below (T461.setTop (mkF m 282 #[iv p0, iv p1, iv p2, iv p3, iv p4, iv (1 : Int32), iv n6, iv n7, iv n8, iv n9, iv x0, iv x1, iv x2, rv r_436, rv r_439, rv r_442, rv r_445, rv b452, iv (0 : Int32)] [])) _
          refine XS.iconst X461.here hx rfl (hb hby at_282) ?_
          show Steps p.tables e below (T461.setTop (mkF m 283 #[iv p0, iv p1, iv p2, iv p3, iv p4, iv (1 : Int32), iv n6, iv n7, iv n8, iv n9, iv x0, iv x1, iv x2, rv r_436, rv r_439, rv r_442, rv r_445, rv b452, iv (0 : Int32)] [(.int (1 : Int32))])) _
          refine XS.goto X461.here hx rfl (pc0 := 283) (pc' := 287) rfl (hb hby at_283) (by decide) (by decide) ?_
          show Steps p.tables e below (T461.setTop (mkF m 287 #[iv p0, iv p1, iv p2, iv p3, iv p4, iv (1 : Int32), iv n6, iv n7, iv n8, iv n9, iv x0, iv x1, iv x2, rv r_436, rv r_439, rv r_442, rv r_445, rv b452, iv (0 : Int32)] [(.int (1 : Int32))])) _
          exact retN X461 hx (t := .boolean) Bd.returns (by simp) (hb hby at_287) hr
        · show Q0 Z p0 p1 p2 p3 p4 cw h0 n0 _ T461.heap _
          rw [e461]
          exact ⟨rfl, N461⟩
      · have Q463 := (((((i436_4.keep0 i439_3).keep0 i442_3).keep0 i445_3).ext E452).wr W455 Ar453 (hw _ (List.mem_of_getElem? (i := 6) rfl)) (by decide))
        have Q464 := ((((i439_4.keep0 i442_3).keep0 i445_3).ext E452).wr W455 Ar453 (hw _ (List.mem_of_getElem? (i := 6) rfl)) (by decide))
        have Q465 := (((own_staKeep Q443 i445_3 all0).ext E452).wr W455)
        obtain ⟨_, _, ⟨T466, L466, k466, n466⟩, -, X466, ⟨Lc466, hQ466, l466, y466, z466⟩, st466⟩ := Jvm.LawKit.callS X456 hx (y := (⟨"com/example/partybook/partybook/io/XmlInput", "isOneOf", "(Ljava/lang/String;[Ljava/lang/String;)Z"⟩ : MethodName)) hown (mvT hZ (hw _ (List.mem_of_getElem? (i := 14) rfl))) (mvT hZ (hw _ (List.mem_of_getElem? (i := 15) rfl))) (mvT hZ (hw _ (List.mem_of_getElem? (i := 16) rfl))) (mvT hZ (hw _ (List.mem_of_getElem? (i := 17) rfl))) (by decide) (backOf (W := 0) (rmO_1 l Z a0 hw [] r_436 b452 cw k452 (own_mk p0 n6) r_439 (own_mk x0 n7) h455 n0 (Nat.le_trans Z0 K455.1) Q463 V455 Q464 Q465 hw0 (own_mkLen _ _) (own_mkLen _ _)) hZ (hw _ (List.mem_of_getElem? (i := 17) rfl)) (hw _ (List.mem_of_getElem? (i := 16) rfl)) (by decide) (by decide)) (g := (mkF m 274 #[iv p0, iv p1, iv p2, iv p3, iv p4, iv (1 : Int32), iv n6, iv n7, iv n8, iv n9, iv x0, iv x1, iv x2, rv r_436, rv r_439, rv r_442, rv r_445, rv b452, iv (1 : Int32)] [(.ref b452), (.ref r_436)])) rfl (by rw [hml]; rfl) (argsL := [(.ref r_436), (.ref b452)]) (rest := []) (lenOf own_pd12 rfl) rfl (by show 2 * 0 + _ ≤ _; exact Nat.le_of_eq rfl) (hb hby at_274) (fun _ _ => ⟨rfl, e456, (by decide : 13 + 0 ≤ _), (by decide : 41 + 0 ≤ _)⟩)
        dsimp only [Pt.U, Pt.locs, Pt.cells, Pt.slots] at X466 l466 y466 z466 st466 hQ466
        subst l466 y466 z466
        obtain ⟨rfl, N466q, e466⟩ := hQ466
        have N466 := Fr.app N456 N466q
        have hc279_467 : (own_f_rmO_1 (own_mk p0 n6) (own_mk x0 n7)) = (1 : Int32) := by unfold own_f_rmO_1; rw [own_eqLc, ← own_same _ _ _ _ h6n h7n, if_neg hc222]
        obtain ⟨fs, hr, hrun, hended, hW, hsame⟩ := X466.leave (v := some (.int (1 : Int32))) (fun h => by rw [Bd.returns] at h; cases h)
        refine ⟨_, _, pre457 _ ?_, hrun, hended, _, _, rfl, ?_, (by show CHr Z own_EL s.vm s.heap T466.vm T466.heap; rw [hh, e466]; exact CH455.trans (CHv.at X466 hZ hEL CH455.1)), own_endW hS (by show _ ≤ T466.heap.size; rw [e466]; exact hk) hW (hsame.mono (by decide) (by decide))⟩
        · show Steps p.tables e below (T456.setTop (mkF m 222 #[iv p0, iv p1, iv p2, iv p3, iv p4, iv (1 : Int32), iv n6, iv n7, iv n8, iv n9, iv x0, iv x1, iv x2, rv r_436, rv r_439, rv r_442, rv r_445, rv b452, .unset] [(.int (own_f_rmS p0 n6 x0 n7))])) _
          refine XS.ifYes X456.here hx rfl (pc0 := 222) (pc' := 263) rfl (hb hby at_222) rfl ((if0 _ _).trans (feq hc222).2) (by decide) (by decide) ?_
          show Steps p.tables e below (T456.setTop (mkF m 263 #[iv p0, iv p1, iv p2, iv p3, iv p4, iv (1 : Int32), iv n6, iv n7, iv n8, iv n9, iv x0, iv x1, iv x2, rv r_436, rv r_439, rv r_442, rv r_445, rv b452, .unset] [])) _
          refine XS.iconst X456.here hx rfl (hb hby at_263) ?_
          show Steps p.tables e below (T456.setTop (mkF m 264 #[iv p0, iv p1, iv p2, iv p3, iv p4, iv (1 : Int32), iv n6, iv n7, iv n8, iv n9, iv x0, iv x1, iv x2, rv r_436, rv r_439, rv r_442, rv r_445, rv b452, .unset] [(.int (1 : Int32))])) _
          refine XS.goto X456.here hx rfl (pc0 := 264) (pc' := 268) rfl (hb hby at_264) (by decide) (by decide) ?_
          show Steps p.tables e below (T456.setTop (mkF m 268 #[iv p0, iv p1, iv p2, iv p3, iv p4, iv (1 : Int32), iv n6, iv n7, iv n8, iv n9, iv x0, iv x1, iv x2, rv r_436, rv r_439, rv r_442, rv r_445, rv b452, .unset] [(.int (1 : Int32))])) _
          refine XS.istore X456.here hx rfl (hb hby at_268) rfl (l' := #[iv p0, iv p1, iv p2, iv p3, iv p4, iv (1 : Int32), iv n6, iv n7, iv n8, iv n9, iv x0, iv x1, iv x2, rv r_436, rv r_439, rv r_442, rv r_445, rv b452, iv (1 : Int32)]) rfl ?_
          show Steps p.tables e below (T456.setTop (mkF m 270 #[iv p0, iv p1, iv p2, iv p3, iv p4, iv (1 : Int32), iv n6, iv n7, iv n8, iv n9, iv x0, iv x1, iv x2, rv r_436, rv r_439, rv r_442, rv r_445, rv b452, iv (1 : Int32)] [])) _
          refine XS.aload X456.here hx rfl (hb hby at_270) rfl rfl ?_
          show Steps p.tables e below (T456.setTop (mkF m 272 #[iv p0, iv p1, iv p2, iv p3, iv p4, iv (1 : Int32), iv n6, iv n7, iv n8, iv n9, iv x0, iv x1, iv x2, rv r_436, rv r_439, rv r_442, rv r_445, rv b452, iv (1 : Int32)] [(.ref r_436)])) _
          refine XS.aload X456.here hx rfl (hb hby at_272) rfl rfl ?_
          show Steps p.tables e below (T456.setTop (mkF m 274 #[iv p0, iv p1, iv p2, iv p3, iv p4, iv (1 : Int32), iv n6, iv n7, iv n8, iv n9, iv x0, iv x1, iv x2, rv r_436, rv r_439, rv r_442, rv r_445, rv b452, iv (1 : Int32)] [(.ref b452), (.ref r_436)])) _
          refine st466 _ ?_
          show Steps p.tables e below (T466.setTop (mkF m 277 #[iv p0, iv p1, iv p2, iv p3, iv p4, iv (1 : Int32), iv n6, iv n7, iv n8, iv n9, iv x0, iv x1, iv x2, rv r_436, rv r_439, rv r_442, rv r_445, rv b452, iv (1 : Int32)] [(.int (own_f_rmO_1 (own_mk p0 n6) (own_mk x0 n7)))])) _
          refine XS.iload X466.here hx rfl (hb hby at_277) rfl ?_
          show Steps p.tables e below (T466.setTop (mkF m 279 #[iv p0, iv p1, iv p2, iv p3, iv p4, iv (1 : Int32), iv n6, iv n7, iv n8, iv n9, iv x0, iv x1, iv x2, rv r_436, rv r_439, rv r_442, rv r_445, rv b452, iv (1 : Int32)] [(.int (1 : Int32)), (.int (own_f_rmO_1 (own_mk p0 n6) (own_mk x0 n7)))])) _
          refine XS.icmpNo X466.here hx rfl (hb hby at_279) rfl (teq hc279_467).2 ?_
          show Steps p.tables e below (T466.setTop (mkF m 282 #[iv p0, iv p1, iv p2, iv p3, iv p4, iv (1 : Int32), iv n6, iv n7, iv n8, iv n9, iv x0, iv x1, iv x2, rv r_436, rv r_439, rv r_442, rv r_445, rv b452, iv (1 : Int32)] [])) _
          refine XS.iconst X466.here hx rfl (hb hby at_282) ?_
          show Steps p.tables e below (T466.setTop (mkF m 283 #[iv p0, iv p1, iv p2, iv p3, iv p4, iv (1 : Int32), iv n6, iv n7, iv n8, iv n9, iv x0, iv x1, iv x2, rv r_436, rv r_439, rv r_442, rv r_445, rv b452, iv (1 : Int32)] [(.int (1 : Int32))])) _
          refine XS.goto X466.here hx rfl (pc0 := 283) (pc' := 287) rfl (hb hby at_283) (by decide) (by decide) ?_
          show Steps p.tables e below (T466.setTop (mkF m 287 #[iv p0, iv p1, iv p2, iv p3, iv p4, iv (1 : Int32), iv n6, iv n7, iv n8, iv n9, iv x0, iv x1, iv x2, rv r_436, rv r_439, rv r_442, rv r_445, rv b452, iv (1 : Int32)] [(.int (1 : Int32))])) _
          exact retN X466 hx (t := .boolean) Bd.returns (by simp) (hb hby at_287) hr
        · show Q0 Z p0 p1 p2 p3 p4 cw h0 n0 _ T466.heap _
          rw [e466]
          exact ⟨rfl, N466⟩
    · obtain ⟨T468, h468, k468, X468, e468, E468, A468, O468, st468⟩ := newR X445 hx hZ hown (hw _ (List.mem_of_getElem? (i := 12) rfl)) (hw _ (List.mem_of_getElem? (i := 13) rfl)) rfl (g := (mkF m 167 #[iv p0, iv p1, iv p2, iv p3, iv p4, iv (2 : Int32), iv n6, iv n7, iv n8, iv n9, iv x0, iv x1, iv x2, rv r_436, rv r_439, rv r_442, rv r_445, .unset, .unset] [(.int (2 : Int32))])) rfl (hb hby at_167) rfl (by decide) (cap := 2) (by decide) (by decide) (by decide) (by decide)
      obtain ⟨b468, g468⟩ : ∃ z, z = T445.heap.size := ⟨_, rfl⟩
      rw [← g468] at A468 st468
      have gg_b468 : n0 ≤ b468 := Nat.le_trans (Nat.le_trans Z0 K445.1) (Nat.le_of_eq g468.symm)
      have sz_b468 : h0.size ≤ b468 := Nat.le_trans K445.1 (Nat.le_of_eq g468.symm)
      have K468 := K445.ext E468
      have sf468_b468 := Safe.ext E468 CH445.1 (Safe.new (Nat.le_of_eq g468.symm) : Safe Z own_EL _ _ b468)
      have CH468 := CH445.trans (CHr.ext E468 CH445.1)
      have hk := Nat.le_trans hk E468.1
      have V468 : Arv Z h468 b468 k468 (.object "java/lang/String") (2 : Int32) [.null, .null] .null := (Arv.new A468 (by decide)).pad (pad_rep [] .null 2)
      obtain ⟨cl469, Ar469, q469, S469, M469, H469, G469⟩ := id V468
      have hin469 : ¬ ((0 : Int32) < 0 ∨ cl469.slots.size ≤ ((0 : Int32)).toNatClampNeg) := inb_of S469 ⟨by decide, by decide⟩
      have Q470 := (((i439_4.1.keep i442_3).keep i445_3).ext E468)
      obtain ⟨T471, h471, X471, e471, W471, st471⟩ := stR X468 hx hZ e468 Ar469 (j := (0 : Int32)) hin469 rfl (Sto.ofV Ar469 q469 O468 (Ins.self Q470)) (g := (mkF m 174 #[iv p0, iv p1, iv p2, iv p3, iv p4, iv (2 : Int32), iv n6, iv n7, iv n8, iv n9, iv x0, iv x1, iv x2, rv r_436, rv r_439, rv r_442, rv r_445, .unset, .unset] [(.ref r_439), (.int (0 : Int32)), (.ref b468), (.ref b468)])) rfl rfl (hb hby at_174)
      have V471 : Arv Z h471 b468 k468 (.object "java/lang/String") (2 : Int32) [(.ref r_439), .null] .null := Arv.set Ar469 q469 S469 M469 H469 G469 rfl W471 0 rfl (Nat.le_of_ble_eq_true rfl)
      have K471 := K468.wr W471 (Or.inr sz_b468)
      have N471 := Fr.snoc X471 N445 gg_b468
      have sf471_b468 := Safe.wr W471 sf468_b468 CH468.1 sf468_b468
      have CH471 := CH468.trans (CHr.wr W471 sf468_b468 CH468.1)
      have hk := Nat.le_trans hk (Keep.of_wr W471).1
      obtain ⟨cl472, Ar472, q472, S472, M472, H472, G472⟩ := id V471
      have hin472 : ¬ ((1 : Int32) < 0 ∨ cl472.slots.size ≤ ((1 : Int32)).toNatClampNeg) := inb_of S472 ⟨by decide, by decide⟩
      have Q473 := (((i442_4.1.keep i445_3).ext E468).wr W471)
      obtain ⟨T474, h474, X474, e474, W474, st474⟩ := stR X471 hx hZ e471 Ar472 (j := (1 : Int32)) hin472 rfl (Sto.ofV Ar472 q472 O468 (Ins.self Q473)) (g := (mkF m 179 #[iv p0, iv p1, iv p2, iv p3, iv p4, iv (2 : Int32), iv n6, iv n7, iv n8, iv n9, iv x0, iv x1, iv x2, rv r_436, rv r_439, rv r_442, rv r_445, .unset, .unset] [(.ref r_442), (.int (1 : Int32)), (.ref b468), (.ref b468)])) rfl rfl (hb hby at_179)
      have V474 : Arv Z h474 b468 k468 (.object "java/lang/String") (2 : Int32) [(.ref r_439), (.ref r_442)] .null := Arv.set Ar472 q472 S472 M472 H472 G472 rfl W474 1 rfl (Nat.le_of_ble_eq_true rfl)
      have K474 := K471.wr W474 (Or.inr sz_b468)
      have N474 := Fr.snoc X474 N471 gg_b468
      have sf474_b468 := Safe.wr W474 sf471_b468 CH471.1 sf471_b468
      have CH474 := CH471.trans (CHr.wr W474 sf471_b468 CH471.1)
      have hk := Nat.le_trans hk (Keep.of_wr W474).1
      obtain ⟨_, _, ⟨T475, L475, k475, n475⟩, -, X475, ⟨Lc475, hQ475, l475, y475, z475⟩, st475⟩ := Jvm.LawKit.callS X474 hx (y := (⟨"com/example/partybook/partybook/io/XmlInputIsOneOfPinLaw", "same", "(IIII)Z"⟩ : MethodName)) hown (mvT hZ (hw _ (List.mem_of_getElem? (i := 39) rfl))) (mvT hZ (hw _ (List.mem_of_getElem? (i := 40) rfl))) (mvT hZ (hw _ (List.mem_of_getElem? (i := 2) rfl))) (mvT hZ (hw _ (List.mem_of_getElem? (i := 41) rfl))) (by decide) (backOf (W := 0) (rmS l Z a0 hw [] p0 n6 x0 n7 h474 n0 (Nat.le_trans Z0 K474.1) ) hZ (hw _ (List.mem_of_getElem? (i := 41) rfl)) (hw _ (List.mem_of_getElem? (i := 2) rfl)) (by decide) (by decide)) (g := (mkF m 219 #[iv p0, iv p1, iv p2, iv p3, iv p4, iv (2 : Int32), iv n6, iv n7, iv n8, iv n9, iv x0, iv x1, iv x2, rv r_436, rv r_439, rv r_442, rv r_445, rv b468, .unset] [(.int n7), (.int x0), (.int n6), (.int p0)])) rfl (by rw [hml]; rfl) (argsL := [(.int p0), (.int n6), (.int x0), (.int n7)]) (rest := []) (lenOf own_pd13 rfl) rfl (by show 2 * 0 + _ ≤ _; exact Nat.le_of_eq rfl) (hb hby at_219) (fun _ _ => ⟨rfl, e474, (by decide : 13 + 0 ≤ _), (by decide : 42 + 0 ≤ _)⟩)
      dsimp only [Pt.U, Pt.locs, Pt.cells, Pt.slots] at X475 l475 y475 z475 st475 hQ475
      subst l475 y475 z475
      obtain ⟨rfl, N475q, e475⟩ := hQ475
      have N475 := Fr.app N474 N475q
      have pre476 : ∀ t, Steps p.tables e below (T475.setTop (mkF m 222 #[iv p0, iv p1, iv p2, iv p3, iv p4, iv (2 : Int32), iv n6, iv n7, iv n8, iv n9, iv x0, iv x1, iv x2, rv r_436, rv r_439, rv r_442, rv r_445, rv b468, .unset] [(.int (own_f_rmS p0 n6 x0 n7))])) t → Steps p.tables e below (s₁.setTop (entryFrame m #[(.int p0), (.int p1), (.int p2), (.int p3), (.int p4)] maxLocals)) t := fun t k => by
        refine pre446 _ ?_
        show Steps p.tables e below (T445.setTop (mkF m 126 #[iv p0, iv p1, iv p2, iv p3, iv p4, iv (p4 &&& (3 : Int32)), iv n6, iv n7, iv n8, iv n9, iv x0, iv x1, iv x2, rv r_436, rv r_439, rv r_442, rv r_445, .unset, .unset] [])) _
        rw [hq4]
        show Steps p.tables e below (T445.setTop (mkF m 126 #[iv p0, iv p1, iv p2, iv p3, iv p4, iv (2 : Int32), iv n6, iv n7, iv n8, iv n9, iv x0, iv x1, iv x2, rv r_436, rv r_439, rv r_442, rv r_445, .unset, .unset] [])) _
        refine XS.iload X445.here hx rfl (hb hby at_126) rfl ?_
        show Steps p.tables e below (T445.setTop (mkF m 128 #[iv p0, iv p1, iv p2, iv p3, iv p4, iv (2 : Int32), iv n6, iv n7, iv n8, iv n9, iv x0, iv x1, iv x2, rv r_436, rv r_439, rv r_442, rv r_445, .unset, .unset] [(.int (2 : Int32))])) _
        refine XS.ifYes X445.here hx rfl (pc0 := 128) (pc' := 140) rfl (hb hby at_128) rfl ((if0 _ _).trans (feq (by decide : ¬ ((2 : Int32) = (0 : Int32)))).2) (by decide) (by decide) ?_
        show Steps p.tables e below (T445.setTop (mkF m 140 #[iv p0, iv p1, iv p2, iv p3, iv p4, iv (2 : Int32), iv n6, iv n7, iv n8, iv n9, iv x0, iv x1, iv x2, rv r_436, rv r_439, rv r_442, rv r_445, .unset, .unset] [])) _
        refine XS.iload X445.here hx rfl (hb hby at_140) rfl ?_
        show Steps p.tables e below (T445.setTop (mkF m 142 #[iv p0, iv p1, iv p2, iv p3, iv p4, iv (2 : Int32), iv n6, iv n7, iv n8, iv n9, iv x0, iv x1, iv x2, rv r_436, rv r_439, rv r_442, rv r_445, .unset, .unset] [(.int (2 : Int32))])) _
        refine XS.iconst X445.here hx rfl (hb hby at_142) ?_
        show Steps p.tables e below (T445.setTop (mkF m 143 #[iv p0, iv p1, iv p2, iv p3, iv p4, iv (2 : Int32), iv n6, iv n7, iv n8, iv n9, iv x0, iv x1, iv x2, rv r_436, rv r_439, rv r_442, rv r_445, .unset, .unset] [(.int (1 : Int32)), (.int (2 : Int32))])) _
        refine XS.icmpYes X445.here hx rfl (pc0 := 143) (pc' := 160) rfl (hb hby at_143) rfl (feq (by decide : ¬ ((2 : Int32) = (1 : Int32)))).2 (by decide) (by decide) ?_
        show Steps p.tables e below (T445.setTop (mkF m 160 #[iv p0, iv p1, iv p2, iv p3, iv p4, iv (2 : Int32), iv n6, iv n7, iv n8, iv n9, iv x0, iv x1, iv x2, rv r_436, rv r_439, rv r_442, rv r_445, .unset, .unset] [])) _
        refine XS.iload X445.here hx rfl (hb hby at_160) rfl ?_
        show Steps p.tables e below (T445.setTop (mkF m 162 #[iv p0, iv p1, iv p2, iv p3, iv p4, iv (2 : Int32), iv n6, iv n7, iv n8, iv n9, iv x0, iv x1, iv x2, rv r_436, rv r_439, rv r_442, rv r_445, .unset, .unset] [(.int (2 : Int32))])) _
        refine XS.iconst X445.here hx rfl (hb hby at_162) ?_
        show Steps p.tables e below (T445.setTop (mkF m 163 #[iv p0, iv p1, iv p2, iv p3, iv p4, iv (2 : Int32), iv n6, iv n7, iv n8, iv n9, iv x0, iv x1, iv x2, rv r_436, rv r_439, rv r_442, rv r_445, .unset, .unset] [(.int (2 : Int32)), (.int (2 : Int32))])) _
        refine XS.icmpNo X445.here hx rfl (hb hby at_163) rfl (teq (by decide : ((2 : Int32) = (2 : Int32)))).2 ?_
        show Steps p.tables e below (T445.setTop (mkF m 166 #[iv p0, iv p1, iv p2, iv p3, iv p4, iv (2 : Int32), iv n6, iv n7, iv n8, iv n9, iv x0, iv x1, iv x2, rv r_436, rv r_439, rv r_442, rv r_445, .unset, .unset] [])) _
        refine XS.iconst X445.here hx rfl (hb hby at_166) ?_
        show Steps p.tables e below (T445.setTop (mkF m 167 #[iv p0, iv p1, iv p2, iv p3, iv p4, iv (2 : Int32), iv n6, iv n7, iv n8, iv n9, iv x0, iv x1, iv x2, rv r_436, rv r_439, rv r_442, rv r_445, .unset, .unset] [(.int (2 : Int32))])) _
        refine st468 _ ?_
        show Steps p.tables e below (T468.setTop (mkF m 170 #[iv p0, iv p1, iv p2, iv p3, iv p4, iv (2 : Int32), iv n6, iv n7, iv n8, iv n9, iv x0, iv x1, iv x2, rv r_436, rv r_439, rv r_442, rv r_445, .unset, .unset] [(.ref b468)])) _
        refine XS.dup X468.here hx rfl (hb hby at_170) rfl rfl ?_
        show Steps p.tables e below (T468.setTop (mkF m 171 #[iv p0, iv p1, iv p2, iv p3, iv p4, iv (2 : Int32), iv n6, iv n7, iv n8, iv n9, iv x0, iv x1, iv x2, rv r_436, rv r_439, rv r_442, rv r_445, .unset, .unset] [(.ref b468), (.ref b468)])) _
        refine XS.iconst X468.here hx rfl (hb hby at_171) ?_
        show Steps p.tables e below (T468.setTop (mkF m 172 #[iv p0, iv p1, iv p2, iv p3, iv p4, iv (2 : Int32), iv n6, iv n7, iv n8, iv n9, iv x0, iv x1, iv x2, rv r_436, rv r_439, rv r_442, rv r_445, .unset, .unset] [(.int (0 : Int32)), (.ref b468), (.ref b468)])) _
        refine XS.aload X468.here hx rfl (hb hby at_172) rfl rfl ?_
        show Steps p.tables e below (T468.setTop (mkF m 174 #[iv p0, iv p1, iv p2, iv p3, iv p4, iv (2 : Int32), iv n6, iv n7, iv n8, iv n9, iv x0, iv x1, iv x2, rv r_436, rv r_439, rv r_442, rv r_445, .unset, .unset] [(.ref r_439), (.int (0 : Int32)), (.ref b468), (.ref b468)])) _
        refine st471 _ ?_
        show Steps p.tables e below (T471.setTop (mkF m 175 #[iv p0, iv p1, iv p2, iv p3, iv p4, iv (2 : Int32), iv n6, iv n7, iv n8, iv n9, iv x0, iv x1, iv x2, rv r_436, rv r_439, rv r_442, rv r_445, .unset, .unset] [(.ref b468)])) _
        refine XS.dup X471.here hx rfl (hb hby at_175) rfl rfl ?_
        show Steps p.tables e below (T471.setTop (mkF m 176 #[iv p0, iv p1, iv p2, iv p3, iv p4, iv (2 : Int32), iv n6, iv n7, iv n8, iv n9, iv x0, iv x1, iv x2, rv r_436, rv r_439, rv r_442, rv r_445, .unset, .unset] [(.ref b468), (.ref b468)])) _
        refine XS.iconst X471.here hx rfl (hb hby at_176) ?_
        show Steps p.tables e below (T471.setTop (mkF m 177 #[iv p0, iv p1, iv p2, iv p3, iv p4, iv (2 : Int32), iv n6, iv n7, iv n8, iv n9, iv x0, iv x1, iv x2, rv r_436, rv r_439, rv r_442, rv r_445, .unset, .unset] [(.int (1 : Int32)), (.ref b468), (.ref b468)])) _
        refine XS.aload X471.here hx rfl (hb hby at_177) rfl rfl ?_
        show Steps p.tables e below (T471.setTop (mkF m 179 #[iv p0, iv p1, iv p2, iv p3, iv p4, iv (2 : Int32), iv n6, iv n7, iv n8, iv n9, iv x0, iv x1, iv x2, rv r_436, rv r_439, rv r_442, rv r_445, .unset, .unset] [(.ref r_442), (.int (1 : Int32)), (.ref b468), (.ref b468)])) _
        refine st474 _ ?_
        show Steps p.tables e below (T474.setTop (mkF m 180 #[iv p0, iv p1, iv p2, iv p3, iv p4, iv (2 : Int32), iv n6, iv n7, iv n8, iv n9, iv x0, iv x1, iv x2, rv r_436, rv r_439, rv r_442, rv r_445, .unset, .unset] [(.ref b468)])) _
        refine XS.astore X474.here hx rfl (hb hby at_180) rfl rfl (l' := #[iv p0, iv p1, iv p2, iv p3, iv p4, iv (2 : Int32), iv n6, iv n7, iv n8, iv n9, iv x0, iv x1, iv x2, rv r_436, rv r_439, rv r_442, rv r_445, rv b468, .unset]) rfl ?_
        show Steps p.tables e below (T474.setTop (mkF m 182 #[iv p0, iv p1, iv p2, iv p3, iv p4, iv (2 : Int32), iv n6, iv n7, iv n8, iv n9, iv x0, iv x1, iv x2, rv r_436, rv r_439, rv r_442, rv r_445, rv b468, .unset] [])) _
        refine XS.goto X474.here hx rfl (pc0 := 182) (pc' := 206) rfl (hb hby at_182) (by decide) (by decide) ?_
        show Steps p.tables e below (T474.setTop (mkF m 206 #[iv p0, iv p1, iv p2, iv p3, iv p4, iv (2 : Int32), iv n6, iv n7, iv n8, iv n9, iv x0, iv x1, iv x2, rv r_436, rv r_439, rv r_442, rv r_445, rv b468, .unset] [])) _
        refine XS.iload X474.here hx rfl (hb hby at_206) rfl ?_
        show Steps p.tables e below (T474.setTop (mkF m 208 #[iv p0, iv p1, iv p2, iv p3, iv p4, iv (2 : Int32), iv n6, iv n7, iv n8, iv n9, iv x0, iv x1, iv x2, rv r_436, rv r_439, rv r_442, rv r_445, rv b468, .unset] [(.int (2 : Int32))])) _
        refine XS.iconst X474.here hx rfl (hb hby at_208) ?_
        show Steps p.tables e below (T474.setTop (mkF m 209 #[iv p0, iv p1, iv p2, iv p3, iv p4, iv (2 : Int32), iv n6, iv n7, iv n8, iv n9, iv x0, iv x1, iv x2, rv r_436, rv r_439, rv r_442, rv r_445, rv b468, .unset] [(.int (1 : Int32)), (.int (2 : Int32))])) _
        refine XS.icmpNo X474.here hx rfl (hb hby at_209) rfl (flt (by decide : ¬ ((2 : Int32) < (1 : Int32)))).1 ?_
        show Steps p.tables e below (T474.setTop (mkF m 212 #[iv p0, iv p1, iv p2, iv p3, iv p4, iv (2 : Int32), iv n6, iv n7, iv n8, iv n9, iv x0, iv x1, iv x2, rv r_436, rv r_439, rv r_442, rv r_445, rv b468, .unset] [])) _
        refine XS.iloadN X474.here hx rfl (hb hby at_212) rfl ?_
        show Steps p.tables e below (T474.setTop (mkF m 213 #[iv p0, iv p1, iv p2, iv p3, iv p4, iv (2 : Int32), iv n6, iv n7, iv n8, iv n9, iv x0, iv x1, iv x2, rv r_436, rv r_439, rv r_442, rv r_445, rv b468, .unset] [(.int p0)])) _
        refine XS.iload X474.here hx rfl (hb hby at_213) rfl ?_
        show Steps p.tables e below (T474.setTop (mkF m 215 #[iv p0, iv p1, iv p2, iv p3, iv p4, iv (2 : Int32), iv n6, iv n7, iv n8, iv n9, iv x0, iv x1, iv x2, rv r_436, rv r_439, rv r_442, rv r_445, rv b468, .unset] [(.int n6), (.int p0)])) _
        refine XS.iload X474.here hx rfl (hb hby at_215) rfl ?_
        show Steps p.tables e below (T474.setTop (mkF m 217 #[iv p0, iv p1, iv p2, iv p3, iv p4, iv (2 : Int32), iv n6, iv n7, iv n8, iv n9, iv x0, iv x1, iv x2, rv r_436, rv r_439, rv r_442, rv r_445, rv b468, .unset] [(.int x0), (.int n6), (.int p0)])) _
        refine XS.iload X474.here hx rfl (hb hby at_217) rfl ?_
        show Steps p.tables e below (T474.setTop (mkF m 219 #[iv p0, iv p1, iv p2, iv p3, iv p4, iv (2 : Int32), iv n6, iv n7, iv n8, iv n9, iv x0, iv x1, iv x2, rv r_436, rv r_439, rv r_442, rv r_445, rv b468, .unset] [(.int n7), (.int x0), (.int n6), (.int p0)])) _
        refine st475 _ ?_
        exact k
      by_cases hc222 : (own_f_rmS p0 n6 x0 n7) = (0 : Int32)
      · obtain ⟨_, _, ⟨T477, L477, k477, n477⟩, -, X477, ⟨Lc477, hQ477, l477, y477, z477⟩, st477⟩ := Jvm.LawKit.callS X475 hx (y := (⟨"com/example/partybook/partybook/io/XmlInputIsOneOfPinLaw", "same", "(IIII)Z"⟩ : MethodName)) hown (mvT hZ (hw _ (List.mem_of_getElem? (i := 39) rfl))) (mvT hZ (hw _ (List.mem_of_getElem? (i := 40) rfl))) (mvT hZ (hw _ (List.mem_of_getElem? (i := 2) rfl))) (mvT hZ (hw _ (List.mem_of_getElem? (i := 41) rfl))) (by decide) (backOf (W := 0) (rmS l Z a0 hw [] p0 n6 x1 n8 h474 n0 (Nat.le_trans Z0 K474.1) ) hZ (hw _ (List.mem_of_getElem? (i := 41) rfl)) (hw _ (List.mem_of_getElem? (i := 2) rfl)) (by decide) (by decide)) (g := (mkF m 238 #[iv p0, iv p1, iv p2, iv p3, iv p4, iv (2 : Int32), iv n6, iv n7, iv n8, iv n9, iv x0, iv x1, iv x2, rv r_436, rv r_439, rv r_442, rv r_445, rv b468, .unset] [(.int n8), (.int x1), (.int n6), (.int p0)])) rfl (by rw [hml]; rfl) (argsL := [(.int p0), (.int n6), (.int x1), (.int n8)]) (rest := []) (lenOf own_pd13 rfl) rfl (by show 2 * 0 + _ ≤ _; exact Nat.le_of_eq rfl) (hb hby at_238) (fun _ _ => ⟨rfl, e475, (by decide : 13 + 0 ≤ _), (by decide : 42 + 0 ≤ _)⟩)
        dsimp only [Pt.U, Pt.locs, Pt.cells, Pt.slots] at X477 l477 y477 z477 st477 hQ477
        subst l477 y477 z477
        obtain ⟨rfl, N477q, e477⟩ := hQ477
        have N477 := Fr.app N475 N477q
        have pre478 : ∀ t, Steps p.tables e below (T477.setTop (mkF m 241 #[iv p0, iv p1, iv p2, iv p3, iv p4, iv (2 : Int32), iv n6, iv n7, iv n8, iv n9, iv x0, iv x1, iv x2, rv r_436, rv r_439, rv r_442, rv r_445, rv b468, .unset] [(.int (own_f_rmS p0 n6 x1 n8))])) t → Steps p.tables e below (s₁.setTop (entryFrame m #[(.int p0), (.int p1), (.int p2), (.int p3), (.int p4)] maxLocals)) t := fun t k => by
          refine pre476 _ ?_
          show Steps p.tables e below (T475.setTop (mkF m 222 #[iv p0, iv p1, iv p2, iv p3, iv p4, iv (2 : Int32), iv n6, iv n7, iv n8, iv n9, iv x0, iv x1, iv x2, rv r_436, rv r_439, rv r_442, rv r_445, rv b468, .unset] [(.int (own_f_rmS p0 n6 x0 n7))])) _
          refine XS.ifNo X475.here hx rfl (hb hby at_222) rfl ((if0 _ _).trans (teq hc222).2) ?_
          show Steps p.tables e below (T475.setTop (mkF m 225 #[iv p0, iv p1, iv p2, iv p3, iv p4, iv (2 : Int32), iv n6, iv n7, iv n8, iv n9, iv x0, iv x1, iv x2, rv r_436, rv r_439, rv r_442, rv r_445, rv b468, .unset] [])) _
          refine XS.iload X475.here hx rfl (hb hby at_225) rfl ?_
          show Steps p.tables e below (T475.setTop (mkF m 227 #[iv p0, iv p1, iv p2, iv p3, iv p4, iv (2 : Int32), iv n6, iv n7, iv n8, iv n9, iv x0, iv x1, iv x2, rv r_436, rv r_439, rv r_442, rv r_445, rv b468, .unset] [(.int (2 : Int32))])) _
          refine XS.iconst X475.here hx rfl (hb hby at_227) ?_
          show Steps p.tables e below (T475.setTop (mkF m 228 #[iv p0, iv p1, iv p2, iv p3, iv p4, iv (2 : Int32), iv n6, iv n7, iv n8, iv n9, iv x0, iv x1, iv x2, rv r_436, rv r_439, rv r_442, rv r_445, rv b468, .unset] [(.int (2 : Int32)), (.int (2 : Int32))])) _
          refine XS.icmpNo X475.here hx rfl (hb hby at_228) rfl (flt (by decide : ¬ ((2 : Int32) < (2 : Int32)))).1 ?_
          show Steps p.tables e below (T475.setTop (mkF m 231 #[iv p0, iv p1, iv p2, iv p3, iv p4, iv (2 : Int32), iv n6, iv n7, iv n8, iv n9, iv x0, iv x1, iv x2, rv r_436, rv r_439, rv r_442, rv r_445, rv b468, .unset] [])) _
          refine XS.iloadN X475.here hx rfl (hb hby at_231) rfl ?_
          show Steps p.tables e below (T475.setTop (mkF m 232 #[iv p0, iv p1, iv p2, iv p3, iv p4, iv (2 : Int32), iv n6, iv n7, iv n8, iv n9, iv x0, iv x1, iv x2, rv r_436, rv r_439, rv r_442, rv r_445, rv b468, .unset] [(.int p0)])) _
          refine XS.iload X475.here hx rfl (hb hby at_232) rfl ?_
          show Steps p.tables e below (T475.setTop (mkF m 234 #[iv p0, iv p1, iv p2, iv p3, iv p4, iv (2 : Int32), iv n6, iv n7, iv n8, iv n9, iv x0, iv x1, iv x2, rv r_436, rv r_439, rv r_442, rv r_445, rv b468, .unset] [(.int n6), (.int p0)])) _
          refine XS.iload X475.here hx rfl (hb hby at_234) rfl ?_
          show Steps p.tables e below (T475.setTop (mkF m 236 #[iv p0, iv p1, iv p2, iv p3, iv p4, iv (2 : Int32), iv n6, iv n7, iv n8, iv n9, iv x0, iv x1, iv x2, rv r_436, rv r_439, rv r_442, rv r_445, rv b468, .unset] [(.int x1), (.int n6), (.int p0)])) _
          refine XS.iload X475.here hx rfl (hb hby at_236) rfl ?_
          show Steps p.tables e below (T475.setTop (mkF m 238 #[iv p0, iv p1, iv p2, iv p3, iv p4, iv (2 : Int32), iv n6, iv n7, iv n8, iv n9, iv x0, iv x1, iv x2, rv r_436, rv r_439, rv r_442, rv r_445, rv b468, .unset] [(.int n8), (.int x1), (.int n6), (.int p0)])) _
          refine st477 _ ?_
          exact k
        by_cases hc241 : (own_f_rmS p0 n6 x1 n8) = (0 : Int32)
        · have Q479 := ((((((i436_4.keep0 i439_3).keep0 i442_3).keep0 i445_3).ext E468).wr W471 Ar469 (hw _ (List.mem_of_getElem? (i := 6) rfl)) (by decide)).wr W474 Ar472 (hw _ (List.mem_of_getElem? (i := 6) rfl)) (by decide))
          have Q480 := (((((i439_4.keep0 i442_3).keep0 i445_3).ext E468).wr W471 Ar469 (hw _ (List.mem_of_getElem? (i := 6) rfl)) (by decide)).wr W474 Ar472 (hw _ (List.mem_of_getElem? (i := 6) rfl)) (by decide))
          have Q481 := ((((i442_4.keep0 i445_3).ext E468).wr W471 Ar469 (hw _ (List.mem_of_getElem? (i := 6) rfl)) (by decide)).wr W474 Ar472 (hw _ (List.mem_of_getElem? (i := 6) rfl)) (by decide))
          have Q482 := ((((own_staKeep Q443 i445_3 all0).ext E468).wr W471).wr W474)
          obtain ⟨_, _, ⟨T483, L483, k483, n483⟩, -, X483, ⟨Lc483, hQ483, l483, y483, z483⟩, st483⟩ := Jvm.LawKit.callS X477 hx (y := (⟨"com/example/partybook/partybook/io/XmlInput", "isOneOf", "(Ljava/lang/String;[Ljava/lang/String;)Z"⟩ : MethodName)) hown (mvT hZ (hw _ (List.mem_of_getElem? (i := 14) rfl))) (mvT hZ (hw _ (List.mem_of_getElem? (i := 15) rfl))) (mvT hZ (hw _ (List.mem_of_getElem? (i := 16) rfl))) (mvT hZ (hw _ (List.mem_of_getElem? (i := 17) rfl))) (by decide) (backOf (W := 0) (rmO_2 l Z a0 hw [] r_436 b468 cw k468 (own_mk p0 n6) r_439 r_442 (own_mk x0 n7) (own_mk x1 n8) h474 n0 (Nat.le_trans Z0 K474.1) Q479 V474 Q480 Q481 Q482 hw0 (own_mkLen _ _) (own_mkLen _ _) (own_mkLen _ _)) hZ (hw _ (List.mem_of_getElem? (i := 17) rfl)) (hw _ (List.mem_of_getElem? (i := 16) rfl)) (by decide) (by decide)) (g := (mkF m 274 #[iv p0, iv p1, iv p2, iv p3, iv p4, iv (2 : Int32), iv n6, iv n7, iv n8, iv n9, iv x0, iv x1, iv x2, rv r_436, rv r_439, rv r_442, rv r_445, rv b468, iv (0 : Int32)] [(.ref b468), (.ref r_436)])) rfl (by rw [hml]; rfl) (argsL := [(.ref r_436), (.ref b468)]) (rest := []) (lenOf own_pd12 rfl) rfl (by show 2 * 0 + _ ≤ _; exact Nat.le_of_eq rfl) (hb hby at_274) (fun _ _ => ⟨rfl, e477, (by decide : 13 + 0 ≤ _), (by decide : 42 + 0 ≤ _)⟩)
          dsimp only [Pt.U, Pt.locs, Pt.cells, Pt.slots] at X483 l483 y483 z483 st483 hQ483
          subst l483 y483 z483
          obtain ⟨rfl, N483q, e483⟩ := hQ483
          have N483 := Fr.app N477 N483q
          have hc279_484 : (own_f_rmO_2 (own_mk p0 n6) (own_mk x0 n7) (own_mk x1 n8)) = (0 : Int32) := by unfold own_f_rmO_2; rw [own_eqLc, ← own_same _ _ _ _ h6n h7n, if_pos hc222, own_eqLc, ← own_same _ _ _ _ h6n h8n, if_pos hc241]
          obtain ⟨fs, hr, hrun, hended, hW, hsame⟩ := X483.leave (v := some (.int (1 : Int32))) (fun h => by rw [Bd.returns] at h; cases h)
          refine ⟨_, _, pre478 _ ?_, hrun, hended, _, _, rfl, ?_, (by show CHr Z own_EL s.vm s.heap T483.vm T483.heap; rw [hh, e483]; exact CH474.trans (CHv.at X483 hZ hEL CH474.1)), own_endW hS (by show _ ≤ T483.heap.size; rw [e483]; exact hk) hW (hsame.mono (by decide) (by decide))⟩
          · show Steps p.tables e below (T477.setTop (mkF m 241 #[iv p0, iv p1, iv p2, iv p3, iv p4, iv (2 : Int32), iv n6, iv n7, iv n8, iv n9, iv x0, iv x1, iv x2, rv r_436, rv r_439, rv r_442, rv r_445, rv b468, .unset] [(.int (own_f_rmS p0 n6 x1 n8))])) _
            refine XS.ifNo X477.here hx rfl (hb hby at_241) rfl ((if0 _ _).trans (teq hc241).2) ?_
            show Steps p.tables e below (T477.setTop (mkF m 244 #[iv p0, iv p1, iv p2, iv p3, iv p4, iv (2 : Int32), iv n6, iv n7, iv n8, iv n9, iv x0, iv x1, iv x2, rv r_436, rv r_439, rv r_442, rv r_445, rv b468, .unset] [])) _
            refine XS.iload X477.here hx rfl (hb hby at_244) rfl ?_
            show Steps p.tables e below (T477.setTop (mkF m 246 #[iv p0, iv p1, iv p2, iv p3, iv p4, iv (2 : Int32), iv n6, iv n7, iv n8, iv n9, iv x0, iv x1, iv x2, rv r_436, rv r_439, rv r_442, rv r_445, rv b468, .unset] [(.int (2 : Int32))])) _
            refine XS.iconst X477.here hx rfl (hb hby at_246) ?_
            show Steps p.tables e below (T477.setTop (mkF m 247 #[iv p0, iv p1, iv p2, iv p3, iv p4, iv (2 : Int32), iv n6, iv n7, iv n8, iv n9, iv x0, iv x1, iv x2, rv r_436, rv r_439, rv r_442, rv r_445, rv b468, .unset] [(.int (3 : Int32)), (.int (2 : Int32))])) _
            refine XS.icmpYes X477.here hx rfl (pc0 := 247) (pc' := 267) rfl (hb hby at_247) rfl (tlt (by decide : ((2 : Int32) < (3 : Int32)))).1 (by decide) (by decide) ?_
            show Steps p.tables e below (T477.setTop (mkF m 267 #[iv p0, iv p1, iv p2, iv p3, iv p4, iv (2 : Int32), iv n6, iv n7, iv n8, iv n9, iv x0, iv x1, iv x2, rv r_436, rv r_439, rv r_442, rv r_445, rv b468, .unset] [])) _
            refine XS.iconst X477.here hx rfl (hb hby at_267) ?_
            show Steps p.tables e below (T477.setTop (mkF m 268 #[iv p0, iv p1, iv p2, iv p3, iv p4, iv (2 : Int32), iv n6, iv n7, iv n8, iv n9, iv x0, iv x1, iv x2, rv r_436, rv r_439, rv r_442, rv r_445, rv b468, .unset] [(.int (0 : Int32))])) _
            refine XS.istore X477.here hx rfl (hb hby at_268) rfl (l' := #[iv p0, iv p1, iv p2, iv p3, iv p4, iv (2 : Int32), iv n6, iv n7, iv n8, iv n9, iv x0, iv x1, iv x2, rv r_436, rv r_439, rv r_442, rv r_445, rv b468, iv (0 : Int32)]) rfl ?_
            show Steps p.tables e below (T477.setTop (mkF m 270 #[iv p0, iv p1, iv p2, iv p3, iv p4, iv (2 : Int32), iv n6, iv n7, iv n8, iv n9, iv x0, iv x1, iv x2, rv r_436, rv r_439, rv r_442, rv r_445, rv b468, iv (0 : Int32)] [])) _
            refine XS.aload X477.here hx rfl (hb hby at_270) rfl rfl ?_
            show Steps p.tables e below (T477.setTop (mkF m 272 #[iv p0, iv p1, iv p2, iv p3, iv p4, iv (2 : Int32), iv n6, iv n7, iv n8, iv n9, iv x0, iv x1, iv x2, rv r_436, rv r_439, rv r_442, rv r_445, rv b468, iv (0 : Int32)] [(.ref r_436)])) _
            refine XS.aload X477.here hx rfl (hb hby at_272) rfl rfl ?_
            show Steps p.tables e below (T477.setTop (mkF m 274 #[iv p0, iv p1, iv p2, iv p3, iv p4, iv (2 : Int32), iv n6, iv n7, iv n8, iv n9, iv x0, iv x1, iv x2, rv r_436, rv r_439, rv r_442, rv r_445, rv b468, iv (0 : Int32)] [(.ref b468), (.ref r_436)])) _
            refine st483 _ ?_
            show Steps p.tables e below (T483.setTop (mkF m 277 #[iv p0, iv p1, iv p2, iv p3, iv p4, iv (2 : Int32), iv n6, iv n7, iv n8, iv n9, iv x0, iv x1, iv x2, rv r_436, rv r_439, rv r_442, rv r_445, rv b468, iv (0 : Int32)] [(.int (own_f_rmO_2 (own_mk p0 n6) (own_mk x0 n7) (own_mk x1 n8)))])) _
            refine XS.iload X483.here hx rfl (hb hby at_277) rfl ?_
            show Steps p.tables e below (T483.setTop (mkF m 279 #[iv p0, iv p1, iv p2, iv p3, iv p4, iv (2 : Int32), iv n6, iv n7, iv n8, iv n9, iv x0, iv x1, iv x2, rv r_436, rv r_439, rv r_442, rv r_445, rv b468, iv (0 : Int32)] [(.int (0 : Int32)), (.int (own_f_rmO_2 (own_mk p0 n6) (own_mk x0 n7) (own_mk x1 n8)))])) _
            refine XS.icmpNo X483.here hx rfl (hb hby at_279) rfl (teq hc279_484).2 ?_
            show Steps p.tables e below (T483.setTop (mkF m 282 #[iv p0, iv p1, iv p2, iv p3, iv p4, iv (2 : Int32), iv n6, iv n7, iv n8, iv n9, iv x0, iv x1, iv x2, rv r_436, rv r_439, rv r_442, rv r_445, rv b468, iv (0 : Int32)] [])) _
            refine XS.iconst X483.here hx rfl (hb hby at_282) ?_
            show Steps p.tables e below (T483.setTop (mkF m 283 #[iv p0, iv p1, iv p2, iv p3, iv p4, iv (2 : Int32), iv n6, iv n7, iv n8, iv n9, iv x0, iv x1, iv x2, rv r_436, rv r_439, rv r_442, rv r_445, rv b468, iv (0 : Int32)] [(.int (1 : Int32))])) _
            refine XS.goto X483.here hx rfl (pc0 := 283) (pc' := 287) rfl (hb hby at_283) (by decide) (by decide) ?_
            show Steps p.tables e below (T483.setTop (mkF m 287 #[iv p0, iv p1, iv p2, iv p3, iv p4, iv (2 : Int32), iv n6, iv n7, iv n8, iv n9, iv x0, iv x1, iv x2, rv r_436, rv r_439, rv r_442, rv r_445, rv b468, iv (0 : Int32)] [(.int (1 : Int32))])) _
            exact retN X483 hx (t := .boolean) Bd.returns (by simp) (hb hby at_287) hr
          · show Q0 Z p0 p1 p2 p3 p4 cw h0 n0 _ T483.heap _
            rw [e483]
            exact ⟨rfl, N483⟩
        · have Q485 := ((((((i436_4.keep0 i439_3).keep0 i442_3).keep0 i445_3).ext E468).wr W471 Ar469 (hw _ (List.mem_of_getElem? (i := 6) rfl)) (by decide)).wr W474 Ar472 (hw _ (List.mem_of_getElem? (i := 6) rfl)) (by decide))
          have Q486 := (((((i439_4.keep0 i442_3).keep0 i445_3).ext E468).wr W471 Ar469 (hw _ (List.mem_of_getElem? (i := 6) rfl)) (by decide)).wr W474 Ar472 (hw _ (List.mem_of_getElem? (i := 6) rfl)) (by decide))
          have Q487 := ((((i442_4.keep0 i445_3).ext E468).wr W471 Ar469 (hw _ (List.mem_of_getElem? (i := 6) rfl)) (by decide)).wr W474 Ar472 (hw _ (List.mem_of_getElem? (i := 6) rfl)) (by decide))
          have Q488 := ((((own_staKeep Q443 i445_3 all0).ext E468).wr W471).wr W474)
          obtain ⟨_, _, ⟨T489, L489, k489, n489⟩, -, X489, ⟨Lc489, hQ489, l489, y489, z489⟩, st489⟩ := Jvm.LawKit.callS X477 hx (y := (⟨"com/example/partybook/partybook/io/XmlInput", "isOneOf", "(Ljava/lang/String;[Ljava/lang/String;)Z"⟩ : MethodName)) hown (mvT hZ (hw _ (List.mem_of_getElem? (i := 14) rfl))) (mvT hZ (hw _ (List.mem_of_getElem? (i := 15) rfl))) (mvT hZ (hw _ (List.mem_of_getElem? (i := 16) rfl))) (mvT hZ (hw _ (List.mem_of_getElem? (i := 17) rfl))) (by decide) (backOf (W := 0) (rmO_2 l Z a0 hw [] r_436 b468 cw k468 (own_mk p0 n6) r_439 r_442 (own_mk x0 n7) (own_mk x1 n8) h474 n0 (Nat.le_trans Z0 K474.1) Q485 V474 Q486 Q487 Q488 hw0 (own_mkLen _ _) (own_mkLen _ _) (own_mkLen _ _)) hZ (hw _ (List.mem_of_getElem? (i := 17) rfl)) (hw _ (List.mem_of_getElem? (i := 16) rfl)) (by decide) (by decide)) (g := (mkF m 274 #[iv p0, iv p1, iv p2, iv p3, iv p4, iv (2 : Int32), iv n6, iv n7, iv n8, iv n9, iv x0, iv x1, iv x2, rv r_436, rv r_439, rv r_442, rv r_445, rv b468, iv (1 : Int32)] [(.ref b468), (.ref r_436)])) rfl (by rw [hml]; rfl) (argsL := [(.ref r_436), (.ref b468)]) (rest := []) (lenOf own_pd12 rfl) rfl (by show 2 * 0 + _ ≤ _; exact Nat.le_of_eq rfl) (hb hby at_274) (fun _ _ => ⟨rfl, e477, (by decide : 13 + 0 ≤ _), (by decide : 42 + 0 ≤ _)⟩)
          dsimp only [Pt.U, Pt.locs, Pt.cells, Pt.slots] at X489 l489 y489 z489 st489 hQ489
          subst l489 y489 z489
          obtain ⟨rfl, N489q, e489⟩ := hQ489
          have N489 := Fr.app N477 N489q
          have hc279_490 : (own_f_rmO_2 (own_mk p0 n6) (own_mk x0 n7) (own_mk x1 n8)) = (1 : Int32) := by unfold own_f_rmO_2; rw [own_eqLc, ← own_same _ _ _ _ h6n h7n, if_pos hc222, own_eqLc, ← own_same _ _ _ _ h6n h8n, if_neg hc241]
          obtain ⟨fs, hr, hrun, hended, hW, hsame⟩ := X489.leave (v := some (.int (1 : Int32))) (fun h => by rw [Bd.returns] at h; cases h)
          refine ⟨_, _, pre478 _ ?_, hrun, hended, _, _, rfl, ?_, (by show CHr Z own_EL s.vm s.heap T489.vm T489.heap; rw [hh, e489]; exact CH474.trans (CHv.at X489 hZ hEL CH474.1)), own_endW hS (by show _ ≤ T489.heap.size; rw [e489]; exact hk) hW (hsame.mono (by decide) (by decide))⟩
          · show Steps p.tables e below (T477.setTop (mkF m 241 #[iv p0, iv p1, iv p2, iv p3, iv p4, iv (2 : Int32), iv n6, iv n7, iv n8, iv n9, iv x0, iv x1, iv x2, rv r_436, rv r_439, rv r_442, rv r_445, rv b468, .unset] [(.int (own_f_rmS p0 n6 x1 n8))])) _
            refine XS.ifYes X477.here hx rfl (pc0 := 241) (pc' := 263) rfl (hb hby at_241) rfl ((if0 _ _).trans (feq hc241).2) (by decide) (by decide) ?_
            show Steps p.tables e below (T477.setTop (mkF m 263 #[iv p0, iv p1, iv p2, iv p3, iv p4, iv (2 : Int32), iv n6, iv n7, iv n8, iv n9, iv x0, iv x1, iv x2, rv r_436, rv r_439, rv r_442, rv r_445, rv b468, .unset] [])) _
            refine XS.iconst X477.here hx rfl (hb hby at_263) ?_
            show Steps p.tables e below (T477.setTop (mkF m 264 #[iv p0, iv p1, iv p2, iv p3, iv p4, iv (2 : Int32), iv n6, iv n7, iv n8, iv n9, iv x0, iv x1, iv x2, rv r_436, rv r_439, rv r_442, rv r_445, rv b468, .unset] [(.int (1 : Int32))])) _
            refine XS.goto X477.here hx rfl (pc0 := 264) (pc' := 268) rfl (hb hby at_264) (by decide) (by decide) ?_
            show Steps p.tables e below (T477.setTop (mkF m 268 #[iv p0, iv p1, iv p2, iv p3, iv p4, iv (2 : Int32), iv n6, iv n7, iv n8, iv n9, iv x0, iv x1, iv x2, rv r_436, rv r_439, rv r_442, rv r_445, rv b468, .unset] [(.int (1 : Int32))])) _
            refine XS.istore X477.here hx rfl (hb hby at_268) rfl (l' := #[iv p0, iv p1, iv p2, iv p3, iv p4, iv (2 : Int32), iv n6, iv n7, iv n8, iv n9, iv x0, iv x1, iv x2, rv r_436, rv r_439, rv r_442, rv r_445, rv b468, iv (1 : Int32)]) rfl ?_
            show Steps p.tables e below (T477.setTop (mkF m 270 #[iv p0, iv p1, iv p2, iv p3, iv p4, iv (2 : Int32), iv n6, iv n7, iv n8, iv n9, iv x0, iv x1, iv x2, rv r_436, rv r_439, rv r_442, rv r_445, rv b468, iv (1 : Int32)] [])) _
            refine XS.aload X477.here hx rfl (hb hby at_270) rfl rfl ?_
            show Steps p.tables e below (T477.setTop (mkF m 272 #[iv p0, iv p1, iv p2, iv p3, iv p4, iv (2 : Int32), iv n6, iv n7, iv n8, iv n9, iv x0, iv x1, iv x2, rv r_436, rv r_439, rv r_442, rv r_445, rv b468, iv (1 : Int32)] [(.ref r_436)])) _
            refine XS.aload X477.here hx rfl (hb hby at_272) rfl rfl ?_
            show Steps p.tables e below (T477.setTop (mkF m 274 #[iv p0, iv p1, iv p2, iv p3, iv p4, iv (2 : Int32), iv n6, iv n7, iv n8, iv n9, iv x0, iv x1, iv x2, rv r_436, rv r_439, rv r_442, rv r_445, rv b468, iv (1 : Int32)] [(.ref b468), (.ref r_436)])) _
            refine st489 _ ?_
            show Steps p.tables e below (T489.setTop (mkF m 277 #[iv p0, iv p1, iv p2, iv p3, iv p4, iv (2 : Int32), iv n6, iv n7, iv n8, iv n9, iv x0, iv x1, iv x2, rv r_436, rv r_439, rv r_442, rv r_445, rv b468, iv (1 : Int32)] [(.int (own_f_rmO_2 (own_mk p0 n6) (own_mk x0 n7) (own_mk x1 n8)))])) _
            refine XS.iload X489.here hx rfl (hb hby at_277) rfl ?_
            show Steps p.tables e below (T489.setTop (mkF m 279 #[iv p0, iv p1, iv p2, iv p3, iv p4, iv (2 : Int32), iv n6, iv n7, iv n8, iv n9, iv x0, iv x1, iv x2, rv r_436, rv r_439, rv r_442, rv r_445, rv b468, iv (1 : Int32)] [(.int (1 : Int32)), (.int (own_f_rmO_2 (own_mk p0 n6) (own_mk x0 n7) (own_mk x1 n8)))])) _
            refine XS.icmpNo X489.here hx rfl (hb hby at_279) rfl (teq hc279_490).2 ?_
            show Steps p.tables e below (T489.setTop (mkF m 282 #[iv p0, iv p1, iv p2, iv p3, iv p4, iv (2 : Int32), iv n6, iv n7, iv n8, iv n9, iv x0, iv x1, iv x2, rv r_436, rv r_439, rv r_442, rv r_445, rv b468, iv (1 : Int32)] [])) _
            refine XS.iconst X489.here hx rfl (hb hby at_282) ?_
            show Steps p.tables e below (T489.setTop (mkF m 283 #[iv p0, iv p1, iv p2, iv p3, iv p4, iv (2 : Int32), iv n6, iv n7, iv n8, iv n9, iv x0, iv x1, iv x2, rv r_436, rv r_439, rv r_442, rv r_445, rv b468, iv (1 : Int32)] [(.int (1 : Int32))])) _
            refine XS.goto X489.here hx rfl (pc0 := 283) (pc' := 287) rfl (hb hby at_283) (by decide) (by decide) ?_
            show Steps p.tables e below (T489.setTop (mkF m 287 #[iv p0, iv p1, iv p2, iv p3, iv p4, iv (2 : Int32), iv n6, iv n7, iv n8, iv n9, iv x0, iv x1, iv x2, rv r_436, rv r_439, rv r_442, rv r_445, rv b468, iv (1 : Int32)] [(.int (1 : Int32))])) _
            exact retN X489 hx (t := .boolean) Bd.returns (by simp) (hb hby at_287) hr
          · show Q0 Z p0 p1 p2 p3 p4 cw h0 n0 _ T489.heap _
            rw [e489]
            exact ⟨rfl, N489⟩
      · have Q491 := ((((((i436_4.keep0 i439_3).keep0 i442_3).keep0 i445_3).ext E468).wr W471 Ar469 (hw _ (List.mem_of_getElem? (i := 6) rfl)) (by decide)).wr W474 Ar472 (hw _ (List.mem_of_getElem? (i := 6) rfl)) (by decide))
        have Q492 := (((((i439_4.keep0 i442_3).keep0 i445_3).ext E468).wr W471 Ar469 (hw _ (List.mem_of_getElem? (i := 6) rfl)) (by decide)).wr W474 Ar472 (hw _ (List.mem_of_getElem? (i := 6) rfl)) (by decide))
        have Q493 := ((((i442_4.keep0 i445_3).ext E468).wr W471 Ar469 (hw _ (List.mem_of_getElem? (i := 6) rfl)) (by decide)).wr W474 Ar472 (hw _ (List.mem_of_getElem? (i := 6) rfl)) (by decide))
        have Q494 := ((((own_staKeep Q443 i445_3 all0).ext E468).wr W471).wr W474)
        obtain ⟨_, _, ⟨T495, L495, k495, n495⟩, -, X495, ⟨Lc495, hQ495, l495, y495, z495⟩, st495⟩ := Jvm.LawKit.callS X475 hx (y := (⟨"com/example/partybook/partybook/io/XmlInput", "isOneOf", "(Ljava/lang/String;[Ljava/lang/String;)Z"⟩ : MethodName)) hown (mvT hZ (hw _ (List.mem_of_getElem? (i := 14) rfl))) (mvT hZ (hw _ (List.mem_of_getElem? (i := 15) rfl))) (mvT hZ (hw _ (List.mem_of_getElem? (i := 16) rfl))) (mvT hZ (hw _ (List.mem_of_getElem? (i := 17) rfl))) (by decide) (backOf (W := 0) (rmO_2 l Z a0 hw [] r_436 b468 cw k468 (own_mk p0 n6) r_439 r_442 (own_mk x0 n7) (own_mk x1 n8) h474 n0 (Nat.le_trans Z0 K474.1) Q491 V474 Q492 Q493 Q494 hw0 (own_mkLen _ _) (own_mkLen _ _) (own_mkLen _ _)) hZ (hw _ (List.mem_of_getElem? (i := 17) rfl)) (hw _ (List.mem_of_getElem? (i := 16) rfl)) (by decide) (by decide)) (g := (mkF m 274 #[iv p0, iv p1, iv p2, iv p3, iv p4, iv (2 : Int32), iv n6, iv n7, iv n8, iv n9, iv x0, iv x1, iv x2, rv r_436, rv r_439, rv r_442, rv r_445, rv b468, iv (1 : Int32)] [(.ref b468), (.ref r_436)])) rfl (by rw [hml]; rfl) (argsL := [(.ref r_436), (.ref b468)]) (rest := []) (lenOf own_pd12 rfl) rfl (by show 2 * 0 + _ ≤ _; exact Nat.le_of_eq rfl) (hb hby at_274) (fun _ _ => ⟨rfl, e475, (by decide : 13 + 0 ≤ _), (by decide : 42 + 0 ≤ _)⟩)
        dsimp only [Pt.U, Pt.locs, Pt.cells, Pt.slots] at X495 l495 y495 z495 st495 hQ495
        subst l495 y495 z495
        obtain ⟨rfl, N495q, e495⟩ := hQ495
        have N495 := Fr.app N475 N495q
        have hc279_496 : (own_f_rmO_2 (own_mk p0 n6) (own_mk x0 n7) (own_mk x1 n8)) = (1 : Int32) := by unfold own_f_rmO_2; rw [own_eqLc, ← own_same _ _ _ _ h6n h7n, if_neg hc222]
        obtain ⟨fs, hr, hrun, hended, hW, hsame⟩ := X495.leave (v := some (.int (1 : Int32))) (fun h => by rw [Bd.returns] at h; cases h)
        refine ⟨_, _, pre476 _ ?_, hrun, hended, _, _, rfl, ?_, (by show CHr Z own_EL s.vm s.heap T495.vm T495.heap; rw [hh, e495]; exact CH474.trans (CHv.at X495 hZ hEL CH474.1)), own_endW hS (by show _ ≤ T495.heap.size; rw [e495]; exact hk) hW (hsame.mono (by decide) (by decide))⟩
        · show Steps p.tables e below (T475.setTop (mkF m 222 #[iv p0, iv p1, iv p2, iv p3, iv p4, iv (2 : Int32), iv n6, iv n7, iv n8, iv n9, iv x0, iv x1, iv x2, rv r_436, rv r_439, rv r_442, rv r_445, rv b468, .unset] [(.int (own_f_rmS p0 n6 x0 n7))])) _
          refine XS.ifYes X475.here hx rfl (pc0 := 222) (pc' := 263) rfl (hb hby at_222) rfl ((if0 _ _).trans (feq hc222).2) (by decide) (by decide) ?_
          show Steps p.tables e below (T475.setTop (mkF m 263 #[iv p0, iv p1, iv p2, iv p3, iv p4, iv (2 : Int32), iv n6, iv n7, iv n8, iv n9, iv x0, iv x1, iv x2, rv r_436, rv r_439, rv r_442, rv r_445, rv b468, .unset] [])) _
          refine XS.iconst X475.here hx rfl (hb hby at_263) ?_
          show Steps p.tables e below (T475.setTop (mkF m 264 #[iv p0, iv p1, iv p2, iv p3, iv p4, iv (2 : Int32), iv n6, iv n7, iv n8, iv n9, iv x0, iv x1, iv x2, rv r_436, rv r_439, rv r_442, rv r_445, rv b468, .unset] [(.int (1 : Int32))])) _
          refine XS.goto X475.here hx rfl (pc0 := 264) (pc' := 268) rfl (hb hby at_264) (by decide) (by decide) ?_
          show Steps p.tables e below (T475.setTop (mkF m 268 #[iv p0, iv p1, iv p2, iv p3, iv p4, iv (2 : Int32), iv n6, iv n7, iv n8, iv n9, iv x0, iv x1, iv x2, rv r_436, rv r_439, rv r_442, rv r_445, rv b468, .unset] [(.int (1 : Int32))])) _
          refine XS.istore X475.here hx rfl (hb hby at_268) rfl (l' := #[iv p0, iv p1, iv p2, iv p3, iv p4, iv (2 : Int32), iv n6, iv n7, iv n8, iv n9, iv x0, iv x1, iv x2, rv r_436, rv r_439, rv r_442, rv r_445, rv b468, iv (1 : Int32)]) rfl ?_
          show Steps p.tables e below (T475.setTop (mkF m 270 #[iv p0, iv p1, iv p2, iv p3, iv p4, iv (2 : Int32), iv n6, iv n7, iv n8, iv n9, iv x0, iv x1, iv x2, rv r_436, rv r_439, rv r_442, rv r_445, rv b468, iv (1 : Int32)] [])) _
          refine XS.aload X475.here hx rfl (hb hby at_270) rfl rfl ?_
          show Steps p.tables e below (T475.setTop (mkF m 272 #[iv p0, iv p1, iv p2, iv p3, iv p4, iv (2 : Int32), iv n6, iv n7, iv n8, iv n9, iv x0, iv x1, iv x2, rv r_436, rv r_439, rv r_442, rv r_445, rv b468, iv (1 : Int32)] [(.ref r_436)])) _
          refine XS.aload X475.here hx rfl (hb hby at_272) rfl rfl ?_
          show Steps p.tables e below (T475.setTop (mkF m 274 #[iv p0, iv p1, iv p2, iv p3, iv p4, iv (2 : Int32), iv n6, iv n7, iv n8, iv n9, iv x0, iv x1, iv x2, rv r_436, rv r_439, rv r_442, rv r_445, rv b468, iv (1 : Int32)] [(.ref b468), (.ref r_436)])) _
          refine st495 _ ?_
          show Steps p.tables e below (T495.setTop (mkF m 277 #[iv p0, iv p1, iv p2, iv p3, iv p4, iv (2 : Int32), iv n6, iv n7, iv n8, iv n9, iv x0, iv x1, iv x2, rv r_436, rv r_439, rv r_442, rv r_445, rv b468, iv (1 : Int32)] [(.int (own_f_rmO_2 (own_mk p0 n6) (own_mk x0 n7) (own_mk x1 n8)))])) _
          refine XS.iload X495.here hx rfl (hb hby at_277) rfl ?_
          show Steps p.tables e below (T495.setTop (mkF m 279 #[iv p0, iv p1, iv p2, iv p3, iv p4, iv (2 : Int32), iv n6, iv n7, iv n8, iv n9, iv x0, iv x1, iv x2, rv r_436, rv r_439, rv r_442, rv r_445, rv b468, iv (1 : Int32)] [(.int (1 : Int32)), (.int (own_f_rmO_2 (own_mk p0 n6) (own_mk x0 n7) (own_mk x1 n8)))])) _
          refine XS.icmpNo X495.here hx rfl (hb hby at_279) rfl (teq hc279_496).2 ?_
          show Steps p.tables e below (T495.setTop (mkF m 282 #[iv p0, iv p1, iv p2, iv p3, iv p4, iv (2 : Int32), iv n6, iv n7, iv n8, iv n9, iv x0, iv x1, iv x2, rv r_436, rv r_439, rv r_442, rv r_445, rv b468, iv (1 : Int32)] [])) _
          refine XS.iconst X495.here hx rfl (hb hby at_282) ?_
          show Steps p.tables e below (T495.setTop (mkF m 283 #[iv p0, iv p1, iv p2, iv p3, iv p4, iv (2 : Int32), iv n6, iv n7, iv n8, iv n9, iv x0, iv x1, iv x2, rv r_436, rv r_439, rv r_442, rv r_445, rv b468, iv (1 : Int32)] [(.int (1 : Int32))])) _
          refine XS.goto X495.here hx rfl (pc0 := 283) (pc' := 287) rfl (hb hby at_283) (by decide) (by decide) ?_
          show Steps p.tables e below (T495.setTop (mkF m 287 #[iv p0, iv p1, iv p2, iv p3, iv p4, iv (2 : Int32), iv n6, iv n7, iv n8, iv n9, iv x0, iv x1, iv x2, rv r_436, rv r_439, rv r_442, rv r_445, rv b468, iv (1 : Int32)] [(.int (1 : Int32))])) _
          exact retN X495 hx (t := .boolean) Bd.returns (by simp) (hb hby at_287) hr
        · show Q0 Z p0 p1 p2 p3 p4 cw h0 n0 _ T495.heap _
          rw [e495]
          exact ⟨rfl, N495⟩
    · obtain ⟨T497, h497, k497, X497, e497, E497, A497, O497, st497⟩ := newR X445 hx hZ hown (hw _ (List.mem_of_getElem? (i := 12) rfl)) (hw _ (List.mem_of_getElem? (i := 13) rfl)) rfl (g := (mkF m 186 #[iv p0, iv p1, iv p2, iv p3, iv p4, iv (3 : Int32), iv n6, iv n7, iv n8, iv n9, iv x0, iv x1, iv x2, rv r_436, rv r_439, rv r_442, rv r_445, .unset, .unset] [(.int (3 : Int32))])) rfl (hb hby at_186) rfl (by decide) (cap := 3) (by decide) (by decide) (by decide) (by decide)
      obtain ⟨b497, g497⟩ : ∃ z, z = T445.heap.size := ⟨_, rfl⟩
      rw [← g497] at A497 st497
      have gg_b497 : n0 ≤ b497 := Nat.le_trans (Nat.le_trans Z0 K445.1) (Nat.le_of_eq g497.symm)
      have sz_b497 : h0.size ≤ b497 := Nat.le_trans K445.1 (Nat.le_of_eq g497.symm)
      have K497 := K445.ext E497
      have sf497_b497 := Safe.ext E497 CH445.1 (Safe.new (Nat.le_of_eq g497.symm) : Safe Z own_EL _ _ b497)
      have CH497 := CH445.trans (CHr.ext E497 CH445.1)
      have hk := Nat.le_trans hk E497.1
      have V497 : Arv Z h497 b497 k497 (.object "java/lang/String") (3 : Int32) [.null, .null, .null] .null := (Arv.new A497 (by decide)).pad (pad_rep [] .null 3)
      obtain ⟨cl498, Ar498, q498, S498, M498, H498, G498⟩ := id V497
      have hin498 : ¬ ((0 : Int32) < 0 ∨ cl498.slots.size ≤ ((0 : Int32)).toNatClampNeg) := inb_of S498 ⟨by decide, by decide⟩
      have Q499 := (((i439_4.1.keep i442_3).keep i445_3).ext E497)
      obtain ⟨T500, h500, X500, e500, W500, st500⟩ := stR X497 hx hZ e497 Ar498 (j := (0 : Int32)) hin498 rfl (Sto.ofV Ar498 q498 O497 (Ins.self Q499)) (g := (mkF m 193 #[iv p0, iv p1, iv p2, iv p3, iv p4, iv (3 : Int32), iv n6, iv n7, iv n8, iv n9, iv x0, iv x1, iv x2, rv r_436, rv r_439, rv r_442, rv r_445, .unset, .unset] [(.ref r_439), (.int (0 : Int32)), (.ref b497), (.ref b497)])) rfl rfl (hb hby at_193)
      have V500 : Arv Z h500 b497 k497 (.object "java/lang/String") (3 : Int32) [(.ref r_439), .null, .null] .null := Arv.set Ar498 q498 S498 M498 H498 G498 rfl W500 0 rfl (Nat.le_of_ble_eq_true rfl)
      have K500 := K497.wr W500 (Or.inr sz_b497)
      have N500 := Fr.snoc X500 N445 gg_b497
      have sf500_b497 := Safe.wr W500 sf497_b497 CH497.1 sf497_b497
      have CH500 := CH497.trans (CHr.wr W500 sf497_b497 CH497.1)
      have hk := Nat.le_trans hk (Keep.of_wr W500).1
      obtain ⟨cl501, Ar501, q501, S501, M501, H501, G501⟩ := id V500
      have hin501 : ¬ ((1 : Int32) < 0 ∨ cl501.slots.size ≤ ((1 : Int32)).toNatClampNeg) := inb_of S501 ⟨by decide, by decide⟩
      have Q502 := (((i442_4.1.keep i445_3).ext E497).wr W500)
      obtain ⟨T503, h503, X503, e503, W503, st503⟩ := stR X500 hx hZ e500 Ar501 (j := (1 : Int32)) hin501 rfl (Sto.ofV Ar501 q501 O497 (Ins.self Q502)) (g := (mkF m 198 #[iv p0, iv p1, iv p2, iv p3, iv p4, iv (3 : Int32), iv n6, iv n7, iv n8, iv n9, iv x0, iv x1, iv x2, rv r_436, rv r_439, rv r_442, rv r_445, .unset, .unset] [(.ref r_442), (.int (1 : Int32)), (.ref b497), (.ref b497)])) rfl rfl (hb hby at_198)
      have V503 : Arv Z h503 b497 k497 (.object "java/lang/String") (3 : Int32) [(.ref r_439), (.ref r_442), .null] .null := Arv.set Ar501 q501 S501 M501 H501 G501 rfl W503 1 rfl (Nat.le_of_ble_eq_true rfl)
      have K503 := K500.wr W503 (Or.inr sz_b497)
      have N503 := Fr.snoc X503 N500 gg_b497
      have sf503_b497 := Safe.wr W503 sf500_b497 CH500.1 sf500_b497
      have CH503 := CH500.trans (CHr.wr W503 sf500_b497 CH500.1)
      have hk := Nat.le_trans hk (Keep.of_wr W503).1
      obtain ⟨cl504, Ar504, q504, S504, M504, H504, G504⟩ := id V503
      have hin504 : ¬ ((2 : Int32) < 0 ∨ cl504.slots.size ≤ ((2 : Int32)).toNatClampNeg) := inb_of S504 ⟨by decide, by decide⟩
      have Q505 := (((i445_4.1.ext E497).wr W500).wr W503)
      obtain ⟨T506, h506, X506, e506, W506, st506⟩ := stR X503 hx hZ e503 Ar504 (j := (2 : Int32)) hin504 rfl (Sto.ofV Ar504 q504 O497 (Ins.self Q505)) (g := (mkF m 203 #[iv p0, iv p1, iv p2, iv p3, iv p4, iv (3 : Int32), iv n6, iv n7, iv n8, iv n9, iv x0, iv x1, iv x2, rv r_436, rv r_439, rv r_442, rv r_445, .unset, .unset] [(.ref r_445), (.int (2 : Int32)), (.ref b497), (.ref b497)])) rfl rfl (hb hby at_203)
      have V506 : Arv Z h506 b497 k497 (.object "java/lang/String") (3 : Int32) [(.ref r_439), (.ref r_442), (.ref r_445)] .null := Arv.set Ar504 q504 S504 M504 H504 G504 rfl W506 2 rfl (Nat.le_of_ble_eq_true rfl)
      have K506 := K503.wr W506 (Or.inr sz_b497)
      have N506 := Fr.snoc X506 N503 gg_b497
      have sf506_b497 := Safe.wr W506 sf503_b497 CH503.1 sf503_b497
      have CH506 := CH503.trans (CHr.wr W506 sf503_b497 CH503.1)
      have hk := Nat.le_trans hk (Keep.of_wr W506).1
      obtain ⟨_, _, ⟨T507, L507, k507, n507⟩, -, X507, ⟨Lc507, hQ507, l507, y507, z507⟩, st507⟩ := Jvm.LawKit.callS X506 hx (y := (⟨"com/example/partybook/partybook/io/XmlInputIsOneOfPinLaw", "same", "(IIII)Z"⟩ : MethodName)) hown (mvT hZ (hw _ (List.mem_of_getElem? (i := 39) rfl))) (mvT hZ (hw _ (List.mem_of_getElem? (i := 40) rfl))) (mvT hZ (hw _ (List.mem_of_getElem? (i := 2) rfl))) (mvT hZ (hw _ (List.mem_of_getElem? (i := 41) rfl))) (by decide) (backOf (W := 0) (rmS l Z a0 hw [] p0 n6 x0 n7 h506 n0 (Nat.le_trans Z0 K506.1) ) hZ (hw _ (List.mem_of_getElem? (i := 41) rfl)) (hw _ (List.mem_of_getElem? (i := 2) rfl)) (by decide) (by decide)) (g := (mkF m 219 #[iv p0, iv p1, iv p2, iv p3, iv p4, iv (3 : Int32), iv n6, iv n7, iv n8, iv n9, iv x0, iv x1, iv x2, rv r_436, rv r_439, rv r_442, rv r_445, rv b497, .unset] [(.int n7), (.int x0), (.int n6), (.int p0)])) rfl (by rw [hml]; rfl) (argsL := [(.int p0), (.int n6), (.int x0), (.int n7)]) (rest := []) (lenOf own_pd13 rfl) rfl (by show 2 * 0 + _ ≤ _; exact Nat.le_of_eq rfl) (hb hby at_219) (fun _ _ => ⟨rfl, e506, (by decide : 13 + 0 ≤ _), (by decide : 43 + 0 ≤ _)⟩)
      dsimp only [Pt.U, Pt.locs, Pt.cells, Pt.slots] at X507 l507 y507 z507 st507 hQ507
      subst l507 y507 z507
      obtain ⟨rfl, N507q, e507⟩ := hQ507
      have N507 := Fr.app N506 N507q
      have pre508 : ∀ t, Steps p.tables e below (T507.setTop (mkF m 222 #[iv p0, iv p1, iv p2, iv p3, iv p4, iv (3 : Int32), iv n6, iv n7, iv n8, iv n9, iv x0, iv x1, iv x2, rv r_436, rv r_439, rv r_442, rv r_445, rv b497, .unset] [(.int (own_f_rmS p0 n6 x0 n7))])) t → Steps p.tables e below (s₁.setTop (entryFrame m #[(.int p0), (.int p1), (.int p2), (.int p3), (.int p4)] maxLocals)) t := fun t k => by
        refine pre446 _ ?_
        show Steps p.tables e below (T445.setTop (mkF m 126 #[iv p0, iv p1, iv p2, iv p3, iv p4, iv (p4 &&& (3 : Int32)), iv n6, iv n7, iv n8, iv n9, iv x0, iv x1, iv x2, rv r_436, rv r_439, rv r_442, rv r_445, .unset, .unset] [])) _
        rw [hq4]
        show Steps p.tables e below (T445.setTop (mkF m 126 #[iv p0, iv p1, iv p2, iv p3, iv p4, iv (3 : Int32), iv n6, iv n7, iv n8, iv n9, iv x0, iv x1, iv x2, rv r_436, rv r_439, rv r_442, rv r_445, .unset, .unset] [])) _
        refine XS.iload X445.here hx rfl (hb hby at_126) rfl ?_
        show Steps p.tables e below (T445.setTop (mkF m 128 #[iv p0, iv p1, iv p2, iv p3, iv p4, iv (3 : Int32), iv n6, iv n7, iv n8, iv n9, iv x0, iv x1, iv x2, rv r_436, rv r_439, rv r_442, rv r_445, .unset, .unset] [(.int (3 : Int32))])) _
        refine XS.ifYes X445.here hx rfl (pc0 := 128) (pc' := 140) rfl (hb hby at_128) rfl ((if0 _ _).trans (feq (by decide : ¬ ((3 : Int32) = (0 : Int32)))).2) (by decide) (by decide) ?_
        show Steps p.tables e below (T445.setTop (mkF m 140 #[iv p0, iv p1, iv p2, iv p3, iv p4, iv (3 : Int32), iv n6, iv n7, iv n8, iv n9, iv x0, iv x1, iv x2, rv r_436, rv r_439, rv r_442, rv r_445, .unset, .unset] [])) _
        refine XS.iload X445.here hx rfl (hb hby at_140) rfl ?_
        show Steps p.tables e below (T445.setTop (mkF m 142 #[iv p0, iv p1, iv p2, iv p3, iv p4, iv (3 : Int32), iv n6, iv n7, iv n8, iv n9, iv x0, iv x1, iv x2, rv r_436, rv r_439, rv r_442, rv r_445, .unset, .unset] [(.int (3 : Int32))])) _
        refine XS.iconst X445.here hx rfl (hb hby at_142) ?_
        show Steps p.tables e below (T445.setTop (mkF m 143 #[iv p0, iv p1, iv p2, iv p3, iv p4, iv (3 : Int32), iv n6, iv n7, iv n8, iv n9, iv x0, iv x1, iv x2, rv r_436, rv r_439, rv r_442, rv r_445, .unset, .unset] [(.int (1 : Int32)), (.int (3 : Int32))])) _
        refine XS.icmpYes X445.here hx rfl (pc0 := 143) (pc' := 160) rfl (hb hby at_143) rfl (feq (by decide : ¬ ((3 : Int32) = (1 : Int32)))).2 (by decide) (by decide) ?_
        show Steps p.tables e below (T445.setTop (mkF m 160 #[iv p0, iv p1, iv p2, iv p3, iv p4, iv (3 : Int32), iv n6, iv n7, iv n8, iv n9, iv x0, iv x1, iv x2, rv r_436, rv r_439, rv r_442, rv r_445, .unset, .unset] [])) _
        refine XS.iload X445.here hx rfl (hb hby at_160) rfl ?_
        show Steps p.tables e below (T445.setTop (mkF m 162 #[iv p0, iv p1, iv p2, iv p3, iv p4, iv (3 : Int32), iv n6, iv n7, iv n8, iv n9, iv x0, iv x1, iv x2, rv r_436, rv r_439, rv r_442, rv r_445, .unset, .unset] [(.int (3 : Int32))])) _
        refine XS.iconst X445.here hx rfl (hb hby at_162) ?_
        show Steps p.tables e below (T445.setTop (mkF m 163 #[iv p0, iv p1, iv p2, iv p3, iv p4, iv (3 : Int32), iv n6, iv n7, iv n8, iv n9, iv x0, iv x1, iv x2, rv r_436, rv r_439, rv r_442, rv r_445, .unset, .unset] [(.int (2 : Int32)), (.int (3 : Int32))])) _
        refine XS.icmpYes X445.here hx rfl (pc0 := 163) (pc' := 185) rfl (hb hby at_163) rfl (feq (by decide : ¬ ((3 : Int32) = (2 : Int32)))).2 (by decide) (by decide) ?_
        show Steps p.tables e below (T445.setTop (mkF m 185 #[iv p0, iv p1, iv p2, iv p3, iv p4, iv (3 : Int32), iv n6, iv n7, iv n8, iv n9, iv x0, iv x1, iv x2, rv r_436, rv r_439, rv r_442, rv r_445, .unset, .unset] [])) _
        refine XS.iconst X445.here hx rfl (hb hby at_185) ?_
        show Steps p.tables e below (T445.setTop (mkF m 186 #[iv p0, iv p1, iv p2, iv p3, iv p4, iv (3 : Int32), iv n6, iv n7, iv n8, iv n9, iv x0, iv x1, iv x2, rv r_436, rv r_439, rv r_442, rv r_445, .unset, .unset] [(.int (3 : Int32))])) _
        refine st497 _ ?_
        show Steps p.tables e below (T497.setTop (mkF m 189 #[iv p0, iv p1, iv p2, iv p3, iv p4, iv (3 : Int32), iv n6, iv n7, iv n8, iv n9, iv x0, iv x1, iv x2, rv r_436, rv r_439, rv r_442, rv r_445, .unset, .unset] [(.ref b497)])) _
        refine XS.dup X497.here hx rfl (hb hby at_189) rfl rfl ?_
        show Steps p.tables e below (T497.setTop (mkF m 190 #[iv p0, iv p1, iv p2, iv p3, iv p4, iv (3 : Int32), iv n6, iv n7, iv n8, iv n9, iv x0, iv x1, iv x2, rv r_436, rv r_439, rv r_442, rv r_445, .unset, .unset] [(.ref b497), (.ref b497)])) _
        refine XS.iconst X497.here hx rfl (hb hby at_190) ?_
        show Steps p.tables e below (T497.setTop (mkF m 191 #[iv p0, iv p1, iv p2, iv p3, iv p4, iv (3 : Int32), iv n6, iv n7, iv n8, iv n9, iv x0, iv x1, iv x2, rv r_436, rv r_439, rv r_442, rv r_445, .unset, .unset] [(.int (0 : Int32)), (.ref b497), (.ref b497)])) _
        refine XS.aload X497.here hx rfl (hb hby at_191) rfl rfl ?_
        show Steps p.tables e below (T497.setTop (mkF m 193 #[iv p0, iv p1, iv p2, iv p3, iv p4, iv (3 : Int32), iv n6, iv n7, iv n8, iv n9, iv x0, iv x1, iv x2, rv r_436, rv r_439, rv r_442, rv r_445, .unset, .unset] [(.ref r_439), (.int (0 : Int32)), (.ref b497), (.ref b497)])) _
        refine st500 _ ?_
        show Steps p.tables e below (T500.setTop (mkF m 194 #[iv p0, iv p1, iv p2, iv p3, iv p4, iv (3 : Int32), iv n6, iv n7, iv n8, iv n9, iv x0, iv x1, iv x2, rv r_436, rv r_439, rv r_442, rv r_445, .unset, .unset] [(.ref b497)])) _
        refine XS.dup X500.here hx rfl (hb hby at_194) rfl rfl ?_
        show Steps p.tables e below (T500.setTop (mkF m 195 #[iv p0, iv p1, iv p2, iv p3, iv p4, iv (3 : Int32), iv n6, iv n7, iv n8, iv n9, iv x0, iv x1, iv x2, rv r_436, rv r_439, rv r_442, rv r_445, .unset, .unset] [(.ref b497), (.ref b497)])) _
        refine XS.iconst X500.here hx rfl (hb hby at_195) ?_
        show Steps p.tables e below (T500.setTop (mkF m 196 #[iv p0, iv p1, iv p2, iv p3, iv p4, iv (3 : Int32), iv n6, iv n7, iv n8, iv n9, iv x0, iv x1, iv x2, rv r_436, rv r_439, rv r_442, rv r_445, .unset, .unset] [(.int (1 : Int32)), (.ref b497), (.ref b497)])) _
        refine XS.aload X500.here hx rfl (hb hby at_196) rfl rfl ?_
        show Steps p.tables e below (T500.setTop (mkF m 198 #[iv p0, iv p1, iv p2, iv p3, iv p4, iv (3 : Int32), iv n6, iv n7, iv n8, iv n9, iv x0, iv x1, iv x2, rv r_436, rv r_439, rv r_442, rv r_445, .unset, .unset] [(.ref r_442), (.int (1 : Int32)), (.ref b497), (.ref b497)])) _
        refine st503 _ ?_
        show Steps p.tables e below (T503.setTop (mkF m 199 #[iv p0, iv p1, iv p2, iv p3, iv p4, iv (3 : Int32), iv n6, iv n7, iv n8, iv n9, iv x0, iv x1, iv x2, rv r_436, rv r_439, rv r_442, rv r_445, .unset, .unset] [(.ref b497)])) _
        refine XS.dup X503.here hx rfl (hb hby at_199) rfl rfl ?_
        show Steps p.tables e below (T503.setTop (mkF m 200 #[iv p0, iv p1, iv p2, iv p3, iv p4, iv (3 : Int32), iv n6, iv n7, iv n8, iv n9, iv x0, iv x1, iv x2, rv r_436, rv r_439, rv r_442, rv r_445, .unset, .unset] [(.ref b497), (.ref b497)])) _
        refine XS.iconst X503.here hx rfl (hb hby at_200) ?_
        show Steps p.tables e below (T503.setTop (mkF m 201 #[iv p0, iv p1, iv p2, iv p3, iv p4, iv (3 : Int32), iv n6, iv n7, iv n8, iv n9, iv x0, iv x1, iv x2, rv r_436, rv r_439, rv r_442, rv r_445, .unset, .unset] [(.int (2 : Int32)), (.ref b497), (.ref b497)])) _
        refine XS.aload X503.here hx rfl (hb hby at_201) rfl rfl ?_
        show Steps p.tables e below (T503.setTop (mkF m 203 #[iv p0, iv p1, iv p2, iv p3, iv p4, iv (3 : Int32), iv n6, iv n7, iv n8, iv n9, iv x0, iv x1, iv x2, rv r_436, rv r_439, rv r_442, rv r_445, .unset, .unset] [(.ref r_445), (.int (2 : Int32)), (.ref b497), (.ref b497)])) _
        refine st506 _ ?_
        show Steps p.tables e below (T506.setTop (mkF m 204 #[iv p0, iv p1, iv p2, iv p3, iv p4, iv (3 : Int32), iv n6, iv n7, iv n8, iv n9, iv x0, iv x1, iv x2, rv r_436, rv r_439, rv r_442, rv r_445, .unset, .unset] [(.ref b497)])) _
        refine XS.astore X506.here hx rfl (hb hby at_204) rfl rfl (l' := #[iv p0, iv p1, iv p2, iv p3, iv p4, iv (3 : Int32), iv n6, iv n7, iv n8, iv n9, iv x0, iv x1, iv x2, rv r_436, rv r_439, rv r_442, rv r_445, rv b497, .unset]) rfl ?_
        show Steps p.tables e below (T506.setTop (mkF m 206 #[iv p0, iv p1, iv p2, iv p3, iv p4, iv (3 : Int32), iv n6, iv n7, iv n8, iv n9, iv x0, iv x1, iv x2, rv r_436, rv r_439, rv r_442, rv r_445, rv b497, .unset] [])) _
        refine XS.iload X506.here hx rfl (hb hby at_206) rfl ?_
        show Steps p.tables e below (T506.setTop (mkF m 208 #[iv p0, iv p1, iv p2, iv p3, iv p4, iv (3 : Int32), iv n6, iv n7, iv n8, iv n9, iv x0, iv x1, iv x2, rv r_436, rv r_439, rv r_442, rv r_445, rv b497, .unset] [(.int (3 : Int32))])) _
        refine XS.iconst X506.here hx rfl (hb hby at_208) ?_
        show Steps p.tables e below (T506.setTop (mkF m 209 #[iv p0, iv p1, iv p2, iv p3, iv p4, iv (3 : Int32), iv n6, iv n7, iv n8, iv n9, iv x0, iv x1, iv x2, rv r_436, rv r_439, rv r_442, rv r_445, rv b497, .unset] [(.int (1 : Int32)), (.int (3 : Int32))])) _
        refine XS.icmpNo X506.here hx rfl (hb hby at_209) rfl (flt (by decide : ¬ ((3 : Int32) < (1 : Int32)))).1 ?_
        show Steps p.tables e below (T506.setTop (mkF m 212 #[iv p0, iv p1, iv p2, iv p3, iv p4, iv (3 : Int32), iv n6, iv n7, iv n8, iv n9, iv x0, iv x1, iv x2, rv r_436, rv r_439, rv r_442, rv r_445, rv b497, .unset] [])) _
        refine XS.iloadN X506.here hx rfl (hb hby at_212) rfl ?_
        show Steps p.tables e below (T506.setTop (mkF m 213 #[iv p0, iv p1, iv p2, iv p3, iv p4, iv (3 : Int32), iv n6, iv n7, iv n8, iv n9, iv x0, iv x1, iv x2, rv r_436, rv r_439, rv r_442, rv r_445, rv b497, .unset] [(.int p0)])) _
        refine XS.iload X506.here hx rfl (hb hby at_213) rfl ?_
        show Steps p.tables e below (T506.setTop (mkF m 215 #[iv p0, iv p1, iv p2, iv p3, iv p4, iv (3 : Int32), iv n6, iv n7, iv n8, iv n9, iv x0, iv x1, iv x2, rv r_436, rv r_439, rv r_442, rv r_445, rv b497, .unset] [(.int n6), (.int p0)])) _
        refine XS.iload X506.here hx rfl (hb hby at_215) rfl ?_
        show Steps p.tables e below (T506.setTop (mkF m 217 #[iv p0, iv p1, iv p2, iv p3, iv p4, iv (3 : Int32), iv n6, iv n7, iv n8, iv n9, iv x0, iv x1, iv x2, rv r_436, rv r_439, rv r_442, rv r_445, rv b497, .unset] [(.int x0), (.int n6), (.int p0)])) _
        refine XS.iload X506.here hx rfl (hb hby at_217) rfl ?_
        show Steps p.tables e below (T506.setTop (mkF m 219 #[iv p0, iv p1, iv p2, iv p3, iv p4, iv (3 : Int32), iv n6, iv n7, iv n8, iv n9, iv x0, iv x1, iv x2, rv r_436, rv r_439, rv r_442, rv r_445, rv b497, .unset] [(.int n7), (.int x0), (.int n6), (.int p0)])) _
        refine st507 _ ?_
        exact k
      by_cases hc222 : (own_f_rmS p0 n6 x0 n7) = (0 : Int32)
      · obtain ⟨_, _, ⟨T509, L509, k509, n509⟩, -, X509, ⟨Lc509, hQ509, l509, y509, z509⟩, st509⟩ := Jvm.LawKit.callS X507 hx (y := (⟨"com/example/partybook/partybook/io/XmlInputIsOneOfPinLaw", "same", "(IIII)Z"⟩ : MethodName)) hown (mvT hZ (hw _ (List.mem_of_getElem? (i := 39) rfl))) (mvT hZ (hw _ (List.mem_of_getElem? (i := 40) rfl))) (mvT hZ (hw _ (List.mem_of_getElem? (i := 2) rfl))) (mvT hZ (hw _ (List.mem_of_getElem? (i := 41) rfl))) (by decide) (backOf (W := 0) (rmS l Z a0 hw [] p0 n6 x1 n8 h506 n0 (Nat.le_trans Z0 K506.1) ) hZ (hw _ (List.mem_of_getElem? (i := 41) rfl)) (hw _ (List.mem_of_getElem? (i := 2) rfl)) (by decide) (by decide)) (g := (mkF m 238 #[iv p0, iv p1, iv p2, iv p3, iv p4, iv (3 : Int32), iv n6, iv n7, iv n8, iv n9, iv x0, iv x1, iv x2, rv r_436, rv r_439, rv r_442, rv r_445, rv b497, .unset] [(.int n8), (.int x1), (.int n6), (.int p0)])) rfl (by rw [hml]; rfl) (argsL := [(.int p0), (.int n6), (.int x1), (.int n8)]) (rest := []) (lenOf own_pd13 rfl) rfl (by show 2 * 0 + _ ≤ _; exact Nat.le_of_eq rfl) (hb hby at_238) (fun _ _ => ⟨rfl, e507, (by decide : 13 + 0 ≤ _), (by decide : 43 + 0 ≤ _)⟩)
        dsimp only [Pt.U, Pt.locs, Pt.cells, Pt.slots] at X509 l509 y509 z509 st509 hQ509
        subst l509 y509 z509
        obtain ⟨rfl, N509q, e509⟩ := hQ509
        have N509 := Fr.app N507 N509q
        have pre510 : ∀ t, Steps p.tables e below (T509.setTop (mkF m 241 #[iv p0, iv p1, iv p2, iv p3, iv p4, iv (3 : Int32), iv n6, iv n7, iv n8, iv n9, iv x0, iv x1, iv x2, rv r_436, rv r_439, rv r_442, rv r_445, rv b497, .unset] [(.int (own_f_rmS p0 n6 x1 n8))])) t → Steps p.tables e below (s₁.setTop (entryFrame m #[(.int p0), (.int p1), (.int p2), (.int p3), (.int p4)] maxLocals)) t := fun t k => by
          refine pre508 _ ?_
          show Steps p.tables e below (T507.setTop (mkF m 222 #[iv p0, iv p1, iv p2, iv p3, iv p4, iv (3 : Int32), iv n6, iv n7, iv n8, iv n9, iv x0, iv x1, iv x2, rv r_436, rv r_439, rv r_442, rv r_445, rv b497, .unset] [(.int (own_f_rmS p0 n6 x0 n7))])) _
          refine XS.ifNo X507.here hx rfl (hb hby at_222) rfl ((if0 _ _).trans (teq hc222).2) ?_
          show Steps p.tables e below (T507.setTop (mkF m 225 #[iv p0, iv p1, iv p2, iv p3, iv p4, iv (3 : Int32), iv n6, iv n7, iv n8, iv n9, iv x0, iv x1, iv x2, rv r_436, rv r_439, rv r_442, rv r_445, rv b497, .unset] [])) _
          refine XS.iload X507.here hx rfl (hb hby at_225) rfl ?_
          show Steps p.tables e below (T507.setTop (mkF m 227 #[iv p0, iv p1, iv p2, iv p3, iv p4, iv (3 : Int32), iv n6, iv n7, iv n8, iv n9, iv x0, iv x1, iv x2, rv r_436, rv r_439, rv r_442, rv r_445, rv b497, .unset] [(.int (3 : Int32))])) _
          refine XS.iconst X507.here hx rfl (hb hby at_227) ?_
          show Steps p.tables e below (T507.setTop (mkF m 228 #[iv p0, iv p1, iv p2, iv p3, iv p4, iv (3 : Int32), iv n6, iv n7, iv n8, iv n9, iv x0, iv x1, iv x2, rv r_436, rv r_439, rv r_442, rv r_445, rv b497, .unset] [(.int (2 : Int32)), (.int (3 : Int32))])) _
          refine XS.icmpNo X507.here hx rfl (hb hby at_228) rfl (flt (by decide : ¬ ((3 : Int32) < (2 : Int32)))).1 ?_
          show Steps p.tables e below (T507.setTop (mkF m 231 #[iv p0, iv p1, iv p2, iv p3, iv p4, iv (3 : Int32), iv n6, iv n7, iv n8, iv n9, iv x0, iv x1, iv x2, rv r_436, rv r_439, rv r_442, rv r_445, rv b497, .unset] [])) _
          refine XS.iloadN X507.here hx rfl (hb hby at_231) rfl ?_
          show Steps p.tables e below (T507.setTop (mkF m 232 #[iv p0, iv p1, iv p2, iv p3, iv p4, iv (3 : Int32), iv n6, iv n7, iv n8, iv n9, iv x0, iv x1, iv x2, rv r_436, rv r_439, rv r_442, rv r_445, rv b497, .unset] [(.int p0)])) _
          refine XS.iload X507.here hx rfl (hb hby at_232) rfl ?_
          show Steps p.tables e below (T507.setTop (mkF m 234 #[iv p0, iv p1, iv p2, iv p3, iv p4, iv (3 : Int32), iv n6, iv n7, iv n8, iv n9, iv x0, iv x1, iv x2, rv r_436, rv r_439, rv r_442, rv r_445, rv b497, .unset] [(.int n6), (.int p0)])) _
          refine XS.iload X507.here hx rfl (hb hby at_234) rfl ?_
          show Steps p.tables e below (T507.setTop (mkF m 236 #[iv p0, iv p1, iv p2, iv p3, iv p4, iv (3 : Int32), iv n6, iv n7, iv n8, iv n9, iv x0, iv x1, iv x2, rv r_436, rv r_439, rv r_442, rv r_445, rv b497, .unset] [(.int x1), (.int n6), (.int p0)])) _
          refine XS.iload X507.here hx rfl (hb hby at_236) rfl ?_
          show Steps p.tables e below (T507.setTop (mkF m 238 #[iv p0, iv p1, iv p2, iv p3, iv p4, iv (3 : Int32), iv n6, iv n7, iv n8, iv n9, iv x0, iv x1, iv x2, rv r_436, rv r_439, rv r_442, rv r_445, rv b497, .unset] [(.int n8), (.int x1), (.int n6), (.int p0)])) _
          refine st509 _ ?_
          exact k
        by_cases hc241 : (own_f_rmS p0 n6 x1 n8) = (0 : Int32)
        · obtain ⟨_, _, ⟨T511, L511, k511, n511⟩, -, X511, ⟨Lc511, hQ511, l511, y511, z511⟩, st511⟩ := Jvm.LawKit.callS X509 hx (y := (⟨"com/example/partybook/partybook/io/XmlInputIsOneOfPinLaw", "same", "(IIII)Z"⟩ : MethodName)) hown (mvT hZ (hw _ (List.mem_of_getElem? (i := 39) rfl))) (mvT hZ (hw _ (List.mem_of_getElem? (i := 40) rfl))) (mvT hZ (hw _ (List.mem_of_getElem? (i := 2) rfl))) (mvT hZ (hw _ (List.mem_of_getElem? (i := 41) rfl))) (by decide) (backOf (W := 0) (rmS l Z a0 hw [] p0 n6 x2 n9 h506 n0 (Nat.le_trans Z0 K506.1) ) hZ (hw _ (List.mem_of_getElem? (i := 41) rfl)) (hw _ (List.mem_of_getElem? (i := 2) rfl)) (by decide) (by decide)) (g := (mkF m 257 #[iv p0, iv p1, iv p2, iv p3, iv p4, iv (3 : Int32), iv n6, iv n7, iv n8, iv n9, iv x0, iv x1, iv x2, rv r_436, rv r_439, rv r_442, rv r_445, rv b497, .unset] [(.int n9), (.int x2), (.int n6), (.int p0)])) rfl (by rw [hml]; rfl) (argsL := [(.int p0), (.int n6), (.int x2), (.int n9)]) (rest := []) (lenOf own_pd13 rfl) rfl (by show 2 * 0 + _ ≤ _; exact Nat.le_of_eq rfl) (hb hby at_257) (fun _ _ => ⟨rfl, e509, (by decide : 13 + 0 ≤ _), (by decide : 43 + 0 ≤ _)⟩)
          dsimp only [Pt.U, Pt.locs, Pt.cells, Pt.slots] at X511 l511 y511 z511 st511 hQ511
          subst l511 y511 z511
          obtain ⟨rfl, N511q, e511⟩ := hQ511
          have N511 := Fr.app N509 N511q
          have pre512 : ∀ t, Steps p.tables e below (T511.setTop (mkF m 260 #[iv p0, iv p1, iv p2, iv p3, iv p4, iv (3 : Int32), iv n6, iv n7, iv n8, iv n9, iv x0, iv x1, iv x2, rv r_436, rv r_439, rv r_442, rv r_445, rv b497, .unset] [(.int (own_f_rmS p0 n6 x2 n9))])) t → Steps p.tables e below (s₁.setTop (entryFrame m #[(.int p0), (.int p1), (.int p2), (.int p3), (.int p4)] maxLocals)) t := fun t k => by
            refine pre510 _ ?_
            show Steps p.tables e below (T509.setTop (mkF m 241 #[iv p0, iv p1, iv p2, iv p3, iv p4, iv (3 : Int32), iv n6, iv n7, iv n8, iv n9, iv x0, iv x1, iv x2, rv r_436, rv r_439, rv r_442, rv r_445, rv b497, .unset] [(.int (own_f_rmS p0 n6 x1 n8))])) _
            refine XS.ifNo X509.here hx rfl (hb hby at_241) rfl ((if0 _ _).trans (teq hc241).2) ?_
            show Steps p.tables e below (T509.setTop (mkF m 244 #[iv p0, iv p1, iv p2, iv p3, iv p4, iv (3 : Int32), iv n6, iv n7, iv n8, iv n9, iv x0, iv x1, iv x2, rv r_436, rv r_439, rv r_442, rv r_445, rv b497, .unset] [])) _
            refine XS.iload X509.here hx rfl (hb hby at_244) rfl ?_
            show Steps p.tables e below (T509.setTop (mkF m 246 #[iv p0, iv p1, iv p2, iv p3, iv p4, iv (3 : Int32), iv n6, iv n7, iv n8, iv n9, iv x0, iv x1, iv x2, rv r_436, rv r_439, rv r_442, rv r_445, rv b497, .unset] [(.int (3 : Int32))])) _
            refine XS.iconst X509.here hx rfl (hb hby at_246) ?_
            show Steps p.tables e below (T509.setTop (mkF m 247 #[iv p0, iv p1, iv p2, iv p3, iv p4, iv (3 : Int32), iv n6, iv n7, iv n8, iv n9, iv x0, iv x1, iv x2, rv r_436, rv r_439, rv r_442, rv r_445, rv b497, .unset] [(.int (3 : Int32)), (.int (3 : Int32))])) _
            refine XS.icmpNo X509.here hx rfl (hb hby at_247) rfl (flt (by decide : ¬ ((3 : Int32) < (3 : Int32)))).1 ?_
            show Steps p.tables e below (T509.setTop (mkF m 250 #[iv p0, iv p1, iv p2, iv p3, iv p4, iv (3 : Int32), iv n6, iv n7, iv n8, iv n9, iv x0, iv x1, iv x2, rv r_436, rv r_439, rv r_442, rv r_445, rv b497, .unset] [])) _
            refine XS.iloadN X509.here hx rfl (hb hby at_250) rfl ?_
            show Steps p.tables e below (T509.setTop (mkF m 251 #[iv p0, iv p1, iv p2, iv p3, iv p4, iv (3 : Int32), iv n6, iv n7, iv n8, iv n9, iv x0, iv x1, iv x2, rv r_436, rv r_439, rv r_442, rv r_445, rv b497, .unset] [(.int p0)])) _
            refine XS.iload X509.here hx rfl (hb hby at_251) rfl ?_
            show Steps p.tables e below (T509.setTop (mkF m 253 #[iv p0, iv p1, iv p2, iv p3, iv p4, iv (3 : Int32), iv n6, iv n7, iv n8, iv n9, iv x0, iv x1, iv x2, rv r_436, rv r_439, rv r_442, rv r_445, rv b497, .unset] [(.int n6), (.int p0)])) _
            refine XS.iload X509.here hx rfl (hb hby at_253) rfl ?_
            show Steps p.tables e below (T509.setTop (mkF m 255 #[iv p0, iv p1, iv p2, iv p3, iv p4, iv (3 : Int32), iv n6, iv n7, iv n8, iv n9, iv x0, iv x1, iv x2, rv r_436, rv r_439, rv r_442, rv r_445, rv b497, .unset] [(.int x2), (.int n6), (.int p0)])) _
            refine XS.iload X509.here hx rfl (hb hby at_255) rfl ?_
            show Steps p.tables e below (T509.setTop (mkF m 257 #[iv p0, iv p1, iv p2, iv p3, iv p4, iv (3 : Int32), iv n6, iv n7, iv n8, iv n9, iv x0, iv x1, iv x2, rv r_436, rv r_439, rv r_442, rv r_445, rv b497, .unset] [(.int n9), (.int x2), (.int n6), (.int p0)])) _
            refine st511 _ ?_
            exact k
          by_cases hc260 : (own_f_rmS p0 n6 x2 n9) = (0 : Int32)
          · have Q513 := (((((((i436_4.keep0 i439_3).keep0 i442_3).keep0 i445_3).ext E497).wr W500 Ar498 (hw _ (List.mem_of_getElem? (i := 6) rfl)) (by decide)).wr W503 Ar501 (hw _ (List.mem_of_getElem? (i := 6) rfl)) (by decide)).wr W506 Ar504 (hw _ (List.mem_of_getElem? (i := 6) rfl)) (by decide))
            have Q514 := ((((((i439_4.keep0 i442_3).keep0 i445_3).ext E497).wr W500 Ar498 (hw _ (List.mem_of_getElem? (i := 6) rfl)) (by decide)).wr W503 Ar501 (hw _ (List.mem_of_getElem? (i := 6) rfl)) (by decide)).wr W506 Ar504 (hw _ (List.mem_of_getElem? (i := 6) rfl)) (by decide))
            have Q515 := (((((i442_4.keep0 i445_3).ext E497).wr W500 Ar498 (hw _ (List.mem_of_getElem? (i := 6) rfl)) (by decide)).wr W503 Ar501 (hw _ (List.mem_of_getElem? (i := 6) rfl)) (by decide)).wr W506 Ar504 (hw _ (List.mem_of_getElem? (i := 6) rfl)) (by decide))
            have Q516 := ((((i445_4.ext E497).wr W500 Ar498 (hw _ (List.mem_of_getElem? (i := 6) rfl)) (by decide)).wr W503 Ar501 (hw _ (List.mem_of_getElem? (i := 6) rfl)) (by decide)).wr W506 Ar504 (hw _ (List.mem_of_getElem? (i := 6) rfl)) (by decide))
            have Q517 := (((((own_staKeep Q443 i445_3 all0).ext E497).wr W500).wr W503).wr W506)
            obtain ⟨_, _, ⟨T518, L518, k518, n518⟩, -, X518, ⟨Lc518, hQ518, l518, y518, z518⟩, st518⟩ := Jvm.LawKit.callS X511 hx (y := (⟨"com/example/partybook/partybook/io/XmlInput", "isOneOf", "(Ljava/lang/String;[Ljava/lang/String;)Z"⟩ : MethodName)) hown (mvT hZ (hw _ (List.mem_of_getElem? (i := 14) rfl))) (mvT hZ (hw _ (List.mem_of_getElem? (i := 15) rfl))) (mvT hZ (hw _ (List.mem_of_getElem? (i := 16) rfl))) (mvT hZ (hw _ (List.mem_of_getElem? (i := 17) rfl))) (by decide) (backOf (W := 0) (rmO_3 l Z a0 hw [] r_436 b497 cw k497 (own_mk p0 n6) r_439 r_442 r_445 (own_mk x0 n7) (own_mk x1 n8) (own_mk x2 n9) h506 n0 (Nat.le_trans Z0 K506.1) Q513 V506 Q514 Q515 Q516 Q517 hw0 (own_mkLen _ _) (own_mkLen _ _) (own_mkLen _ _) (own_mkLen _ _)) hZ (hw _ (List.mem_of_getElem? (i := 17) rfl)) (hw _ (List.mem_of_getElem? (i := 16) rfl)) (by decide) (by decide)) (g := (mkF m 274 #[iv p0, iv p1, iv p2, iv p3, iv p4, iv (3 : Int32), iv n6, iv n7, iv n8, iv n9, iv x0, iv x1, iv x2, rv r_436, rv r_439, rv r_442, rv r_445, rv b497, iv (0 : Int32)] [(.ref b497), (.ref r_436)])) rfl (by rw [hml]; rfl) (argsL := [(.ref r_436), (.ref b497)]) (rest := []) (lenOf own_pd12 rfl) rfl (by show 2 * 0 + _ ≤ _; exact Nat.le_of_eq rfl) (hb hby at_274) (fun _ _ => ⟨rfl, e511, (by decide : 13 + 0 ≤ _), (by decide : 43 + 0 ≤ _)⟩)
            dsimp only [Pt.U, Pt.locs, Pt.cells, Pt.slots] at X518 l518 y518 z518 st518 hQ518
            subst l518 y518 z518
            obtain ⟨rfl, N518q, e518⟩ := hQ518
            have N518 := Fr.app N511 N518q
            have hc279_519 : (own_f_rmO_3 (own_mk p0 n6) (own_mk x0 n7) (own_mk x1 n8) (own_mk x2 n9)) = (0 : Int32) := by unfold own_f_rmO_3; rw [own_eqLc, ← own_same _ _ _ _ h6n h7n, if_pos hc222, own_eqLc, ← own_same _ _ _ _ h6n h8n, if_pos hc241, own_eqLc, ← own_same _ _ _ _ h6n h9n, if_pos hc260]
            obtain ⟨fs, hr, hrun, hended, hW, hsame⟩ := X518.leave (v := some (.int (1 : Int32))) (fun h => by rw [Bd.returns] at h; cases h)
            refine ⟨_, _, pre512 _ ?_, hrun, hended, _, _, rfl, ?_, (by show CHr Z own_EL s.vm s.heap T518.vm T518.heap; rw [hh, e518]; exact CH506.trans (CHv.at X518 hZ hEL CH506.1)), own_endW hS (by show _ ≤ T518.heap.size; rw [e518]; exact hk) hW (hsame.mono (by decide) (by decide))⟩
            · show Steps p.tables e below (T511.setTop (mkF m 260 #[iv p0, iv p1, iv p2, iv p3, iv p4, iv (3 : Int32), iv n6, iv n7, iv n8, iv n9, iv x0, iv x1, iv x2, rv r_436, rv r_439, rv r_442, rv r_445, rv b497, .unset] [(.int (own_f_rmS p0 n6 x2 n9))])) _
              refine XS.ifYes X511.here hx rfl (pc0 := 260) (pc' := 267) rfl (hb hby at_260) rfl ((if0 _ _).trans (teq hc260).1) (by decide) (by decide) ?_
              show Steps p.tables e below (T511.setTop (mkF m 267 #[iv p0, iv p1, iv p2, iv p3, iv p4, iv (3 : Int32), iv n6, iv n7, iv n8, iv n9, iv x0, iv x1, iv x2, rv r_436, rv r_439, rv r_442, rv r_445, rv b497, .unset] [])) _
              refine XS.iconst X511.here hx rfl (hb hby at_267) ?_
              show Steps p.tables e below (T511.setTop (mkF m 268 #[iv p0, iv p1, iv p2, iv p3, iv p4, iv (3 : Int32), iv n6, iv n7, iv n8, iv n9, iv x0, iv x1, iv x2, rv r_436, rv r_439, rv r_442, rv r_445, rv b497, .unset] [(.int (0 : Int32))])) _
              refine XS.istore X511.here hx rfl (hb hby at_268) rfl (l' := #[iv p0, iv p1, iv p2, iv p3, iv p4, iv (3 : Int32), iv n6, iv n7, iv n8, iv n9, iv x0, iv x1, iv x2, rv r_436, rv r_439, rv r_442, rv r_445, rv b497, iv (0 : Int32)]) rfl ?_
              show Steps p.tables e below (T511.setTop (mkF m 270 #[iv p0, iv p1, iv p2, iv p3, iv p4, iv (3 : Int32), iv n6, iv n7, iv n8, iv n9, iv x0, iv x1, iv x2, rv r_436, rv r_439, rv r_442, rv r_445, rv b497, iv (0 : Int32)] [])) _
              refine XS.aload X511.here hx rfl (hb hby at_270) rfl rfl ?_
              show Steps p.tables e below (T511.setTop (mkF m 272 #[iv p0, iv p1, iv p2, iv p3, iv p4, iv (3 : Int32), iv n6, iv n7, iv n8, iv n9, iv x0, iv x1, iv x2, rv r_436, rv r_439, rv r_442, rv r_445, rv b497, iv (0 : Int32)] [(.ref r_436)])) _
              refine XS.aload X511.here hx rfl (hb hby at_272) rfl rfl ?_
              show Steps p.tables e below (T511.setTop (mkF m 274 #[iv p0, iv p1, iv p2, iv p3, iv p4, iv (3 : Int32), iv n6, iv n7, iv n8, iv n9, iv x0, iv x1, iv x2, rv r_436, rv r_439, rv r_442, rv r_445, rv b497, iv (0 : Int32)] [(.ref b497), (.ref r_436)])) _
              refine st518 _ ?_
              show Steps p.tables e below (T518.setTop (mkF m 277 #[iv p0, iv p1, iv p2, iv p3, iv p4, iv (3 : Int32), iv n6, iv n7, iv n8, iv n9, iv x0, iv x1, iv x2, rv r_436, rv r_439, rv r_442, rv r_445, rv b497, iv (0 : Int32)] [(.int (own_f_rmO_3 (own_mk p0 n6) (own_mk x0 n7) (own_mk x1 n8) (own_mk x2 n9)))])) _
              refine XS.iload X518.here hx rfl (hb hby at_277) rfl ?_
              show Steps p.tables e below (T518.setTop (mkF m 279 #[iv p0, iv p1, iv p2, iv p3, iv p4, iv (3 : Int32), iv n6, iv n7, iv n8, iv n9, iv x0, iv x1, iv x2, rv r_436, rv r_439, rv r_442, rv r_445, rv b497, iv (0 : Int32)] [(.int (0 : Int32)), (.int (own_f_rmO_3 (own_mk p0 n6) (own_mk x0 n7) (own_mk x1 n8) (own_mk x2 n9)))])) _
              refine XS.icmpNo X518.here hx rfl (hb hby at_279) rfl (teq hc279_519).2 ?_
              show Steps p.tables e below (T518.setTop (mkF m 282 #[iv p0, iv p1, iv p2, iv p3, iv p4, iv (3 : Int32), iv n6, iv n7, iv n8, iv n9, iv x0, iv x1, iv x2, rv r_436, rv r_439, rv r_442, rv r_445, rv b497, iv (0 : Int32)] [])) _
              refine XS.iconst X518.here hx rfl (hb hby at_282) ?_
              show Steps p.tables e below (T518.setTop (mkF m 283 #[iv p0, iv p1, iv p2, iv p3, iv p4, iv (3 : Int32), iv n6, iv n7, iv n8, iv n9, iv x0, iv x1, iv x2, rv r_436, rv r_439, rv r_442, rv r_445, rv b497, iv (0 : Int32)] [(.int (1 : Int32))])) _
              refine XS.goto X518.here hx rfl (pc0 := 283) (pc' := 287) rfl (hb hby at_283) (by decide) (by decide) ?_
              show Steps p.tables e below (T518.setTop (mkF m 287 #[iv p0, iv p1, iv p2, iv p3, iv p4, iv (3 : Int32), iv n6, iv n7, iv n8, iv n9, iv x0, iv x1, iv x2, rv r_436, rv r_439, rv r_442, rv r_445, rv b497, iv (0 : Int32)] [(.int (1 : Int32))])) _
              exact retN X518 hx (t := .boolean) Bd.returns (by simp) (hb hby at_287) hr
            · show Q0 Z p0 p1 p2 p3 p4 cw h0 n0 _ T518.heap _
              rw [e518]
              exact ⟨rfl, N518⟩
          · have Q520 := (((((((i436_4.keep0 i439_3).keep0 i442_3).keep0 i445_3).ext E497).wr W500 Ar498 (hw _ (List.mem_of_getElem? (i := 6) rfl)) (by decide)).wr W503 Ar501 (hw _ (List.mem_of_getElem? (i := 6) rfl)) (by decide)).wr W506 Ar504 (hw _ (List.mem_of_getElem? (i := 6) rfl)) (by decide))
            have Q521 := ((((((i439_4.keep0 i442_3).keep0 i445_3).ext E497).wr W500 Ar498 (hw _ (List.mem_of_getElem? (i := 6) rfl)) (by decide)).wr W503 Ar501 (hw _ (List.mem_of_getElem? (i := 6) rfl)) (by decide)).wr W506 Ar504 (hw _ (List.mem_of_getElem? (i := 6) rfl)) (by decide))
            have Q522 := (((((i442_4.keep0 i445_3).ext E497).wr W500 Ar498 (hw _ (List.mem_of_getElem? (i := 6) rfl)) (by decide)).wr W503 Ar501 (hw _ (List.mem_of_getElem? (i := 6) rfl)) (by decide)).wr W506 Ar504 (hw _ (List.mem_of_getElem? (i := 6) rfl)) (by decide))
            have Q523 := ((((i445_4.ext E497).wr W500 Ar498 (hw _ (List.mem_of_getElem? (i := 6) rfl)) (by decide)).wr W503 Ar501 (hw _ (List.mem_of_getElem? (i := 6) rfl)) (by decide)).wr W506 Ar504 (hw _ (List.mem_of_getElem? (i := 6) rfl)) (by decide))
            have Q524 := (((((own_staKeep Q443 i445_3 all0).ext E497).wr W500).wr W503).wr W506)
            obtain ⟨_, _, ⟨T525, L525, k525, n525⟩, -, X525, ⟨Lc525, hQ525, l525, y525, z525⟩, st525⟩ := Jvm.LawKit.callS X511 hx (y := (⟨"com/example/partybook/partybook/io/XmlInput", "isOneOf", "(Ljava/lang/String;[Ljava/lang/String;)Z"⟩ : MethodName)) hown (mvT hZ (hw _ (List.mem_of_getElem? (i := 14) rfl))) (mvT hZ (hw _ (List.mem_of_getElem? (i := 15) rfl))) (mvT hZ (hw _ (List.mem_of_getElem? (i := 16) rfl))) (mvT hZ (hw _ (List.mem_of_getElem? (i := 17) rfl))) (by decide) (backOf (W := 0) (rmO_3 l Z a0 hw [] r_436 b497 cw k497 (own_mk p0 n6) r_439 r_442 r_445 (own_mk x0 n7) (own_mk x1 n8) (own_mk x2 n9) h506 n0 (Nat.le_trans Z0 K506.1) Q520 V506 Q521 Q522 Q523 Q524 hw0 (own_mkLen _ _) (own_mkLen _ _) (own_mkLen _ _) (own_mkLen _ _)) hZ (hw _ (List.mem_of_getElem? (i := 17) rfl)) (hw _ (List.mem_of_getElem? (i := 16) rfl)) (by decide) (by decide)) (g := (mkF m 274 #[iv p0, iv p1, iv p2, iv p3, iv p4, iv (3 : Int32), iv n6, iv n7, iv n8, iv n9, iv x0, iv x1, iv x2, rv r_436, rv r_439, rv r_442, rv r_445, rv b497, iv (1 : Int32)] [(.ref b497), (.ref r_436)])) rfl (by rw [hml]; rfl) (argsL := [(.ref r_436), (.ref b497)]) (rest := []) (lenOf own_pd12 rfl) rfl (by show 2 * 0 + _ ≤ _; exact Nat.le_of_eq rfl) (hb hby at_274) (fun _ _ => ⟨rfl, e511, (by decide : 13 + 0 ≤ _), (by decide : 43 + 0 ≤ _)⟩)
            dsimp only [Pt.U, Pt.locs, Pt.cells, Pt.slots] at X525 l525 y525 z525 st525 hQ525
            subst l525 y525 z525
            obtain ⟨rfl, N525q, e525⟩ := hQ525
            have N525 := Fr.app N511 N525q
            have hc279_526 : (own_f_rmO_3 (own_mk p0 n6) (own_mk x0 n7) (own_mk x1 n8) (own_mk x2 n9)) = (1 : Int32) := by unfold own_f_rmO_3; rw [own_eqLc, ← own_same _ _ _ _ h6n h7n, if_pos hc222, own_eqLc, ← own_same _ _ _ _ h6n h8n, if_pos hc241, own_eqLc, ← own_same _ _ _ _ h6n h9n, if_neg hc260]
            obtain ⟨fs, hr, hrun, hended, hW, hsame⟩ := X525.leave (v := some (.int (1 : Int32))) (fun h => by rw [Bd.returns] at h; cases h)
            refine ⟨_, _, pre512 _ ?_, hrun, hended, _, _, rfl, ?_, (by show CHr Z own_EL s.vm s.heap T525.vm T525.heap; rw [hh, e525]; exact CH506.trans (CHv.at X525 hZ hEL CH506.1)), own_endW hS (by show _ ≤ T525.heap.size; rw [e525]; exact hk) hW (hsame.mono (by decide) (by decide))⟩
            · show Steps p.tables e below (T511.setTop (mkF m 260 #[iv p0, iv p1, iv p2, iv p3, iv p4, iv (3 : Int32), iv n6, iv n7, iv n8, iv n9, iv x0, iv x1, iv x2, rv r_436, rv r_439, rv r_442, rv r_445, rv b497, .unset] [(.int (own_f_rmS p0 n6 x2 n9))])) _
              refine XS.ifNo X511.here hx rfl (hb hby at_260) rfl ((if0 _ _).trans (feq hc260).1) ?_
              show Steps p.tables e below (T511.setTop (mkF m 263 #[iv p0, iv p1, iv p2, iv p3, iv p4, iv (3 : Int32), iv n6, iv n7, iv n8, iv n9, iv x0, iv x1, iv x2, rv r_436, rv r_439, rv r_442, rv r_445, rv b497, .unset] [])) _
              refine XS.iconst X511.here hx rfl (hb hby at_263) ?_
              show Steps p.tables e below (T511.setTop (mkF m 264 #[iv p0, iv p1, iv p2, iv p3, iv p4, iv (3 : Int32), iv n6, iv n7, iv n8, iv n9, iv x0, iv x1, iv x2, rv r_436, rv r_439, rv r_442, rv r_445, rv b497, .unset] [(.int (1 : Int32))])) _
              refine XS.goto X511.here hx rfl (pc0 := 264) (pc' := 268) rfl (hb hby at_264) (by decide) (by decide) ?_
              show Steps p.tables e below (T511.setTop (mkF m 268 #[iv p0, iv p1, iv p2, iv p3, iv p4, iv (3 : Int32), iv n6, iv n7, iv n8, iv n9, iv x0, iv x1, iv x2, rv r_436, rv r_439, rv r_442, rv r_445, rv b497, .unset] [(.int (1 : Int32))])) _
              refine XS.istore X511.here hx rfl (hb hby at_268) rfl (l' := #[iv p0, iv p1, iv p2, iv p3, iv p4, iv (3 : Int32), iv n6, iv n7, iv n8, iv n9, iv x0, iv x1, iv x2, rv r_436, rv r_439, rv r_442, rv r_445, rv b497, iv (1 : Int32)]) rfl ?_
              show Steps p.tables e below (T511.setTop (mkF m 270 #[iv p0, iv p1, iv p2, iv p3, iv p4, iv (3 : Int32), iv n6, iv n7, iv n8, iv n9, iv x0, iv x1, iv x2, rv r_436, rv r_439, rv r_442, rv r_445, rv b497, iv (1 : Int32)] [])) _
              refine XS.aload X511.here hx rfl (hb hby at_270) rfl rfl ?_
              show Steps p.tables e below (T511.setTop (mkF m 272 #[iv p0, iv p1, iv p2, iv p3, iv p4, iv (3 : Int32), iv n6, iv n7, iv n8, iv n9, iv x0, iv x1, iv x2, rv r_436, rv r_439, rv r_442, rv r_445, rv b497, iv (1 : Int32)] [(.ref r_436)])) _
              refine XS.aload X511.here hx rfl (hb hby at_272) rfl rfl ?_
              show Steps p.tables e below (T511.setTop (mkF m 274 #[iv p0, iv p1, iv p2, iv p3, iv p4, iv (3 : Int32), iv n6, iv n7, iv n8, iv n9, iv x0, iv x1, iv x2, rv r_436, rv r_439, rv r_442, rv r_445, rv b497, iv (1 : Int32)] [(.ref b497), (.ref r_436)])) _
              refine st525 _ ?_
              show Steps p.tables e below (T525.setTop (mkF m 277 #[iv p0, iv p1, iv p2, iv p3, iv p4, iv (3 : Int32), iv n6, iv n7, iv n8, iv n9, iv x0, iv x1, iv x2, rv r_436, rv r_439, rv r_442, rv r_445, rv b497, iv (1 : Int32)] [(.int (own_f_rmO_3 (own_mk p0 n6) (own_mk x0 n7) (own_mk x1 n8) (own_mk x2 n9)))])) _
              refine XS.iload X525.here hx rfl (hb hby at_277) rfl ?_
              show Steps p.tables e below (T525.setTop (mkF m 279 #[iv p0, iv p1, iv p2, iv p3, iv p4, iv (3 : Int32), iv n6, iv n7, iv n8, iv n9, iv x0, iv x1, iv x2, rv r_436, rv r_439, rv r_442, rv r_445, rv b497, iv (1 : Int32)] [(.int (1 : Int32)), (.int (own_f_rmO_3 (own_mk p0 n6) (own_mk x0 n7) (own_mk x1 n8) (own_mk x2 n9)))])) _
              refine XS.icmpNo X525.here hx rfl (hb hby at_279) rfl (teq hc279_526).2 ?_
              show Steps p.tables e below (T525.setTop (mkF m 282 #[iv p0, iv p1, iv p2, iv p3, iv p4, iv (3 : Int32), iv n6, iv n7, iv n8, iv n9, iv x0, iv x1, iv x2, rv r_436, rv r_439, rv r_442, rv r_445, rv b497, iv (1 : Int32)] [])) _
              refine XS.iconst X525.here hx rfl (hb hby at_282) ?_
              show Steps p.tables e below (T525.setTop (mkF m 283 #[iv p0, iv p1, iv p2, iv p3, iv p4, iv (3 : Int32), iv n6, iv n7, iv n8, iv n9, iv x0, iv x1, iv x2, rv r_436, rv r_439, rv r_442, rv r_445, rv b497, iv (1 : Int32)] [(.int (1 : Int32))])) _
              refine XS.goto X525.here hx rfl (pc0 := 283) (pc' := 287) rfl (hb hby at_283) (by decide) (by decide) ?_
              show Steps p.tables e below (T525.setTop (mkF m 287 #[iv p0, iv p1, iv p2, iv p3, iv p4, iv (3 : Int32), iv n6, iv n7, iv n8, iv n9, iv x0, iv x1, iv x2, rv r_436, rv r_439, rv r_442, rv r_445, rv b497, iv (1 : Int32)] [(.int (1 : Int32))])) _
              exact retN X525 hx (t := .boolean) Bd.returns (by simp) (hb hby at_287) hr
            · show Q0 Z p0 p1 p2 p3 p4 cw h0 n0 _ T525.heap _
              rw [e525]
              exact ⟨rfl, N525⟩
        · have Q527 := (((((((i436_4.keep0 i439_3).keep0 i442_3).keep0 i445_3).ext E497).wr W500 Ar498 (hw _ (List.mem_of_getElem? (i := 6) rfl)) (by decide)).wr W503 Ar501 (hw _ (List.mem_of_getElem? (i := 6) rfl)) (by decide)).wr W506 Ar504 (hw _ (List.mem_of_getElem? (i := 6) rfl)) (by decide))
          have Q528 := ((((((i439_4.keep0 i442_3).keep0 i445_3).ext E497).wr W500 Ar498 (hw _ (List.mem_of_getElem? (i := 6) rfl)) (by decide)).wr W503 Ar501 (hw _ (List.mem_of_getElem? (i := 6) rfl)) (by decide)).wr W506 Ar504 (hw _ (List.mem_of_getElem? (i := 6) rfl)) (by decide))
          have Q529 := (((((i442_4.keep0 i445_3).ext E497).wr W500 Ar498 (hw _ (List.mem_of_getElem? (i := 6) rfl)) (by decide)).wr W503 Ar501 (hw _ (List.mem_of_getElem? (i := 6) rfl)) (by decide)).wr W506 Ar504 (hw _ (List.mem_of_getElem? (i := 6) rfl)) (by decide))
          have Q530 := ((((i445_4.ext E497).wr W500 Ar498 (hw _ (List.mem_of_getElem? (i := 6) rfl)) (by decide)).wr W503 Ar501 (hw _ (List.mem_of_getElem? (i := 6) rfl)) (by decide)).wr W506 Ar504 (hw _ (List.mem_of_getElem? (i := 6) rfl)) (by decide))
          have Q531 := (((((own_staKeep Q443 i445_3 all0).ext E497).wr W500).wr W503).wr W506)
          obtain ⟨_, _, ⟨T532, L532, k532, n532⟩, -, X532, ⟨Lc532, hQ532, l532, y532, z532⟩, st532⟩ := Jvm.LawKit.callS X509 hx (y := (⟨"com/example/partybook/partybook/io/XmlInput", "isOneOf", "(Ljava/lang/String;[Ljava/lang/String;)Z"⟩ : MethodName)) hown (mvT hZ (hw _ (List.mem_of_getElem? (i := 14) rfl))) (mvT hZ (hw _ (List.mem_of_getElem? (i := 15) rfl))) (mvT hZ (hw _ (List.mem_of_getElem? (i := 16) rfl))) (mvT hZ (hw _ (List.mem_of_getElem? (i := 17) rfl))) (by decide) (backOf (W := 0) (rmO_3 l Z a0 hw [] r_436 b497 cw k497 (own_mk p0 n6) r_439 r_442 r_445 (own_mk x0 n7) (own_mk x1 n8) (own_mk x2 n9) h506 n0 (Nat.le_trans Z0 K506.1) Q527 V506 Q528 Q529 Q530 Q531 hw0 (own_mkLen _ _) (own_mkLen _ _) (own_mkLen _ _) (own_mkLen _ _)) hZ (hw _ (List.mem_of_getElem? (i := 17) rfl)) (hw _ (List.mem_of_getElem? (i := 16) rfl)) (by decide) (by decide)) (g := (mkF m 274 #[iv p0, iv p1, iv p2, iv p3, iv p4, iv (3 : Int32), iv n6, iv n7, iv n8, iv n9, iv x0, iv x1, iv x2, rv r_436, rv r_439, rv r_442, rv r_445, rv b497, iv (1 : Int32)] [(.ref b497), (.ref r_436)])) rfl (by rw [hml]; rfl) (argsL := [(.ref r_436), (.ref b497)]) (rest := []) (lenOf own_pd12 rfl) rfl (by show 2 * 0 + _ ≤ _; exact Nat.le_of_eq rfl) (hb hby at_274) (fun _ _ => ⟨rfl, e509, (by decide : 13 + 0 ≤ _), (by decide : 43 + 0 ≤ _)⟩)
          dsimp only [Pt.U, Pt.locs, Pt.cells, Pt.slots] at X532 l532 y532 z532 st532 hQ532
          subst l532 y532 z532
          obtain ⟨rfl, N532q, e532⟩ := hQ532
          have N532 := Fr.app N509 N532q
          have hc279_533 : (own_f_rmO_3 (own_mk p0 n6) (own_mk x0 n7) (own_mk x1 n8) (own_mk x2 n9)) = (1 : Int32) := by unfold own_f_rmO_3; rw [own_eqLc, ← own_same _ _ _ _ h6n h7n, if_pos hc222, own_eqLc, ← own_same _ _ _ _ h6n h8n, if_neg hc241]
          obtain ⟨fs, hr, hrun, hended, hW, hsame⟩ := X532.leave (v := some (.int (1 : Int32))) (fun h => by rw [Bd.returns] at h; cases h)
          refine ⟨_, _, pre510 _ ?_, hrun, hended, _, _, rfl, ?_, (by show CHr Z own_EL s.vm s.heap T532.vm T532.heap; rw [hh, e532]; exact CH506.trans (CHv.at X532 hZ hEL CH506.1)), own_endW hS (by show _ ≤ T532.heap.size; rw [e532]; exact hk) hW (hsame.mono (by decide) (by decide))⟩
          · show Steps p.tables e below (T509.setTop (mkF m 241 #[iv p0, iv p1, iv p2, iv p3, iv p4, iv (3 : Int32), iv n6, iv n7, iv n8, iv n9, iv x0, iv x1, iv x2, rv r_436, rv r_439, rv r_442, rv r_445, rv b497, .unset] [(.int (own_f_rmS p0 n6 x1 n8))])) _
            refine XS.ifYes X509.here hx rfl (pc0 := 241) (pc' := 263) rfl (hb hby at_241) rfl ((if0 _ _).trans (feq hc241).2) (by decide) (by decide) ?_
            show Steps p.tables e below (T509.setTop (mkF m 263 #[iv p0, iv p1, iv p2, iv p3, iv p4, iv (3 : Int32), iv n6, iv n7, iv n8, iv n9, iv x0, iv x1, iv x2, rv r_436, rv r_439, rv r_442, rv r_445, rv b497, .unset] [])) _
            refine XS.iconst X509.here hx rfl (hb hby at_263) ?_
            show Steps p.tables e below (T509.setTop (mkF m 264 #[iv p0, iv p1, iv p2, iv p3, iv p4, iv (3 : Int32), iv n6, iv n7, iv n8, iv n9, iv x0, iv x1, iv x2, rv r_436, rv r_439, rv r_442, rv r_445, rv b497, .unset] [(.int (1 : Int32))])) _
            refine XS.goto X509.here hx rfl (pc0 := 264) (pc' := 268) rfl (hb hby at_264) (by decide) (by decide) ?_
            show Steps p.tables e below (T509.setTop (mkF m 268 #[iv p0, iv p1, iv p2, iv p3, iv p4, iv (3 : Int32), iv n6, iv n7, iv n8, iv n9, iv x0, iv x1, iv x2, rv r_436, rv r_439, rv r_442, rv r_445, rv b497, .unset] [(.int (1 : Int32))])) _
            refine XS.istore X509.here hx rfl (hb hby at_268) rfl (l' := #[iv p0, iv p1, iv p2, iv p3, iv p4, iv (3 : Int32), iv n6, iv n7, iv n8, iv n9, iv x0, iv x1, iv x2, rv r_436, rv r_439, rv r_442, rv r_445, rv b497, iv (1 : Int32)]) rfl ?_
            show Steps p.tables e below (T509.setTop (mkF m 270 #[iv p0, iv p1, iv p2, iv p3, iv p4, iv (3 : Int32), iv n6, iv n7, iv n8, iv n9, iv x0, iv x1, iv x2, rv r_436, rv r_439, rv r_442, rv r_445, rv b497, iv (1 : Int32)] [])) _
            refine XS.aload X509.here hx rfl (hb hby at_270) rfl rfl ?_
            show Steps p.tables e below (T509.setTop (mkF m 272 #[iv p0, iv p1, iv p2, iv p3, iv p4, iv (3 : Int32), iv n6, iv n7, iv n8, iv n9, iv x0, iv x1, iv x2, rv r_436, rv r_439, rv r_442, rv r_445, rv b497, iv (1 : Int32)] [(.ref r_436)])) _
            refine XS.aload X509.here hx rfl (hb hby at_272) rfl rfl ?_
            show Steps p.tables e below (T509.setTop (mkF m 274 #[iv p0, iv p1, iv p2, iv p3, iv p4, iv (3 : Int32), iv n6, iv n7, iv n8, iv n9, iv x0, iv x1, iv x2, rv r_436, rv r_439, rv r_442, rv r_445, rv b497, iv (1 : Int32)] [(.ref b497), (.ref r_436)])) _
            refine st532 _ ?_
            show Steps p.tables e below (T532.setTop (mkF m 277 #[iv p0, iv p1, iv p2, iv p3, iv p4, iv (3 : Int32), iv n6, iv n7, iv n8, iv n9, iv x0, iv x1, iv x2, rv r_436, rv r_439, rv r_442, rv r_445, rv b497, iv (1 : Int32)] [(.int (own_f_rmO_3 (own_mk p0 n6) (own_mk x0 n7) (own_mk x1 n8) (own_mk x2 n9)))])) _
            refine XS.iload X532.here hx rfl (hb hby at_277) rfl ?_
            show Steps p.tables e below (T532.setTop (mkF m 279 #[iv p0, iv p1, iv p2, iv p3, iv p4, iv (3 : Int32), iv n6, iv n7, iv n8, iv n9, iv x0, iv x1, iv x2, rv r_436, rv r_439, rv r_442, rv r_445, rv b497, iv (1 : Int32)] [(.int (1 : Int32)), (.int (own_f_rmO_3 (own_mk p0 n6) (own_mk x0 n7) (own_mk x1 n8) (own_mk x2 n9)))])) _
            refine XS.icmpNo X532.here hx rfl (hb hby at_279) rfl (teq hc279_533).2 ?_
            show Steps p.tables e below (T532.setTop (mkF m 282 #[iv p0, iv p1, iv p2, iv p3, iv p4, iv (3 : Int32), iv n6, iv n7, iv n8, iv n9, iv x0, iv x1, iv x2, rv r_436, rv r_439, rv r_442, rv r_445, rv b497, iv (1 : Int32)] [])) _
            refine XS.iconst X532.here hx rfl (hb hby at_282) ?_
            show Steps p.tables e below (T532.setTop (mkF m 283 #[iv p0, iv p1, iv p2, iv p3, iv p4, iv (3 : Int32), iv n6, iv n7, iv n8, iv n9, iv x0, iv x1, iv x2, rv r_436, rv r_439, rv r_442, rv r_445, rv b497, iv (1 : Int32)] [(.int (1 : Int32))])) _
            refine XS.goto X532.here hx rfl (pc0 := 283) (pc' := 287) rfl (hb hby at_283) (by decide) (by decide) ?_
            show Steps p.tables e below (T532.setTop (mkF m 287 #[iv p0, iv p1, iv p2, iv p3, iv p4, iv (3 : Int32), iv n6, iv n7, iv n8, iv n9, iv x0, iv x1, iv x2, rv r_436, rv r_439, rv r_442, rv r_445, rv b497, iv (1 : Int32)] [(.int (1 : Int32))])) _
            exact retN X532 hx (t := .boolean) Bd.returns (by simp) (hb hby at_287) hr
          · show Q0 Z p0 p1 p2 p3 p4 cw h0 n0 _ T532.heap _
            rw [e532]
            exact ⟨rfl, N532⟩
      · have Q534 := (((((((i436_4.keep0 i439_3).keep0 i442_3).keep0 i445_3).ext E497).wr W500 Ar498 (hw _ (List.mem_of_getElem? (i := 6) rfl)) (by decide)).wr W503 Ar501 (hw _ (List.mem_of_getElem? (i := 6) rfl)) (by decide)).wr W506 Ar504 (hw _ (List.mem_of_getElem? (i := 6) rfl)) (by decide))
        have Q535 := ((((((i439_4.keep0 i442_3).keep0 i445_3).ext E497).wr W500 Ar498 (hw _ (List.mem_of_getElem? (i := 6) rfl)) (by decide)).wr W503 Ar501 (hw _ (List.mem_of_getElem? (i := 6) rfl)) (by decide)).wr W506 Ar504 (hw _ (List.mem_of_getElem? (i := 6) rfl)) (by decide))
        have Q536 := (((((i442_4.keep0 i445_3).ext E497).wr W500 Ar498 (hw _ (List.mem_of_getElem? (i := 6) rfl)) (by decide)).wr W503 Ar501 (hw _ (List.mem_of_getElem? (i := 6) rfl)) (by decide)).wr W506 Ar504 (hw _ (List.mem_of_getElem? (i := 6) rfl)) (by decide))
        have Q537 := ((((i445_4.ext E497).wr W500 Ar498 (hw _ (List.mem_of_getElem? (i := 6) rfl)) (by decide)).wr W503 Ar501 (hw _ (List.mem_of_getElem? (i := 6) rfl)) (by decide)).wr W506 Ar504 (hw _ (List.mem_of_getElem? (i := 6) rfl)) (by decide))
        have Q538 := (((((own_staKeep Q443 i445_3 all0).ext E497).wr W500).wr W503).wr W506)
        obtain ⟨_, _, ⟨T539, L539, k539, n539⟩, -, X539, ⟨Lc539, hQ539, l539, y539, z539⟩, st539⟩ := Jvm.LawKit.callS X507 hx (y := (⟨"com/example/partybook/partybook/io/XmlInput", "isOneOf", "(Ljava/lang/String;[Ljava/lang/String;)Z"⟩ : MethodName)) hown (mvT hZ (hw _ (List.mem_of_getElem? (i := 14) rfl))) (mvT hZ (hw _ (List.mem_of_getElem? (i := 15) rfl))) (mvT hZ (hw _ (List.mem_of_getElem? (i := 16) rfl))) (mvT hZ (hw _ (List.mem_of_getElem? (i := 17) rfl))) (by decide) (backOf (W := 0) (rmO_3 l Z a0 hw [] r_436 b497 cw k497 (own_mk p0 n6) r_439 r_442 r_445 (own_mk x0 n7) (own_mk x1 n8) (own_mk x2 n9) h506 n0 (Nat.le_trans Z0 K506.1) Q534 V506 Q535 Q536 Q537 Q538 hw0 (own_mkLen _ _) (own_mkLen _ _) (own_mkLen _ _) (own_mkLen _ _)) hZ (hw _ (List.mem_of_getElem? (i := 17) rfl)) (hw _ (List.mem_of_getElem? (i := 16) rfl)) (by decide) (by decide)) (g := (mkF m 274 #[iv p0, iv p1, iv p2, iv p3, iv p4, iv (3 : Int32), iv n6, iv n7, iv n8, iv n9, iv x0, iv x1, iv x2, rv r_436, rv r_439, rv r_442, rv r_445, rv b497, iv (1 : Int32)] [(.ref b497), (.ref r_436)])) rfl (by rw [hml]; rfl) (argsL := [(.ref r_436), (.ref b497)]) (rest := []) (lenOf own_pd12 rfl) rfl (by show 2 * 0 + _ ≤ _; exact Nat.le_of_eq rfl) (hb hby at_274) (fun _ _ => ⟨rfl, e507, (by decide : 13 + 0 ≤ _), (by decide : 43 + 0 ≤ _)⟩)
        dsimp only [Pt.U, Pt.locs, Pt.cells, Pt.slots] at X539 l539 y539 z539 st539 hQ539
        subst l539 y539 z539
        obtain ⟨rfl, N539q, e539⟩ := hQ539
        have N539 := Fr.app N507 N539q
        have hc279_540 : (own_f_rmO_3 (own_mk p0 n6) (own_mk x0 n7) (own_mk x1 n8) (own_mk x2 n9)) = (1 : Int32) := by unfold own_f_rmO_3; rw [own_eqLc, ← own_same _ _ _ _ h6n h7n, if_neg hc222]
        obtain ⟨fs, hr, hrun, hended, hW, hsame⟩ := X539.leave (v := some (.int (1 : Int32))) (fun h => by rw [Bd.returns] at h; cases h)
        refine ⟨_, _, pre508 _ ?_, hrun, hended, _, _, rfl, ?_, (by show CHr Z own_EL s.vm s.heap T539.vm T539.heap; rw [hh, e539]; exact CH506.trans (CHv.at X539 hZ hEL CH506.1)), own_endW hS (by show _ ≤ T539.heap.size; rw [e539]; exact hk) hW (hsame.mono (by decide) (by decide))⟩
        · show Steps p.tables e below (T507.setTop (mkF m 222 #[iv p0, iv p1, iv p2, iv p3, iv p4, iv (3 : Int32), iv n6, iv n7, iv n8, iv n9, iv x0, iv x1, iv x2, rv r_436, rv r_439, rv r_442, rv r_445, rv b497, .unset] [(.int (own_f_rmS p0 n6 x0 n7))])) _
          refine XS.ifYes X507.here hx rfl (pc0 := 222) (pc' := 263) rfl (hb hby at_222) rfl ((if0 _ _).trans (feq hc222).2) (by decide) (by decide) ?_
          show Steps p.tables e below (T507.setTop (mkF m 263 #[iv p0, iv p1, iv p2, iv p3, iv p4, iv (3 : Int32), iv n6, iv n7, iv n8, iv n9, iv x0, iv x1, iv x2, rv r_436, rv r_439, rv r_442, rv r_445, rv b497, .unset] [])) _
          refine XS.iconst X507.here hx rfl (hb hby at_263) ?_
          show Steps p.tables e below (T507.setTop (mkF m 264 #[iv p0, iv p1, iv p2, iv p3, iv p4, iv (3 : Int32), iv n6, iv n7, iv n8, iv n9, iv x0, iv x1, iv x2, rv r_436, rv r_439, rv r_442, rv r_445, rv b497, .unset] [(.int (1 : Int32))])) _
          refine XS.goto X507.here hx rfl (pc0 := 264) (pc' := 268) rfl (hb hby at_264) (by decide) (by decide) ?_
          show Steps p.tables e below (T507.setTop (mkF m 268 #[iv p0, iv p1, iv p2, iv p3, iv p4, iv (3 : Int32), iv n6, iv n7, iv n8, iv n9, iv x0, iv x1, iv x2, rv r_436, rv r_439, rv r_442, rv r_445, rv b497, .unset] [(.int (1 : Int32))])) _
          refine XS.istore X507.here hx rfl (hb hby at_268) rfl (l' := #[iv p0, iv p1, iv p2, iv p3, iv p4, iv (3 : Int32), iv n6, iv n7, iv n8, iv n9, iv x0, iv x1, iv x2, rv r_436, rv r_439, rv r_442, rv r_445, rv b497, iv (1 : Int32)]) rfl ?_
          show Steps p.tables e below (T507.setTop (mkF m 270 #[iv p0, iv p1, iv p2, iv p3, iv p4, iv (3 : Int32), iv n6, iv n7, iv n8, iv n9, iv x0, iv x1, iv x2, rv r_436, rv r_439, rv r_442, rv r_445, rv b497, iv (1 : Int32)] [])) _
          refine XS.aload X507.here hx rfl (hb hby at_270) rfl rfl ?_
          show Steps p.tables e below (T507.setTop (mkF m 272 #[iv p0, iv p1, iv p2, iv p3, iv p4, iv (3 : Int32), iv n6, iv n7, iv n8, iv n9, iv x0, iv x1, iv x2, rv r_436, rv r_439, rv r_442, rv r_445, rv b497, iv (1 : Int32)] [(.ref r_436)])) _
          refine XS.aload X507.here hx rfl (hb hby at_272) rfl rfl ?_
          show Steps p.tables e below (T507.setTop (mkF m 274 #[iv p0, iv p1, iv p2, iv p3, iv p4, iv (3 : Int32), iv n6, iv n7, iv n8, iv n9, iv x0, iv x1, iv x2, rv r_436, rv r_439, rv r_442, rv r_445, rv b497, iv (1 : Int32)] [(.ref b497), (.ref r_436)])) _
          refine st539 _ ?_
          show Steps p.tables e below (T539.setTop (mkF m 277 #[iv p0, iv p1, iv p2, iv p3, iv p4, iv (3 : Int32), iv n6, iv n7, iv n8, iv n9, iv x0, iv x1, iv x2, rv r_436, rv r_439, rv r_442, rv r_445, rv b497, iv (1 : Int32)] [(.int (own_f_rmO_3 (own_mk p0 n6) (own_mk x0 n7) (own_mk x1 n8) (own_mk x2 n9)))])) _
          refine XS.iload X539.here hx rfl (hb hby at_277) rfl ?_
          show Steps p.tables e below (T539.setTop (mkF m 279 #[iv p0, iv p1, iv p2, iv p3, iv p4, iv (3 : Int32), iv n6, iv n7, iv n8, iv n9, iv x0, iv x1, iv x2, rv r_436, rv r_439, rv r_442, rv r_445, rv b497, iv (1 : Int32)] [(.int (1 : Int32)), (.int (own_f_rmO_3 (own_mk p0 n6) (own_mk x0 n7) (own_mk x1 n8) (own_mk x2 n9)))])) _
          refine XS.icmpNo X539.here hx rfl (hb hby at_279) rfl (teq hc279_540).2 ?_
          show Steps p.tables e below (T539.setTop (mkF m 282 #[iv p0, iv p1, iv p2, iv p3, iv p4, iv (3 : Int32), iv n6, iv n7, iv n8, iv n9, iv x0, iv x1, iv x2, rv r_436, rv r_439, rv r_442, rv r_445, rv b497, iv (1 : Int32)] [])) _
          refine XS.iconst X539.here hx rfl (hb hby at_282) ?_
          show Steps p.tables e below (T539.setTop (mkF m 283 #[iv p0, iv p1, iv p2, iv p3, iv p4, iv (3 : Int32), iv n6, iv n7, iv n8, iv n9, iv x0, iv x1, iv x2, rv r_436, rv r_439, rv r_442, rv r_445, rv b497, iv (1 : Int32)] [(.int (1 : Int32))])) _
          refine XS.goto X539.here hx rfl (pc0 := 283) (pc' := 287) rfl (hb hby at_283) (by decide) (by decide) ?_
          show Steps p.tables e below (T539.setTop (mkF m 287 #[iv p0, iv p1, iv p2, iv p3, iv p4, iv (3 : Int32), iv n6, iv n7, iv n8, iv n9, iv x0, iv x1, iv x2, rv r_436, rv r_439, rv r_442, rv r_445, rv b497, iv (1 : Int32)] [(.int (1 : Int32))])) _
          exact retN X539 hx (t := .boolean) Bd.returns (by simp) (hb hby at_287) hr
        · show Q0 Z p0 p1 p2 p3 p4 cw h0 n0 _ T539.heap _
          rw [e539]
          exact ⟨rfl, N539⟩
  · have pre420 : ∀ t, Steps p.tables e below (s₁.setTop (mkF m 47 #[iv p0, iv p1, iv p2, iv p3, iv p4, iv (p4 &&& (3 : Int32)), iv (own_n p4 (2 : Int32)), iv (own_n p4 (4 : Int32)), iv (own_n p4 (6 : Int32)), iv (own_n p4 (8 : Int32)), .unset, .unset, .unset, .unset, .unset, .unset, .unset, .unset, .unset] [(.int (((p4.toUInt32 >>> ((10 : Int32) &&& 31).toUInt32).toInt32) &&& (1 : Int32)))])) t → Steps p.tables e below (s₁.setTop (entryFrame m #[(.int p0), (.int p1), (.int p2), (.int p3), (.int p4)] maxLocals)) t := fun t k => by
      refine pre0 _ ?_
      show Steps p.tables e below (s₁.setTop (mkF m 0 #[iv p0, iv p1, iv p2, iv p3, iv p4, .unset, .unset, .unset, .unset, .unset, .unset, .unset, .unset, .unset, .unset, .unset, .unset, .unset, .unset] [])) _
      refine XS.iload X0.here hx rfl (hb hby at_0) rfl ?_
      show Steps p.tables e below (s₁.setTop (mkF m 2 #[iv p0, iv p1, iv p2, iv p3, iv p4, .unset, .unset, .unset, .unset, .unset, .unset, .unset, .unset, .unset, .unset, .unset, .unset, .unset, .unset] [(.int p4)])) _
      refine XS.iconst X0.here hx rfl (hb hby at_2) ?_
      show Steps p.tables e below (s₁.setTop (mkF m 3 #[iv p0, iv p1, iv p2, iv p3, iv p4, .unset, .unset, .unset, .unset, .unset, .unset, .unset, .unset, .unset, .unset, .unset, .unset, .unset, .unset] [(.int (3 : Int32)), (.int p4)])) _
      refine XS.iand X0.here hx rfl (hb hby at_3) rfl ?_
      show Steps p.tables e below (s₁.setTop (mkF m 4 #[iv p0, iv p1, iv p2, iv p3, iv p4, .unset, .unset, .unset, .unset, .unset, .unset, .unset, .unset, .unset, .unset, .unset, .unset, .unset, .unset] [(.int (p4 &&& (3 : Int32)))])) _
      refine XS.istore X0.here hx rfl (hb hby at_4) rfl (l' := #[iv p0, iv p1, iv p2, iv p3, iv p4, iv (p4 &&& (3 : Int32)), .unset, .unset, .unset, .unset, .unset, .unset, .unset, .unset, .unset, .unset, .unset, .unset, .unset]) rfl ?_
      show Steps p.tables e below (s₁.setTop (mkF m 6 #[iv p0, iv p1, iv p2, iv p3, iv p4, iv (p4 &&& (3 : Int32)), .unset, .unset, .unset, .unset, .unset, .unset, .unset, .unset, .unset, .unset, .unset, .unset, .unset] [])) _
      refine XS.iload X0.here hx rfl (hb hby at_6) rfl ?_
      show Steps p.tables e below (s₁.setTop (mkF m 8 #[iv p0, iv p1, iv p2, iv p3, iv p4, iv (p4 &&& (3 : Int32)), .unset, .unset, .unset, .unset, .unset, .unset, .unset, .unset, .unset, .unset, .unset, .unset, .unset] [(.int p4)])) _
      refine XS.iconst X0.here hx rfl (hb hby at_8) ?_
      show Steps p.tables e below (s₁.setTop (mkF m 9 #[iv p0, iv p1, iv p2, iv p3, iv p4, iv (p4 &&& (3 : Int32)), .unset, .unset, .unset, .unset, .unset, .unset, .unset, .unset, .unset, .unset, .unset, .unset, .unset] [(.int (2 : Int32)), (.int p4)])) _
      refine XS.iushr X0.here hx rfl (hb hby at_9) rfl ?_
      show Steps p.tables e below (s₁.setTop (mkF m 10 #[iv p0, iv p1, iv p2, iv p3, iv p4, iv (p4 &&& (3 : Int32)), .unset, .unset, .unset, .unset, .unset, .unset, .unset, .unset, .unset, .unset, .unset, .unset, .unset] [(.int ((p4.toUInt32 >>> ((2 : Int32) &&& 31).toUInt32).toInt32))])) _
      refine XS.iconst X0.here hx rfl (hb hby at_10) ?_
      show Steps p.tables e below (s₁.setTop (mkF m 11 #[iv p0, iv p1, iv p2, iv p3, iv p4, iv (p4 &&& (3 : Int32)), .unset, .unset, .unset, .unset, .unset, .unset, .unset, .unset, .unset, .unset, .unset, .unset, .unset] [(.int (3 : Int32)), (.int ((p4.toUInt32 >>> ((2 : Int32) &&& 31).toUInt32).toInt32))])) _
      refine XS.iand X0.here hx rfl (hb hby at_11) rfl ?_
      show Steps p.tables e below (s₁.setTop (mkF m 12 #[iv p0, iv p1, iv p2, iv p3, iv p4, iv (p4 &&& (3 : Int32)), .unset, .unset, .unset, .unset, .unset, .unset, .unset, .unset, .unset, .unset, .unset, .unset, .unset] [(.int (((p4.toUInt32 >>> ((2 : Int32) &&& 31).toUInt32).toInt32) &&& (3 : Int32)))])) _
      refine XS.istore X0.here hx rfl (hb hby at_12) rfl (l' := #[iv p0, iv p1, iv p2, iv p3, iv p4, iv (p4 &&& (3 : Int32)), iv (((p4.toUInt32 >>> ((2 : Int32) &&& 31).toUInt32).toInt32) &&& (3 : Int32)), .unset, .unset, .unset, .unset, .unset, .unset, .unset, .unset, .unset, .unset, .unset, .unset]) rfl ?_
      show Steps p.tables e below (s₁.setTop (mkF m 14 #[iv p0, iv p1, iv p2, iv p3, iv p4, iv (p4 &&& (3 : Int32)), iv (own_n p4 (2 : Int32)), .unset, .unset, .unset, .unset, .unset, .unset, .unset, .unset, .unset, .unset, .unset, .unset] [])) _
      refine XS.iload X0.here hx rfl (hb hby at_14) rfl ?_
      show Steps p.tables e below (s₁.setTop (mkF m 16 #[iv p0, iv p1, iv p2, iv p3, iv p4, iv (p4 &&& (3 : Int32)), iv (own_n p4 (2 : Int32)), .unset, .unset, .unset, .unset, .unset, .unset, .unset, .unset, .unset, .unset, .unset, .unset] [(.int p4)])) _
      refine XS.iconst X0.here hx rfl (hb hby at_16) ?_
      show Steps p.tables e below (s₁.setTop (mkF m 17 #[iv p0, iv p1, iv p2, iv p3, iv p4, iv (p4 &&& (3 : Int32)), iv (own_n p4 (2 : Int32)), .unset, .unset, .unset, .unset, .unset, .unset, .unset, .unset, .unset, .unset, .unset, .unset] [(.int (4 : Int32)), (.int p4)])) _
      refine XS.iushr X0.here hx rfl (hb hby at_17) rfl ?_
      show Steps p.tables e below (s₁.setTop (mkF m 18 #[iv p0, iv p1, iv p2, iv p3, iv p4, iv (p4 &&& (3 : Int32)), iv (own_n p4 (2 : Int32)), .unset, .unset, .unset, .unset, .unset, .unset, .unset, .unset, .unset, .unset, .unset, .unset] [(.int ((p4.toUInt32 >>> ((4 : Int32) &&& 31).toUInt32).toInt32))])) _
      refine XS.iconst X0.here hx rfl (hb hby at_18) ?_
      show Steps p.tables e below (s₁.setTop (mkF m 19 #[iv p0, iv p1, iv p2, iv p3, iv p4, iv (p4 &&& (3 : Int32)), iv (own_n p4 (2 : Int32)), .unset, .unset, .unset, .unset, .unset, .unset, .unset, .unset, .unset, .unset, .unset, .unset] [(.int (3 : Int32)), (.int ((p4.toUInt32 >>> ((4 : Int32) &&& 31).toUInt32).toInt32))])) _
      refine XS.iand X0.here hx rfl (hb hby at_19) rfl ?_
      show Steps p.tables e below (s₁.setTop (mkF m 20 #[iv p0, iv p1, iv p2, iv p3, iv p4, iv (p4 &&& (3 : Int32)), iv (own_n p4 (2 : Int32)), .unset, .unset, .unset, .unset, .unset, .unset, .unset, .unset, .unset, .unset, .unset, .unset] [(.int (((p4.toUInt32 >>> ((4 : Int32) &&& 31).toUInt32).toInt32) &&& (3 : Int32)))])) _
      refine XS.istore X0.here hx rfl (hb hby at_20) rfl (l' := #[iv p0, iv p1, iv p2, iv p3, iv p4, iv (p4 &&& (3 : Int32)), iv (own_n p4 (2 : Int32)), iv (((p4.toUInt32 >>> ((4 : Int32) &&& 31).toUInt32).toInt32) &&& (3 : Int32)), .unset, .unset, .unset, .unset, .unset, .unset, .unset, .unset, .unset, .unset, .unset]) rfl ?_
      show Steps p.tables e below (s₁.setTop (mkF m 22 #[iv p0, iv p1, iv p2, iv p3, iv p4, iv (p4 &&& (3 : Int32)), iv (own_n p4 (2 : Int32)), iv (own_n p4 (4 : Int32)), .unset, .unset, .unset, .unset, .unset, .unset, .unset, .unset, .unset, .unset, .unset] [])) _
      refine XS.iload X0.here hx rfl (hb hby at_22) rfl ?_
      show Steps p.tables e below (s₁.setTop (mkF m 24 #[iv p0, iv p1, iv p2, iv p3, iv p4, iv (p4 &&& (3 : Int32)), iv (own_n p4 (2 : Int32)), iv (own_n p4 (4 : Int32)), .unset, .unset, .unset, .unset, .unset, .unset, .unset, .unset, .unset, .unset, .unset] [(.int p4)])) _
      refine XS.bipush X0.here hx rfl (hb hby at_24) ?_
      show Steps p.tables e below (s₁.setTop (mkF m 26 #[iv p0, iv p1, iv p2, iv p3, iv p4, iv (p4 &&& (3 : Int32)), iv (own_n p4 (2 : Int32)), iv (own_n p4 (4 : Int32)), .unset, .unset, .unset, .unset, .unset, .unset, .unset, .unset, .unset, .unset, .unset] [(.int (6 : Int32)), (.int p4)])) _
      refine XS.iushr X0.here hx rfl (hb hby at_26) rfl ?_
      show Steps p.tables e below (s₁.setTop (mkF m 27 #[iv p0, iv p1, iv p2, iv p3, iv p4, iv (p4 &&& (3 : Int32)), iv (own_n p4 (2 : Int32)), iv (own_n p4 (4 : Int32)), .unset, .unset, .unset, .unset, .unset, .unset, .unset, .unset, .unset, .unset, .unset] [(.int ((p4.toUInt32 >>> ((6 : Int32) &&& 31).toUInt32).toInt32))])) _
      refine XS.iconst X0.here hx rfl (hb hby at_27) ?_
      show Steps p.tables e below (s₁.setTop (mkF m 28 #[iv p0, iv p1, iv p2, iv p3, iv p4, iv (p4 &&& (3 : Int32)), iv (own_n p4 (2 : Int32)), iv (own_n p4 (4 : Int32)), .unset, .unset, .unset, .unset, .unset, .unset, .unset, .unset, .unset, .unset, .unset] [(.int (3 : Int32)), (.int ((p4.toUInt32 >>> ((6 : Int32) &&& 31).toUInt32).toInt32))])) _
      refine XS.iand X0.here hx rfl (hb hby at_28) rfl ?_
      show Steps p.tables e below (s₁.setTop (mkF m 29 #[iv p0, iv p1, iv p2, iv p3, iv p4, iv (p4 &&& (3 : Int32)), iv (own_n p4 (2 : Int32)), iv (own_n p4 (4 : Int32)), .unset, .unset, .unset, .unset, .unset, .unset, .unset, .unset, .unset, .unset, .unset] [(.int (((p4.toUInt32 >>> ((6 : Int32) &&& 31).toUInt32).toInt32) &&& (3 : Int32)))])) _
      refine XS.istore X0.here hx rfl (hb hby at_29) rfl (l' := #[iv p0, iv p1, iv p2, iv p3, iv p4, iv (p4 &&& (3 : Int32)), iv (own_n p4 (2 : Int32)), iv (own_n p4 (4 : Int32)), iv (((p4.toUInt32 >>> ((6 : Int32) &&& 31).toUInt32).toInt32) &&& (3 : Int32)), .unset, .unset, .unset, .unset, .unset, .unset, .unset, .unset, .unset, .unset]) rfl ?_
      show Steps p.tables e below (s₁.setTop (mkF m 31 #[iv p0, iv p1, iv p2, iv p3, iv p4, iv (p4 &&& (3 : Int32)), iv (own_n p4 (2 : Int32)), iv (own_n p4 (4 : Int32)), iv (own_n p4 (6 : Int32)), .unset, .unset, .unset, .unset, .unset, .unset, .unset, .unset, .unset, .unset] [])) _
      refine XS.iload X0.here hx rfl (hb hby at_31) rfl ?_
      show Steps p.tables e below (s₁.setTop (mkF m 33 #[iv p0, iv p1, iv p2, iv p3, iv p4, iv (p4 &&& (3 : Int32)), iv (own_n p4 (2 : Int32)), iv (own_n p4 (4 : Int32)), iv (own_n p4 (6 : Int32)), .unset, .unset, .unset, .unset, .unset, .unset, .unset, .unset, .unset, .unset] [(.int p4)])) _
      refine XS.bipush X0.here hx rfl (hb hby at_33) ?_
      show Steps p.tables e below (s₁.setTop (mkF m 35 #[iv p0, iv p1, iv p2, iv p3, iv p4, iv (p4 &&& (3 : Int32)), iv (own_n p4 (2 : Int32)), iv (own_n p4 (4 : Int32)), iv (own_n p4 (6 : Int32)), .unset, .unset, .unset, .unset, .unset, .unset, .unset, .unset, .unset, .unset] [(.int (8 : Int32)), (.int p4)])) _
      refine XS.iushr X0.here hx rfl (hb hby at_35) rfl ?_
      show Steps p.tables e below (s₁.setTop (mkF m 36 #[iv p0, iv p1, iv p2, iv p3, iv p4, iv (p4 &&& (3 : Int32)), iv (own_n p4 (2 : Int32)), iv (own_n p4 (4 : Int32)), iv (own_n p4 (6 : Int32)), .unset, .unset, .unset, .unset, .unset, .unset, .unset, .unset, .unset, .unset] [(.int ((p4.toUInt32 >>> ((8 : Int32) &&& 31).toUInt32).toInt32))])) _
      refine XS.iconst X0.here hx rfl (hb hby at_36) ?_
      show Steps p.tables e below (s₁.setTop (mkF m 37 #[iv p0, iv p1, iv p2, iv p3, iv p4, iv (p4 &&& (3 : Int32)), iv (own_n p4 (2 : Int32)), iv (own_n p4 (4 : Int32)), iv (own_n p4 (6 : Int32)), .unset, .unset, .unset, .unset, .unset, .unset, .unset, .unset, .unset, .unset] [(.int (3 : Int32)), (.int ((p4.toUInt32 >>> ((8 : Int32) &&& 31).toUInt32).toInt32))])) _
      refine XS.iand X0.here hx rfl (hb hby at_37) rfl ?_
      show Steps p.tables e below (s₁.setTop (mkF m 38 #[iv p0, iv p1, iv p2, iv p3, iv p4, iv (p4 &&& (3 : Int32)), iv (own_n p4 (2 : Int32)), iv (own_n p4 (4 : Int32)), iv (own_n p4 (6 : Int32)), .unset, .unset, .unset, .unset, .unset, .unset, .unset, .unset, .unset, .unset] [(.int (((p4.toUInt32 >>> ((8 : Int32) &&& 31).toUInt32).toInt32) &&& (3 : Int32)))])) _
      refine XS.istore X0.here hx rfl (hb hby at_38) rfl (l' := #[iv p0, iv p1, iv p2, iv p3, iv p4, iv (p4 &&& (3 : Int32)), iv (own_n p4 (2 : Int32)), iv (own_n p4 (4 : Int32)), iv (own_n p4 (6 : Int32)), iv (((p4.toUInt32 >>> ((8 : Int32) &&& 31).toUInt32).toInt32) &&& (3 : Int32)), .unset, .unset, .unset, .unset, .unset, .unset, .unset, .unset, .unset]) rfl ?_
      show Steps p.tables e below (s₁.setTop (mkF m 40 #[iv p0, iv p1, iv p2, iv p3, iv p4, iv (p4 &&& (3 : Int32)), iv (own_n p4 (2 : Int32)), iv (own_n p4 (4 : Int32)), iv (own_n p4 (6 : Int32)), iv (own_n p4 (8 : Int32)), .unset, .unset, .unset, .unset, .unset, .unset, .unset, .unset, .unset] [])) _
      refine XS.iload X0.here hx rfl (hb hby at_40) rfl ?_
      show Steps p.tables e below (s₁.setTop (mkF m 42 #[iv p0, iv p1, iv p2, iv p3, iv p4, iv (p4 &&& (3 : Int32)), iv (own_n p4 (2 : Int32)), iv (own_n p4 (4 : Int32)), iv (own_n p4 (6 : Int32)), iv (own_n p4 (8 : Int32)), .unset, .unset, .unset, .unset, .unset, .unset, .unset, .unset, .unset] [(.int p4)])) _
      refine XS.bipush X0.here hx rfl (hb hby at_42) ?_
      show Steps p.tables e below (s₁.setTop (mkF m 44 #[iv p0, iv p1, iv p2, iv p3, iv p4, iv (p4 &&& (3 : Int32)), iv (own_n p4 (2 : Int32)), iv (own_n p4 (4 : Int32)), iv (own_n p4 (6 : Int32)), iv (own_n p4 (8 : Int32)), .unset, .unset, .unset, .unset, .unset, .unset, .unset, .unset, .unset] [(.int (10 : Int32)), (.int p4)])) _
      refine XS.iushr X0.here hx rfl (hb hby at_44) rfl ?_
      show Steps p.tables e below (s₁.setTop (mkF m 45 #[iv p0, iv p1, iv p2, iv p3, iv p4, iv (p4 &&& (3 : Int32)), iv (own_n p4 (2 : Int32)), iv (own_n p4 (4 : Int32)), iv (own_n p4 (6 : Int32)), iv (own_n p4 (8 : Int32)), .unset, .unset, .unset, .unset, .unset, .unset, .unset, .unset, .unset] [(.int ((p4.toUInt32 >>> ((10 : Int32) &&& 31).toUInt32).toInt32))])) _
      refine XS.iconst X0.here hx rfl (hb hby at_45) ?_
      show Steps p.tables e below (s₁.setTop (mkF m 46 #[iv p0, iv p1, iv p2, iv p3, iv p4, iv (p4 &&& (3 : Int32)), iv (own_n p4 (2 : Int32)), iv (own_n p4 (4 : Int32)), iv (own_n p4 (6 : Int32)), iv (own_n p4 (8 : Int32)), .unset, .unset, .unset, .unset, .unset, .unset, .unset, .unset, .unset] [(.int (1 : Int32)), (.int ((p4.toUInt32 >>> ((10 : Int32) &&& 31).toUInt32).toInt32))])) _
      refine XS.iand X0.here hx rfl (hb hby at_46) rfl ?_
      exact k
    by_cases hc47 : (((p4.toUInt32 >>> ((10 : Int32) &&& 31).toUInt32).toInt32) &&& (1 : Int32)) = (0 : Int32)
    · have pre421 : ∀ t, Steps p.tables e below (s₁.setTop (mkF m 64 #[iv p0, iv p1, iv p2, iv p3, iv p4, iv (p4 &&& (3 : Int32)), iv (own_n p4 (2 : Int32)), iv (own_n p4 (4 : Int32)), iv (own_n p4 (6 : Int32)), iv (own_n p4 (8 : Int32)), iv p1, .unset, .unset, .unset, .unset, .unset, .unset, .unset, .unset] [(.int (((p4.toUInt32 >>> ((11 : Int32) &&& 31).toUInt32).toInt32) &&& (1 : Int32)))])) t → Steps p.tables e below (s₁.setTop (entryFrame m #[(.int p0), (.int p1), (.int p2), (.int p3), (.int p4)] maxLocals)) t := fun t k => by
        refine pre420 _ ?_
        show Steps p.tables e below (s₁.setTop (mkF m 47 #[iv p0, iv p1, iv p2, iv p3, iv p4, iv (p4 &&& (3 : Int32)), iv (own_n p4 (2 : Int32)), iv (own_n p4 (4 : Int32)), iv (own_n p4 (6 : Int32)), iv (own_n p4 (8 : Int32)), .unset, .unset, .unset, .unset, .unset, .unset, .unset, .unset, .unset] [(.int (((p4.toUInt32 >>> ((10 : Int32) &&& 31).toUInt32).toInt32) &&& (1 : Int32)))])) _
        refine XS.ifYes X0.here hx rfl (pc0 := 47) (pc' := 54) rfl (hb hby at_47) rfl ((if0 _ _).trans (teq hc47).1) (by decide) (by decide) ?_
        show Steps p.tables e below (s₁.setTop (mkF m 54 #[iv p0, iv p1, iv p2, iv p3, iv p4, iv (p4 &&& (3 : Int32)), iv (own_n p4 (2 : Int32)), iv (own_n p4 (4 : Int32)), iv (own_n p4 (6 : Int32)), iv (own_n p4 (8 : Int32)), .unset, .unset, .unset, .unset, .unset, .unset, .unset, .unset, .unset] [])) _
        refine XS.iloadN X0.here hx rfl (hb hby at_54) rfl ?_
        show Steps p.tables e below (s₁.setTop (mkF m 55 #[iv p0, iv p1, iv p2, iv p3, iv p4, iv (p4 &&& (3 : Int32)), iv (own_n p4 (2 : Int32)), iv (own_n p4 (4 : Int32)), iv (own_n p4 (6 : Int32)), iv (own_n p4 (8 : Int32)), .unset, .unset, .unset, .unset, .unset, .unset, .unset, .unset, .unset] [(.int p1)])) _
        refine XS.istore X0.here hx rfl (hb hby at_55) rfl (l' := #[iv p0, iv p1, iv p2, iv p3, iv p4, iv (p4 &&& (3 : Int32)), iv (own_n p4 (2 : Int32)), iv (own_n p4 (4 : Int32)), iv (own_n p4 (6 : Int32)), iv (own_n p4 (8 : Int32)), iv p1, .unset, .unset, .unset, .unset, .unset, .unset, .unset, .unset]) rfl ?_
        show Steps p.tables e below (s₁.setTop (mkF m 57 #[iv p0, iv p1, iv p2, iv p3, iv p4, iv (p4 &&& (3 : Int32)), iv (own_n p4 (2 : Int32)), iv (own_n p4 (4 : Int32)), iv (own_n p4 (6 : Int32)), iv (own_n p4 (8 : Int32)), iv p1, .unset, .unset, .unset, .unset, .unset, .unset, .unset, .unset] [])) _
        refine XS.iload X0.here hx rfl (hb hby at_57) rfl ?_
        show Steps p.tables e below (s₁.setTop (mkF m 59 #[iv p0, iv p1, iv p2, iv p3, iv p4, iv (p4 &&& (3 : Int32)), iv (own_n p4 (2 : Int32)), iv (own_n p4 (4 : Int32)), iv (own_n p4 (6 : Int32)), iv (own_n p4 (8 : Int32)), iv p1, .unset, .unset, .unset, .unset, .unset, .unset, .unset, .unset] [(.int p4)])) _
        refine XS.bipush X0.here hx rfl (hb hby at_59) ?_
        show Steps p.tables e below (s₁.setTop (mkF m 61 #[iv p0, iv p1, iv p2, iv p3, iv p4, iv (p4 &&& (3 : Int32)), iv (own_n p4 (2 : Int32)), iv (own_n p4 (4 : Int32)), iv (own_n p4 (6 : Int32)), iv (own_n p4 (8 : Int32)), iv p1, .unset, .unset, .unset, .unset, .unset, .unset, .unset, .unset] [(.int (11 : Int32)), (.int p4)])) _
        refine XS.iushr X0.here hx rfl (hb hby at_61) rfl ?_
        show Steps p.tables e below (s₁.setTop (mkF m 62 #[iv p0, iv p1, iv p2, iv p3, iv p4, iv (p4 &&& (3 : Int32)), iv (own_n p4 (2 : Int32)), iv (own_n p4 (4 : Int32)), iv (own_n p4 (6 : Int32)), iv (own_n p4 (8 : Int32)), iv p1, .unset, .unset, .unset, .unset, .unset, .unset, .unset, .unset] [(.int ((p4.toUInt32 >>> ((11 : Int32) &&& 31).toUInt32).toInt32))])) _
        refine XS.iconst X0.here hx rfl (hb hby at_62) ?_
        show Steps p.tables e below (s₁.setTop (mkF m 63 #[iv p0, iv p1, iv p2, iv p3, iv p4, iv (p4 &&& (3 : Int32)), iv (own_n p4 (2 : Int32)), iv (own_n p4 (4 : Int32)), iv (own_n p4 (6 : Int32)), iv (own_n p4 (8 : Int32)), iv p1, .unset, .unset, .unset, .unset, .unset, .unset, .unset, .unset] [(.int (1 : Int32)), (.int ((p4.toUInt32 >>> ((11 : Int32) &&& 31).toUInt32).toInt32))])) _
        refine XS.iand X0.here hx rfl (hb hby at_63) rfl ?_
        exact k
      by_cases hc64 : (((p4.toUInt32 >>> ((11 : Int32) &&& 31).toUInt32).toInt32) &&& (1 : Int32)) = (0 : Int32)
      · have pre422 : ∀ t, Steps p.tables e below (s₁.setTop (mkF m 81 #[iv p0, iv p1, iv p2, iv p3, iv p4, iv (p4 &&& (3 : Int32)), iv (own_n p4 (2 : Int32)), iv (own_n p4 (4 : Int32)), iv (own_n p4 (6 : Int32)), iv (own_n p4 (8 : Int32)), iv p1, iv p2, .unset, .unset, .unset, .unset, .unset, .unset, .unset] [(.int (((p4.toUInt32 >>> ((12 : Int32) &&& 31).toUInt32).toInt32) &&& (1 : Int32)))])) t → Steps p.tables e below (s₁.setTop (entryFrame m #[(.int p0), (.int p1), (.int p2), (.int p3), (.int p4)] maxLocals)) t := fun t k => by
          refine pre421 _ ?_
          show Steps p.tables e below (s₁.setTop (mkF m 64 #[iv p0, iv p1, iv p2, iv p3, iv p4, iv (p4 &&& (3 : Int32)), iv (own_n p4 (2 : Int32)), iv (own_n p4 (4 : Int32)), iv (own_n p4 (6 : Int32)), iv (own_n p4 (8 : Int32)), iv p1, .unset, .unset, .unset, .unset, .unset, .unset, .unset, .unset] [(.int (((p4.toUInt32 >>> ((11 : Int32) &&& 31).toUInt32).toInt32) &&& (1 : Int32)))])) _
          refine XS.ifYes X0.here hx rfl (pc0 := 64) (pc' := 71) rfl (hb hby at_64) rfl ((if0 _ _).trans (teq hc64).1) (by decide) (by decide) ?_
          show Steps p.tables e below (s₁.setTop (mkF m 71 #[iv p0, iv p1, iv p2, iv p3, iv p4, iv (p4 &&& (3 : Int32)), iv (own_n p4 (2 : Int32)), iv (own_n p4 (4 : Int32)), iv (own_n p4 (6 : Int32)), iv (own_n p4 (8 : Int32)), iv p1, .unset, .unset, .unset, .unset, .unset, .unset, .unset, .unset] [])) _
          refine XS.iloadN X0.here hx rfl (hb hby at_71) rfl ?_
          show Steps p.tables e below (s₁.setTop (mkF m 72 #[iv p0, iv p1, iv p2, iv p3, iv p4, iv (p4 &&& (3 : Int32)), iv (own_n p4 (2 : Int32)), iv (own_n p4 (4 : Int32)), iv (own_n p4 (6 : Int32)), iv (own_n p4 (8 : Int32)), iv p1, .unset, .unset, .unset, .unset, .unset, .unset, .unset, .unset] [(.int p2)])) _
          refine XS.istore X0.here hx rfl (hb hby at_72) rfl (l' := #[iv p0, iv p1, iv p2, iv p3, iv p4, iv (p4 &&& (3 : Int32)), iv (own_n p4 (2 : Int32)), iv (own_n p4 (4 : Int32)), iv (own_n p4 (6 : Int32)), iv (own_n p4 (8 : Int32)), iv p1, iv p2, .unset, .unset, .unset, .unset, .unset, .unset, .unset]) rfl ?_
          show Steps p.tables e below (s₁.setTop (mkF m 74 #[iv p0, iv p1, iv p2, iv p3, iv p4, iv (p4 &&& (3 : Int32)), iv (own_n p4 (2 : Int32)), iv (own_n p4 (4 : Int32)), iv (own_n p4 (6 : Int32)), iv (own_n p4 (8 : Int32)), iv p1, iv p2, .unset, .unset, .unset, .unset, .unset, .unset, .unset] [])) _
          refine XS.iload X0.here hx rfl (hb hby at_74) rfl ?_
          show Steps p.tables e below (s₁.setTop (mkF m 76 #[iv p0, iv p1, iv p2, iv p3, iv p4, iv (p4 &&& (3 : Int32)), iv (own_n p4 (2 : Int32)), iv (own_n p4 (4 : Int32)), iv (own_n p4 (6 : Int32)), iv (own_n p4 (8 : Int32)), iv p1, iv p2, .unset, .unset, .unset, .unset, .unset, .unset, .unset] [(.int p4)])) _
          refine XS.bipush X0.here hx rfl (hb hby at_76) ?_
          show Steps p.tables e below (s₁.setTop (mkF m 78 #[iv p0, iv p1, iv p2, iv p3, iv p4, iv (p4 &&& (3 : Int32)), iv (own_n p4 (2 : Int32)), iv (own_n p4 (4 : Int32)), iv (own_n p4 (6 : Int32)), iv (own_n p4 (8 : Int32)), iv p1, iv p2, .unset, .unset, .unset, .unset, .unset, .unset, .unset] [(.int (12 : Int32)), (.int p4)])) _
          refine XS.iushr X0.here hx rfl (hb hby at_78) rfl ?_
          show Steps p.tables e below (s₁.setTop (mkF m 79 #[iv p0, iv p1, iv p2, iv p3, iv p4, iv (p4 &&& (3 : Int32)), iv (own_n p4 (2 : Int32)), iv (own_n p4 (4 : Int32)), iv (own_n p4 (6 : Int32)), iv (own_n p4 (8 : Int32)), iv p1, iv p2, .unset, .unset, .unset, .unset, .unset, .unset, .unset] [(.int ((p4.toUInt32 >>> ((12 : Int32) &&& 31).toUInt32).toInt32))])) _
          refine XS.iconst X0.here hx rfl (hb hby at_79) ?_
          show Steps p.tables e below (s₁.setTop (mkF m 80 #[iv p0, iv p1, iv p2, iv p3, iv p4, iv (p4 &&& (3 : Int32)), iv (own_n p4 (2 : Int32)), iv (own_n p4 (4 : Int32)), iv (own_n p4 (6 : Int32)), iv (own_n p4 (8 : Int32)), iv p1, iv p2, .unset, .unset, .unset, .unset, .unset, .unset, .unset] [(.int (1 : Int32)), (.int ((p4.toUInt32 >>> ((12 : Int32) &&& 31).toUInt32).toInt32))])) _
          refine XS.iand X0.here hx rfl (hb hby at_80) rfl ?_
          exact k
        by_cases hc81 : (((p4.toUInt32 >>> ((12 : Int32) &&& 31).toUInt32).toInt32) &&& (1 : Int32)) = (0 : Int32)
        · have pre423 : ∀ t, Steps p.tables e below (s₁.setTop (mkF m 91 #[iv p0, iv p1, iv p2, iv p3, iv p4, iv (p4 &&& (3 : Int32)), iv (own_n p4 (2 : Int32)), iv (own_n p4 (4 : Int32)), iv (own_n p4 (6 : Int32)), iv (own_n p4 (8 : Int32)), iv p1, iv p2, iv p3, .unset, .unset, .unset, .unset, .unset, .unset] [])) t → Steps p.tables e below (s₁.setTop (entryFrame m #[(.int p0), (.int p1), (.int p2), (.int p3), (.int p4)] maxLocals)) t := fun t k => by
            refine pre422 _ ?_
            show Steps p.tables e below (s₁.setTop (mkF m 81 #[iv p0, iv p1, iv p2, iv p3, iv p4, iv (p4 &&& (3 : Int32)), iv (own_n p4 (2 : Int32)), iv (own_n p4 (4 : Int32)), iv (own_n p4 (6 : Int32)), iv (own_n p4 (8 : Int32)), iv p1, iv p2, .unset, .unset, .unset, .unset, .unset, .unset, .unset] [(.int (((p4.toUInt32 >>> ((12 : Int32) &&& 31).toUInt32).toInt32) &&& (1 : Int32)))])) _
            refine XS.ifYes X0.here hx rfl (pc0 := 81) (pc' := 88) rfl (hb hby at_81) rfl ((if0 _ _).trans (teq hc81).1) (by decide) (by decide) ?_
            show Steps p.tables e below (s₁.setTop (mkF m 88 #[iv p0, iv p1, iv p2, iv p3, iv p4, iv (p4 &&& (3 : Int32)), iv (own_n p4 (2 : Int32)), iv (own_n p4 (4 : Int32)), iv (own_n p4 (6 : Int32)), iv (own_n p4 (8 : Int32)), iv p1, iv p2, .unset, .unset, .unset, .unset, .unset, .unset, .unset] [])) _
            refine XS.iloadN X0.here hx rfl (hb hby at_88) rfl ?_
            show Steps p.tables e below (s₁.setTop (mkF m 89 #[iv p0, iv p1, iv p2, iv p3, iv p4, iv (p4 &&& (3 : Int32)), iv (own_n p4 (2 : Int32)), iv (own_n p4 (4 : Int32)), iv (own_n p4 (6 : Int32)), iv (own_n p4 (8 : Int32)), iv p1, iv p2, .unset, .unset, .unset, .unset, .unset, .unset, .unset] [(.int p3)])) _
            refine XS.istore X0.here hx rfl (hb hby at_89) rfl (l' := #[iv p0, iv p1, iv p2, iv p3, iv p4, iv (p4 &&& (3 : Int32)), iv (own_n p4 (2 : Int32)), iv (own_n p4 (4 : Int32)), iv (own_n p4 (6 : Int32)), iv (own_n p4 (8 : Int32)), iv p1, iv p2, iv p3, .unset, .unset, .unset, .unset, .unset, .unset]) rfl ?_
            exact k
          exact ⟨p1, p2, p3, (own_n p4 (2 : Int32)), (own_n p4 (4 : Int32)), (own_n p4 (6 : Int32)), (own_n p4 (8 : Int32)), s₁, X0, e0, pre423, (own_l4 _), (own_l4 _), (own_l4 _), (own_l4 _)⟩
        · have pre424 : ∀ t, Steps p.tables e below (s₁.setTop (mkF m 91 #[iv p0, iv p1, iv p2, iv p3, iv p4, iv (p4 &&& (3 : Int32)), iv (own_n p4 (2 : Int32)), iv (own_n p4 (4 : Int32)), iv (own_n p4 (6 : Int32)), iv (own_n p4 (8 : Int32)), iv p1, iv p2, iv p0, .unset, .unset, .unset, .unset, .unset, .unset] [])) t → Steps p.tables e below (s₁.setTop (entryFrame m #[(.int p0), (.int p1), (.int p2), (.int p3), (.int p4)] maxLocals)) t := fun t k => by
            refine pre422 _ ?_
            show Steps p.tables e below (s₁.setTop (mkF m 81 #[iv p0, iv p1, iv p2, iv p3, iv p4, iv (p4 &&& (3 : Int32)), iv (own_n p4 (2 : Int32)), iv (own_n p4 (4 : Int32)), iv (own_n p4 (6 : Int32)), iv (own_n p4 (8 : Int32)), iv p1, iv p2, .unset, .unset, .unset, .unset, .unset, .unset, .unset] [(.int (((p4.toUInt32 >>> ((12 : Int32) &&& 31).toUInt32).toInt32) &&& (1 : Int32)))])) _
            refine XS.ifNo X0.here hx rfl (hb hby at_81) rfl ((if0 _ _).trans (feq hc81).1) ?_
            show Steps p.tables e below (s₁.setTop (mkF m 84 #[iv p0, iv p1, iv p2, iv p3, iv p4, iv (p4 &&& (3 : Int32)), iv (own_n p4 (2 : Int32)), iv (own_n p4 (4 : Int32)), iv (own_n p4 (6 : Int32)), iv (own_n p4 (8 : Int32)), iv p1, iv p2, .unset, .unset, .unset, .unset, .unset, .unset, .unset] [])) _
            refine XS.iloadN X0.here hx rfl (hb hby at_84) rfl ?_
            show Steps p.tables e below (s₁.setTop (mkF m 85 #[iv p0, iv p1, iv p2, iv p3, iv p4, iv (p4 &&& (3 : Int32)), iv (own_n p4 (2 : Int32)), iv (own_n p4 (4 : Int32)), iv (own_n p4 (6 : Int32)), iv (own_n p4 (8 : Int32)), iv p1, iv p2, .unset, .unset, .unset, .unset, .unset, .unset, .unset] [(.int p0)])) _
            refine XS.goto X0.here hx rfl (pc0 := 85) (pc' := 89) rfl (hb hby at_85) (by decide) (by decide) ?_
            show Steps p.tables e below (s₁.setTop (mkF m 89 #[iv p0, iv p1, iv p2, iv p3, iv p4, iv (p4 &&& (3 : Int32)), iv (own_n p4 (2 : Int32)), iv (own_n p4 (4 : Int32)), iv (own_n p4 (6 : Int32)), iv (own_n p4 (8 : Int32)), iv p1, iv p2, .unset, .unset, .unset, .unset, .unset, .unset, .unset] [(.int p0)])) _
            refine XS.istore X0.here hx rfl (hb hby at_89) rfl (l' := #[iv p0, iv p1, iv p2, iv p3, iv p4, iv (p4 &&& (3 : Int32)), iv (own_n p4 (2 : Int32)), iv (own_n p4 (4 : Int32)), iv (own_n p4 (6 : Int32)), iv (own_n p4 (8 : Int32)), iv p1, iv p2, iv p0, .unset, .unset, .unset, .unset, .unset, .unset]) rfl ?_
            exact k
          exact ⟨p1, p2, p0, (own_n p4 (2 : Int32)), (own_n p4 (4 : Int32)), (own_n p4 (6 : Int32)), (own_n p4 (8 : Int32)), s₁, X0, e0, pre424, (own_l4 _), (own_l4 _), (own_l4 _), (own_l4 _)⟩
      · have pre425 : ∀ t, Steps p.tables e below (s₁.setTop (mkF m 81 #[iv p0, iv p1, iv p2, iv p3, iv p4, iv (p4 &&& (3 : Int32)), iv (own_n p4 (2 : Int32)), iv (own_n p4 (4 : Int32)), iv (own_n p4 (6 : Int32)), iv (own_n p4 (8 : Int32)), iv p1, iv p0, .unset, .unset, .unset, .unset, .unset, .unset, .unset] [(.int (((p4.toUInt32 >>> ((12 : Int32) &&& 31).toUInt32).toInt32) &&& (1 : Int32)))])) t → Steps p.tables e below (s₁.setTop (entryFrame m #[(.int p0), (.int p1), (.int p2), (.int p3), (.int p4)] maxLocals)) t := fun t k => by
          refine pre421 _ ?_
          show Steps p.tables e below (s₁.setTop (mkF m 64 #[iv p0, iv p1, iv p2, iv p3, iv p4, iv (p4 &&& (3 : Int32)), iv (own_n p4 (2 : Int32)), iv (own_n p4 (4 : Int32)), iv (own_n p4 (6 : Int32)), iv (own_n p4 (8 : Int32)), iv p1, .unset, .unset, .unset, .unset, .unset, .unset, .unset, .unset] [(.int (((p4.toUInt32 >>> ((11 : Int32) &&& 31).toUInt32).toInt32) &&& (1 : Int32)))])) _
          refine XS.ifNo X0.here hx rfl (hb hby at_64) rfl ((if0 _ _).trans (feq hc64).1) ?_
          show Steps p.tables e below (s₁.setTop (mkF m 67 #[iv p0, iv p1, iv p2, iv p3, iv p4, iv (p4 &&& (3 : Int32)), iv (own_n p4 (2 : Int32)), iv (own_n p4 (4 : Int32)), iv (own_n p4 (6 : Int32)), iv (own_n p4 (8 : Int32)), iv p1, .unset, .unset, .unset, .unset, .unset, .unset, .unset, .unset] [])) _
          refine XS.iloadN X0.here hx rfl (hb hby at_67) rfl ?_
          show Steps p.tables e below (s₁.setTop (mkF m 68 #[iv p0, iv p1, iv p2, iv p3, iv p4, iv (p4 &&& (3 : Int32)), iv (own_n p4 (2 : Int32)), iv (own_n p4 (4 : Int32)), iv (own_n p4 (6 : Int32)), iv (own_n p4 (8 : Int32)), iv p1, .unset, .unset, .unset, .unset, .unset, .unset, .unset, .unset] [(.int p0)])) _
          refine XS.goto X0.here hx rfl (pc0 := 68) (pc' := 72) rfl (hb hby at_68) (by decide) (by decide) ?_
          show Steps p.tables e below (s₁.setTop (mkF m 72 #[iv p0, iv p1, iv p2, iv p3, iv p4, iv (p4 &&& (3 : Int32)), iv (own_n p4 (2 : Int32)), iv (own_n p4 (4 : Int32)), iv (own_n p4 (6 : Int32)), iv (own_n p4 (8 : Int32)), iv p1, .unset, .unset, .unset, .unset, .unset, .unset, .unset, .unset] [(.int p0)])) _
          refine XS.istore X0.here hx rfl (hb hby at_72) rfl (l' := #[iv p0, iv p1, iv p2, iv p3, iv p4, iv (p4 &&& (3 : Int32)), iv (own_n p4 (2 : Int32)), iv (own_n p4 (4 : Int32)), iv (own_n p4 (6 : Int32)), iv (own_n p4 (8 : Int32)), iv p1, iv p0, .unset, .unset, .unset, .unset, .unset, .unset, .unset]) rfl ?_
          show Steps p.tables e below (s₁.setTop (mkF m 74 #[iv p0, iv p1, iv p2, iv p3, iv p4, iv (p4 &&& (3 : Int32)), iv (own_n p4 (2 : Int32)), iv (own_n p4 (4 : Int32)), iv (own_n p4 (6 : Int32)), iv (own_n p4 (8 : Int32)), iv p1, iv p0, .unset, .unset, .unset, .unset, .unset, .unset, .unset] [])) _
          refine XS.iload X0.here hx rfl (hb hby at_74) rfl ?_
          show Steps p.tables e below (s₁.setTop (mkF m 76 #[iv p0, iv p1, iv p2, iv p3, iv p4, iv (p4 &&& (3 : Int32)), iv (own_n p4 (2 : Int32)), iv (own_n p4 (4 : Int32)), iv (own_n p4 (6 : Int32)), iv (own_n p4 (8 : Int32)), iv p1, iv p0, .unset, .unset, .unset, .unset, .unset, .unset, .unset] [(.int p4)])) _
          refine XS.bipush X0.here hx rfl (hb hby at_76) ?_
          show Steps p.tables e below (s₁.setTop (mkF m 78 #[iv p0, iv p1, iv p2, iv p3, iv p4, iv (p4 &&& (3 : Int32)), iv (own_n p4 (2 : Int32)), iv (own_n p4 (4 : Int32)), iv (own_n p4 (6 : Int32)), iv (own_n p4 (8 : Int32)), iv p1, iv p0, .unset, .unset, .unset, .unset, .unset, .unset, .unset] [(.int (12 : Int32)), (.int p4)])) _
          refine XS.iushr X0.here hx rfl (hb hby at_78) rfl ?_
          show Steps p.tables e below (s₁.setTop (mkF m 79 #[iv p0, iv p1, iv p2, iv p3, iv p4, iv (p4 &&& (3 : Int32)), iv (own_n p4 (2 : Int32)), iv (own_n p4 (4 : Int32)), iv (own_n p4 (6 : Int32)), iv (own_n p4 (8 : Int32)), iv p1, iv p0, .unset, .unset, .unset, .unset, .unset, .unset, .unset] [(.int ((p4.toUInt32 >>> ((12 : Int32) &&& 31).toUInt32).toInt32))])) _
          refine XS.iconst X0.here hx rfl (hb hby at_79) ?_
          show Steps p.tables e below (s₁.setTop (mkF m 80 #[iv p0, iv p1, iv p2, iv p3, iv p4, iv (p4 &&& (3 : Int32)), iv (own_n p4 (2 : Int32)), iv (own_n p4 (4 : Int32)), iv (own_n p4 (6 : Int32)), iv (own_n p4 (8 : Int32)), iv p1, iv p0, .unset, .unset, .unset, .unset, .unset, .unset, .unset] [(.int (1 : Int32)), (.int ((p4.toUInt32 >>> ((12 : Int32) &&& 31).toUInt32).toInt32))])) _
          refine XS.iand X0.here hx rfl (hb hby at_80) rfl ?_
          exact k
        by_cases hc81 : (((p4.toUInt32 >>> ((12 : Int32) &&& 31).toUInt32).toInt32) &&& (1 : Int32)) = (0 : Int32)
        · have pre426 : ∀ t, Steps p.tables e below (s₁.setTop (mkF m 91 #[iv p0, iv p1, iv p2, iv p3, iv p4, iv (p4 &&& (3 : Int32)), iv (own_n p4 (2 : Int32)), iv (own_n p4 (4 : Int32)), iv (own_n p4 (6 : Int32)), iv (own_n p4 (8 : Int32)), iv p1, iv p0, iv p3, .unset, .unset, .unset, .unset, .unset, .unset] [])) t → Steps p.tables e below (s₁.setTop (entryFrame m #[(.int p0), (.int p1), (.int p2), (.int p3), (.int p4)] maxLocals)) t := fun t k => by
            refine pre425 _ ?_
            show Steps p.tables e below (s₁.setTop (mkF m 81 #[iv p0, iv p1, iv p2, iv p3, iv p4, iv (p4 &&& (3 : Int32)), iv (own_n p4 (2 : Int32)), iv (own_n p4 (4 : Int32)), iv (own_n p4 (6 : Int32)), iv (own_n p4 (8 : Int32)), iv p1, iv p0, .unset, .unset, .unset, .unset, .unset, .unset, .unset] [(.int (((p4.toUInt32 >>> ((12 : Int32) &&& 31).toUInt32).toInt32) &&& (1 : Int32)))])) _
            refine XS.ifYes X0.here hx rfl (pc0 := 81) (pc' := 88) rfl (hb hby at_81) rfl ((if0 _ _).trans (teq hc81).1) (by decide) (by decide) ?_
            show Steps p.tables e below (s₁.setTop (mkF m 88 #[iv p0, iv p1, iv p2, iv p3, iv p4, iv (p4 &&& (3 : Int32)), iv (own_n p4 (2 : Int32)), iv (own_n p4 (4 : Int32)), iv (own_n p4 (6 : Int32)), iv (own_n p4 (8 : Int32)), iv p1, iv p0, .unset, .unset, .unset, .unset, .unset, .unset, .unset] [])) _
            refine XS.iloadN X0.here hx rfl (hb hby at_88) rfl ?_
            show Steps p.tables e below (s₁.setTop (mkF m 89 #[iv p0, iv p1, iv p2, iv p3, iv p4, iv (p4 &&& (3 : Int32)), iv (own_n p4 (2 : Int32)), iv (own_n p4 (4 : Int32)), iv (own_n p4 (6 : Int32)), iv (own_n p4 (8 : Int32)), iv p1, iv p0, .unset, .unset, .unset, .unset, .unset, .unset, .unset] [(.int p3)])) _
            refine XS.istore X0.here hx rfl (hb hby at_89) rfl (l' := #[iv p0, iv p1, iv p2, iv p3, iv p4, iv (p4 &&& (3 : Int32)), iv (own_n p4 (2 : Int32)), iv (own_n p4 (4 : Int32)), iv (own_n p4 (6 : Int32)), iv (own_n p4 (8 : Int32)), iv p1, iv p0, iv p3, .unset, .unset, .unset, .unset, .unset, .unset]) rfl ?_
            exact k
          exact ⟨p1, p0, p3, (own_n p4 (2 : Int32)), (own_n p4 (4 : Int32)), (own_n p4 (6 : Int32)), (own_n p4 (8 : Int32)), s₁, X0, e0, pre426, (own_l4 _), (own_l4 _), (own_l4 _), (own_l4 _)⟩
        · have pre427 : ∀ t, Steps p.tables e below (s₁.setTop (mkF m 91 #[iv p0, iv p1, iv p2, iv p3, iv p4, iv (p4 &&& (3 : Int32)), iv (own_n p4 (2 : Int32)), iv (own_n p4 (4 : Int32)), iv (own_n p4 (6 : Int32)), iv (own_n p4 (8 : Int32)), iv p1, iv p0, iv p0, .unset, .unset, .unset, .unset, .unset, .unset] [])) t → Steps p.tables e below (s₁.setTop (entryFrame m #[(.int p0), (.int p1), (.int p2), (.int p3), (.int p4)] maxLocals)) t := fun t k => by
            refine pre425 _ ?_
            show Steps p.tables e below (s₁.setTop (mkF m 81 #[iv p0, iv p1, iv p2, iv p3, iv p4, iv (p4 &&& (3 : Int32)), iv (own_n p4 (2 : Int32)), iv (own_n p4 (4 : Int32)), iv (own_n p4 (6 : Int32)), iv (own_n p4 (8 : Int32)), iv p1, iv p0, .unset, .unset, .unset, .unset, .unset, .unset, .unset] [(.int (((p4.toUInt32 >>> ((12 : Int32) &&& 31).toUInt32).toInt32) &&& (1 : Int32)))])) _
            refine XS.ifNo X0.here hx rfl (hb hby at_81) rfl ((if0 _ _).trans (feq hc81).1) ?_
            show Steps p.tables e below (s₁.setTop (mkF m 84 #[iv p0, iv p1, iv p2, iv p3, iv p4, iv (p4 &&& (3 : Int32)), iv (own_n p4 (2 : Int32)), iv (own_n p4 (4 : Int32)), iv (own_n p4 (6 : Int32)), iv (own_n p4 (8 : Int32)), iv p1, iv p0, .unset, .unset, .unset, .unset, .unset, .unset, .unset] [])) _
            refine XS.iloadN X0.here hx rfl (hb hby at_84) rfl ?_
            show Steps p.tables e below (s₁.setTop (mkF m 85 #[iv p0, iv p1, iv p2, iv p3, iv p4, iv (p4 &&& (3 : Int32)), iv (own_n p4 (2 : Int32)), iv (own_n p4 (4 : Int32)), iv (own_n p4 (6 : Int32)), iv (own_n p4 (8 : Int32)), iv p1, iv p0, .unset, .unset, .unset, .unset, .unset, .unset, .unset] [(.int p0)])) _
            refine XS.goto X0.here hx rfl (pc0 := 85) (pc' := 89) rfl (hb hby at_85) (by decide) (by decide) ?_
            show Steps p.tables e below (s₁.setTop (mkF m 89 #[iv p0, iv p1, iv p2, iv p3, iv p4, iv (p4 &&& (3 : Int32)), iv (own_n p4 (2 : Int32)), iv (own_n p4 (4 : Int32)), iv (own_n p4 (6 : Int32)), iv (own_n p4 (8 : Int32)), iv p1, iv p0, .unset, .unset, .unset, .unset, .unset, .unset, .unset] [(.int p0)])) _
            refine XS.istore X0.here hx rfl (hb hby at_89) rfl (l' := #[iv p0, iv p1, iv p2, iv p3, iv p4, iv (p4 &&& (3 : Int32)), iv (own_n p4 (2 : Int32)), iv (own_n p4 (4 : Int32)), iv (own_n p4 (6 : Int32)), iv (own_n p4 (8 : Int32)), iv p1, iv p0, iv p0, .unset, .unset, .unset, .unset, .unset, .unset]) rfl ?_
            exact k
          exact ⟨p1, p0, p0, (own_n p4 (2 : Int32)), (own_n p4 (4 : Int32)), (own_n p4 (6 : Int32)), (own_n p4 (8 : Int32)), s₁, X0, e0, pre427, (own_l4 _), (own_l4 _), (own_l4 _), (own_l4 _)⟩
    · have pre428 : ∀ t, Steps p.tables e below (s₁.setTop (mkF m 64 #[iv p0, iv p1, iv p2, iv p3, iv p4, iv (p4 &&& (3 : Int32)), iv (own_n p4 (2 : Int32)), iv (own_n p4 (4 : Int32)), iv (own_n p4 (6 : Int32)), iv (own_n p4 (8 : Int32)), iv p0, .unset, .unset, .unset, .unset, .unset, .unset, .unset, .unset] [(.int (((p4.toUInt32 >>> ((11 : Int32) &&& 31).toUInt32).toInt32) &&& (1 : Int32)))])) t → Steps p.tables e below (s₁.setTop (entryFrame m #[(.int p0), (.int p1), (.int p2), (.int p3), (.int p4)] maxLocals)) t := fun t k => by
        refine pre420 _ ?_
        show Steps p.tables e below (s₁.setTop (mkF m 47 #[iv p0, iv p1, iv p2, iv p3, iv p4, iv (p4 &&& (3 : Int32)), iv (own_n p4 (2 : Int32)), iv (own_n p4 (4 : Int32)), iv (own_n p4 (6 : Int32)), iv (own_n p4 (8 : Int32)), .unset, .unset, .unset, .unset, .unset, .unset, .unset, .unset, .unset] [(.int (((p4.toUInt32 >>> ((10 : Int32) &&& 31).toUInt32).toInt32) &&& (1 : Int32)))])) _
        refine XS.ifNo X0.here hx rfl (hb hby at_47) rfl ((if0 _ _).trans (feq hc47).1) ?_
        show Steps p.tables e below (s₁.setTop (mkF m 50 #[iv p0, iv p1, iv p2, iv p3, iv p4, iv (p4 &&& (3 : Int32)), iv (own_n p4 (2 : Int32)), iv (own_n p4 (4 : Int32)), iv (own_n p4 (6 : Int32)), iv (own_n p4 (8 : Int32)), .unset, .unset, .unset, .unset, .unset, .unset, .unset, .unset, .unset] [])) _
        refine XS.iloadN X0.here hx rfl (hb hby at_50) rfl ?_
        show Steps p.tables e below (s₁.setTop (mkF m 51 #[iv p0, iv p1, iv p2, iv p3, iv p4, iv (p4 &&& (3 : Int32)), iv (own_n p4 (2 : Int32)), iv (own_n p4 (4 : Int32)), iv (own_n p4 (6 : Int32)), iv (own_n p4 (8 : Int32)), .unset, .unset, .unset, .unset, .unset, .unset, .unset, .unset, .unset] [(.int p0)])) _
        refine XS.goto X0.here hx rfl (pc0 := 51) (pc' := 55) rfl (hb hby at_51) (by decide) (by decide) ?_
        show Steps p.tables e below (s₁.setTop (mkF m 55 #[iv p0, iv p1, iv p2, iv p3, iv p4, iv (p4 &&& (3 : Int32)), iv (own_n p4 (2 : Int32)), iv (own_n p4 (4 : Int32)), iv (own_n p4 (6 : Int32)), iv (own_n p4 (8 : Int32)), .unset, .unset, .unset, .unset, .unset, .unset, .unset, .unset, .unset] [(.int p0)])) _
        refine XS.istore X0.here hx rfl (hb hby at_55) rfl (l' := #[iv p0, iv p1, iv p2, iv p3, iv p4, iv (p4 &&& (3 : Int32)), iv (own_n p4 (2 : Int32)), iv (own_n p4 (4 : Int32)), iv (own_n p4 (6 : Int32)), iv (own_n p4 (8 : Int32)), iv p0, .unset, .unset, .unset, .unset, .unset, .unset, .unset, .unset]) rfl ?_
        show Steps p.tables e below (s₁.setTop (mkF m 57 #[iv p0, iv p1, iv p2, iv p3, iv p4, iv (p4 &&& (3 : Int32)), iv (own_n p4 (2 : Int32)), iv (own_n p4 (4 : Int32)), iv (own_n p4 (6 : Int32)), iv (own_n p4 (8 : Int32)), iv p0, .unset, .unset, .unset, .unset, .unset, .unset, .unset, .unset] [])) _
        refine XS.iload X0.here hx rfl (hb hby at_57) rfl ?_
        show Steps p.tables e below (s₁.setTop (mkF m 59 #[iv p0, iv p1, iv p2, iv p3, iv p4, iv (p4 &&& (3 : Int32)), iv (own_n p4 (2 : Int32)), iv (own_n p4 (4 : Int32)), iv (own_n p4 (6 : Int32)), iv (own_n p4 (8 : Int32)), iv p0, .unset, .unset, .unset, .unset, .unset, .unset, .unset, .unset] [(.int p4)])) _
        refine XS.bipush X0.here hx rfl (hb hby at_59) ?_
        show Steps p.tables e below (s₁.setTop (mkF m 61 #[iv p0, iv p1, iv p2, iv p3, iv p4, iv (p4 &&& (3 : Int32)), iv (own_n p4 (2 : Int32)), iv (own_n p4 (4 : Int32)), iv (own_n p4 (6 : Int32)), iv (own_n p4 (8 : Int32)), iv p0, .unset, .unset, .unset, .unset, .unset, .unset, .unset, .unset] [(.int (11 : Int32)), (.int p4)])) _
        refine XS.iushr X0.here hx rfl (hb hby at_61) rfl ?_
        show Steps p.tables e below (s₁.setTop (mkF m 62 #[iv p0, iv p1, iv p2, iv p3, iv p4, iv (p4 &&& (3 : Int32)), iv (own_n p4 (2 : Int32)), iv (own_n p4 (4 : Int32)), iv (own_n p4 (6 : Int32)), iv (own_n p4 (8 : Int32)), iv p0, .unset, .unset, .unset, .unset, .unset, .unset, .unset, .unset] [(.int ((p4.toUInt32 >>> ((11 : Int32) &&& 31).toUInt32).toInt32))])) _
        refine XS.iconst X0.here hx rfl (hb hby at_62) ?_
        show Steps p.tables e below (s₁.setTop (mkF m 63 #[iv p0, iv p1, iv p2, iv p3, iv p4, iv (p4 &&& (3 : Int32)), iv (own_n p4 (2 : Int32)), iv (own_n p4 (4 : Int32)), iv (own_n p4 (6 : Int32)), iv (own_n p4 (8 : Int32)), iv p0, .unset, .unset, .unset, .unset, .unset, .unset, .unset, .unset] [(.int (1 : Int32)), (.int ((p4.toUInt32 >>> ((11 : Int32) &&& 31).toUInt32).toInt32))])) _
        refine XS.iand X0.here hx rfl (hb hby at_63) rfl ?_
        exact k
      by_cases hc64 : (((p4.toUInt32 >>> ((11 : Int32) &&& 31).toUInt32).toInt32) &&& (1 : Int32)) = (0 : Int32)
      · have pre429 : ∀ t, Steps p.tables e below (s₁.setTop (mkF m 81 #[iv p0, iv p1, iv p2, iv p3, iv p4, iv (p4 &&& (3 : Int32)), iv (own_n p4 (2 : Int32)), iv (own_n p4 (4 : Int32)), iv (own_n p4 (6 : Int32)), iv (own_n p4 (8 : Int32)), iv p0, iv p2, .unset, .unset, .unset, .unset, .unset, .unset, .unset] [(.int (((p4.toUInt32 >>> ((12 : Int32) &&& 31).toUInt32).toInt32) &&& (1 : Int32)))])) t → Steps p.tables e below (s₁.setTop (entryFrame m #[(.int p0), (.int p1), (.int p2), (.int p3), (.int p4)] maxLocals)) t := fun t k => by
          refine pre428 _ ?_
          show Steps p.tables e below (s₁.setTop (mkF m 64 #[iv p0, iv p1, iv p2, iv p3, iv p4, iv (p4 &&& (3 : Int32)), iv (own_n p4 (2 : Int32)), iv (own_n p4 (4 : Int32)), iv (own_n p4 (6 : Int32)), iv (own_n p4 (8 : Int32)), iv p0, .unset, .unset, .unset, .unset, .unset, .unset, .unset, .unset] [(.int (((p4.toUInt32 >>> ((11 : Int32) &&& 31).toUInt32).toInt32) &&& (1 : Int32)))])) _
          refine XS.ifYes X0.here hx rfl (pc0 := 64) (pc' := 71) rfl (hb hby at_64) rfl ((if0 _ _).trans (teq hc64).1) (by decide) (by decide) ?_
          show Steps p.tables e below (s₁.setTop (mkF m 71 #[iv p0, iv p1, iv p2, iv p3, iv p4, iv (p4 &&& (3 : Int32)), iv (own_n p4 (2 : Int32)), iv (own_n p4 (4 : Int32)), iv (own_n p4 (6 : Int32)), iv (own_n p4 (8 : Int32)), iv p0, .unset, .unset, .unset, .unset, .unset, .unset, .unset, .unset] [])) _
          refine XS.iloadN X0.here hx rfl (hb hby at_71) rfl ?_
          show Steps p.tables e below (s₁.setTop (mkF m 72 #[iv p0, iv p1, iv p2, iv p3, iv p4, iv (p4 &&& (3 : Int32)), iv (own_n p4 (2 : Int32)), iv (own_n p4 (4 : Int32)), iv (own_n p4 (6 : Int32)), iv (own_n p4 (8 : Int32)), iv p0, .unset, .unset, .unset, .unset, .unset, .unset, .unset, .unset] [(.int p2)])) _
          refine XS.istore X0.here hx rfl (hb hby at_72) rfl (l' := #[iv p0, iv p1, iv p2, iv p3, iv p4, iv (p4 &&& (3 : Int32)), iv (own_n p4 (2 : Int32)), iv (own_n p4 (4 : Int32)), iv (own_n p4 (6 : Int32)), iv (own_n p4 (8 : Int32)), iv p0, iv p2, .unset, .unset, .unset, .unset, .unset, .unset, .unset]) rfl ?_
          show Steps p.tables e below (s₁.setTop (mkF m 74 #[iv p0, iv p1, iv p2, iv p3, iv p4, iv (p4 &&& (3 : Int32)), iv (own_n p4 (2 : Int32)), iv (own_n p4 (4 : Int32)), iv (own_n p4 (6 : Int32)), iv (own_n p4 (8 : Int32)), iv p0, iv p2, .unset, .unset, .unset, .unset, .unset, .unset, .unset] [])) _
          refine XS.iload X0.here hx rfl (hb hby at_74) rfl ?_
          show Steps p.tables e below (s₁.setTop (mkF m 76 #[iv p0, iv p1, iv p2, iv p3, iv p4, iv (p4 &&& (3 : Int32)), iv (own_n p4 (2 : Int32)), iv (own_n p4 (4 : Int32)), iv (own_n p4 (6 : Int32)), iv (own_n p4 (8 : Int32)), iv p0, iv p2, .unset, .unset, .unset, .unset, .unset, .unset, .unset] [(.int p4)])) _
          refine XS.bipush X0.here hx rfl (hb hby at_76) ?_
          show Steps p.tables e below (s₁.setTop (mkF m 78 #[iv p0, iv p1, iv p2, iv p3, iv p4, iv (p4 &&& (3 : Int32)), iv (own_n p4 (2 : Int32)), iv (own_n p4 (4 : Int32)), iv (own_n p4 (6 : Int32)), iv (own_n p4 (8 : Int32)), iv p0, iv p2, .unset, .unset, .unset, .unset, .unset, .unset, .unset] [(.int (12 : Int32)), (.int p4)])) _
          refine XS.iushr X0.here hx rfl (hb hby at_78) rfl ?_
          show Steps p.tables e below (s₁.setTop (mkF m 79 #[iv p0, iv p1, iv p2, iv p3, iv p4, iv (p4 &&& (3 : Int32)), iv (own_n p4 (2 : Int32)), iv (own_n p4 (4 : Int32)), iv (own_n p4 (6 : Int32)), iv (own_n p4 (8 : Int32)), iv p0, iv p2, .unset, .unset, .unset, .unset, .unset, .unset, .unset] [(.int ((p4.toUInt32 >>> ((12 : Int32) &&& 31).toUInt32).toInt32))])) _
          refine XS.iconst X0.here hx rfl (hb hby at_79) ?_
          show Steps p.tables e below (s₁.setTop (mkF m 80 #[iv p0, iv p1, iv p2, iv p3, iv p4, iv (p4 &&& (3 : Int32)), iv (own_n p4 (2 : Int32)), iv (own_n p4 (4 : Int32)), iv (own_n p4 (6 : Int32)), iv (own_n p4 (8 : Int32)), iv p0, iv p2, .unset, .unset, .unset, .unset, .unset, .unset, .unset] [(.int (1 : Int32)), (.int ((p4.toUInt32 >>> ((12 : Int32) &&& 31).toUInt32).toInt32))])) _
          refine XS.iand X0.here hx rfl (hb hby at_80) rfl ?_
          exact k
        by_cases hc81 : (((p4.toUInt32 >>> ((12 : Int32) &&& 31).toUInt32).toInt32) &&& (1 : Int32)) = (0 : Int32)
        · have pre430 : ∀ t, Steps p.tables e below (s₁.setTop (mkF m 91 #[iv p0, iv p1, iv p2, iv p3, iv p4, iv (p4 &&& (3 : Int32)), iv (own_n p4 (2 : Int32)), iv (own_n p4 (4 : Int32)), iv (own_n p4 (6 : Int32)), iv (own_n p4 (8 : Int32)), iv p0, iv p2, iv p3, .unset, .unset, .unset, .unset, .unset, .unset] [])) t → Steps p.tables e below (s₁.setTop (entryFrame m #[(.int p0), (.int p1), (.int p2), (.int p3), (.int p4)] maxLocals)) t := fun t k => by
            refine pre429 _ ?_
            show Steps p.tables e below (s₁.setTop (mkF m 81 #[iv p0, iv p1, iv p2, iv p3, iv p4, iv (p4 &&& (3 : Int32)), iv (own_n p4 (2 : Int32)), iv (own_n p4 (4 : Int32)), iv (own_n p4 (6 : Int32)), iv (own_n p4 (8 : Int32)), iv p0, iv p2, .unset, .unset, .unset, .unset, .unset, .unset, .unset] [(.int (((p4.toUInt32 >>> ((12 : Int32) &&& 31).toUInt32).toInt32) &&& (1 : Int32)))])) _
            refine XS.ifYes X0.here hx rfl (pc0 := 81) (pc' := 88) rfl (hb hby at_81) rfl ((if0 _ _).trans (teq hc81).1) (by decide) (by decide) ?_
            show Steps p.tables e below (s₁.setTop (mkF m 88 #[iv p0, iv p1, iv p2, iv p3, iv p4, iv (p4 &&& (3 : Int32)), iv (own_n p4 (2 : Int32)), iv (own_n p4 (4 : Int32)), iv (own_n p4 (6 : Int32)), iv (own_n p4 (8 : Int32)), iv p0, iv p2, .unset, .unset, .unset, .unset, .unset, .unset, .unset] [])) _
            refine XS.iloadN X0.here hx rfl (hb hby at_88) rfl ?_
            show Steps p.tables e below (s₁.setTop (mkF m 89 #[iv p0, iv p1, iv p2, iv p3, iv p4, iv (p4 &&& (3 : Int32)), iv (own_n p4 (2 : Int32)), iv (own_n p4 (4 : Int32)), iv (own_n p4 (6 : Int32)), iv (own_n p4 (8 : Int32)), iv p0, iv p2, .unset, .unset, .unset, .unset, .unset, .unset, .unset] [(.int p3)])) _
            refine XS.istore X0.here hx rfl (hb hby at_89) rfl (l' := #[iv p0, iv p1, iv p2, iv p3, iv p4, iv (p4 &&& (3 : Int32)), iv (own_n p4 (2 : Int32)), iv (own_n p4 (4 : Int32)), iv (own_n p4 (6 : Int32)), iv (own_n p4 (8 : Int32)), iv p0, iv p2, iv p3, .unset, .unset, .unset, .unset, .unset, .unset]) rfl ?_
            exact k
          exact ⟨p0, p2, p3, (own_n p4 (2 : Int32)), (own_n p4 (4 : Int32)), (own_n p4 (6 : Int32)), (own_n p4 (8 : Int32)), s₁, X0, e0, pre430, (own_l4 _), (own_l4 _), (own_l4 _), (own_l4 _)⟩
        · have pre431 : ∀ t, Steps p.tables e below (s₁.setTop (mkF m 91 #[iv p0, iv p1, iv p2, iv p3, iv p4, iv (p4 &&& (3 : Int32)), iv (own_n p4 (2 : Int32)), iv (own_n p4 (4 : Int32)), iv (own_n p4 (6 : Int32)), iv (own_n p4 (8 : Int32)), iv p0, iv p2, iv p0, .unset, .unset, .unset, .unset, .unset, .unset] [])) t → Steps p.tables e below (s₁.setTop (entryFrame m #[(.int p0), (.int p1), (.int p2), (.int p3), (.int p4)] maxLocals)) t := fun t k => by
            refine pre429 _ ?_
            show Steps p.tables e below (s₁.setTop (mkF m 81 #[iv p0, iv p1, iv p2, iv p3, iv p4, iv (p4 &&& (3 : Int32)), iv (own_n p4 (2 : Int32)), iv (own_n p4 (4 : Int32)), iv (own_n p4 (6 : Int32)), iv (own_n p4 (8 : Int32)), iv p0, iv p2, .unset, .unset, .unset, .unset, .unset, .unset, .unset] [(.int (((p4.toUInt32 >>> ((12 : Int32) &&& 31).toUInt32).toInt32) &&& (1 : Int32)))])) _
            refine XS.ifNo X0.here hx rfl (hb hby at_81) rfl ((if0 _ _).trans (feq hc81).1) ?_
            show Steps p.tables e below (s₁.setTop (mkF m 84 #[iv p0, iv p1, iv p2, iv p3, iv p4, iv (p4 &&& (3 : Int32)), iv (own_n p4 (2 : Int32)), iv (own_n p4 (4 : Int32)), iv (own_n p4 (6 : Int32)), iv (own_n p4 (8 : Int32)), iv p0, iv p2, .unset, .unset, .unset, .unset, .unset, .unset, .unset] [])) _
            refine XS.iloadN X0.here hx rfl (hb hby at_84) rfl ?_
            show Steps p.tables e below (s₁.setTop (mkF m 85 #[iv p0, iv p1, iv p2, iv p3, iv p4, iv (p4 &&& (3 : Int32)), iv (own_n p4 (2 : Int32)), iv (own_n p4 (4 : Int32)), iv (own_n p4 (6 : Int32)), iv (own_n p4 (8 : Int32)), iv p0, iv p2, .unset, .unset, .unset, .unset, .unset, .unset, .unset] [(.int p0)])) _
            refine XS.goto X0.here hx rfl (pc0 := 85) (pc' := 89) rfl (hb hby at_85) (by decide) (by decide) ?_
            show Steps p.tables e below (s₁.setTop (mkF m 89 #[iv p0, iv p1, iv p2, iv p3, iv p4, iv (p4 &&& (3 : Int32)), iv (own_n p4 (2 : Int32)), iv (own_n p4 (4 : Int32)), iv (own_n p4 (6 : Int32)), iv (own_n p4 (8 : Int32)), iv p0, iv p2, .unset, .unset, .unset, .unset, .unset, .unset, .unset] [(.int p0)])) _
            refine XS.istore X0.here hx rfl (hb hby at_89) rfl (l' := #[iv p0, iv p1, iv p2, iv p3, iv p4, iv (p4 &&& (3 : Int32)), iv (own_n p4 (2 : Int32)), iv (own_n p4 (4 : Int32)), iv (own_n p4 (6 : Int32)), iv (own_n p4 (8 : Int32)), iv p0, iv p2, iv p0, .unset, .unset, .unset, .unset, .unset, .unset]) rfl ?_
            exact k
          exact ⟨p0, p2, p0, (own_n p4 (2 : Int32)), (own_n p4 (4 : Int32)), (own_n p4 (6 : Int32)), (own_n p4 (8 : Int32)), s₁, X0, e0, pre431, (own_l4 _), (own_l4 _), (own_l4 _), (own_l4 _)⟩
      · have pre432 : ∀ t, Steps p.tables e below (s₁.setTop (mkF m 81 #[iv p0, iv p1, iv p2, iv p3, iv p4, iv (p4 &&& (3 : Int32)), iv (own_n p4 (2 : Int32)), iv (own_n p4 (4 : Int32)), iv (own_n p4 (6 : Int32)), iv (own_n p4 (8 : Int32)), iv p0, iv p0, .unset, .unset, .unset, .unset, .unset, .unset, .unset] [(.int (((p4.toUInt32 >>> ((12 : Int32) &&& 31).toUInt32).toInt32) &&& (1 : Int32)))])) t → Steps p.tables e below (s₁.setTop (entryFrame m #[(.int p0), (.int p1), (.int p2), (.int p3), (.int p4)] maxLocals)) t := fun t k => by
          refine pre428 _ ?_
          show Steps p.tables e below (s₁.setTop (mkF m 64 #[iv p0, iv p1, iv p2, iv p3, iv p4, iv (p4 &&& (3 : Int32)), iv (own_n p4 (2 : Int32)), iv (own_n p4 (4 : Int32)), iv (own_n p4 (6 : Int32)), iv (own_n p4 (8 : Int32)), iv p0, .unset, .unset, .unset, .unset, .unset, .unset, .unset, .unset] [(.int (((p4.toUInt32 >>> ((11 : Int32) &&& 31).toUInt32).toInt32) &&& (1 : Int32)))])) _
          refine XS.ifNo X0.here hx rfl (hb hby at_64) rfl ((if0 _ _).trans (feq hc64).1) ?_
          show Steps p.tables e below (s₁.setTop (mkF m 67 #[iv p0, iv p1, iv p2, iv p3, iv p4, iv (p4 &&& (3 : Int32)), iv (own_n p4 (2 : Int32)), iv (own_n p4 (4 : Int32)), iv (own_n p4 (6 : Int32)), iv (own_n p4 (8 : Int32)), iv p0, .unset, .unset, .unset, .unset, .unset, .unset, .unset, .unset] [])) _
          refine XS.iloadN X0.here hx rfl (hb hby at_67) rfl ?_
          show Steps p.tables e below (s₁.setTop (mkF m 68 #[iv p0, iv p1, iv p2, iv p3, iv p4, iv (p4 &&& (3 : Int32)), iv (own_n p4 (2 : Int32)), iv (own_n p4 (4 : Int32)), iv (own_n p4 (6 : Int32)), iv (own_n p4 (8 : Int32)), iv p0, .unset, .unset, .unset, .unset, .unset, .unset, .unset, .unset] [(.int p0)])) _
          refine XS.goto X0.here hx rfl (pc0 := 68) (pc' := 72) rfl (hb hby at_68) (by decide) (by decide) ?_
          show Steps p.tables e below (s₁.setTop (mkF m 72 #[iv p0, iv p1, iv p2, iv p3, iv p4, iv (p4 &&& (3 : Int32)), iv (own_n p4 (2 : Int32)), iv (own_n p4 (4 : Int32)), iv (own_n p4 (6 : Int32)), iv (own_n p4 (8 : Int32)), iv p0, .unset, .unset, .unset, .unset, .unset, .unset, .unset, .unset] [(.int p0)])) _
          refine XS.istore X0.here hx rfl (hb hby at_72) rfl (l' := #[iv p0, iv p1, iv p2, iv p3, iv p4, iv (p4 &&& (3 : Int32)), iv (own_n p4 (2 : Int32)), iv (own_n p4 (4 : Int32)), iv (own_n p4 (6 : Int32)), iv (own_n p4 (8 : Int32)), iv p0, iv p0, .unset, .unset, .unset, .unset, .unset, .unset, .unset]) rfl ?_
          show Steps p.tables e below (s₁.setTop (mkF m 74 #[iv p0, iv p1, iv p2, iv p3, iv p4, iv (p4 &&& (3 : Int32)), iv (own_n p4 (2 : Int32)), iv (own_n p4 (4 : Int32)), iv (own_n p4 (6 : Int32)), iv (own_n p4 (8 : Int32)), iv p0, iv p0, .unset, .unset, .unset, .unset, .unset, .unset, .unset] [])) _
          refine XS.iload X0.here hx rfl (hb hby at_74) rfl ?_
          show Steps p.tables e below (s₁.setTop (mkF m 76 #[iv p0, iv p1, iv p2, iv p3, iv p4, iv (p4 &&& (3 : Int32)), iv (own_n p4 (2 : Int32)), iv (own_n p4 (4 : Int32)), iv (own_n p4 (6 : Int32)), iv (own_n p4 (8 : Int32)), iv p0, iv p0, .unset, .unset, .unset, .unset, .unset, .unset, .unset] [(.int p4)])) _
          refine XS.bipush X0.here hx rfl (hb hby at_76) ?_
          show Steps p.tables e below (s₁.setTop (mkF m 78 #[iv p0, iv p1, iv p2, iv p3, iv p4, iv (p4 &&& (3 : Int32)), iv (own_n p4 (2 : Int32)), iv (own_n p4 (4 : Int32)), iv (own_n p4 (6 : Int32)), iv (own_n p4 (8 : Int32)), iv p0, iv p0, .unset, .unset, .unset, .unset, .unset, .unset, .unset] [(.int (12 : Int32)), (.int p4)])) _
          refine XS.iushr X0.here hx rfl (hb hby at_78) rfl ?_
          show Steps p.tables e below (s₁.setTop (mkF m 79 #[iv p0, iv p1, iv p2, iv p3, iv p4, iv (p4 &&& (3 : Int32)), iv (own_n p4 (2 : Int32)), iv (own_n p4 (4 : Int32)), iv (own_n p4 (6 : Int32)), iv (own_n p4 (8 : Int32)), iv p0, iv p0, .unset, .unset, .unset, .unset, .unset, .unset, .unset] [(.int ((p4.toUInt32 >>> ((12 : Int32) &&& 31).toUInt32).toInt32))])) _
          refine XS.iconst X0.here hx rfl (hb hby at_79) ?_
          show Steps p.tables e below (s₁.setTop (mkF m 80 #[iv p0, iv p1, iv p2, iv p3, iv p4, iv (p4 &&& (3 : Int32)), iv (own_n p4 (2 : Int32)), iv (own_n p4 (4 : Int32)), iv (own_n p4 (6 : Int32)), iv (own_n p4 (8 : Int32)), iv p0, iv p0, .unset, .unset, .unset, .unset, .unset, .unset, .unset] [(.int (1 : Int32)), (.int ((p4.toUInt32 >>> ((12 : Int32) &&& 31).toUInt32).toInt32))])) _
          refine XS.iand X0.here hx rfl (hb hby at_80) rfl ?_
          exact k
        by_cases hc81 : (((p4.toUInt32 >>> ((12 : Int32) &&& 31).toUInt32).toInt32) &&& (1 : Int32)) = (0 : Int32)
        · have pre433 : ∀ t, Steps p.tables e below (s₁.setTop (mkF m 91 #[iv p0, iv p1, iv p2, iv p3, iv p4, iv (p4 &&& (3 : Int32)), iv (own_n p4 (2 : Int32)), iv (own_n p4 (4 : Int32)), iv (own_n p4 (6 : Int32)), iv (own_n p4 (8 : Int32)), iv p0, iv p0, iv p3, .unset, .unset, .unset, .unset, .unset, .unset] [])) t → Steps p.tables e below (s₁.setTop (entryFrame m #[(.int p0), (.int p1), (.int p2), (.int p3), (.int p4)] maxLocals)) t := fun t k => by
            refine pre432 _ ?_
            show Steps p.tables e below (s₁.setTop (mkF m 81 #[iv p0, iv p1, iv p2, iv p3, iv p4, iv (p4 &&& (3 : Int32)), iv (own_n p4 (2 : Int32)), iv (own_n p4 (4 : Int32)), iv (own_n p4 (6 : Int32)), iv (own_n p4 (8 : Int32)), iv p0, iv p0, .unset, .unset, .unset, .unset, .unset, .unset, .unset] [(.int (((p4.toUInt32 >>> ((12 : Int32) &&& 31).toUInt32).toInt32) &&& (1 : Int32)))])) _
            refine XS.ifYes X0.here hx rfl (pc0 := 81) (pc' := 88) rfl (hb hby at_81) rfl ((if0 _ _).trans (teq hc81).1) (by decide) (by decide) ?_
            show Steps p.tables e below (s₁.setTop (mkF m 88 #[iv p0, iv p1, iv p2, iv p3, iv p4, iv (p4 &&& (3 : Int32)), iv (own_n p4 (2 : Int32)), iv (own_n p4 (4 : Int32)), iv (own_n p4 (6 : Int32)), iv (own_n p4 (8 : Int32)), iv p0, iv p0, .unset, .unset, .unset, .unset, .unset, .unset, .unset] [])) _
            refine XS.iloadN X0.here hx rfl (hb hby at_88) rfl ?_
            show Steps p.tables e below (s₁.setTop (mkF m 89 #[iv p0, iv p1, iv p2, iv p3, iv p4, iv (p4 &&& (3 : Int32)), iv (own_n p4 (2 : Int32)), iv (own_n p4 (4 : Int32)), iv (own_n p4 (6 : Int32)), iv (own_n p4 (8 : Int32)), iv p0, iv p0, .unset, .unset, .unset, .unset, .unset, .unset, .unset] [(.int p3)])) _
            refine XS.istore X0.here hx rfl (hb hby at_89) rfl (l' := #[iv p0, iv p1, iv p2, iv p3, iv p4, iv (p4 &&& (3 : Int32)), iv (own_n p4 (2 : Int32)), iv (own_n p4 (4 : Int32)), iv (own_n p4 (6 : Int32)), iv (own_n p4 (8 : Int32)), iv p0, iv p0, iv p3, .unset, .unset, .unset, .unset, .unset, .unset]) rfl ?_
            exact k
          exact ⟨p0, p0, p3, (own_n p4 (2 : Int32)), (own_n p4 (4 : Int32)), (own_n p4 (6 : Int32)), (own_n p4 (8 : Int32)), s₁, X0, e0, pre433, (own_l4 _), (own_l4 _), (own_l4 _), (own_l4 _)⟩
        · have pre434 : ∀ t, Steps p.tables e below (s₁.setTop (mkF m 91 #[iv p0, iv p1, iv p2, iv p3, iv p4, iv (p4 &&& (3 : Int32)), iv (own_n p4 (2 : Int32)), iv (own_n p4 (4 : Int32)), iv (own_n p4 (6 : Int32)), iv (own_n p4 (8 : Int32)), iv p0, iv p0, iv p0, .unset, .unset, .unset, .unset, .unset, .unset] [])) t → Steps p.tables e below (s₁.setTop (entryFrame m #[(.int p0), (.int p1), (.int p2), (.int p3), (.int p4)] maxLocals)) t := fun t k => by
            refine pre432 _ ?_
            show Steps p.tables e below (s₁.setTop (mkF m 81 #[iv p0, iv p1, iv p2, iv p3, iv p4, iv (p4 &&& (3 : Int32)), iv (own_n p4 (2 : Int32)), iv (own_n p4 (4 : Int32)), iv (own_n p4 (6 : Int32)), iv (own_n p4 (8 : Int32)), iv p0, iv p0, .unset, .unset, .unset, .unset, .unset, .unset, .unset] [(.int (((p4.toUInt32 >>> ((12 : Int32) &&& 31).toUInt32).toInt32) &&& (1 : Int32)))])) _
            refine XS.ifNo X0.here hx rfl (hb hby at_81) rfl ((if0 _ _).trans (feq hc81).1) ?_
            show Steps p.tables e below (s₁.setTop (mkF m 84 #[iv p0, iv p1, iv p2, iv p3, iv p4, iv (p4 &&& (3 : Int32)), iv (own_n p4 (2 : Int32)), iv (own_n p4 (4 : Int32)), iv (own_n p4 (6 : Int32)), iv (own_n p4 (8 : Int32)), iv p0, iv p0, .unset, .unset, .unset, .unset, .unset, .unset, .unset] [])) _
            refine XS.iloadN X0.here hx rfl (hb hby at_84) rfl ?_
            show Steps p.tables e below (s₁.setTop (mkF m 85 #[iv p0, iv p1, iv p2, iv p3, iv p4, iv (p4 &&& (3 : Int32)), iv (own_n p4 (2 : Int32)), iv (own_n p4 (4 : Int32)), iv (own_n p4 (6 : Int32)), iv (own_n p4 (8 : Int32)), iv p0, iv p0, .unset, .unset, .unset, .unset, .unset, .unset, .unset] [(.int p0)])) _
            refine XS.goto X0.here hx rfl (pc0 := 85) (pc' := 89) rfl (hb hby at_85) (by decide) (by decide) ?_
            show Steps p.tables e below (s₁.setTop (mkF m 89 #[iv p0, iv p1, iv p2, iv p3, iv p4, iv (p4 &&& (3 : Int32)), iv (own_n p4 (2 : Int32)), iv (own_n p4 (4 : Int32)), iv (own_n p4 (6 : Int32)), iv (own_n p4 (8 : Int32)), iv p0, iv p0, .unset, .unset, .unset, .unset, .unset, .unset, .unset] [(.int p0)])) _
            refine XS.istore X0.here hx rfl (hb hby at_89) rfl (l' := #[iv p0, iv p1, iv p2, iv p3, iv p4, iv (p4 &&& (3 : Int32)), iv (own_n p4 (2 : Int32)), iv (own_n p4 (4 : Int32)), iv (own_n p4 (6 : Int32)), iv (own_n p4 (8 : Int32)), iv p0, iv p0, iv p0, .unset, .unset, .unset, .unset, .unset, .unset]) rfl ?_
            exact k
          exact ⟨p0, p0, p0, (own_n p4 (2 : Int32)), (own_n p4 (4 : Int32)), (own_n p4 (6 : Int32)), (own_n p4 (8 : Int32)), s₁, X0, e0, pre434, (own_l4 _), (own_l4 _), (own_l4 _), (own_l4 _)⟩
set_option maxRecDepth 65536 in
set_option maxHeartbeats 40000000 in
theorem comes_1 {Post : Tables → Env → Array Value → State → Outcome → State → Prop} (hpost : ∀ tb e args s v u, (limb_1_1.after args s (.returned v) u = true ∧ limb_1_2.after args s (.returned v) u = true ∧ True) → ReturnedEndW s (.returned v) u (Jvm.fieldLocs frame_1_writes args s ++ Jvm.arrayLocs frame_1_arrays args s ++ Jvm.staticLocs frame_1_statics s) 40 1216 → Post tb e args s (.returned v) u) :
    ArmFor flags0 classFile x code maxLocals ret World_1 tables_1 room_1 Calls_1 rest_1 Pre_1 Post := by
  intro l hfl _ _ p e ha hc hk s m args below hf hA hF happ hP
  obtain ⟨hcalls, hrest, hpre⟩ := hP
  obtain ⟨-, -, -, hnamed, -, -, -, hat⟩ := (Spec.applies_iff hf).mp happ
  obtain ⟨hg, hn⟩ := and_e (Cond.before_iff.mp (show (Jvm.Cond.and given_1 narrow_1).before args s = true from hpre))
  obtain ⟨hcount, hg0⟩ := and_e hg
  obtain ⟨hi0, hg1⟩ := and_e hg0
  obtain ⟨hi1, hg2⟩ := and_e hg1
  obtain ⟨hi2, hg3⟩ := and_e hg2
  obtain ⟨hi3, hg4⟩ := and_e hg3
  have hi4 := hg4
  obtain ⟨w0, w1, w2, w3, w4, rfl⟩ : ∃ w0 w1 w2 w3 w4 : Value, args = #[w0, w1, w2, w3, w4] := by
    have hs : args.size = 5 := by simpa [Cond.value, given_1] using hcount
    obtain ⟨L⟩ := args
    match L, hs with
    | [w0, w1, w2, w3, w4], _ => exact ⟨w0, w1, w2, w3, w4, rfl⟩
  have hw := fun d (hd : d ∈ tables_1) => atoms_spec (ws := Jvm.Cond.code x code maxLocals ret :: tables_1) hat d (List.mem_cons_of_mem _ hd)
  have hfit : Fit s := fun {y c} hc i hi => by
    obtain ⟨ha, rfl⟩ := Array.getElem?_eq_some_iff.mp hc
    have q := List.all_eq_true.mp ((Array.all_eq_true_iff_forall_mem.mp hF) _ (Array.getElem_mem ha)) i (List.mem_range.mpr hi)
    simpa [Array.getElem?_eq_getElem hi] using q
  obtain ⟨hsets, hown0⟩ := atoms_of _ (rest_1_c_eq ▸ (show rest_1_c.before _ s = true from hrest))
  have hr0 := Cond.before_iff.mp hown0
  obtain ⟨i0, ei0⟩ := is_v hi0
  obtain rfl : w0 = (.int i0) := Option.some.inj ei0
  obtain ⟨i1, ei1⟩ := is_v hi1
  obtain rfl : w1 = (.int i1) := Option.some.inj ei1
  obtain ⟨i2, ei2⟩ := is_v hi2
  obtain rfl : w2 = (.int i2) := Option.some.inj ei2
  obtain ⟨i3, ei3⟩ := is_v hi3
  obtain rfl : w3 = (.int i3) := Option.some.inj ei3
  obtain ⟨i4, ei4⟩ := is_v hi4
  obtain rfl : w4 = (.int i4) := Option.some.inj ei4
  obtain ⟨cw, evw⟩ := is_v (Cond.before_iff.mp (hsets _ (List.mem_of_getElem? (i := 1) rfl)))
  have S_w : Sta s s.heap "java/lang/String" "COMPACT_STRINGS" "Z" (.int cw) := Sta.start evw (Or.inl (hsets _ (List.mem_of_getElem? (i := 0) rfl)))
  have hw0 := own_cs evw (Cond.before_iff.mp (hsets _ (List.mem_of_getElem? (i := 2) rfl)))
  have hCH : CHv s own_EL s.vm s.heap := CHv.start (own_hEL hw) (fun p hp => hcalls.1 p hp) (hsets _ (List.mem_of_getElem? (i := 2) rfl)) (hw _ (List.mem_of_getElem? (i := 7) rfl)) (hw _ (List.mem_of_getElem? (i := 6) rfl))
  obtain ⟨n, o, h1, h2, h3, _, L, rfl, ⟨rfl, N⟩, -, hq⟩ := rm0 l s _ hw tables_1 i0 i1 i2 i3 i4 cw s.heap s.heap.size (Nat.le_refl _) S_w hw0 p e ha hc hk s m _ below hf ((Spec.applies_iff_loose hf).mp happ).1 ⟨rfl, State.Warmed39.refl s, rfl, hCH⟩ trivial
  refine ⟨n, _, h1, h2, h3, hpost _ _ _ _ _ _ ⟨Cond.after_iff.mpr rfl, Cond.after_iff.mpr (eq_i res_at (Term.int_eval (1)) rfl), trivial⟩ ⟨hq.1, hq.2.1, hq.2.2.1, (hq.2.2.2.sift fun y hy => Or.inr (N y hy)).mono (by decide) (by decide)⟩⟩
theorem main_1_1 : Claimed_1_1 := comes_1 fun _ _ _ _ _ _ h hF => ⟨h.1, hF⟩
theorem main_1_2 : Claimed_1_2 := comes_1 fun _ _ _ _ _ _ h hF => ⟨h.2.1, hF⟩
end Jvm.Pilot.@@N@@
namespace Jvm.Pilot.@@N@@
open Jvm Jvm.ClassFile Sem Op Lib Jvm.Free Jvm.Stand Jvm.Pilot.@@N@@.Jvm.D
/-! MADE BY PROGRAM (witnessworld.py) out of the Statement's table words and the real class files: 22 classes; the members and pool entries that the words name. The judged class is class 1, her method 1. -/
namespace start1
open Jvm.ClassFile
def u (s : String) : CpInfo := .utf8 (stringToUtf16 s)
/-- a pool by its gaps: so many unusable entries, then the entry; so many at the end -/
def gap : Nat → List CpInfo → List CpInfo
  | 0, r => r
  | n + 1, r => .unusable :: gap n r
def poolList (es : List (Nat × CpInfo)) (last : Nat) : List CpInfo := es.foldr (fun e r => gap e.1 (e.2 :: r)) (gap last [])
def pool (es : List (Nat × CpInfo)) (last : Nat) : Array CpInfo := ⟨poolList es last⟩
def fileOf (pool : Array CpInfo) (this : Nat) (attrs : Array Attribute := #[]) (ms : Array MethodInfo := #[]) (fl : Nat := 33) (sup : Nat := 0) (ifs : Array Nat := #[]) (fds : Array FieldInfo := #[]) : ClassFile where
  minorVersion := 0
  majorVersion := 65
  constantPool := pool
  accessFlags := fl
  thisClass := this
  superClass := sup
  interfaces := ifs
  fields := fds
  methods := ms
  attributes := attrs
def plain (name : String) (sup : Option ClassId) : Class where
  name := name
  kind := .ordinary
  loader := none
  accessFlags := 33
  super := sup
  interfaces := #[]
  cf := none
  fields := #[]
  methods := #[]
  instanceTypes := #[]
  staticTypes := #[]
  resolved := #[]
  callSites := []
  init := .initialized
  statics := none
  mirror := none

def pool0 : Array CpInfo := pool [(5, u "<init>"), (0, u "()V"), (1, .class_ 10), (1, u "java/lang/Object")] 113

def k0c0 : Code := { maxStack := 0, maxLocals := 1, code := object_method_1_code, exceptionTable := #[], attributes := #[] }
def k0m0 : Method := { name := "<init>", desc := "()V", sig := { parameters := [], returnType := none }, accessFlags := 1, code := some k0c0 }
/-- java/lang/Object -/
def k0 : Class := { plain "java/lang/Object" none with
  accessFlags := 33
  interfaces := #[]
  cf := some (fileOf pool0 8 #[] #[{ accessFlags := 1, nameIndex := 5, descriptorIndex := 6, attributes := #[] }] 33 0 #[] #[])
  fields := #[]
  methods := #[k0m0]
  instanceTypes := #[]
  staticTypes := #[]
  resolved := Array.replicate 124 none
  statics := none }

def pool1 : Array CpInfo := pool [(2, .class_ 4), (1, u "java/lang/Object"), (0, u "<init>"), (0, u "()V"), (0, .methodref 8 9), (0, .class_ 10), (0, .nameAndType 11 12), (0, u "com/example/partybook/partybook/io/XmlInputIsOneOfPinLaw"), (0, u "mk"), (0, u "(II)Ljava/lang/String;"), (0, .class_ 14), (0, u "java/lang/String"), (0, .methodref 8 16), (0, .nameAndType 17 18), (0, u "same"), (0, u "(IIII)Z"), (0, .methodref 20 21), (0, .class_ 22), (0, .nameAndType 23 24), (0, u "com/example/partybook/partybook/io/XmlInput"), (0, u "isOneOf"), (0, u "(Ljava/lang/String;[Ljava/lang/String;)Z"), (0, .string 26), (0, u ""), (0, .methodref 13 28), (0, .nameAndType 29 30), (0, u "valueOf"), (0, u "(C)Ljava/lang/String;"), (0, .methodref 13 32), (0, .nameAndType 5 33), (0, u "([C)V"), (2, u "law"), (0, u "(IIIII)Z")] 5

def k1m0 : Method := { name := "<init>", desc := "()V", sig := { parameters := [], returnType := none }, accessFlags := 2, code := none }
def k1c1 : Code := { maxStack := 4, maxLocals := 19, code := code, exceptionTable := #[], attributes := #[] }
def k1m1 : Method := { name := "law", desc := "(IIIII)Z", sig := { parameters := [.int, .int, .int, .int, .int], returnType := some .boolean }, accessFlags := 9, code := some k1c1 }
def k1c2 : Code := { maxStack := 6, maxLocals := 5, code := method_3_code, exceptionTable := #[], attributes := #[] }
def k1m2 : Method := { name := "mk", desc := "(II)Ljava/lang/String;", sig := { parameters := [.int, .int], returnType := some (.object "java/lang/String") }, accessFlags := 10, code := some k1c2 }
def k1c3 : Code := { maxStack := 3, maxLocals := 4, code := method_4_code, exceptionTable := #[], attributes := #[] }
def k1m3 : Method := { name := "same", desc := "(IIII)Z", sig := { parameters := [.int, .int, .int, .int], returnType := some .boolean }, accessFlags := 10, code := some k1c3 }
/-- com/example/partybook/partybook/io/XmlInputIsOneOfPinLaw -/
def k1 : Class := { plain "com/example/partybook/partybook/io/XmlInputIsOneOfPinLaw" (some 0) with
  accessFlags := 49
  interfaces := #[]
  cf := some (fileOf pool1 8 #[] #[{ accessFlags := 2, nameIndex := 5, descriptorIndex := 6, attributes := #[] }, { accessFlags := 9, nameIndex := 36, descriptorIndex := 37, attributes := #[] }, { accessFlags := 10, nameIndex := 11, descriptorIndex := 12, attributes := #[] }, { accessFlags := 10, nameIndex := 17, descriptorIndex := 18, attributes := #[] }] 49 2 #[] #[])
  fields := #[]
  methods := #[k1m0, k1m1, k1m2, k1m3]
  instanceTypes := #[]
  staticTypes := #[]
  resolved := Array.replicate 43 none
  statics := none }

def pool2 : Array CpInfo := pool [(1, .class_ 2), (0, u "java/io/Serializable"), (0, .class_ 4), (0, u "java/lang/Object")] 2

/-- java/io/Serializable -/
def k2 : Class := { plain "java/io/Serializable" (some 0) with
  accessFlags := 1537
  interfaces := #[]
  cf := some (fileOf pool2 1 #[] #[] 1537 3 #[] #[])
  fields := #[]
  methods := #[]
  instanceTypes := #[]
  staticTypes := #[]
  resolved := Array.replicate 7 none
  statics := none }

def pool3 : Array CpInfo := pool [(1, .class_ 2), (0, u "java/lang/Comparable"), (0, .class_ 4), (0, u "java/lang/Object")] 7

/-- java/lang/Comparable -/
def k3 : Class := { plain "java/lang/Comparable" (some 0) with
  accessFlags := 1537
  interfaces := #[]
  cf := some (fileOf pool3 1 #[] #[] 1537 3 #[] #[])
  fields := #[]
  methods := #[]
  instanceTypes := #[]
  staticTypes := #[]
  resolved := Array.replicate 12 none
  statics := none }

def pool4 : Array CpInfo := pool [(2, .class_ 4), (1, u "java/lang/CharSequence"), (42, .class_ 48), (0, u "java/lang/CharSequence$1CodePointIterator"), (10, .class_ 60), (0, u "java/lang/CharSequence$1CharIterator"), (5, .class_ 67), (0, u "java/lang/Object")] 63

/-- java/lang/CharSequence -/
def k4 : Class := { plain "java/lang/CharSequence" (some 0) with
  accessFlags := 1537
  interfaces := #[]
  cf := some (fileOf pool4 2 #[.nestMembers #[47, 59]] #[] 1537 66 #[] #[])
  fields := #[]
  methods := #[]
  instanceTypes := #[]
  staticTypes := #[]
  resolved := Array.replicate 131 none
  statics := none }

def pool5 : Array CpInfo := pool [(1, .class_ 2), (0, u "java/lang/constant/Constable"), (0, .class_ 4), (0, u "java/lang/Object")] 6

/-- java/lang/constant/Constable -/
def k5 : Class := { plain "java/lang/constant/Constable" (some 0) with
  accessFlags := 1537
  interfaces := #[]
  cf := some (fileOf pool5 1 #[] #[] 1537 3 #[] #[])
  fields := #[]
  methods := #[]
  instanceTypes := #[]
  staticTypes := #[]
  resolved := Array.replicate 11 none
  statics := none }

def pool6 : Array CpInfo := pool [(1, .class_ 2), (0, u "java/lang/constant/ConstantDesc"), (0, .class_ 4), (0, u "java/lang/Object")] 32

/-- java/lang/constant/ConstantDesc -/
def k6 : Class := { plain "java/lang/constant/ConstantDesc" (some 0) with
  accessFlags := 1537
  interfaces := #[]
  cf := some (fileOf pool6 1 #[] #[] 1537 3 #[] #[])
  fields := #[]
  methods := #[]
  instanceTypes := #[]
  staticTypes := #[]
  resolved := Array.replicate 37 none
  statics := none }

def pool7 : Array CpInfo := pool [(1, .methodref 2 3), (0, .class_ 4), (0, .nameAndType 5 6), (0, u "java/lang/Object"), (0, u "<init>"), (0, u "()V"), (2, .fieldref 10 11), (0, .class_ 12), (0, .nameAndType 13 14), (0, u "java/lang/String"), (0, u "value"), (0, u "[B"), (0, .fieldref 10 16), (0, .nameAndType 17 18), (0, u "coder"), (0, u "B"), (2, u "hash"), (0, u "I"), (2, u "hashIsZero"), (0, u "Z"), (0, .methodref 10 28), (0, .nameAndType 5 29), (0, u "([CIILjava/lang/Void;)V"), (8, .fieldref 10 39), (0, .nameAndType 40 26), (0, u "COMPACT_STRINGS"), (1, .class_ 44), (1, u "java/lang/StringUTF16"), (0, u "compress"), (1, .methodref 42 48), (0, .nameAndType 49 50), (0, u "coderFromArrayLen"), (0, u "([BI)B"), (2, u "toBytes"), (53, .class_ 109), (1, u "java/lang/StringLatin1"), (67, .methodref 42 178), (0, .nameAndType 45 179), (0, u "([CII)[B"), (29, .methodref 10 210), (0, .nameAndType 5 211), (0, u "([BB)V"), (157, u "(C)Z"), (171, .methodref 107 542), (0, .nameAndType 543 544), (0, u "equals"), (0, u "([B[B)Z"), (28, u "(Ljava/lang/Object;)Z"), (1, .class_ 576), (0, u "java/lang/CharSequence"), (22, u "CASE_INSENSITIVE_ORDER"), (0, u "Ljava/util/Comparator;"), (181, u "valueOf"), (0, u "(C)Ljava/lang/String;"), (226, u "([C)V"), (4, .methodref 107 1016), (0, .nameAndType 1017 369), (0, u "canEncode"), (0, .methodref 107 1019), (0, .nameAndType 53 1020), (0, u "(C)[B"), (80, u "serialPersistentFields"), (0, u "[Ljava/io/ObjectStreamField;"), (0, .class_ 1104), (0, u "java/lang/String$CaseInsensitiveComparator"), (1, .class_ 1107), (0, u "java/io/Serializable"), (0, .class_ 1109), (0, u "java/lang/Comparable"), (0, .class_ 1111), (0, u "java/lang/constant/Constable"), (0, .class_ 1113), (0, u "java/lang/constant/ConstantDesc"), (2, u "serialVersionUID"), (0, u "J"), (3, u "REPL"), (0, u "C"), (2, u "LATIN1"), (1, u "UTF16")] 323

def k7m0 : Method := { name := "<init>", desc := "()V", sig := { parameters := [], returnType := none }, accessFlags := 1, code := none }
def k7c1 : Code := { maxStack := 5, maxLocals := 2, code := jdk_42_method_3_code, exceptionTable := #[], attributes := #[] }
def k7m1 : Method := { name := "<init>", desc := "([C)V", sig := { parameters := [(.array .char)], returnType := none }, accessFlags := 1, code := some k7c1 }
def k7c2 : Code := { maxStack := 2, maxLocals := 3, code := jdk_42_method_66_code, exceptionTable := #[], attributes := #[] }
def k7m2 : Method := { name := "equals", desc := "(Ljava/lang/Object;)Z", sig := { parameters := [(.object "java/lang/Object")], returnType := some .boolean }, accessFlags := 1, code := some k7c2 }
def k7c3 : Code := { maxStack := 4, maxLocals := 1, code := jdk_42_method_139_code, exceptionTable := #[], attributes := #[] }
def k7m3 : Method := { name := "valueOf", desc := "(C)Ljava/lang/String;", sig := { parameters := [.char], returnType := some (.object "java/lang/String") }, accessFlags := 9, code := some k7c3 }
def k7c4 : Code := { maxStack := 4, maxLocals := 6, code := jdk_42_method_149_code, exceptionTable := #[], attributes := #[] }
def k7m4 : Method := { name := "<init>", desc := "([CIILjava/lang/Void;)V", sig := { parameters := [(.array .char), .int, .int, (.object "java/lang/Void")], returnType := none }, accessFlags := 2, code := some k7c4 }
def k7c5 : Code := { maxStack := 2, maxLocals := 3, code := jdk_42_method_151_code, exceptionTable := #[], attributes := #[] }
def k7m5 : Method := { name := "<init>", desc := "([BB)V", sig := { parameters := [(.array .byte), .byte], returnType := none }, accessFlags := 0, code := some k7c5 }
/-- java/lang/String -/
def k7 : Class := { plain "java/lang/String" (some 0) with
  accessFlags := 49
  interfaces := #[2, 3, 4, 5, 6]
  cf := some (fileOf pool7 10 #[.nestMembers #[1103]] #[{ accessFlags := 1, nameIndex := 5, descriptorIndex := 6, attributes := #[] }, { accessFlags := 1, nameIndex := 5, descriptorIndex := 1010, attributes := #[] }, { accessFlags := 1, nameIndex := 543, descriptorIndex := 573, attributes := #[] }, { accessFlags := 9, nameIndex := 782, descriptorIndex := 783, attributes := #[] }, { accessFlags := 2, nameIndex := 5, descriptorIndex := 29, attributes := #[] }, { accessFlags := 0, nameIndex := 5, descriptorIndex := 211, attributes := #[] }] 49 2 #[1106, 1108, 575, 1110, 1112] #[{ accessFlags := 18, nameIndex := 13, descriptorIndex := 14, attributes := #[] }, { accessFlags := 18, nameIndex := 17, descriptorIndex := 18, attributes := #[] }, { accessFlags := 2, nameIndex := 21, descriptorIndex := 22, attributes := #[] }, { accessFlags := 2, nameIndex := 25, descriptorIndex := 26, attributes := #[] }, { accessFlags := 26, nameIndex := 1116, descriptorIndex := 1117, attributes := #[] }, { accessFlags := 24, nameIndex := 40, descriptorIndex := 26, attributes := #[] }, { accessFlags := 26, nameIndex := 1101, descriptorIndex := 1102, attributes := #[] }, { accessFlags := 26, nameIndex := 1121, descriptorIndex := 1122, attributes := #[] }, { accessFlags := 25, nameIndex := 599, descriptorIndex := 600, attributes := #[] }, { accessFlags := 24, nameIndex := 1125, descriptorIndex := 18, attributes := #[] }, { accessFlags := 24, nameIndex := 1127, descriptorIndex := 18, attributes := #[] }])
  fields := #[{ name := "value", type := (.array .byte), accessFlags := 18, slot := 0, constantValue := 0 }, { name := "coder", type := .byte, accessFlags := 18, slot := 1, constantValue := 0 }, { name := "hash", type := .int, accessFlags := 2, slot := 2, constantValue := 0 }, { name := "hashIsZero", type := .boolean, accessFlags := 2, slot := 3, constantValue := 0 }, { name := "serialVersionUID", type := .long, accessFlags := 26, slot := 0, constantValue := 0 }, { name := "COMPACT_STRINGS", type := .boolean, accessFlags := 24, slot := 1, constantValue := 0 }, { name := "serialPersistentFields", type := (.array (.object "java/io/ObjectStreamField")), accessFlags := 26, slot := 2, constantValue := 0 }, { name := "REPL", type := .char, accessFlags := 26, slot := 3, constantValue := 0 }, { name := "CASE_INSENSITIVE_ORDER", type := (.object "java/util/Comparator"), accessFlags := 25, slot := 4, constantValue := 0 }, { name := "LATIN1", type := .byte, accessFlags := 24, slot := 5, constantValue := 0 }, { name := "UTF16", type := .byte, accessFlags := 24, slot := 6, constantValue := 0 }]
  methods := #[k7m0, k7m1, k7m2, k7m3, k7m4, k7m5]
  instanceTypes := #[(.array .byte), .byte, .int, .boolean]
  staticTypes := #[.long, .boolean, (.array (.object "java/io/ObjectStreamField")), .char, (.object "java/util/Comparator"), .byte, .byte]
  resolved := Array.replicate 1451 none
  statics := some 0 }

def pool8 : Array CpInfo := pool [(1, .class_ 2), (0, u "java/lang/AutoCloseable"), (0, .class_ 4), (0, u "java/lang/Object")] 7

/-- java/lang/AutoCloseable -/
def k8 : Class := { plain "java/lang/AutoCloseable" (some 0) with
  accessFlags := 1537
  interfaces := #[]
  cf := some (fileOf pool8 1 #[] #[] 1537 3 #[] #[])
  fields := #[]
  methods := #[]
  instanceTypes := #[]
  staticTypes := #[]
  resolved := Array.replicate 12 none
  statics := none }

def pool9 : Array CpInfo := pool [(2, .class_ 4), (1, u "java/lang/Object"), (3, .class_ 10), (1, u "com/example/partybook/partybook/io/XmlInput"), (0, u "xml"), (0, u "Lcom/example/partybook/partybook/io/XmlParser;"), (25, .class_ 40), (1, u "com/example/partybook/partybook/io/XmlInput$1"), (56, .class_ 98), (0, u "java/lang/String"), (36, u "(Ljava/lang/Object;)Z"), (21, u "isOneOf"), (0, u "(Ljava/lang/String;[Ljava/lang/String;)Z"), (1, .methodref 97 161), (0, .nameAndType 162 135), (0, u "equals"), (61, .class_ 225), (0, u "java/lang/AutoCloseable")] 63

def k9c0 : Code := { maxStack := 2, maxLocals := 6, code := prog_38_method_21_code, exceptionTable := #[], attributes := #[] }
def k9m0 : Method := { name := "isOneOf", desc := "(Ljava/lang/String;[Ljava/lang/String;)Z", sig := { parameters := [(.object "java/lang/String"), (.array (.object "java/lang/String"))], returnType := some .boolean }, accessFlags := 136, code := some k9c0 }
/-- com/example/partybook/partybook/io/XmlInput -/
def k9 : Class := { plain "com/example/partybook/partybook/io/XmlInput" (some 0) with
  accessFlags := 48
  interfaces := #[8]
  cf := some (fileOf pool9 8 #[.nestMembers #[38]] #[{ accessFlags := 136, nameIndex := 157, descriptorIndex := 158, attributes := #[] }] 48 2 #[224] #[{ accessFlags := 18, nameIndex := 11, descriptorIndex := 12, attributes := #[] }])
  fields := #[{ name := "xml", type := (.object "com/example/partybook/partybook/io/XmlParser"), accessFlags := 18, slot := 0, constantValue := 0 }]
  methods := #[k9m0]
  instanceTypes := #[(.object "com/example/partybook/partybook/io/XmlParser")]
  staticTypes := #[]
  resolved := Array.replicate 289 none
  statics := none }

def pool10 : Array CpInfo := pool [(4, .class_ 6), (1, u "java/lang/Object"), (0, u "<init>"), (0, u "()V"), (5, .class_ 16), (1, u "java/lang/StringLatin1"), (73, u "canEncode"), (14, u "(C)Z"), (15, u "$assertionsDisabled"), (0, u "Z"), (98, .class_ 223), (1, u "java/lang/StringLatin1$LinesSpliterator"), (57, u "equals"), (0, u "([B[B)Z"), (97, u "toBytes"), (1, u "(C)[B"), (7, .class_ 391), (0, u "java/lang/StringLatin1$CharsSpliterator")] 3

def k10m0 : Method := { name := "<init>", desc := "()V", sig := { parameters := [], returnType := none }, accessFlags := 0, code := none }
def k10c1 : Code := { maxStack := 2, maxLocals := 1, code := jdk_43_method_3_code, exceptionTable := #[], attributes := #[] }
def k10m1 : Method := { name := "canEncode", desc := "(C)Z", sig := { parameters := [.char], returnType := some .boolean }, accessFlags := 9, code := some k10c1 }
def k10c2 : Code := { maxStack := 3, maxLocals := 3, code := jdk_43_method_13_code, exceptionTable := #[], attributes := #[] }
def k10m2 : Method := { name := "equals", desc := "([B[B)Z", sig := { parameters := [(.array .byte), (.array .byte)], returnType := some .boolean }, accessFlags := 9, code := some k10c2 }
def k10c3 : Code := { maxStack := 4, maxLocals := 1, code := jdk_43_method_46_code, exceptionTable := #[], attributes := #[] }
def k10m3 : Method := { name := "toBytes", desc := "(C)[B", sig := { parameters := [.char], returnType := some (.array .byte) }, accessFlags := 9, code := some k10c3 }
/-- java/lang/StringLatin1 -/
def k10 : Class := { plain "java/lang/StringLatin1" (some 0) with
  accessFlags := 48
  interfaces := #[]
  cf := some (fileOf pool10 14 #[.nestMembers #[390, 221]] #[{ accessFlags := 0, nameIndex := 7, descriptorIndex := 8, attributes := #[] }, { accessFlags := 9, nameIndex := 90, descriptorIndex := 105, attributes := #[] }, { accessFlags := 9, nameIndex := 281, descriptorIndex := 282, attributes := #[] }, { accessFlags := 9, nameIndex := 380, descriptorIndex := 382, attributes := #[] }] 48 4 #[] #[{ accessFlags := 4120, nameIndex := 121, descriptorIndex := 122, attributes := #[] }])
  fields := #[{ name := "$assertionsDisabled", type := .boolean, accessFlags := 4120, slot := 0, constantValue := 0 }]
  methods := #[k10m0, k10m1, k10m2, k10m3]
  instanceTypes := #[]
  staticTypes := #[.boolean]
  resolved := Array.replicate 395 none
  statics := none }

def pool11 : Array CpInfo := pool [(6, .class_ 8), (1, u "java/lang/Object"), (0, u "<init>"), (0, u "()V"), (1, .class_ 14), (1, u "java/lang/StringUTF16"), (31, u "$assertionsDisabled"), (0, u "Z"), (13, u "HI_BYTE_SHIFT"), (0, u "I"), (2, u "LO_BYTE_SHIFT"), (49, .methodref 12 116), (0, .nameAndType 117 118), (0, u "compress"), (0, u "([CI[BII)I"), (3, u "([CII)[B"), (138, u "coderFromArrayLen"), (0, u "([BI)B"), (106, .class_ 371), (1, u "java/lang/StringUTF16$LinesSpliterator"), (58, u "MAX_LENGTH"), (196, .class_ 628), (0, u "java/lang/StringUTF16$CodePointsSpliterator"), (0, .class_ 630), (0, u "java/lang/StringUTF16$CharsSpliterator")] 4

def k11m0 : Method := { name := "<init>", desc := "()V", sig := { parameters := [], returnType := none }, accessFlags := 0, code := none }
def k11c1 : Code := { maxStack := 2, maxLocals := 2, code := jdk_52_method_15_code, exceptionTable := #[], attributes := #[] }
def k11m1 : Method := { name := "coderFromArrayLen", desc := "([BI)B", sig := { parameters := [(.array .byte), .int], returnType := some .byte }, accessFlags := 8, code := some k11c1 }
def k11c2 : Code := { maxStack := 5, maxLocals := 6, code := jdk_52_method_16_code, exceptionTable := #[], attributes := #[] }
def k11m2 : Method := { name := "compress", desc := "([CII)[B", sig := { parameters := [(.array .char), .int, .int], returnType := some (.array .byte) }, accessFlags := 9, code := some k11c2 }
def k11c3 : Code := { maxStack := 3, maxLocals := 7, code := jdk_52_method_21_code, exceptionTable := #[], attributes := #[] }
def k11m3 : Method := { name := "compress", desc := "([CI[BII)I", sig := { parameters := [(.array .char), .int, (.array .byte), .int, .int], returnType := some .int }, accessFlags := 9, code := some k11c3 }
/-- java/lang/StringUTF16 -/
def k11 : Class := { plain "java/lang/StringUTF16" (some 0) with
  accessFlags := 48
  interfaces := #[]
  cf := some (fileOf pool11 12 #[.nestMembers #[627, 629, 369]] #[{ accessFlags := 0, nameIndex := 9, descriptorIndex := 10, attributes := #[] }, { accessFlags := 8, nameIndex := 261, descriptorIndex := 262, attributes := #[] }, { accessFlags := 9, nameIndex := 117, descriptorIndex := 122, attributes := #[] }, { accessFlags := 9, nameIndex := 117, descriptorIndex := 118, attributes := #[] }] 48 6 #[] #[{ accessFlags := 26, nameIndex := 61, descriptorIndex := 62, attributes := #[] }, { accessFlags := 26, nameIndex := 65, descriptorIndex := 62, attributes := #[] }, { accessFlags := 24, nameIndex := 430, descriptorIndex := 62, attributes := #[] }, { accessFlags := 4120, nameIndex := 46, descriptorIndex := 47, attributes := #[] }])
  fields := #[{ name := "HI_BYTE_SHIFT", type := .int, accessFlags := 26, slot := 0, constantValue := 0 }, { name := "LO_BYTE_SHIFT", type := .int, accessFlags := 26, slot := 1, constantValue := 0 }, { name := "MAX_LENGTH", type := .int, accessFlags := 24, slot := 2, constantValue := 0 }, { name := "$assertionsDisabled", type := .boolean, accessFlags := 4120, slot := 3, constantValue := 0 }]
  methods := #[k11m0, k11m1, k11m2, k11m3]
  instanceTypes := #[]
  staticTypes := #[.int, .int, .int, .boolean]
  resolved := Array.replicate 635 none
  statics := none }

def pool12 : Array CpInfo := pool [(2, .class_ 4), (1, u "java/lang/Object"), (0, u "<init>"), (0, u "()V"), (17, .class_ 26), (1, u "jdk/internal/util/Preconditions"), (28, .class_ 56), (0, u "jdk/internal/util/Preconditions$4"), (57, .class_ 115), (0, u "jdk/internal/util/Preconditions$1"), (7, u "SIOOBE_FORMATTER"), (0, u "Ljava/util/function/BiFunction;"), (0, .class_ 126), (0, u "jdk/internal/util/Preconditions$2"), (3, u "AIOOBE_FORMATTER"), (0, .class_ 132), (0, u "jdk/internal/util/Preconditions$3"), (3, u "IOOBE_FORMATTER")] 57

def k12m0 : Method := { name := "<init>", desc := "()V", sig := { parameters := [], returnType := none }, accessFlags := 1, code := none }
/-- jdk/internal/util/Preconditions -/
def k12 : Class := { plain "jdk/internal/util/Preconditions" (some 0) with
  accessFlags := 33
  interfaces := #[]
  cf := some (fileOf pool12 24 #[.nestMembers #[55, 131, 125, 114]] #[{ accessFlags := 1, nameIndex := 5, descriptorIndex := 6, attributes := #[] }] 33 2 #[] #[{ accessFlags := 25, nameIndex := 123, descriptorIndex := 124, attributes := #[] }, { accessFlags := 25, nameIndex := 130, descriptorIndex := 124, attributes := #[] }, { accessFlags := 25, nameIndex := 136, descriptorIndex := 124, attributes := #[] }])
  fields := #[{ name := "SIOOBE_FORMATTER", type := (.object "java/util/function/BiFunction"), accessFlags := 25, slot := 0, constantValue := 0 }, { name := "AIOOBE_FORMATTER", type := (.object "java/util/function/BiFunction"), accessFlags := 25, slot := 1, constantValue := 0 }, { name := "IOOBE_FORMATTER", type := (.object "java/util/function/BiFunction"), accessFlags := 25, slot := 2, constantValue := 0 }]
  methods := #[k12m0]
  instanceTypes := #[]
  staticTypes := #[(.object "java/util/function/BiFunction"), (.object "java/util/function/BiFunction"), (.object "java/util/function/BiFunction")]
  resolved := Array.replicate 194 none
  statics := some 1 }

def pool13 : Array CpInfo := pool [(9, u "<init>"), (6, .class_ 18), (1, u "java/lang/Object"), (0, u "()V"), (1, .class_ 23), (1, u "jdk/internal/util/ArraysSupport"), (0, u "LOG2_ARRAY_LONG_INDEX_SCALE"), (0, u "I"), (2, u "U"), (0, u "Ljdk/internal/misc/Unsafe;"), (8, u "BIG_ENDIAN"), (0, u "Z"), (8, u "LOG2_BYTE_BIT_SIZE"), (4, u "LOG2_ARRAY_INT_INDEX_SCALE"), (54, u "JLA"), (0, u "Ljdk/internal/access/JavaLangAccess;"), (11, u "LOG2_ARRAY_BOOLEAN_INDEX_SCALE"), (9, u "LOG2_ARRAY_BYTE_INDEX_SCALE"), (5, u "LOG2_ARRAY_CHAR_INDEX_SCALE"), (5, u "LOG2_ARRAY_SHORT_INDEX_SCALE"), (18, u "LOG2_ARRAY_FLOAT_INDEX_SCALE"), (24, u "LOG2_ARRAY_DOUBLE_INDEX_SCALE"), (89, u "T_BOOLEAN"), (2, u "T_CHAR"), (1, u "T_FLOAT"), (1, u "T_DOUBLE"), (1, u "T_BYTE"), (1, u "T_SHORT"), (1, u "T_INT"), (1, u "T_LONG"), (1, u "SOFT_MAX_ARRAY_LENGTH")] 83

def k13m0 : Method := { name := "<init>", desc := "()V", sig := { parameters := [], returnType := none }, accessFlags := 2, code := none }
/-- jdk/internal/util/ArraysSupport -/
def k13 : Class := { plain "jdk/internal/util/ArraysSupport" (some 0) with
  accessFlags := 33
  interfaces := #[]
  cf := some (fileOf pool13 21 #[] #[{ accessFlags := 2, nameIndex := 9, descriptorIndex := 19, attributes := #[] }] 33 16 #[] #[{ accessFlags := 24, nameIndex := 28, descriptorIndex := 29, attributes := #[] }, { accessFlags := 26, nameIndex := 38, descriptorIndex := 39, attributes := #[] }, { accessFlags := 25, nameIndex := 121, descriptorIndex := 25, attributes := #[] }, { accessFlags := 25, nameIndex := 131, descriptorIndex := 25, attributes := #[] }, { accessFlags := 25, nameIndex := 137, descriptorIndex := 25, attributes := #[] }, { accessFlags := 25, nameIndex := 143, descriptorIndex := 25, attributes := #[] }, { accessFlags := 25, nameIndex := 53, descriptorIndex := 25, attributes := #[] }, { accessFlags := 25, nameIndex := 24, descriptorIndex := 25, attributes := #[] }, { accessFlags := 25, nameIndex := 162, descriptorIndex := 25, attributes := #[] }, { accessFlags := 25, nameIndex := 187, descriptorIndex := 25, attributes := #[] }, { accessFlags := 26, nameIndex := 48, descriptorIndex := 25, attributes := #[] }, { accessFlags := 25, nameIndex := 277, descriptorIndex := 25, attributes := #[] }, { accessFlags := 25, nameIndex := 280, descriptorIndex := 25, attributes := #[] }, { accessFlags := 25, nameIndex := 282, descriptorIndex := 25, attributes := #[] }, { accessFlags := 25, nameIndex := 284, descriptorIndex := 25, attributes := #[] }, { accessFlags := 25, nameIndex := 286, descriptorIndex := 25, attributes := #[] }, { accessFlags := 25, nameIndex := 288, descriptorIndex := 25, attributes := #[] }, { accessFlags := 25, nameIndex := 290, descriptorIndex := 25, attributes := #[] }, { accessFlags := 25, nameIndex := 292, descriptorIndex := 25, attributes := #[] }, { accessFlags := 26, nameIndex := 108, descriptorIndex := 109, attributes := #[] }, { accessFlags := 25, nameIndex := 294, descriptorIndex := 25, attributes := #[] }])
  fields := #[{ name := "U", type := (.object "jdk/internal/misc/Unsafe"), accessFlags := 24, slot := 0, constantValue := 0 }, { name := "BIG_ENDIAN", type := .boolean, accessFlags := 26, slot := 1, constantValue := 0 }, { name := "LOG2_ARRAY_BOOLEAN_INDEX_SCALE", type := .int, accessFlags := 25, slot := 2, constantValue := 0 }, { name := "LOG2_ARRAY_BYTE_INDEX_SCALE", type := .int, accessFlags := 25, slot := 3, constantValue := 0 }, { name := "LOG2_ARRAY_CHAR_INDEX_SCALE", type := .int, accessFlags := 25, slot := 4, constantValue := 0 }, { name := "LOG2_ARRAY_SHORT_INDEX_SCALE", type := .int, accessFlags := 25, slot := 5, constantValue := 0 }, { name := "LOG2_ARRAY_INT_INDEX_SCALE", type := .int, accessFlags := 25, slot := 6, constantValue := 0 }, { name := "LOG2_ARRAY_LONG_INDEX_SCALE", type := .int, accessFlags := 25, slot := 7, constantValue := 0 }, { name := "LOG2_ARRAY_FLOAT_INDEX_SCALE", type := .int, accessFlags := 25, slot := 8, constantValue := 0 }, { name := "LOG2_ARRAY_DOUBLE_INDEX_SCALE", type := .int, accessFlags := 25, slot := 9, constantValue := 0 }, { name := "LOG2_BYTE_BIT_SIZE", type := .int, accessFlags := 26, slot := 10, constantValue := 0 }, { name := "T_BOOLEAN", type := .int, accessFlags := 25, slot := 11, constantValue := 0 }, { name := "T_CHAR", type := .int, accessFlags := 25, slot := 12, constantValue := 0 }, { name := "T_FLOAT", type := .int, accessFlags := 25, slot := 13, constantValue := 0 }, { name := "T_DOUBLE", type := .int, accessFlags := 25, slot := 14, constantValue := 0 }, { name := "T_BYTE", type := .int, accessFlags := 25, slot := 15, constantValue := 0 }, { name := "T_SHORT", type := .int, accessFlags := 25, slot := 16, constantValue := 0 }, { name := "T_INT", type := .int, accessFlags := 25, slot := 17, constantValue := 0 }, { name := "T_LONG", type := .int, accessFlags := 25, slot := 18, constantValue := 0 }, { name := "JLA", type := (.object "jdk/internal/access/JavaLangAccess"), accessFlags := 26, slot := 19, constantValue := 0 }, { name := "SOFT_MAX_ARRAY_LENGTH", type := .int, accessFlags := 25, slot := 20, constantValue := 0 }]
  methods := #[k13m0]
  instanceTypes := #[]
  staticTypes := #[(.object "jdk/internal/misc/Unsafe"), .boolean, .int, .int, .int, .int, .int, .int, .int, .int, .int, .int, .int, .int, .int, .int, .int, .int, .int, (.object "jdk/internal/access/JavaLangAccess"), .int]
  resolved := Array.replicate 378 none
  statics := none }

def pool14 : Array CpInfo := pool [(1, u "java/lang/Cloneable"), (0, .class_ 1), (0, u "java/lang/Object"), (0, .class_ 3)] 3

/-- java/lang/Cloneable -/
def k14 : Class := { plain "java/lang/Cloneable" (some 0) with
  accessFlags := 1537
  interfaces := #[]
  cf := some (fileOf pool14 2 #[] #[] 1537 4 #[] #[])
  fields := #[]
  methods := #[]
  instanceTypes := #[]
  staticTypes := #[]
  resolved := Array.replicate 8 none
  statics := none }

/-- the primitive byte -/
def k15 : Class := { plain "byte" none with kind := .primitive 'B', accessFlags := 0x411 }
/-- [B -/
def k16 : Class := { plain "[B" (some 0) with kind := .array 15 .byte, interfaces := #[14, 2], accessFlags := 1041 }

/-- the primitive char -/
def k17 : Class := { plain "char" none with kind := .primitive 'C', accessFlags := 0x411 }
/-- [C -/
def k18 : Class := { plain "[C" (some 0) with kind := .array 17 .char, interfaces := #[14, 2], accessFlags := 1041 }

/-- the primitive int -/
def k19 : Class := { plain "int" none with kind := .primitive 'I', accessFlags := 0x411 }
/-- [I -/
def k20 : Class := { plain "[I" (some 0) with kind := .array 19 .int, interfaces := #[14, 2], accessFlags := 1041 }

/-- [Ljava/lang/String; -/
def k21 : Class := { plain "[Ljava/lang/String;" (some 0) with kind := .array 7 (.object "java/lang/String"), interfaces := #[14, 2], accessFlags := 1041 }

def heap : Heap := #[{ cls := 7, slots := #[.long 0, .int 1, .null, .int 0, .null, .int 0, .int 0], vm := .statics 7 },
  { cls := 12, slots := #[.null, .null, .null], vm := .statics 12 }]
def classes : Array Class := #[k0, k1, k2, k3, k4, k5, k6, k7, k8, k9, k10, k11, k12, k13, k14, k15, k16, k17, k18, k19, k20, k21]
def interned : List (Array UInt16 × Addr) := []
def slotsUsed : Nat := 10
def theMethod : MethodId := ⟨1, 1⟩
def args0 : Array Value := #[.int 5, .int 2, .int 3, .int 4, .int 5]
def aboutOver (below : List Frame) : State where
  vm := { classes := classes, interned := interned.toArray }
  heap := heap
  slotsUsed := slotsUsed
  threads := #[{ frames := .invoking theMethod args0 :: below }]
def below0 : List Frame := [.native { method := ⟨0, 0⟩, args := #[] }]
def about1 : State := aboutOver below0
def p0 : Program := .bare "" "" ""
def e0 : Env := launch0.env 0 0 0
theorem w_frames : about1.frames = Frame.invoking theMethod args0 :: below0 := rfl
set_option maxRecDepth 65536 in
theorem w_args : argsFit about1.vm theMethod args0 = true := by decide +kernel
set_option maxRecDepth 65536 in
theorem w_heap : heapFits about1 = true := by decide +kernel
set_option maxRecDepth 65536 in
theorem w_runnable : about1.curStatus? = some .runnable := by decide +kernel
set_option maxRecDepth 65536 in
theorem w_alone : about1.alone = true := by decide +kernel
set_option maxRecDepth 65536 in
theorem w_named : about1.methodNamed? x = some theMethod := by decide +kernel
set_option maxRecDepth 65536 in
theorem w_hears : about1.hears theMethod below0 = true := by decide +kernel
set_option maxRecDepth 65536 in
theorem w_ripe : about1.ripe theMethod args0 below0 = true := by decide +kernel
theorem w_running : about1.status = .running := rfl
set_option maxRecDepth 65536 in
theorem w_room : about1.hasRoom e0.platform room_1 = true :=
  launch0.hasRoom_least _ room_1 (by decide +kernel) (by decide +kernel) (by decide +kernel) (by decide +kernel) (by decide +kernel) (by decide +kernel)
theorem allAtoms_all (ts : List Jvm.Cond) (a : Array Jvm.Value) (st : Jvm.State) : (allAtoms ts).before a st = ts.all (fun c => c.before a st) := by
  induction ts with
  | nil => rfl
  | cons c t ih =>
    show (Jvm.Cond.and c (allAtoms t)).before a st = _
    rw [Jvm.Cond.before_and, ih, List.all_cons]
def words1 : List Jvm.Cond := Jvm.Cond.code x code maxLocals ret :: tables_1
/-- a 'code' word, met by the world's own term for the bytes: nothing is compared byte by byte -/
theorem code_word {y : MethodName} {bytes : ByteArray} {mx : Nat} {rt : Option FieldType} {a : Array Value} {s : State} {m : MethodId} {meth : Method} {c : Code} (h1 : s.methodNamed? y = some m) (h2 : s.vm.method? m = some meth) (h3 : meth.code = some c) (h4 : c.code = bytes)
    (h5 : (c.maxLocals == mx && c.exceptionTable.isEmpty && decide (c.maxStack ≤ mostOperands) && decide (meth.sig.returnType = rt) && !meth.locks && decide (parseMethodDescriptor y.desc = some meth.sig)) = true) : (Jvm.Cond.code y bytes mx rt).before a s = true := by
  simp only [Bool.and_eq_true, beq_iff_eq, Bool.not_eq_true', decide_eq_true_eq] at h5
  obtain ⟨⟨⟨⟨⟨g1, g2⟩, g3⟩, g4⟩, g5⟩, g6⟩ := h5
  simp [Cond.before, Cond.holds, Cond.value, h1, h2, h3, h4, g1, g2, g3, g4, g5, g6]
def isCode : Jvm.Cond → Bool
  | .code _ _ _ _ => true
  | _ => false
theorem all_split {L : List Jvm.Cond} {P : Jvm.Cond → Bool} (h1 : L.all (fun c => isCode c || P c) = true) (h2 : ∀ c ∈ L.filter isCode, P c = true) : L.all P = true := by
  refine List.all_eq_true.mpr fun c hc => ?_
  have h := List.all_eq_true.mp h1 c hc
  rcases Bool.eq_false_or_eq_true (isCode c) with hi | hi
  · exact h2 c (List.mem_filter.mpr ⟨hc, hi⟩)
  · simpa [hi] using h
set_option maxRecDepth 65536 in
theorem w_c0 : (Jvm.Cond.code x code maxLocals ret).before args0 about1 = true := code_word (m := ⟨1, 1⟩) (meth := k1m1) (c := k1c1) (by decide +kernel) rfl rfl rfl (by decide +kernel)
set_option maxRecDepth 65536 in
theorem w_c1 : (Jvm.Cond.code ({ cls := "com/example/partybook/partybook/io/XmlInputIsOneOfPinLaw", name := "mk", desc := "(II)Ljava/lang/String;" } : Jvm.MethodName) method_3_code (5 : Nat) (Option.some (Jvm.ClassFile.FieldType.object "java/lang/String"))).before args0 about1 = true := code_word (m := ⟨1, 2⟩) (meth := k1m2) (c := k1c2) (by decide +kernel) rfl rfl rfl (by decide +kernel)
set_option maxRecDepth 65536 in
theorem w_c2 : (Jvm.Cond.code ({ cls := "com/example/partybook/partybook/io/XmlInput", name := "isOneOf", desc := "(Ljava/lang/String;[Ljava/lang/String;)Z" } : Jvm.MethodName) prog_38_method_21_code (6 : Nat) (Option.some Jvm.ClassFile.FieldType.boolean)).before args0 about1 = true := code_word (m := ⟨9, 0⟩) (meth := k9m0) (c := k9c0) (by decide +kernel) rfl rfl rfl (by decide +kernel)
set_option maxRecDepth 65536 in
theorem w_c3 : (Jvm.Cond.code ({ cls := "java/lang/String", name := "valueOf", desc := "(C)Ljava/lang/String;" } : Jvm.MethodName) jdk_42_method_139_code (1 : Nat) (Option.some (Jvm.ClassFile.FieldType.object "java/lang/String"))).before args0 about1 = true := code_word (m := ⟨7, 3⟩) (meth := k7m3) (c := k7c3) (by decide +kernel) rfl rfl rfl (by decide +kernel)
set_option maxRecDepth 65536 in
theorem w_c4 : (Jvm.Cond.code ({ cls := "java/lang/StringLatin1", name := "canEncode", desc := "(C)Z" } : Jvm.MethodName) jdk_43_method_3_code (1 : Nat) (Option.some Jvm.ClassFile.FieldType.boolean)).before args0 about1 = true := code_word (m := ⟨10, 1⟩) (meth := k10m1) (c := k10c1) (by decide +kernel) rfl rfl rfl (by decide +kernel)
set_option maxRecDepth 65536 in
theorem w_c5 : (Jvm.Cond.code ({ cls := "java/lang/StringLatin1", name := "toBytes", desc := "(C)[B" } : Jvm.MethodName) jdk_43_method_46_code (1 : Nat) (Option.some (Jvm.ClassFile.FieldType.array Jvm.ClassFile.FieldType.byte))).before args0 about1 = true := code_word (m := ⟨10, 3⟩) (meth := k10m3) (c := k10c3) (by decide +kernel) rfl rfl rfl (by decide +kernel)
set_option maxRecDepth 65536 in
theorem w_c6 : (Jvm.Cond.code ({ cls := "java/lang/String", name := "<init>", desc := "([BB)V" } : Jvm.MethodName) jdk_42_method_151_code (3 : Nat) (Option.none : Option Jvm.ClassFile.FieldType)).before args0 about1 = true := code_word (m := ⟨7, 5⟩) (meth := k7m5) (c := k7c5) (by decide +kernel) rfl rfl rfl (by decide +kernel)
set_option maxRecDepth 65536 in
theorem w_c7 : (Jvm.Cond.code ({ cls := "java/lang/Object", name := "<init>", desc := "()V" } : Jvm.MethodName) object_method_1_code (1 : Nat) (Option.none : Option Jvm.ClassFile.FieldType)).before args0 about1 = true := code_word (m := ⟨0, 0⟩) (meth := k0m0) (c := k0c0) (by decide +kernel) rfl rfl rfl (by decide +kernel)
set_option maxRecDepth 65536 in
theorem w_c8 : (Jvm.Cond.code ({ cls := "com/example/partybook/partybook/io/XmlInputIsOneOfPinLaw", name := "same", desc := "(IIII)Z" } : Jvm.MethodName) method_4_code (4 : Nat) (Option.some Jvm.ClassFile.FieldType.boolean)).before args0 about1 = true := code_word (m := ⟨1, 3⟩) (meth := k1m3) (c := k1c3) (by decide +kernel) rfl rfl rfl (by decide +kernel)
set_option maxRecDepth 65536 in
theorem w_c9 : (Jvm.Cond.code ({ cls := "java/lang/String", name := "equals", desc := "(Ljava/lang/Object;)Z" } : Jvm.MethodName) jdk_42_method_66_code (3 : Nat) (Option.some Jvm.ClassFile.FieldType.boolean)).before args0 about1 = true := code_word (m := ⟨7, 2⟩) (meth := k7m2) (c := k7c2) (by decide +kernel) rfl rfl rfl (by decide +kernel)
set_option maxRecDepth 65536 in
theorem w_c10 : (Jvm.Cond.code ({ cls := "java/lang/StringLatin1", name := "equals", desc := "([B[B)Z" } : Jvm.MethodName) jdk_43_method_13_code (3 : Nat) (Option.some Jvm.ClassFile.FieldType.boolean)).before args0 about1 = true := code_word (m := ⟨10, 2⟩) (meth := k10m2) (c := k10c2) (by decide +kernel) rfl rfl rfl (by decide +kernel)
set_option maxRecDepth 65536 in
theorem w_c11 : (Jvm.Cond.code ({ cls := "java/lang/String", name := "<init>", desc := "([C)V" } : Jvm.MethodName) jdk_42_method_3_code (2 : Nat) (Option.none : Option Jvm.ClassFile.FieldType)).before args0 about1 = true := code_word (m := ⟨7, 1⟩) (meth := k7m1) (c := k7c1) (by decide +kernel) rfl rfl rfl (by decide +kernel)
set_option maxRecDepth 65536 in
theorem w_c12 : (Jvm.Cond.code ({ cls := "java/lang/String", name := "<init>", desc := "([CIILjava/lang/Void;)V" } : Jvm.MethodName) jdk_42_method_149_code (6 : Nat) (Option.none : Option Jvm.ClassFile.FieldType)).before args0 about1 = true := code_word (m := ⟨7, 4⟩) (meth := k7m4) (c := k7c4) (by decide +kernel) rfl rfl rfl (by decide +kernel)
set_option maxRecDepth 65536 in
theorem w_c13 : (Jvm.Cond.code ({ cls := "java/lang/StringUTF16", name := "compress", desc := "([CII)[B" } : Jvm.MethodName) jdk_52_method_16_code (6 : Nat) (Option.some (Jvm.ClassFile.FieldType.array Jvm.ClassFile.FieldType.byte))).before args0 about1 = true := code_word (m := ⟨11, 2⟩) (meth := k11m2) (c := k11c2) (by decide +kernel) rfl rfl rfl (by decide +kernel)
set_option maxRecDepth 65536 in
theorem w_c14 : (Jvm.Cond.code ({ cls := "java/lang/StringUTF16", name := "compress", desc := "([CI[BII)I" } : Jvm.MethodName) jdk_52_method_21_code (7 : Nat) (Option.some Jvm.ClassFile.FieldType.int)).before args0 about1 = true := code_word (m := ⟨11, 3⟩) (meth := k11m3) (c := k11c3) (by decide +kernel) rfl rfl rfl (by decide +kernel)
set_option maxRecDepth 65536 in
theorem w_c15 : (Jvm.Cond.code ({ cls := "java/lang/StringUTF16", name := "coderFromArrayLen", desc := "([BI)B" } : Jvm.MethodName) jdk_52_method_15_code (2 : Nat) (Option.some Jvm.ClassFile.FieldType.byte)).before args0 about1 = true := code_word (m := ⟨11, 1⟩) (meth := k11m1) (c := k11c1) (by decide +kernel) rfl rfl rfl (by decide +kernel)
def codes1 : List Jvm.Cond := [Jvm.Cond.code x code maxLocals ret, Jvm.Cond.code ({ cls := "com/example/partybook/partybook/io/XmlInputIsOneOfPinLaw", name := "mk", desc := "(II)Ljava/lang/String;" } : Jvm.MethodName) method_3_code (5 : Nat) (Option.some (Jvm.ClassFile.FieldType.object "java/lang/String")), Jvm.Cond.code ({ cls := "com/example/partybook/partybook/io/XmlInput", name := "isOneOf", desc := "(Ljava/lang/String;[Ljava/lang/String;)Z" } : Jvm.MethodName) prog_38_method_21_code (6 : Nat) (Option.some Jvm.ClassFile.FieldType.boolean), Jvm.Cond.code ({ cls := "java/lang/String", name := "valueOf", desc := "(C)Ljava/lang/String;" } : Jvm.MethodName) jdk_42_method_139_code (1 : Nat) (Option.some (Jvm.ClassFile.FieldType.object "java/lang/String")), Jvm.Cond.code ({ cls := "java/lang/StringLatin1", name := "canEncode", desc := "(C)Z" } : Jvm.MethodName) jdk_43_method_3_code (1 : Nat) (Option.some Jvm.ClassFile.FieldType.boolean), Jvm.Cond.code ({ cls := "java/lang/StringLatin1", name := "toBytes", desc := "(C)[B" } : Jvm.MethodName) jdk_43_method_46_code (1 : Nat) (Option.some (Jvm.ClassFile.FieldType.array Jvm.ClassFile.FieldType.byte)), Jvm.Cond.code ({ cls := "java/lang/String", name := "<init>", desc := "([BB)V" } : Jvm.MethodName) jdk_42_method_151_code (3 : Nat) (Option.none : Option Jvm.ClassFile.FieldType), Jvm.Cond.code ({ cls := "java/lang/Object", name := "<init>", desc := "()V" } : Jvm.MethodName) object_method_1_code (1 : Nat) (Option.none : Option Jvm.ClassFile.FieldType), Jvm.Cond.code ({ cls := "com/example/partybook/partybook/io/XmlInputIsOneOfPinLaw", name := "same", desc := "(IIII)Z" } : Jvm.MethodName) method_4_code (4 : Nat) (Option.some Jvm.ClassFile.FieldType.boolean), Jvm.Cond.code ({ cls := "java/lang/String", name := "equals", desc := "(Ljava/lang/Object;)Z" } : Jvm.MethodName) jdk_42_method_66_code (3 : Nat) (Option.some Jvm.ClassFile.FieldType.boolean), Jvm.Cond.code ({ cls := "java/lang/StringLatin1", name := "equals", desc := "([B[B)Z" } : Jvm.MethodName) jdk_43_method_13_code (3 : Nat) (Option.some Jvm.ClassFile.FieldType.boolean), Jvm.Cond.code ({ cls := "java/lang/String", name := "<init>", desc := "([C)V" } : Jvm.MethodName) jdk_42_method_3_code (2 : Nat) (Option.none : Option Jvm.ClassFile.FieldType), Jvm.Cond.code ({ cls := "java/lang/String", name := "<init>", desc := "([CIILjava/lang/Void;)V" } : Jvm.MethodName) jdk_42_method_149_code (6 : Nat) (Option.none : Option Jvm.ClassFile.FieldType), Jvm.Cond.code ({ cls := "java/lang/StringUTF16", name := "compress", desc := "([CII)[B" } : Jvm.MethodName) jdk_52_method_16_code (6 : Nat) (Option.some (Jvm.ClassFile.FieldType.array Jvm.ClassFile.FieldType.byte)), Jvm.Cond.code ({ cls := "java/lang/StringUTF16", name := "compress", desc := "([CI[BII)I" } : Jvm.MethodName) jdk_52_method_21_code (7 : Nat) (Option.some Jvm.ClassFile.FieldType.int), Jvm.Cond.code ({ cls := "java/lang/StringUTF16", name := "coderFromArrayLen", desc := "([BI)B" } : Jvm.MethodName) jdk_52_method_15_code (2 : Nat) (Option.some Jvm.ClassFile.FieldType.byte)]
set_option maxRecDepth 65536 in
theorem codes_eq : words1.filter isCode = codes1 := rfl
theorem w_codes : ∀ c ∈ words1.filter isCode, c.before args0 about1 = true := by
  rw [codes_eq]
  intro c hc
  simp only [codes1, List.mem_cons, List.not_mem_nil, or_false] at hc
  rcases hc with rfl | rfl | rfl | rfl | rfl | rfl | rfl | rfl | rfl | rfl | rfl | rfl | rfl | rfl | rfl | rfl
  · exact w_c0
  · exact w_c1
  · exact w_c2
  · exact w_c3
  · exact w_c4
  · exact w_c5
  · exact w_c6
  · exact w_c7
  · exact w_c8
  · exact w_c9
  · exact w_c10
  · exact w_c11
  · exact w_c12
  · exact w_c13
  · exact w_c14
  · exact w_c15
set_option maxRecDepth 65536 in
theorem w_t1 : (words1.take 24).all (fun c => isCode c || c.before args0 about1) = true := by decide +kernel
set_option maxRecDepth 65536 in
theorem w_t2 : ((words1.drop 24).take 24).all (fun c => isCode c || c.before args0 about1) = true := by decide +kernel
set_option maxRecDepth 65536 in
theorem w_t3 : ((words1.drop 24).drop 24).all (fun c => isCode c || c.before args0 about1) = true := by decide +kernel
theorem w_tables : (allAtoms (Jvm.Cond.code x code maxLocals ret :: tables_1)).before args0 about1 = true := by
  rw [allAtoms_all]
  show words1.all (fun c => c.before args0 about1) = true
  refine all_split ?_ w_codes
  rw [← List.take_append_drop 24 words1, List.all_append, w_t1, ← List.take_append_drop 24 (words1.drop 24), List.all_append, w_t2, w_t3]
  rfl
set_option maxRecDepth 65536 in
theorem w_rest : rest_1_c.before args0 about1 = true := by decide +kernel
set_option maxRecDepth 65536 in
theorem w_case : (Jvm.Cond.and given_1 narrow_1).before args0 about1 = true := by decide +kernel
set_option maxRecDepth 65536 in
theorem w_consts : constsHeld consts_1 about1 := Jvm.Lit.constsHeldB_iff.mp (by decide +kernel)
theorem w_applies : (headSpec (Jvm.Cond.code x code maxLocals ret :: tables_1) room_1).applies x e0.platform about1 = true :=
  (Spec.applies_iff w_frames).mpr ⟨w_running, w_runnable, w_alone, w_named, w_hears, w_ripe, w_room, w_tables⟩
theorem atStart : AtStart classFile x code maxLocals ret World_1 tables_1 room_1 Calls_1 rest_1 Pre_1 launch0 p0 e0 about1 theMethod args0 below0 :=
  ⟨lists_1, trivial, launch0.admits_env _ _ _, launch0.least_env, fairChoices_fair.cas, fairChoices_fair.clock, w_frames, w_args, w_heap, w_applies, ⟨w_consts, trivial⟩, w_rest, w_case⟩
end start1
theorem witness_1 : WitnessClaimed_1 := ⟨start1.p0, start1.e0, start1.about1, start1.theMethod, start1.args0, start1.below0, start1.atStart⟩
end Jvm.Pilot.@@N@@
