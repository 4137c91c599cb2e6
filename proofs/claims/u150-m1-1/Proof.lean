import JvmDerived
import JvmDerived.Pilot.@@N@@Statement
import JvmDerived.Pilot.@@N@@Code
set_option linter.unusedVariables false
set_option linter.unusedSimpArgs false
namespace Jvm.RoadKit
open Sem ClassFile Op Lib Jvm.Stand Jvm.Free Jvm.LawKit
section New
variable {p : Program} {l : Launch} {e : Env} {R : Room} {s : State} {m : MethodId} {args : Array Value} {below : List Frame} {meth : Method} {c : Code} {T : State} {locs : List Loc} {cells slots : Nat}
theorem retI (X : Stand p l e R s m args below meth c T locs cells slots) (hx : p.tables.exec = Jvm.exec) {pc : Nat} {Ls : Array Slot} {z : Int32} {rest : List Value} (hret : meth.sig.returnType = some .int) (hd : decode c.code pc = .ok (.ireturn, 1)) {fs : List Frame}
    (hl : ∀ (f : JFrame) (acts : List Action), f.method = m → f.locked = none → f.entered = [] → (doReturn e (T.setTop f) acts (some (.int z))).1 = T.setFrames fs) : Steps p.tables e below (T.setTop (mkF m pc Ls (.int z :: rest))) (T.setFrames fs) := by
  have hm' : T.vm.method? m = some meth := X.method'
  have hn : narrow .int (.int z) = .int z := rfl
  show Steps p.tables e below (T.setTop { method := m, pc := pc, locals := Ls, stack := _ :: rest, locked := none }) _
  jvm_step X.here [X.here.top, hx, hd, hm', hret, hn]
  first | (intro acts; rw [hl _ acts rfl rfl rfl]) | rw [hl _ _ rfl rfl rfl]
  exact Steps.refl _
end New
end Jvm.RoadKit
namespace Jvm.Pilot.@@N@@
open Jvm Jvm.ClassFile Sem Op Lib Jvm.Free Jvm.Stand Jvm.LawKit Jvm.RoadKit Bundle Jvm.Pilot.@@N@@.Jvm.D
def own_fb (r b i : Int32) : Int32 := (((r >>> ((6 : Int32) &&& 31)) ^^^ (b >>> (i &&& 31))) &&& (1 : Int32))
def own_step (r b i : Int32) : Int32 := if own_fb r b i = (0 : Int32) then ((r <<< ((1 : Int32) &&& 31)) &&& (127 : Int32)) else (((r <<< ((1 : Int32) &&& 31)) &&& (127 : Int32)) ^^^ (69 : Int32))
def own_byte (r b : Int32) : Int32 := own_step (own_step (own_step (own_step (own_step (own_step (own_step (own_step r b 7) b 6) b 5) b 4) b 3) b 2) b 1) b 0
def own_rem (b0 b1 b2 b3 b4 b5 b6 : Int32) : Int32 := own_byte (own_byte (own_byte (own_byte (own_byte (own_byte (own_byte 0 b0) b1) b2) b3) b4) b5) b6
def own_par (b0 b1 b2 b3 b4 b5 b6 : Int32) : Int32 := ((((own_rem b0 b1 b2 b3 b4 b5 b6) ^^^ (-1 : Int32)) &&& (127 : Int32)) <<< ((1 : Int32) &&& 31))
def own_by (x : Int64) (k : Int32) : Int32 := (nar .byte (((x.toUInt64 >>> (k &&& 0x3f).toInt64.toUInt64).toInt64).toInt32.toInt8.toInt32))
def own_by0 (x : Int64) : Int32 := (nar .byte (x.toInt32.toInt8.toInt32))

theorem own_shr_xor (x y i : Int32) : (x ^^^ y) >>> i = (x >>> i) ^^^ (y >>> i) := by
  rw [← Int32.toBitVec_inj]
  simp only [Int32.toBitVec_shiftRight, Int32.toBitVec_xor]
  exact BitVec.sshiftRight_xor_distrib _ _ _
theorem own_shl_xor (x y i : Int32) : (x ^^^ y) <<< i = (x <<< i) ^^^ (y <<< i) := by
  rw [← Int32.toBitVec_inj]
  simp only [Int32.toBitVec_shiftLeft, Int32.toBitVec_xor]
  exact BitVec.shiftLeft_xor_distrib _ _ _
theorem own_and_xor (x y m : Int32) : (x ^^^ y) &&& m = (x &&& m) ^^^ (y &&& m) := by
  rw [← Int32.toBitVec_inj]
  simp only [Int32.toBitVec_and, Int32.toBitVec_xor]
  ext i hi
  simp [Bool.and_xor_distrib_right]
theorem own_xor4 (a b c d : Int32) : (a ^^^ b) ^^^ (c ^^^ d) = (a ^^^ c) ^^^ (b ^^^ d) := by
  rw [← Int32.toBitVec_inj]
  simp only [Int32.toBitVec_xor]
  ext i hi
  simp only [BitVec.getElem_xor]
  cases a.toBitVec[i] <;> cases b.toBitVec[i] <;> cases c.toBitVec[i] <;> cases d.toBitVec[i] <;> rfl
theorem own_fb_xor (r r' b b' i : Int32) : own_fb (r ^^^ r') (b ^^^ b') i = own_fb r b i ^^^ own_fb r' b' i := by
  unfold own_fb
  rw [own_shr_xor, own_shr_xor, own_xor4, own_and_xor]
theorem own_and1 (x : Int32) : x &&& 1 = 0 ∨ x &&& 1 = 1 := by
  have h : (x &&& 1).toBitVec = (x.toBitVec &&& 1#32) := rfl
  have e : x.toBitVec &&& 1#32 = 0#32 ∨ x.toBitVec &&& 1#32 = 1#32 := by
    have : (x.toBitVec &&& 1#32).toNat = x.toBitVec.toNat % 2 := by
      rw [BitVec.toNat_and]; exact Nat.and_one_is_mod _
    rcases Nat.mod_two_eq_zero_or_one x.toBitVec.toNat with q | q
    · left; apply BitVec.eq_of_toNat_eq; rw [this, q]; rfl
    · right; apply BitVec.eq_of_toNat_eq; rw [this, q]; rfl
  rcases e with e | e
  · left; rw [← Int32.toBitVec_inj, h, e]; rfl
  · right; rw [← Int32.toBitVec_inj, h, e]; rfl
theorem own_fb01 (r b i : Int32) : own_fb r b i = 0 ∨ own_fb r b i = 1 := own_and1 _
theorem own_xx (a c : Int32) : (a ^^^ c) ^^^ c = a := by rw [Int32.xor_assoc, Int32.xor_self, Int32.xor_zero]
theorem own_step_xor (r r' b b' i : Int32) : own_step (r ^^^ r') (b ^^^ b') i = own_step r b i ^^^ own_step r' b' i := by
  have h := own_fb_xor r r' b b' i
  unfold own_step
  rw [h, own_shl_xor, own_and_xor]
  generalize ((r <<< ((1 : Int32) &&& 31)) &&& (127 : Int32)) = u
  generalize ((r' <<< ((1 : Int32) &&& 31)) &&& (127 : Int32)) = u'
  rcases own_fb01 r b i with e | e <;> rcases own_fb01 r' b' i with e' | e' <;> rw [e, e']
  · rw [if_pos (by decide), if_pos rfl, if_pos rfl]
  · rw [if_neg (by decide), if_pos rfl, if_neg (by decide), Int32.xor_assoc]
  · rw [if_neg (by decide), if_neg (by decide), if_pos rfl, Int32.xor_assoc, Int32.xor_assoc, Int32.xor_comm u' 69]
  · rw [if_pos (by decide), if_neg (by decide), if_neg (by decide), own_xor4, Int32.xor_self, Int32.xor_zero]
theorem own_byte_xor (r r' b b' : Int32) : own_byte (r ^^^ r') (b ^^^ b') = own_byte r b ^^^ own_byte r' b' := by
  unfold own_byte; simp only [own_step_xor]
theorem own_rem_xor (a0 a1 a2 a3 a4 a5 a6 b0 b1 b2 b3 b4 b5 b6 : Int32) : own_rem (a0 ^^^ b0) (a1 ^^^ b1) (a2 ^^^ b2) (a3 ^^^ b3) (a4 ^^^ b4) (a5 ^^^ b5) (a6 ^^^ b6) = own_rem a0 a1 a2 a3 a4 a5 a6 ^^^ own_rem b0 b1 b2 b3 b4 b5 b6 := by
  unfold own_rem
  rw [show (0 : Int32) = 0 ^^^ 0 from by decide]
  simp only [own_byte_xor]
  simp
theorem own_par_xor (a0 a1 a2 a3 a4 a5 a6 b0 b1 b2 b3 b4 b5 b6 : Int32) : own_par (a0 ^^^ b0) (a1 ^^^ b1) (a2 ^^^ b2) (a3 ^^^ b3) (a4 ^^^ b4) (a5 ^^^ b5) (a6 ^^^ b6) = ((own_par a0 a1 a2 a3 a4 a5 a6 ^^^ own_par b0 b1 b2 b3 b4 b5 b6) ^^^ (254 : Int32)) := by
  unfold own_par
  rw [own_rem_xor]
  generalize own_rem a0 a1 a2 a3 a4 a5 a6 = x
  generalize own_rem b0 b1 b2 b3 b4 b5 b6 = y
  rw [← own_shl_xor, ← own_and_xor, own_xor4, Int32.xor_self, Int32.xor_zero, own_and_xor, own_shl_xor]
  congr 1
theorem own_by_xor (x y : Int64) (k : Int32) : own_by (x ^^^ y) k = own_by x k ^^^ own_by y k := by
  have e : ∀ j : UInt64, (x ^^^ y).toUInt64 >>> j = (x.toUInt64 >>> j) ^^^ (y.toUInt64 >>> j) := fun j => by
    rw [← UInt64.toBitVec_inj]
    simp only [UInt64.toBitVec_shiftRight, UInt64.toBitVec_xor, Int64.toUInt64_xor]
    exact BitVec.ushiftRight_xor_distrib _ _ _
  unfold own_by nar
  rw [e]
  generalize x.toUInt64 >>> (k &&& 0x3f).toInt64.toUInt64 = u
  generalize y.toUInt64 >>> (k &&& 0x3f).toInt64.toUInt64 = v
  simp
theorem own_by0_xor (x y : Int64) : own_by0 (x ^^^ y) = own_by0 x ^^^ own_by0 y := by
  unfold own_by0 nar
  simp

def own_tabI : List Int32 := [98, 49, 122, 61, 124, 62, 31, 109, 84, 42, 21, 104, 52, 26, 13, 100, 50, 25, 110, 55, 121, 94, 47, 117, 88, 44, 22, 11, 103, 81, 74, 37, 112, 56, 28, 14, 7, 97, 82, 41, 118, 59, 127, 93, 76, 38, 19, 107, 87, 73, 70, 35, 115, 91, 79, 69]
def own_e (t : Int32) : Int64 := ((1 : Int64) <<< (((55 : Int32) - t) &&& 0x3f).toInt64)
def own_parL (x : Int64) : Int32 := own_par (own_by x 48) (own_by x 40) (own_by x 32) (own_by x 24) (own_by x 16) (own_by x 8) (own_by0 x)
set_option maxRecDepth 65536 in
theorem own_tab56 : ∀ i : Fin 56, own_parL (own_e (Int32.ofNat i.1)) = (((own_tabI.getD i.1 0) ^^^ (-1 : Int32)) &&& (127 : Int32)) <<< ((1 : Int32) &&& 31) := by decide +kernel
theorem own_parL_xor (x y : Int64) : own_parL (x ^^^ y) = ((own_parL x ^^^ own_parL y) ^^^ (254 : Int32)) := by
  unfold own_parL
  simp only [own_by_xor, own_by0_xor]
  exact own_par_xor _ _ _ _ _ _ _ _ _ _ _ _ _ _

theorem own_os5 {x0 x1 x2 x3 x4 : Value} {s5 : Slot} {v : Int32} (h : One s5) : storeLocals #[.val x0, .val x1, .val x2, .val x3, .val x4, s5] 5 (.int v) = some #[.val x0, .val x1, .val x2, .val x3, .val x4, .val (.int v)] := by
  rcases h with rfl | ⟨w, rfl, hw⟩
  · rfl
  · cases w <;> first | rfl | (simp [Value.category] at hw)
theorem own_d2_16 : decode prog_11_method_2_code 16 = .ok (.iload 4, 2) := by decide +kernel
theorem own_d2_18 : decode prog_11_method_2_code 18 = .ok (.ifCond .lt 41, 3) := by decide +kernel
theorem own_d2_21 : decode prog_11_method_2_code 21 = .ok (.iload_n 2, 1) := by decide +kernel
theorem own_d2_22 : decode prog_11_method_2_code 22 = .ok (.bipush 6, 2) := by decide +kernel
theorem own_d2_24 : decode prog_11_method_2_code 24 = .ok (.ishr, 1) := by decide +kernel
theorem own_d2_25 : decode prog_11_method_2_code 25 = .ok (.aload_n 0, 1) := by decide +kernel
theorem own_d2_26 : decode prog_11_method_2_code 26 = .ok (.iload_n 3, 1) := by decide +kernel
theorem own_d2_27 : decode prog_11_method_2_code 27 = .ok (.baload, 1) := by decide +kernel
theorem own_d2_28 : decode prog_11_method_2_code 28 = .ok (.iload 4, 2) := by decide +kernel
theorem own_d2_30 : decode prog_11_method_2_code 30 = .ok (.ishr, 1) := by decide +kernel
theorem own_d2_31 : decode prog_11_method_2_code 31 = .ok (.ixor, 1) := by decide +kernel
theorem own_d2_32 : decode prog_11_method_2_code 32 = .ok (.iconst 1, 1) := by decide +kernel
theorem own_d2_33 : decode prog_11_method_2_code 33 = .ok (.iand, 1) := by decide +kernel
theorem own_d2_34 : decode prog_11_method_2_code 34 = .ok (.istore 5, 2) := by decide +kernel
theorem own_d2_36 : decode prog_11_method_2_code 36 = .ok (.iload_n 2, 1) := by decide +kernel
theorem own_d2_37 : decode prog_11_method_2_code 37 = .ok (.iconst 1, 1) := by decide +kernel
theorem own_d2_38 : decode prog_11_method_2_code 38 = .ok (.ishl, 1) := by decide +kernel
theorem own_d2_39 : decode prog_11_method_2_code 39 = .ok (.bipush 127, 2) := by decide +kernel
theorem own_d2_41 : decode prog_11_method_2_code 41 = .ok (.iand, 1) := by decide +kernel
theorem own_d2_42 : decode prog_11_method_2_code 42 = .ok (.istore_n 2, 1) := by decide +kernel
theorem own_d2_43 : decode prog_11_method_2_code 43 = .ok (.iload 5, 2) := by decide +kernel
theorem own_d2_45 : decode prog_11_method_2_code 45 = .ok (.ifCond .eq 8, 3) := by decide +kernel
theorem own_d2_53 : decode prog_11_method_2_code 53 = .ok (.iinc 4 (-1), 3) := by decide +kernel
theorem own_d2_56 : decode prog_11_method_2_code 56 = .ok (.goto (-40), 3) := by decide +kernel
theorem own_d2_48 : decode prog_11_method_2_code 48 = .ok (.iload_n 2, 1) := by decide +kernel
theorem own_d2_49 : decode prog_11_method_2_code 49 = .ok (.bipush 69, 2) := by decide +kernel
theorem own_d2_51 : decode prog_11_method_2_code 51 = .ok (.ixor, 1) := by decide +kernel
theorem own_d2_52 : decode prog_11_method_2_code 52 = .ok (.istore_n 2, 1) := by decide +kernel
set_option maxRecDepth 65536 in
set_option maxHeartbeats 40000000 in
theorem own_turn {p : Program} {l : Launch} {e : Env} {R : Room} {s : State} {m : MethodId} {args : Array Value} {below : List Frame} {meth : Method} {c : Code} {T : State} {locs : List Loc} {cells slots : Nat} {Z : State} {h0 : Heap} (X : Stand p l e R s m args below meth c T locs cells slots) (hx : p.tables.exec = Jvm.exec) (hZ : Z.Warmed39 s.vm) (hby : c.code = prog_11_method_2_code) (e0 : T.heap = h0) (a : Addr) (o : Int32) (r : Int32) (i : Int32) (bit : Int32) (b : Int32) (cl : Cell) (s5 : Slot) (Ar : Arr Z h0 a cl .byte) (hin : ¬ (i < 0 ∨ cl.slots.size ≤ (i).toNatClampNeg)) (hat : cl.slots[(i).toNatClampNeg]? = some (.int b)) (hbit : ¬ (bit < (0 : Int32))) (h5 : One s5) {target : State} (K : Steps p.tables e below (T.setTop (mkF m 16 #[.val (.ref a), .val (.int o), .val (.int (own_step r b bit)), .val (.int i), .val (.int (bit + (-1 : Int32))), .val (.int (own_fb r b bit))] [])) target) : Steps p.tables e below (T.setTop (mkF m 16 #[.val (.ref a), .val (.int o), .val (.int r), .val (.int i), .val (.int bit), s5] [])) target := by
  have pre0 : ∀ t, Steps p.tables e below (T.setTop (mkF m 16 #[.val (.ref a), .val (.int o), .val (.int r), .val (.int i), .val (.int bit), s5] [])) t → Steps p.tables e below (T.setTop (mkF m 16 #[.val (.ref a), .val (.int o), .val (.int r), .val (.int i), .val (.int bit), s5] [])) t := fun t k => k
  have hc18_1 : ¬ (bit < (0 : Int32)) := hbit
  have Ar2 := Ar
  have hin2 : ¬ (i < 0 ∨ cl.slots.size ≤ (i).toNatClampNeg) := hin
  have hat2 : cl.slots[(i).toNatClampNeg]? = some (.int b) := hat
  have pre3 : ∀ t, Steps p.tables e below (T.setTop (mkF m 45 #[.val (.ref a), .val (.int o), .val (.int ((r <<< ((1 : Int32) &&& 31)) &&& (127 : Int32))), .val (.int i), .val (.int bit), .val (.int (((r >>> ((6 : Int32) &&& 31)) ^^^ (b >>> (bit &&& 31))) &&& (1 : Int32)))] [(.int (((r >>> ((6 : Int32) &&& 31)) ^^^ (b >>> (bit &&& 31))) &&& (1 : Int32)))])) t → Steps p.tables e below (T.setTop (mkF m 16 #[.val (.ref a), .val (.int o), .val (.int r), .val (.int i), .val (.int bit), s5] [])) t := fun t k => by
    refine pre0 _ ?_
    show Steps p.tables e below (T.setTop (mkF m 16 #[.val (.ref a), .val (.int o), .val (.int r), .val (.int i), .val (.int bit), s5] [])) _
    refine XS.iload X.here hx rfl (hb hby own_d2_16) rfl ?_
    show Steps p.tables e below (T.setTop (mkF m 18 #[.val (.ref a), .val (.int o), .val (.int r), .val (.int i), .val (.int bit), s5] [(.int bit)])) _
    refine XS.ifNo X.here hx rfl (hb hby own_d2_18) rfl ((if0 _ _).trans (flt hc18_1).1) ?_
    show Steps p.tables e below (T.setTop (mkF m 21 #[.val (.ref a), .val (.int o), .val (.int r), .val (.int i), .val (.int bit), s5] [])) _
    refine XS.iloadN X.here hx rfl (hb hby own_d2_21) rfl ?_
    show Steps p.tables e below (T.setTop (mkF m 22 #[.val (.ref a), .val (.int o), .val (.int r), .val (.int i), .val (.int bit), s5] [(.int r)])) _
    refine XS.bipush X.here hx rfl (hb hby own_d2_22) ?_
    show Steps p.tables e below (T.setTop (mkF m 24 #[.val (.ref a), .val (.int o), .val (.int r), .val (.int i), .val (.int bit), s5] [(.int (6 : Int32)), (.int r)])) _
    refine XS.ishr X.here hx rfl (hb hby own_d2_24) rfl ?_
    show Steps p.tables e below (T.setTop (mkF m 25 #[.val (.ref a), .val (.int o), .val (.int r), .val (.int i), .val (.int bit), s5] [(.int (r >>> ((6 : Int32) &&& 31)))])) _
    refine XS.aloadN X.here hx rfl (hb hby own_d2_25) rfl rfl ?_
    show Steps p.tables e below (T.setTop (mkF m 26 #[.val (.ref a), .val (.int o), .val (.int r), .val (.int i), .val (.int bit), s5] [(.ref a), (.int (r >>> ((6 : Int32) &&& 31)))])) _
    refine XS.iloadN X.here hx rfl (hb hby own_d2_26) rfl ?_
    show Steps p.tables e below (T.setTop (mkF m 27 #[.val (.ref a), .val (.int o), .val (.int r), .val (.int i), .val (.int bit), s5] [(.int i), (.ref a), (.int (r >>> ((6 : Int32) &&& 31)))])) _
    refine X.baloadBytes hx (j := i) (v := (.int b)) (by rw [e0]; exact Ar2.1) (State.isArrayOf_alike hZ.alike Ar2.2.1) Ar2.2.2 hin2 hat2 (g := (mkF m 27 #[.val (.ref a), .val (.int o), .val (.int r), .val (.int i), .val (.int bit), s5] [(.int i), (.ref a), (.int (r >>> ((6 : Int32) &&& 31)))])) rfl rfl (hb hby own_d2_27) _ ?_
    show Steps p.tables e below (T.setTop (mkF m 28 #[.val (.ref a), .val (.int o), .val (.int r), .val (.int i), .val (.int bit), s5] [(.int b), (.int (r >>> ((6 : Int32) &&& 31)))])) _
    refine XS.iload X.here hx rfl (hb hby own_d2_28) rfl ?_
    show Steps p.tables e below (T.setTop (mkF m 30 #[.val (.ref a), .val (.int o), .val (.int r), .val (.int i), .val (.int bit), s5] [(.int bit), (.int b), (.int (r >>> ((6 : Int32) &&& 31)))])) _
    refine XS.ishr X.here hx rfl (hb hby own_d2_30) rfl ?_
    show Steps p.tables e below (T.setTop (mkF m 31 #[.val (.ref a), .val (.int o), .val (.int r), .val (.int i), .val (.int bit), s5] [(.int (b >>> (bit &&& 31))), (.int (r >>> ((6 : Int32) &&& 31)))])) _
    refine XS.ixor X.here hx rfl (hb hby own_d2_31) rfl ?_
    show Steps p.tables e below (T.setTop (mkF m 32 #[.val (.ref a), .val (.int o), .val (.int r), .val (.int i), .val (.int bit), s5] [(.int ((r >>> ((6 : Int32) &&& 31)) ^^^ (b >>> (bit &&& 31))))])) _
    refine XS.iconst X.here hx rfl (hb hby own_d2_32) ?_
    show Steps p.tables e below (T.setTop (mkF m 33 #[.val (.ref a), .val (.int o), .val (.int r), .val (.int i), .val (.int bit), s5] [(.int (1 : Int32)), (.int ((r >>> ((6 : Int32) &&& 31)) ^^^ (b >>> (bit &&& 31))))])) _
    refine XS.iand X.here hx rfl (hb hby own_d2_33) rfl ?_
    show Steps p.tables e below (T.setTop (mkF m 34 #[.val (.ref a), .val (.int o), .val (.int r), .val (.int i), .val (.int bit), s5] [(.int (((r >>> ((6 : Int32) &&& 31)) ^^^ (b >>> (bit &&& 31))) &&& (1 : Int32)))])) _
    refine XS.istore X.here hx rfl (hb hby own_d2_34) rfl (l' := #[.val (.ref a), .val (.int o), .val (.int r), .val (.int i), .val (.int bit), .val (.int (((r >>> ((6 : Int32) &&& 31)) ^^^ (b >>> (bit &&& 31))) &&& (1 : Int32)))]) (own_os5 h5) ?_
    show Steps p.tables e below (T.setTop (mkF m 36 #[.val (.ref a), .val (.int o), .val (.int r), .val (.int i), .val (.int bit), .val (.int (((r >>> ((6 : Int32) &&& 31)) ^^^ (b >>> (bit &&& 31))) &&& (1 : Int32)))] [])) _
    refine XS.iloadN X.here hx rfl (hb hby own_d2_36) rfl ?_
    show Steps p.tables e below (T.setTop (mkF m 37 #[.val (.ref a), .val (.int o), .val (.int r), .val (.int i), .val (.int bit), .val (.int (((r >>> ((6 : Int32) &&& 31)) ^^^ (b >>> (bit &&& 31))) &&& (1 : Int32)))] [(.int r)])) _
    refine XS.iconst X.here hx rfl (hb hby own_d2_37) ?_
    show Steps p.tables e below (T.setTop (mkF m 38 #[.val (.ref a), .val (.int o), .val (.int r), .val (.int i), .val (.int bit), .val (.int (((r >>> ((6 : Int32) &&& 31)) ^^^ (b >>> (bit &&& 31))) &&& (1 : Int32)))] [(.int (1 : Int32)), (.int r)])) _
    refine XS.ishl X.here hx rfl (hb hby own_d2_38) rfl ?_
    show Steps p.tables e below (T.setTop (mkF m 39 #[.val (.ref a), .val (.int o), .val (.int r), .val (.int i), .val (.int bit), .val (.int (((r >>> ((6 : Int32) &&& 31)) ^^^ (b >>> (bit &&& 31))) &&& (1 : Int32)))] [(.int (r <<< ((1 : Int32) &&& 31)))])) _
    refine XS.bipush X.here hx rfl (hb hby own_d2_39) ?_
    show Steps p.tables e below (T.setTop (mkF m 41 #[.val (.ref a), .val (.int o), .val (.int r), .val (.int i), .val (.int bit), .val (.int (((r >>> ((6 : Int32) &&& 31)) ^^^ (b >>> (bit &&& 31))) &&& (1 : Int32)))] [(.int (127 : Int32)), (.int (r <<< ((1 : Int32) &&& 31)))])) _
    refine XS.iand X.here hx rfl (hb hby own_d2_41) rfl ?_
    show Steps p.tables e below (T.setTop (mkF m 42 #[.val (.ref a), .val (.int o), .val (.int r), .val (.int i), .val (.int bit), .val (.int (((r >>> ((6 : Int32) &&& 31)) ^^^ (b >>> (bit &&& 31))) &&& (1 : Int32)))] [(.int ((r <<< ((1 : Int32) &&& 31)) &&& (127 : Int32)))])) _
    refine XS.istoreN X.here hx rfl (hb hby own_d2_42) rfl (l' := #[.val (.ref a), .val (.int o), .val (.int ((r <<< ((1 : Int32) &&& 31)) &&& (127 : Int32))), .val (.int i), .val (.int bit), .val (.int (((r >>> ((6 : Int32) &&& 31)) ^^^ (b >>> (bit &&& 31))) &&& (1 : Int32)))]) rfl ?_
    show Steps p.tables e below (T.setTop (mkF m 43 #[.val (.ref a), .val (.int o), .val (.int ((r <<< ((1 : Int32) &&& 31)) &&& (127 : Int32))), .val (.int i), .val (.int bit), .val (.int (((r >>> ((6 : Int32) &&& 31)) ^^^ (b >>> (bit &&& 31))) &&& (1 : Int32)))] [])) _
    refine XS.iload X.here hx rfl (hb hby own_d2_43) rfl ?_
    exact k
  by_cases hc45 : (((r >>> ((6 : Int32) &&& 31)) ^^^ (b >>> (bit &&& 31))) &&& (1 : Int32)) = (0 : Int32)
  · have K1 := K
    unfold own_step own_fb at K1
    rw [if_pos hc45] at K1
    refine pre3 _ ?_
    show Steps p.tables e below (T.setTop (mkF m 45 #[.val (.ref a), .val (.int o), .val (.int ((r <<< ((1 : Int32) &&& 31)) &&& (127 : Int32))), .val (.int i), .val (.int bit), .val (.int (((r >>> ((6 : Int32) &&& 31)) ^^^ (b >>> (bit &&& 31))) &&& (1 : Int32)))] [(.int (((r >>> ((6 : Int32) &&& 31)) ^^^ (b >>> (bit &&& 31))) &&& (1 : Int32)))])) _
    refine XS.ifYes X.here hx rfl (pc0 := 45) (pc' := 53) rfl (hb hby own_d2_45) rfl ((if0 _ _).trans (teq hc45).1) (by decide) (by decide) ?_
    show Steps p.tables e below (T.setTop (mkF m 53 #[.val (.ref a), .val (.int o), .val (.int ((r <<< ((1 : Int32) &&& 31)) &&& (127 : Int32))), .val (.int i), .val (.int bit), .val (.int (((r >>> ((6 : Int32) &&& 31)) ^^^ (b >>> (bit &&& 31))) &&& (1 : Int32)))] [])) _
    refine XS.iinc X.here hx rfl (hb hby own_d2_53) rfl (l' := #[.val (.ref a), .val (.int o), .val (.int ((r <<< ((1 : Int32) &&& 31)) &&& (127 : Int32))), .val (.int i), .val (.int (bit + (-1 : Int32))), .val (.int (((r >>> ((6 : Int32) &&& 31)) ^^^ (b >>> (bit &&& 31))) &&& (1 : Int32)))]) rfl ?_
    show Steps p.tables e below (T.setTop (mkF m 56 #[.val (.ref a), .val (.int o), .val (.int ((r <<< ((1 : Int32) &&& 31)) &&& (127 : Int32))), .val (.int i), .val (.int (bit + (-1 : Int32))), .val (.int (((r >>> ((6 : Int32) &&& 31)) ^^^ (b >>> (bit &&& 31))) &&& (1 : Int32)))] [])) _
    refine XS.goto X.here hx rfl (pc0 := 56) (pc' := 16) rfl (hb hby own_d2_56) (by decide) (by decide) ?_
    exact K1
  · have K1 := K
    unfold own_step own_fb at K1
    rw [if_neg hc45] at K1
    refine pre3 _ ?_
    show Steps p.tables e below (T.setTop (mkF m 45 #[.val (.ref a), .val (.int o), .val (.int ((r <<< ((1 : Int32) &&& 31)) &&& (127 : Int32))), .val (.int i), .val (.int bit), .val (.int (((r >>> ((6 : Int32) &&& 31)) ^^^ (b >>> (bit &&& 31))) &&& (1 : Int32)))] [(.int (((r >>> ((6 : Int32) &&& 31)) ^^^ (b >>> (bit &&& 31))) &&& (1 : Int32)))])) _
    refine XS.ifNo X.here hx rfl (hb hby own_d2_45) rfl ((if0 _ _).trans (feq hc45).1) ?_
    show Steps p.tables e below (T.setTop (mkF m 48 #[.val (.ref a), .val (.int o), .val (.int ((r <<< ((1 : Int32) &&& 31)) &&& (127 : Int32))), .val (.int i), .val (.int bit), .val (.int (((r >>> ((6 : Int32) &&& 31)) ^^^ (b >>> (bit &&& 31))) &&& (1 : Int32)))] [])) _
    refine XS.iloadN X.here hx rfl (hb hby own_d2_48) rfl ?_
    show Steps p.tables e below (T.setTop (mkF m 49 #[.val (.ref a), .val (.int o), .val (.int ((r <<< ((1 : Int32) &&& 31)) &&& (127 : Int32))), .val (.int i), .val (.int bit), .val (.int (((r >>> ((6 : Int32) &&& 31)) ^^^ (b >>> (bit &&& 31))) &&& (1 : Int32)))] [(.int ((r <<< ((1 : Int32) &&& 31)) &&& (127 : Int32)))])) _
    refine XS.bipush X.here hx rfl (hb hby own_d2_49) ?_
    show Steps p.tables e below (T.setTop (mkF m 51 #[.val (.ref a), .val (.int o), .val (.int ((r <<< ((1 : Int32) &&& 31)) &&& (127 : Int32))), .val (.int i), .val (.int bit), .val (.int (((r >>> ((6 : Int32) &&& 31)) ^^^ (b >>> (bit &&& 31))) &&& (1 : Int32)))] [(.int (69 : Int32)), (.int ((r <<< ((1 : Int32) &&& 31)) &&& (127 : Int32)))])) _
    refine XS.ixor X.here hx rfl (hb hby own_d2_51) rfl ?_
    show Steps p.tables e below (T.setTop (mkF m 52 #[.val (.ref a), .val (.int o), .val (.int ((r <<< ((1 : Int32) &&& 31)) &&& (127 : Int32))), .val (.int i), .val (.int bit), .val (.int (((r >>> ((6 : Int32) &&& 31)) ^^^ (b >>> (bit &&& 31))) &&& (1 : Int32)))] [(.int (((r <<< ((1 : Int32) &&& 31)) &&& (127 : Int32)) ^^^ (69 : Int32)))])) _
    refine XS.istoreN X.here hx rfl (hb hby own_d2_52) rfl (l' := #[.val (.ref a), .val (.int o), .val (.int (((r <<< ((1 : Int32) &&& 31)) &&& (127 : Int32)) ^^^ (69 : Int32))), .val (.int i), .val (.int bit), .val (.int (((r >>> ((6 : Int32) &&& 31)) ^^^ (b >>> (bit &&& 31))) &&& (1 : Int32)))]) rfl ?_
    show Steps p.tables e below (T.setTop (mkF m 53 #[.val (.ref a), .val (.int o), .val (.int (((r <<< ((1 : Int32) &&& 31)) &&& (127 : Int32)) ^^^ (69 : Int32))), .val (.int i), .val (.int bit), .val (.int (((r >>> ((6 : Int32) &&& 31)) ^^^ (b >>> (bit &&& 31))) &&& (1 : Int32)))] [])) _
    refine XS.iinc X.here hx rfl (hb hby own_d2_53) rfl (l' := #[.val (.ref a), .val (.int o), .val (.int (((r <<< ((1 : Int32) &&& 31)) &&& (127 : Int32)) ^^^ (69 : Int32))), .val (.int i), .val (.int (bit + (-1 : Int32))), .val (.int (((r >>> ((6 : Int32) &&& 31)) ^^^ (b >>> (bit &&& 31))) &&& (1 : Int32)))]) rfl ?_
    show Steps p.tables e below (T.setTop (mkF m 56 #[.val (.ref a), .val (.int o), .val (.int (((r <<< ((1 : Int32) &&& 31)) &&& (127 : Int32)) ^^^ (69 : Int32))), .val (.int i), .val (.int (bit + (-1 : Int32))), .val (.int (((r >>> ((6 : Int32) &&& 31)) ^^^ (b >>> (bit &&& 31))) &&& (1 : Int32)))] [])) _
    refine XS.goto X.here hx rfl (pc0 := 56) (pc' := 16) rfl (hb hby own_d2_56) (by decide) (by decide) ?_
    exact K1
set_option maxRecDepth 65536 in
set_option maxHeartbeats 40000000 in
theorem own_inner {p : Program} {l : Launch} {e : Env} {R : Room} {s : State} {m : MethodId} {args : Array Value} {below : List Frame} {meth : Method} {c : Code} {T : State} {locs : List Loc} {cells slots : Nat} {Z : State} {h0 : Heap} (X : Stand p l e R s m args below meth c T locs cells slots) (hx : p.tables.exec = Jvm.exec) (hZ : Z.Warmed39 s.vm) (hby : c.code = prog_11_method_2_code) (e0 : T.heap = h0) (a : Addr) (o r i b : Int32) (cl : Cell) (s5 : Slot) (Ar : Arr Z h0 a cl .byte) (hin : ¬ (i < 0 ∨ cl.slots.size ≤ (i).toNatClampNeg)) (hat : cl.slots[(i).toNatClampNeg]? = some (.int b)) (h5 : One s5) {target : State} (K : ∀ w : Int32, Steps p.tables e below (T.setTop (mkF m 59 #[.val (.ref a), .val (.int o), .val (.int (own_byte r b)), .val (.int i), .val (.int (-1 : Int32)), .val (.int w)] [])) target) : Steps p.tables e below (T.setTop (mkF m 16 #[.val (.ref a), .val (.int o), .val (.int r), .val (.int i), .val (.int (7 : Int32)), s5] [])) target := by
  refine own_turn X hx hZ hby e0 a o r i (7 : Int32) b cl _ Ar hin hat (by decide) h5 ?_
  show Steps p.tables e below (T.setTop (mkF m 16 #[.val (.ref a), .val (.int o), .val (.int (own_step r b (7 : Int32))), .val (.int i), .val (.int (6 : Int32)), .val (.int _)] [])) _
  refine own_turn X hx hZ hby e0 a o (own_step r b (7 : Int32)) i (6 : Int32) b cl _ Ar hin hat (by decide) (One.val rfl) ?_
  show Steps p.tables e below (T.setTop (mkF m 16 #[.val (.ref a), .val (.int o), .val (.int (own_step (own_step r b (7 : Int32)) b (6 : Int32))), .val (.int i), .val (.int (5 : Int32)), .val (.int _)] [])) _
  refine own_turn X hx hZ hby e0 a o (own_step (own_step r b (7 : Int32)) b (6 : Int32)) i (5 : Int32) b cl _ Ar hin hat (by decide) (One.val rfl) ?_
  show Steps p.tables e below (T.setTop (mkF m 16 #[.val (.ref a), .val (.int o), .val (.int (own_step (own_step (own_step r b (7 : Int32)) b (6 : Int32)) b (5 : Int32))), .val (.int i), .val (.int (4 : Int32)), .val (.int _)] [])) _
  refine own_turn X hx hZ hby e0 a o (own_step (own_step (own_step r b (7 : Int32)) b (6 : Int32)) b (5 : Int32)) i (4 : Int32) b cl _ Ar hin hat (by decide) (One.val rfl) ?_
  show Steps p.tables e below (T.setTop (mkF m 16 #[.val (.ref a), .val (.int o), .val (.int (own_step (own_step (own_step (own_step r b (7 : Int32)) b (6 : Int32)) b (5 : Int32)) b (4 : Int32))), .val (.int i), .val (.int (3 : Int32)), .val (.int _)] [])) _
  refine own_turn X hx hZ hby e0 a o (own_step (own_step (own_step (own_step r b (7 : Int32)) b (6 : Int32)) b (5 : Int32)) b (4 : Int32)) i (3 : Int32) b cl _ Ar hin hat (by decide) (One.val rfl) ?_
  show Steps p.tables e below (T.setTop (mkF m 16 #[.val (.ref a), .val (.int o), .val (.int (own_step (own_step (own_step (own_step (own_step r b (7 : Int32)) b (6 : Int32)) b (5 : Int32)) b (4 : Int32)) b (3 : Int32))), .val (.int i), .val (.int (2 : Int32)), .val (.int _)] [])) _
  refine own_turn X hx hZ hby e0 a o (own_step (own_step (own_step (own_step (own_step r b (7 : Int32)) b (6 : Int32)) b (5 : Int32)) b (4 : Int32)) b (3 : Int32)) i (2 : Int32) b cl _ Ar hin hat (by decide) (One.val rfl) ?_
  show Steps p.tables e below (T.setTop (mkF m 16 #[.val (.ref a), .val (.int o), .val (.int (own_step (own_step (own_step (own_step (own_step (own_step r b (7 : Int32)) b (6 : Int32)) b (5 : Int32)) b (4 : Int32)) b (3 : Int32)) b (2 : Int32))), .val (.int i), .val (.int (1 : Int32)), .val (.int _)] [])) _
  refine own_turn X hx hZ hby e0 a o (own_step (own_step (own_step (own_step (own_step (own_step r b (7 : Int32)) b (6 : Int32)) b (5 : Int32)) b (4 : Int32)) b (3 : Int32)) b (2 : Int32)) i (1 : Int32) b cl _ Ar hin hat (by decide) (One.val rfl) ?_
  show Steps p.tables e below (T.setTop (mkF m 16 #[.val (.ref a), .val (.int o), .val (.int (own_step (own_step (own_step (own_step (own_step (own_step (own_step r b (7 : Int32)) b (6 : Int32)) b (5 : Int32)) b (4 : Int32)) b (3 : Int32)) b (2 : Int32)) b (1 : Int32))), .val (.int i), .val (.int (0 : Int32)), .val (.int _)] [])) _
  refine own_turn X hx hZ hby e0 a o (own_step (own_step (own_step (own_step (own_step (own_step (own_step r b (7 : Int32)) b (6 : Int32)) b (5 : Int32)) b (4 : Int32)) b (3 : Int32)) b (2 : Int32)) b (1 : Int32)) i (0 : Int32) b cl _ Ar hin hat (by decide) (One.val rfl) ?_
  show Steps p.tables e below (T.setTop (mkF m 16 #[.val (.ref a), .val (.int o), .val (.int (own_step (own_step (own_step (own_step (own_step (own_step (own_step (own_step r b (7 : Int32)) b (6 : Int32)) b (5 : Int32)) b (4 : Int32)) b (3 : Int32)) b (2 : Int32)) b (1 : Int32)) b (0 : Int32))), .val (.int i), .val (.int (-1 : Int32)), .val (.int _)] [])) _
  refine XS.iload X.here hx rfl (hb hby own_d2_16) rfl ?_
  refine XS.ifYes X.here hx rfl (pc0 := 18) (pc' := 59) rfl (hb hby own_d2_18) rfl ((if0 _ _).trans (tlt (by decide : ((-1 : Int32) < (0 : Int32)))).1) (by decide) (by decide) ?_
  exact K _
theorem own_d2_0 : decode prog_11_method_2_code 0 = .ok (.iconst 0, 1) := by decide +kernel
theorem own_d2_1 : decode prog_11_method_2_code 1 = .ok (.istore_n 2, 1) := by decide +kernel
theorem own_d2_2 : decode prog_11_method_2_code 2 = .ok (.iload_n 1, 1) := by decide +kernel
theorem own_d2_3 : decode prog_11_method_2_code 3 = .ok (.istore_n 3, 1) := by decide +kernel
theorem own_d2_4 : decode prog_11_method_2_code 4 = .ok (.iload_n 3, 1) := by decide +kernel
theorem own_d2_5 : decode prog_11_method_2_code 5 = .ok (.iload_n 1, 1) := by decide +kernel
theorem own_d2_6 : decode prog_11_method_2_code 6 = .ok (.bipush 7, 2) := by decide +kernel
theorem own_d2_8 : decode prog_11_method_2_code 8 = .ok (.iadd, 1) := by decide +kernel
theorem own_d2_9 : decode prog_11_method_2_code 9 = .ok (.if_icmp .ge 56, 3) := by decide +kernel
theorem own_d2_12 : decode prog_11_method_2_code 12 = .ok (.bipush 7, 2) := by decide +kernel
theorem own_d2_14 : decode prog_11_method_2_code 14 = .ok (.istore 4, 2) := by decide +kernel
theorem own_d2_59 : decode prog_11_method_2_code 59 = .ok (.iinc 3 1, 3) := by decide +kernel
theorem own_d2_62 : decode prog_11_method_2_code 62 = .ok (.goto (-58), 3) := by decide +kernel
theorem own_d2_65 : decode prog_11_method_2_code 65 = .ok (.iload_n 2, 1) := by decide +kernel
theorem own_d2_66 : decode prog_11_method_2_code 66 = .ok (.iconst (-1), 1) := by decide +kernel
theorem own_d2_67 : decode prog_11_method_2_code 67 = .ok (.ixor, 1) := by decide +kernel
theorem own_d2_68 : decode prog_11_method_2_code 68 = .ok (.bipush 127, 2) := by decide +kernel
theorem own_d2_70 : decode prog_11_method_2_code 70 = .ok (.iand, 1) := by decide +kernel
theorem own_d2_71 : decode prog_11_method_2_code 71 = .ok (.iconst 1, 1) := by decide +kernel
theorem own_d2_72 : decode prog_11_method_2_code 72 = .ok (.ishl, 1) := by decide +kernel
theorem own_d2_73 : decode prog_11_method_2_code 73 = .ok (.ireturn, 1) := by decide +kernel
theorem own_pn0 : plainName "com/example/linkbook/linkbook/coding/Bch" = true := by first | (simp [plainName, overriddenIn]; done) | decide +kernel
theorem own_ef_rm2_0 (m : MethodId) (a1 : Addr) : entryFrame m #[(.ref a1), (.int (0 : Int32))] 6 = mkF m 0 #[.val (.ref a1), .val (.int (0 : Int32)), .unset, .unset, .unset, .unset] [] := by first | (simp [entryFrame, mkF, argsToLocals, Value.category]; done) | rfl
def Q2_0 (Z : State) (a1 : Addr) (k : ClassId) (v0 : Int32) (v1 : Int32) (v2 : Int32) (v3 : Int32) (v4 : Int32) (v5 : Int32) (v6 : Int32) (v7 : Int32) (v8 : Int32) (v9 : Int32) (h0 : Heap) (n0 : Nat) (v : Option Value) (h : Heap) (L : List Loc) : Prop := v = some (.int (own_par v0 v1 v2 v3 v4 v5 v6)) ∧ Fr n0 L ∧ h = h0
set_option maxRecDepth 65536 in
set_option maxHeartbeats 40000000 in
theorem rm2_0 (l : Launch) (Z : State) (a0 : Array Value) (hw : ∀ d ∈ tables_1, d.before a0 Z = true) (ws : List Jvm.Cond) (a1 : Addr) (k : ClassId) (v0 : Int32) (v1 : Int32) (v2 : Int32) (v3 : Int32) (v4 : Int32) (v5 : Int32) (v6 : Int32) (v7 : Int32) (v8 : Int32) (v9 : Int32) (h0 : Heap) (n0 : Nat) (Z0 : n0 ≤ h0.size) (V_a1 : Arv Z h0 a1 k .byte (10 : Int32) [(.int v0), (.int v1), (.int v2), (.int v3), (.int v4), (.int v5), (.int v6), (.int v7), (.int v8), (.int v9)] (.int (0 : Int32))) :
    MetFree l (⟨"com/example/linkbook/linkbook/coding/Bch", "parityOctet", "([BI)I"⟩ : MethodName) (head1 (Jvm.Cond.code (⟨"com/example/linkbook/linkbook/coding/Bch", "parityOctet", "([BI)I"⟩ : MethodName) prog_11_method_2_code 6 (some .int) :: ws) ({ frames := 0, cells := 0, slots := 0, locals := 0 } : Room)) (fun a U => a = #[(.ref a1), (.int (0 : Int32))] ∧ Z.Warmed39 U.vm ∧ U.heap = h0) (fun _ _ _ _ _ => True) (fun _ U o U' => ∃ v L, o = .returned v ∧ Q2_0 Z a1 k v0 v1 v2 v3 v4 v5 v6 v7 v8 v9 h0 n0 v U'.heap L ∧ FrameEnd U o U' L ({ frames := 0, cells := 0, slots := 0, locals := 0 } : Room).cells ({ frames := 0, cells := 0, slots := 0, locals := 0 } : Room).slots) := by
  refine MetFree.of_bodySF (plainFor_of_name own_pn0) hisR ?_
  intro p e s m args below meth c s₁ Bd hml0 hP hK
  obtain ⟨rfl, hZ, hh⟩ := hP
  have hx := Bd.exec
  have hby := Bd.bytes
  have hml : c.maxLocals = 6 := hml0
  have hown : s.vm.findClass "com/example/linkbook/linkbook/coding/Bch" = some m.cls := findClass_of_methodNamed Bd.named
  have hnm := (name_of_methodNamed Bd.named Bd.method).1
  have X0 : Stand p l e ({ frames := 0, cells := 0, slots := 0, locals := 0 } : Room) s m #[(.ref a1), (.int (0 : Int32))] below meth c s₁ [] 0 0 := Stand.of_body Bd
  have e0 : s₁.heap = h0 := by rw [← hh, Bd.state]; rfl
  have N0 := Fr.nil n0
  have K0 : Keep h0 h0 [] := Keep.refl h0 _
  have pre0 : ∀ t, Steps p.tables e below (s₁.setTop (mkF m 0 #[.val (.ref a1), .val (.int (0 : Int32)), .unset, .unset, .unset, .unset] [])) t → Steps p.tables e below (s₁.setTop (entryFrame m #[(.ref a1), (.int (0 : Int32))] 6)) t := fun t k => castTop (own_ef_rm2_0 m a1) k
  obtain ⟨cl4, Ar4, q4, S4, M4, H4, G4⟩ := id V_a1
  have hin4 : ¬ ((0 : Int32) < 0 ∨ cl4.slots.size ≤ ((0 : Int32)).toNatClampNeg) := inb_of S4 ⟨by decide, by decide⟩
  have hat4 : cl4.slots[((0 : Int32)).toNatClampNeg]? = some (.int v0) := Has.at H4 hin4 rfl
  obtain ⟨cl5, Ar5, q5, S5, M5, H5, G5⟩ := id V_a1
  have hin5 : ¬ ((1 : Int32) < 0 ∨ cl5.slots.size ≤ ((1 : Int32)).toNatClampNeg) := inb_of S5 ⟨by decide, by decide⟩
  have hat5 : cl5.slots[((1 : Int32)).toNatClampNeg]? = some (.int v1) := Has.at H5 hin5 rfl
  obtain ⟨cl6, Ar6, q6, S6, M6, H6, G6⟩ := id V_a1
  have hin6 : ¬ ((2 : Int32) < 0 ∨ cl6.slots.size ≤ ((2 : Int32)).toNatClampNeg) := inb_of S6 ⟨by decide, by decide⟩
  have hat6 : cl6.slots[((2 : Int32)).toNatClampNeg]? = some (.int v2) := Has.at H6 hin6 rfl
  obtain ⟨cl7, Ar7, q7, S7, M7, H7, G7⟩ := id V_a1
  have hin7 : ¬ ((3 : Int32) < 0 ∨ cl7.slots.size ≤ ((3 : Int32)).toNatClampNeg) := inb_of S7 ⟨by decide, by decide⟩
  have hat7 : cl7.slots[((3 : Int32)).toNatClampNeg]? = some (.int v3) := Has.at H7 hin7 rfl
  obtain ⟨cl8, Ar8, q8, S8, M8, H8, G8⟩ := id V_a1
  have hin8 : ¬ ((4 : Int32) < 0 ∨ cl8.slots.size ≤ ((4 : Int32)).toNatClampNeg) := inb_of S8 ⟨by decide, by decide⟩
  have hat8 : cl8.slots[((4 : Int32)).toNatClampNeg]? = some (.int v4) := Has.at H8 hin8 rfl
  obtain ⟨cl9, Ar9, q9, S9, M9, H9, G9⟩ := id V_a1
  have hin9 : ¬ ((5 : Int32) < 0 ∨ cl9.slots.size ≤ ((5 : Int32)).toNatClampNeg) := inb_of S9 ⟨by decide, by decide⟩
  have hat9 : cl9.slots[((5 : Int32)).toNatClampNeg]? = some (.int v5) := Has.at H9 hin9 rfl
  obtain ⟨cl10, Ar10, q10, S10, M10, H10, G10⟩ := id V_a1
  have hin10 : ¬ ((6 : Int32) < 0 ∨ cl10.slots.size ≤ ((6 : Int32)).toNatClampNeg) := inb_of S10 ⟨by decide, by decide⟩
  have hat10 : cl10.slots[((6 : Int32)).toNatClampNeg]? = some (.int v6) := Has.at H10 hin10 rfl
  obtain ⟨fs, hr, hrun, hended, hW, hsame⟩ := X0.leave (v := some (.int ((((own_byte (own_byte (own_byte (own_byte (own_byte (own_byte (own_byte (0 : Int32) v0) v1) v2) v3) v4) v5) v6) ^^^ (-1 : Int32)) &&& (127 : Int32)) <<< ((1 : Int32) &&& 31)))) (fun h => by rw [Bd.returns] at h; cases h)
  refine ⟨_, _, pre0 _ ?_, hrun, hended, _, _, rfl, ?_, ⟨_, rfl⟩, hW, hsame.mono (by decide) (by decide)⟩
  · show Steps p.tables e below (s₁.setTop (mkF m 0 #[.val (.ref a1), .val (.int (0 : Int32)), .unset, .unset, .unset, .unset] [])) _
    refine XS.iconst X0.here hx rfl (hb hby own_d2_0) ?_
    show Steps p.tables e below (s₁.setTop (mkF m 1 #[.val (.ref a1), .val (.int (0 : Int32)), .unset, .unset, .unset, .unset] [(.int (0 : Int32))])) _
    refine XS.istoreN X0.here hx rfl (hb hby own_d2_1) rfl (l' := #[.val (.ref a1), .val (.int (0 : Int32)), .val (.int (0 : Int32)), .unset, .unset, .unset]) rfl ?_
    show Steps p.tables e below (s₁.setTop (mkF m 2 #[.val (.ref a1), .val (.int (0 : Int32)), .val (.int (0 : Int32)), .unset, .unset, .unset] [])) _
    refine XS.iloadN X0.here hx rfl (hb hby own_d2_2) rfl ?_
    show Steps p.tables e below (s₁.setTop (mkF m 3 #[.val (.ref a1), .val (.int (0 : Int32)), .val (.int (0 : Int32)), .unset, .unset, .unset] [(.int (0 : Int32))])) _
    refine XS.istoreN X0.here hx rfl (hb hby own_d2_3) rfl (l' := #[.val (.ref a1), .val (.int (0 : Int32)), .val (.int (0 : Int32)), .val (.int (0 : Int32)), .unset, .unset]) rfl ?_
    show Steps p.tables e below (s₁.setTop (mkF m 4 #[.val (.ref a1), .val (.int (0 : Int32)), .val (.int (0 : Int32)), .val (.int (0 : Int32)), .unset, .unset] [])) _
    refine XS.iloadN X0.here hx rfl (hb hby own_d2_4) rfl ?_
    show Steps p.tables e below (s₁.setTop (mkF m 5 #[.val (.ref a1), .val (.int (0 : Int32)), .val (.int (0 : Int32)), .val (.int (0 : Int32)), .unset, .unset] [(.int (0 : Int32))])) _
    refine XS.iloadN X0.here hx rfl (hb hby own_d2_5) rfl ?_
    show Steps p.tables e below (s₁.setTop (mkF m 6 #[.val (.ref a1), .val (.int (0 : Int32)), .val (.int (0 : Int32)), .val (.int (0 : Int32)), .unset, .unset] [(.int (0 : Int32)), (.int (0 : Int32))])) _
    refine XS.bipush X0.here hx rfl (hb hby own_d2_6) ?_
    show Steps p.tables e below (s₁.setTop (mkF m 8 #[.val (.ref a1), .val (.int (0 : Int32)), .val (.int (0 : Int32)), .val (.int (0 : Int32)), .unset, .unset] [(.int (7 : Int32)), (.int (0 : Int32)), (.int (0 : Int32))])) _
    refine XS.iadd X0.here hx rfl (hb hby own_d2_8) rfl ?_
    show Steps p.tables e below (s₁.setTop (mkF m 9 #[.val (.ref a1), .val (.int (0 : Int32)), .val (.int (0 : Int32)), .val (.int (0 : Int32)), .unset, .unset] [(.int (7 : Int32)), (.int (0 : Int32))])) _
    refine XS.icmpNo X0.here hx rfl (hb hby own_d2_9) rfl (tlt (by decide : ((0 : Int32) < (7 : Int32)))).2.1 ?_
    show Steps p.tables e below (s₁.setTop (mkF m 12 #[.val (.ref a1), .val (.int (0 : Int32)), .val (.int (0 : Int32)), .val (.int (0 : Int32)), .unset, .unset] [])) _
    refine XS.bipush X0.here hx rfl (hb hby own_d2_12) ?_
    show Steps p.tables e below (s₁.setTop (mkF m 14 #[.val (.ref a1), .val (.int (0 : Int32)), .val (.int (0 : Int32)), .val (.int (0 : Int32)), .unset, .unset] [(.int (7 : Int32))])) _
    refine XS.istore X0.here hx rfl (hb hby own_d2_14) rfl (l' := #[.val (.ref a1), .val (.int (0 : Int32)), .val (.int (0 : Int32)), .val (.int (0 : Int32)), .val (.int (7 : Int32)), .unset]) rfl ?_
    show Steps p.tables e below (s₁.setTop (mkF m 16 #[.val (.ref a1), .val (.int (0 : Int32)), .val (.int (0 : Int32)), .val (.int (0 : Int32)), .val (.int (7 : Int32)), .unset] [])) _
    refine own_inner X0 hx hZ hby e0 a1 (0 : Int32) (0 : Int32) (0 : Int32) v0 cl4 _ Ar4 hin4 hat4 One.u (fun w4 => ?_)
    show Steps p.tables e below (s₁.setTop (mkF m 59 #[.val (.ref a1), .val (.int (0 : Int32)), .val (.int (own_byte (0 : Int32) v0)), .val (.int (0 : Int32)), .val (.int (-1 : Int32)), .val (.int w4)] [])) _
    refine XS.iinc X0.here hx rfl (hb hby own_d2_59) rfl (l' := #[.val (.ref a1), .val (.int (0 : Int32)), .val (.int (own_byte (0 : Int32) v0)), .val (.int (1 : Int32)), .val (.int (-1 : Int32)), .val (.int w4)]) rfl ?_
    show Steps p.tables e below (s₁.setTop (mkF m 62 #[.val (.ref a1), .val (.int (0 : Int32)), .val (.int (own_byte (0 : Int32) v0)), .val (.int (1 : Int32)), .val (.int (-1 : Int32)), .val (.int w4)] [])) _
    refine XS.goto X0.here hx rfl (pc0 := 62) (pc' := 4) rfl (hb hby own_d2_62) (by decide) (by decide) ?_
    show Steps p.tables e below (s₁.setTop (mkF m 4 #[.val (.ref a1), .val (.int (0 : Int32)), .val (.int (own_byte (0 : Int32) v0)), .val (.int (1 : Int32)), .val (.int (-1 : Int32)), .val (.int w4)] [])) _
    refine XS.iloadN X0.here hx rfl (hb hby own_d2_4) rfl ?_
    show Steps p.tables e below (s₁.setTop (mkF m 5 #[.val (.ref a1), .val (.int (0 : Int32)), .val (.int (own_byte (0 : Int32) v0)), .val (.int (1 : Int32)), .val (.int (-1 : Int32)), .val (.int w4)] [(.int (1 : Int32))])) _
    refine XS.iloadN X0.here hx rfl (hb hby own_d2_5) rfl ?_
    show Steps p.tables e below (s₁.setTop (mkF m 6 #[.val (.ref a1), .val (.int (0 : Int32)), .val (.int (own_byte (0 : Int32) v0)), .val (.int (1 : Int32)), .val (.int (-1 : Int32)), .val (.int w4)] [(.int (0 : Int32)), (.int (1 : Int32))])) _
    refine XS.bipush X0.here hx rfl (hb hby own_d2_6) ?_
    show Steps p.tables e below (s₁.setTop (mkF m 8 #[.val (.ref a1), .val (.int (0 : Int32)), .val (.int (own_byte (0 : Int32) v0)), .val (.int (1 : Int32)), .val (.int (-1 : Int32)), .val (.int w4)] [(.int (7 : Int32)), (.int (0 : Int32)), (.int (1 : Int32))])) _
    refine XS.iadd X0.here hx rfl (hb hby own_d2_8) rfl ?_
    show Steps p.tables e below (s₁.setTop (mkF m 9 #[.val (.ref a1), .val (.int (0 : Int32)), .val (.int (own_byte (0 : Int32) v0)), .val (.int (1 : Int32)), .val (.int (-1 : Int32)), .val (.int w4)] [(.int (7 : Int32)), (.int (1 : Int32))])) _
    refine XS.icmpNo X0.here hx rfl (hb hby own_d2_9) rfl (tlt (by decide : ((1 : Int32) < (7 : Int32)))).2.1 ?_
    show Steps p.tables e below (s₁.setTop (mkF m 12 #[.val (.ref a1), .val (.int (0 : Int32)), .val (.int (own_byte (0 : Int32) v0)), .val (.int (1 : Int32)), .val (.int (-1 : Int32)), .val (.int w4)] [])) _
    refine XS.bipush X0.here hx rfl (hb hby own_d2_12) ?_
    show Steps p.tables e below (s₁.setTop (mkF m 14 #[.val (.ref a1), .val (.int (0 : Int32)), .val (.int (own_byte (0 : Int32) v0)), .val (.int (1 : Int32)), .val (.int (-1 : Int32)), .val (.int w4)] [(.int (7 : Int32))])) _
    refine XS.istore X0.here hx rfl (hb hby own_d2_14) rfl (l' := #[.val (.ref a1), .val (.int (0 : Int32)), .val (.int (own_byte (0 : Int32) v0)), .val (.int (1 : Int32)), .val (.int (7 : Int32)), .val (.int w4)]) rfl ?_
    show Steps p.tables e below (s₁.setTop (mkF m 16 #[.val (.ref a1), .val (.int (0 : Int32)), .val (.int (own_byte (0 : Int32) v0)), .val (.int (1 : Int32)), .val (.int (7 : Int32)), .val (.int w4)] [])) _
    refine own_inner X0 hx hZ hby e0 a1 (0 : Int32) (own_byte (0 : Int32) v0) (1 : Int32) v1 cl5 _ Ar5 hin5 hat5 (One.val rfl) (fun w5 => ?_)
    show Steps p.tables e below (s₁.setTop (mkF m 59 #[.val (.ref a1), .val (.int (0 : Int32)), .val (.int (own_byte (own_byte (0 : Int32) v0) v1)), .val (.int (1 : Int32)), .val (.int (-1 : Int32)), .val (.int w5)] [])) _
    refine XS.iinc X0.here hx rfl (hb hby own_d2_59) rfl (l' := #[.val (.ref a1), .val (.int (0 : Int32)), .val (.int (own_byte (own_byte (0 : Int32) v0) v1)), .val (.int (2 : Int32)), .val (.int (-1 : Int32)), .val (.int w5)]) rfl ?_
    show Steps p.tables e below (s₁.setTop (mkF m 62 #[.val (.ref a1), .val (.int (0 : Int32)), .val (.int (own_byte (own_byte (0 : Int32) v0) v1)), .val (.int (2 : Int32)), .val (.int (-1 : Int32)), .val (.int w5)] [])) _
    refine XS.goto X0.here hx rfl (pc0 := 62) (pc' := 4) rfl (hb hby own_d2_62) (by decide) (by decide) ?_
    show Steps p.tables e below (s₁.setTop (mkF m 4 #[.val (.ref a1), .val (.int (0 : Int32)), .val (.int (own_byte (own_byte (0 : Int32) v0) v1)), .val (.int (2 : Int32)), .val (.int (-1 : Int32)), .val (.int w5)] [])) _
    refine XS.iloadN X0.here hx rfl (hb hby own_d2_4) rfl ?_
    show Steps p.tables e below (s₁.setTop (mkF m 5 #[.val (.ref a1), .val (.int (0 : Int32)), .val (.int (own_byte (own_byte (0 : Int32) v0) v1)), .val (.int (2 : Int32)), .val (.int (-1 : Int32)), .val (.int w5)] [(.int (2 : Int32))])) _
    refine XS.iloadN X0.here hx rfl (hb hby own_d2_5) rfl ?_
    show Steps p.tables e below (s₁.setTop (mkF m 6 #[.val (.ref a1), .val (.int (0 : Int32)), .val (.int (own_byte (own_byte (0 : Int32) v0) v1)), .val (.int (2 : Int32)), .val (.int (-1 : Int32)), .val (.int w5)] [(.int (0 : Int32)), (.int (2 : Int32))])) _
    refine XS.bipush X0.here hx rfl (hb hby own_d2_6) ?_
    show Steps p.tables e below (s₁.setTop (mkF m 8 #[.val (.ref a1), .val (.int (0 : Int32)), .val (.int (own_byte (own_byte (0 : Int32) v0) v1)), .val (.int (2 : Int32)), .val (.int (-1 : Int32)), .val (.int w5)] [(.int (7 : Int32)), (.int (0 : Int32)), (.int (2 : Int32))])) _
    refine XS.iadd X0.here hx rfl (hb hby own_d2_8) rfl ?_
    show Steps p.tables e below (s₁.setTop (mkF m 9 #[.val (.ref a1), .val (.int (0 : Int32)), .val (.int (own_byte (own_byte (0 : Int32) v0) v1)), .val (.int (2 : Int32)), .val (.int (-1 : Int32)), .val (.int w5)] [(.int (7 : Int32)), (.int (2 : Int32))])) _
    refine XS.icmpNo X0.here hx rfl (hb hby own_d2_9) rfl (tlt (by decide : ((2 : Int32) < (7 : Int32)))).2.1 ?_
    show Steps p.tables e below (s₁.setTop (mkF m 12 #[.val (.ref a1), .val (.int (0 : Int32)), .val (.int (own_byte (own_byte (0 : Int32) v0) v1)), .val (.int (2 : Int32)), .val (.int (-1 : Int32)), .val (.int w5)] [])) _
    refine XS.bipush X0.here hx rfl (hb hby own_d2_12) ?_
    show Steps p.tables e below (s₁.setTop (mkF m 14 #[.val (.ref a1), .val (.int (0 : Int32)), .val (.int (own_byte (own_byte (0 : Int32) v0) v1)), .val (.int (2 : Int32)), .val (.int (-1 : Int32)), .val (.int w5)] [(.int (7 : Int32))])) _
    refine XS.istore X0.here hx rfl (hb hby own_d2_14) rfl (l' := #[.val (.ref a1), .val (.int (0 : Int32)), .val (.int (own_byte (own_byte (0 : Int32) v0) v1)), .val (.int (2 : Int32)), .val (.int (7 : Int32)), .val (.int w5)]) rfl ?_
    show Steps p.tables e below (s₁.setTop (mkF m 16 #[.val (.ref a1), .val (.int (0 : Int32)), .val (.int (own_byte (own_byte (0 : Int32) v0) v1)), .val (.int (2 : Int32)), .val (.int (7 : Int32)), .val (.int w5)] [])) _
    refine own_inner X0 hx hZ hby e0 a1 (0 : Int32) (own_byte (own_byte (0 : Int32) v0) v1) (2 : Int32) v2 cl6 _ Ar6 hin6 hat6 (One.val rfl) (fun w6 => ?_)
    show Steps p.tables e below (s₁.setTop (mkF m 59 #[.val (.ref a1), .val (.int (0 : Int32)), .val (.int (own_byte (own_byte (own_byte (0 : Int32) v0) v1) v2)), .val (.int (2 : Int32)), .val (.int (-1 : Int32)), .val (.int w6)] [])) _
    refine XS.iinc X0.here hx rfl (hb hby own_d2_59) rfl (l' := #[.val (.ref a1), .val (.int (0 : Int32)), .val (.int (own_byte (own_byte (own_byte (0 : Int32) v0) v1) v2)), .val (.int (3 : Int32)), .val (.int (-1 : Int32)), .val (.int w6)]) rfl ?_
    show Steps p.tables e below (s₁.setTop (mkF m 62 #[.val (.ref a1), .val (.int (0 : Int32)), .val (.int (own_byte (own_byte (own_byte (0 : Int32) v0) v1) v2)), .val (.int (3 : Int32)), .val (.int (-1 : Int32)), .val (.int w6)] [])) _
    refine XS.goto X0.here hx rfl (pc0 := 62) (pc' := 4) rfl (hb hby own_d2_62) (by decide) (by decide) ?_
    show Steps p.tables e below (s₁.setTop (mkF m 4 #[.val (.ref a1), .val (.int (0 : Int32)), .val (.int (own_byte (own_byte (own_byte (0 : Int32) v0) v1) v2)), .val (.int (3 : Int32)), .val (.int (-1 : Int32)), .val (.int w6)] [])) _
    refine XS.iloadN X0.here hx rfl (hb hby own_d2_4) rfl ?_
    show Steps p.tables e below (s₁.setTop (mkF m 5 #[.val (.ref a1), .val (.int (0 : Int32)), .val (.int (own_byte (own_byte (own_byte (0 : Int32) v0) v1) v2)), .val (.int (3 : Int32)), .val (.int (-1 : Int32)), .val (.int w6)] [(.int (3 : Int32))])) _
    refine XS.iloadN X0.here hx rfl (hb hby own_d2_5) rfl ?_
    show Steps p.tables e below (s₁.setTop (mkF m 6 #[.val (.ref a1), .val (.int (0 : Int32)), .val (.int (own_byte (own_byte (own_byte (0 : Int32) v0) v1) v2)), .val (.int (3 : Int32)), .val (.int (-1 : Int32)), .val (.int w6)] [(.int (0 : Int32)), (.int (3 : Int32))])) _
    refine XS.bipush X0.here hx rfl (hb hby own_d2_6) ?_
    show Steps p.tables e below (s₁.setTop (mkF m 8 #[.val (.ref a1), .val (.int (0 : Int32)), .val (.int (own_byte (own_byte (own_byte (0 : Int32) v0) v1) v2)), .val (.int (3 : Int32)), .val (.int (-1 : Int32)), .val (.int w6)] [(.int (7 : Int32)), (.int (0 : Int32)), (.int (3 : Int32))])) _
    refine XS.iadd X0.here hx rfl (hb hby own_d2_8) rfl ?_
    show Steps p.tables e below (s₁.setTop (mkF m 9 #[.val (.ref a1), .val (.int (0 : Int32)), .val (.int (own_byte (own_byte (own_byte (0 : Int32) v0) v1) v2)), .val (.int (3 : Int32)), .val (.int (-1 : Int32)), .val (.int w6)] [(.int (7 : Int32)), (.int (3 : Int32))])) _
    refine XS.icmpNo X0.here hx rfl (hb hby own_d2_9) rfl (tlt (by decide : ((3 : Int32) < (7 : Int32)))).2.1 ?_
    show Steps p.tables e below (s₁.setTop (mkF m 12 #[.val (.ref a1), .val (.int (0 : Int32)), .val (.int (own_byte (own_byte (own_byte (0 : Int32) v0) v1) v2)), .val (.int (3 : Int32)), .val (.int (-1 : Int32)), .val (.int w6)] [])) _
    refine XS.bipush X0.here hx rfl (hb hby own_d2_12) ?_
    show Steps p.tables e below (s₁.setTop (mkF m 14 #[.val (.ref a1), .val (.int (0 : Int32)), .val (.int (own_byte (own_byte (own_byte (0 : Int32) v0) v1) v2)), .val (.int (3 : Int32)), .val (.int (-1 : Int32)), .val (.int w6)] [(.int (7 : Int32))])) _
    refine XS.istore X0.here hx rfl (hb hby own_d2_14) rfl (l' := #[.val (.ref a1), .val (.int (0 : Int32)), .val (.int (own_byte (own_byte (own_byte (0 : Int32) v0) v1) v2)), .val (.int (3 : Int32)), .val (.int (7 : Int32)), .val (.int w6)]) rfl ?_
    show Steps p.tables e below (s₁.setTop (mkF m 16 #[.val (.ref a1), .val (.int (0 : Int32)), .val (.int (own_byte (own_byte (own_byte (0 : Int32) v0) v1) v2)), .val (.int (3 : Int32)), .val (.int (7 : Int32)), .val (.int w6)] [])) _
    refine own_inner X0 hx hZ hby e0 a1 (0 : Int32) (own_byte (own_byte (own_byte (0 : Int32) v0) v1) v2) (3 : Int32) v3 cl7 _ Ar7 hin7 hat7 (One.val rfl) (fun w7 => ?_)
    show Steps p.tables e below (s₁.setTop (mkF m 59 #[.val (.ref a1), .val (.int (0 : Int32)), .val (.int (own_byte (own_byte (own_byte (own_byte (0 : Int32) v0) v1) v2) v3)), .val (.int (3 : Int32)), .val (.int (-1 : Int32)), .val (.int w7)] [])) _
    refine XS.iinc X0.here hx rfl (hb hby own_d2_59) rfl (l' := #[.val (.ref a1), .val (.int (0 : Int32)), .val (.int (own_byte (own_byte (own_byte (own_byte (0 : Int32) v0) v1) v2) v3)), .val (.int (4 : Int32)), .val (.int (-1 : Int32)), .val (.int w7)]) rfl ?_
    show Steps p.tables e below (s₁.setTop (mkF m 62 #[.val (.ref a1), .val (.int (0 : Int32)), .val (.int (own_byte (own_byte (own_byte (own_byte (0 : Int32) v0) v1) v2) v3)), .val (.int (4 : Int32)), .val (.int (-1 : Int32)), .val (.int w7)] [])) _
    refine XS.goto X0.here hx rfl (pc0 := 62) (pc' := 4) rfl (hb hby own_d2_62) (by decide) (by decide) ?_
    show Steps p.tables e below (s₁.setTop (mkF m 4 #[.val (.ref a1), .val (.int (0 : Int32)), .val (.int (own_byte (own_byte (own_byte (own_byte (0 : Int32) v0) v1) v2) v3)), .val (.int (4 : Int32)), .val (.int (-1 : Int32)), .val (.int w7)] [])) _
    refine XS.iloadN X0.here hx rfl (hb hby own_d2_4) rfl ?_
    show Steps p.tables e below (s₁.setTop (mkF m 5 #[.val (.ref a1), .val (.int (0 : Int32)), .val (.int (own_byte (own_byte (own_byte (own_byte (0 : Int32) v0) v1) v2) v3)), .val (.int (4 : Int32)), .val (.int (-1 : Int32)), .val (.int w7)] [(.int (4 : Int32))])) _
    refine XS.iloadN X0.here hx rfl (hb hby own_d2_5) rfl ?_
    show Steps p.tables e below (s₁.setTop (mkF m 6 #[.val (.ref a1), .val (.int (0 : Int32)), .val (.int (own_byte (own_byte (own_byte (own_byte (0 : Int32) v0) v1) v2) v3)), .val (.int (4 : Int32)), .val (.int (-1 : Int32)), .val (.int w7)] [(.int (0 : Int32)), (.int (4 : Int32))])) _
    refine XS.bipush X0.here hx rfl (hb hby own_d2_6) ?_
    show Steps p.tables e below (s₁.setTop (mkF m 8 #[.val (.ref a1), .val (.int (0 : Int32)), .val (.int (own_byte (own_byte (own_byte (own_byte (0 : Int32) v0) v1) v2) v3)), .val (.int (4 : Int32)), .val (.int (-1 : Int32)), .val (.int w7)] [(.int (7 : Int32)), (.int (0 : Int32)), (.int (4 : Int32))])) _
    refine XS.iadd X0.here hx rfl (hb hby own_d2_8) rfl ?_
    show Steps p.tables e below (s₁.setTop (mkF m 9 #[.val (.ref a1), .val (.int (0 : Int32)), .val (.int (own_byte (own_byte (own_byte (own_byte (0 : Int32) v0) v1) v2) v3)), .val (.int (4 : Int32)), .val (.int (-1 : Int32)), .val (.int w7)] [(.int (7 : Int32)), (.int (4 : Int32))])) _
    refine XS.icmpNo X0.here hx rfl (hb hby own_d2_9) rfl (tlt (by decide : ((4 : Int32) < (7 : Int32)))).2.1 ?_
    show Steps p.tables e below (s₁.setTop (mkF m 12 #[.val (.ref a1), .val (.int (0 : Int32)), .val (.int (own_byte (own_byte (own_byte (own_byte (0 : Int32) v0) v1) v2) v3)), .val (.int (4 : Int32)), .val (.int (-1 : Int32)), .val (.int w7)] [])) _
    refine XS.bipush X0.here hx rfl (hb hby own_d2_12) ?_
    show Steps p.tables e below (s₁.setTop (mkF m 14 #[.val (.ref a1), .val (.int (0 : Int32)), .val (.int (own_byte (own_byte (own_byte (own_byte (0 : Int32) v0) v1) v2) v3)), .val (.int (4 : Int32)), .val (.int (-1 : Int32)), .val (.int w7)] [(.int (7 : Int32))])) _
    refine XS.istore X0.here hx rfl (hb hby own_d2_14) rfl (l' := #[.val (.ref a1), .val (.int (0 : Int32)), .val (.int (own_byte (own_byte (own_byte (own_byte (0 : Int32) v0) v1) v2) v3)), .val (.int (4 : Int32)), .val (.int (7 : Int32)), .val (.int w7)]) rfl ?_
    show Steps p.tables e below (s₁.setTop (mkF m 16 #[.val (.ref a1), .val (.int (0 : Int32)), .val (.int (own_byte (own_byte (own_byte (own_byte (0 : Int32) v0) v1) v2) v3)), .val (.int (4 : Int32)), .val (.int (7 : Int32)), .val (.int w7)] [])) _
    refine own_inner X0 hx hZ hby e0 a1 (0 : Int32) (own_byte (own_byte (own_byte (own_byte (0 : Int32) v0) v1) v2) v3) (4 : Int32) v4 cl8 _ Ar8 hin8 hat8 (One.val rfl) (fun w8 => ?_)
    show Steps p.tables e below (s₁.setTop (mkF m 59 #[.val (.ref a1), .val (.int (0 : Int32)), .val (.int (own_byte (own_byte (own_byte (own_byte (own_byte (0 : Int32) v0) v1) v2) v3) v4)), .val (.int (4 : Int32)), .val (.int (-1 : Int32)), .val (.int w8)] [])) _
    refine XS.iinc X0.here hx rfl (hb hby own_d2_59) rfl (l' := #[.val (.ref a1), .val (.int (0 : Int32)), .val (.int (own_byte (own_byte (own_byte (own_byte (own_byte (0 : Int32) v0) v1) v2) v3) v4)), .val (.int (5 : Int32)), .val (.int (-1 : Int32)), .val (.int w8)]) rfl ?_
    show Steps p.tables e below (s₁.setTop (mkF m 62 #[.val (.ref a1), .val (.int (0 : Int32)), .val (.int (own_byte (own_byte (own_byte (own_byte (own_byte (0 : Int32) v0) v1) v2) v3) v4)), .val (.int (5 : Int32)), .val (.int (-1 : Int32)), .val (.int w8)] [])) _
    refine XS.goto X0.here hx rfl (pc0 := 62) (pc' := 4) rfl (hb hby own_d2_62) (by decide) (by decide) ?_
    show Steps p.tables e below (s₁.setTop (mkF m 4 #[.val (.ref a1), .val (.int (0 : Int32)), .val (.int (own_byte (own_byte (own_byte (own_byte (own_byte (0 : Int32) v0) v1) v2) v3) v4)), .val (.int (5 : Int32)), .val (.int (-1 : Int32)), .val (.int w8)] [])) _
    refine XS.iloadN X0.here hx rfl (hb hby own_d2_4) rfl ?_
    show Steps p.tables e below (s₁.setTop (mkF m 5 #[.val (.ref a1), .val (.int (0 : Int32)), .val (.int (own_byte (own_byte (own_byte (own_byte (own_byte (0 : Int32) v0) v1) v2) v3) v4)), .val (.int (5 : Int32)), .val (.int (-1 : Int32)), .val (.int w8)] [(.int (5 : Int32))])) _
    refine XS.iloadN X0.here hx rfl (hb hby own_d2_5) rfl ?_
    show Steps p.tables e below (s₁.setTop (mkF m 6 #[.val (.ref a1), .val (.int (0 : Int32)), .val (.int (own_byte (own_byte (own_byte (own_byte (own_byte (0 : Int32) v0) v1) v2) v3) v4)), .val (.int (5 : Int32)), .val (.int (-1 : Int32)), .val (.int w8)] [(.int (0 : Int32)), (.int (5 : Int32))])) _
    refine XS.bipush X0.here hx rfl (hb hby own_d2_6) ?_
    show Steps p.tables e below (s₁.setTop (mkF m 8 #[.val (.ref a1), .val (.int (0 : Int32)), .val (.int (own_byte (own_byte (own_byte (own_byte (own_byte (0 : Int32) v0) v1) v2) v3) v4)), .val (.int (5 : Int32)), .val (.int (-1 : Int32)), .val (.int w8)] [(.int (7 : Int32)), (.int (0 : Int32)), (.int (5 : Int32))])) _
    refine XS.iadd X0.here hx rfl (hb hby own_d2_8) rfl ?_
    show Steps p.tables e below (s₁.setTop (mkF m 9 #[.val (.ref a1), .val (.int (0 : Int32)), .val (.int (own_byte (own_byte (own_byte (own_byte (own_byte (0 : Int32) v0) v1) v2) v3) v4)), .val (.int (5 : Int32)), .val (.int (-1 : Int32)), .val (.int w8)] [(.int (7 : Int32)), (.int (5 : Int32))])) _
    refine XS.icmpNo X0.here hx rfl (hb hby own_d2_9) rfl (tlt (by decide : ((5 : Int32) < (7 : Int32)))).2.1 ?_
    show Steps p.tables e below (s₁.setTop (mkF m 12 #[.val (.ref a1), .val (.int (0 : Int32)), .val (.int (own_byte (own_byte (own_byte (own_byte (own_byte (0 : Int32) v0) v1) v2) v3) v4)), .val (.int (5 : Int32)), .val (.int (-1 : Int32)), .val (.int w8)] [])) _
    refine XS.bipush X0.here hx rfl (hb hby own_d2_12) ?_
    show Steps p.tables e below (s₁.setTop (mkF m 14 #[.val (.ref a1), .val (.int (0 : Int32)), .val (.int (own_byte (own_byte (own_byte (own_byte (own_byte (0 : Int32) v0) v1) v2) v3) v4)), .val (.int (5 : Int32)), .val (.int (-1 : Int32)), .val (.int w8)] [(.int (7 : Int32))])) _
    refine XS.istore X0.here hx rfl (hb hby own_d2_14) rfl (l' := #[.val (.ref a1), .val (.int (0 : Int32)), .val (.int (own_byte (own_byte (own_byte (own_byte (own_byte (0 : Int32) v0) v1) v2) v3) v4)), .val (.int (5 : Int32)), .val (.int (7 : Int32)), .val (.int w8)]) rfl ?_
    show Steps p.tables e below (s₁.setTop (mkF m 16 #[.val (.ref a1), .val (.int (0 : Int32)), .val (.int (own_byte (own_byte (own_byte (own_byte (own_byte (0 : Int32) v0) v1) v2) v3) v4)), .val (.int (5 : Int32)), .val (.int (7 : Int32)), .val (.int w8)] [])) _
    refine own_inner X0 hx hZ hby e0 a1 (0 : Int32) (own_byte (own_byte (own_byte (own_byte (own_byte (0 : Int32) v0) v1) v2) v3) v4) (5 : Int32) v5 cl9 _ Ar9 hin9 hat9 (One.val rfl) (fun w9 => ?_)
    show Steps p.tables e below (s₁.setTop (mkF m 59 #[.val (.ref a1), .val (.int (0 : Int32)), .val (.int (own_byte (own_byte (own_byte (own_byte (own_byte (own_byte (0 : Int32) v0) v1) v2) v3) v4) v5)), .val (.int (5 : Int32)), .val (.int (-1 : Int32)), .val (.int w9)] [])) _
    refine XS.iinc X0.here hx rfl (hb hby own_d2_59) rfl (l' := #[.val (.ref a1), .val (.int (0 : Int32)), .val (.int (own_byte (own_byte (own_byte (own_byte (own_byte (own_byte (0 : Int32) v0) v1) v2) v3) v4) v5)), .val (.int (6 : Int32)), .val (.int (-1 : Int32)), .val (.int w9)]) rfl ?_
    show Steps p.tables e below (s₁.setTop (mkF m 62 #[.val (.ref a1), .val (.int (0 : Int32)), .val (.int (own_byte (own_byte (own_byte (own_byte (own_byte (own_byte (0 : Int32) v0) v1) v2) v3) v4) v5)), .val (.int (6 : Int32)), .val (.int (-1 : Int32)), .val (.int w9)] [])) _
    refine XS.goto X0.here hx rfl (pc0 := 62) (pc' := 4) rfl (hb hby own_d2_62) (by decide) (by decide) ?_
    show Steps p.tables e below (s₁.setTop (mkF m 4 #[.val (.ref a1), .val (.int (0 : Int32)), .val (.int (own_byte (own_byte (own_byte (own_byte (own_byte (own_byte (0 : Int32) v0) v1) v2) v3) v4) v5)), .val (.int (6 : Int32)), .val (.int (-1 : Int32)), .val (.int w9)] [])) _
    refine XS.iloadN X0.here hx rfl (hb hby own_d2_4) rfl ?_
    show Steps p.tables e below (s₁.setTop (mkF m 5 #[.val (.ref a1), .val (.int (0 : Int32)), .val (.int (own_byte (own_byte (own_byte (own_byte (own_byte (own_byte (0 : Int32) v0) v1) v2) v3) v4) v5)), .val (.int (6 : Int32)), .val (.int (-1 : Int32)), .val (.int w9)] [(.int (6 : Int32))])) _
    refine XS.iloadN X0.here hx rfl (hb hby own_d2_5) rfl ?_
    show Steps p.tables e below (s₁.setTop (mkF m 6 #[.val (.ref a1), .val (.int (0 : Int32)), .val (.int (own_byte (own_byte (own_byte (own_byte (own_byte (own_byte (0 : Int32) v0) v1) v2) v3) v4) v5)), .val (.int (6 : Int32)), .val (.int (-1 : Int32)), .val (.int w9)] [(.int (0 : Int32)), (.int (6 : Int32))])) _
    refine XS.bipush X0.here hx rfl (hb hby own_d2_6) ?_
    show Steps p.tables e below (s₁.setTop (mkF m 8 #[.val (.ref a1), .val (.int (0 : Int32)), .val (.int (own_byte (own_byte (own_byte (own_byte (own_byte (own_byte (0 : Int32) v0) v1) v2) v3) v4) v5)), .val (.int (6 : Int32)), .val (.int (-1 : Int32)), .val (.int w9)] [(.int (7 : Int32)), (.int (0 : Int32)), (.int (6 : Int32))])) _
    refine XS.iadd X0.here hx rfl (hb hby own_d2_8) rfl ?_
    show Steps p.tables e below (s₁.setTop (mkF m 9 #[.val (.ref a1), .val (.int (0 : Int32)), .val (.int (own_byte (own_byte (own_byte (own_byte (own_byte (own_byte (0 : Int32) v0) v1) v2) v3) v4) v5)), .val (.int (6 : Int32)), .val (.int (-1 : Int32)), .val (.int w9)] [(.int (7 : Int32)), (.int (6 : Int32))])) _
    refine XS.icmpNo X0.here hx rfl (hb hby own_d2_9) rfl (tlt (by decide : ((6 : Int32) < (7 : Int32)))).2.1 ?_
    show Steps p.tables e below (s₁.setTop (mkF m 12 #[.val (.ref a1), .val (.int (0 : Int32)), .val (.int (own_byte (own_byte (own_byte (own_byte (own_byte (own_byte (0 : Int32) v0) v1) v2) v3) v4) v5)), .val (.int (6 : Int32)), .val (.int (-1 : Int32)), .val (.int w9)] [])) _
    refine XS.bipush X0.here hx rfl (hb hby own_d2_12) ?_
    show Steps p.tables e below (s₁.setTop (mkF m 14 #[.val (.ref a1), .val (.int (0 : Int32)), .val (.int (own_byte (own_byte (own_byte (own_byte (own_byte (own_byte (0 : Int32) v0) v1) v2) v3) v4) v5)), .val (.int (6 : Int32)), .val (.int (-1 : Int32)), .val (.int w9)] [(.int (7 : Int32))])) _
    refine XS.istore X0.here hx rfl (hb hby own_d2_14) rfl (l' := #[.val (.ref a1), .val (.int (0 : Int32)), .val (.int (own_byte (own_byte (own_byte (own_byte (own_byte (own_byte (0 : Int32) v0) v1) v2) v3) v4) v5)), .val (.int (6 : Int32)), .val (.int (7 : Int32)), .val (.int w9)]) rfl ?_
    show Steps p.tables e below (s₁.setTop (mkF m 16 #[.val (.ref a1), .val (.int (0 : Int32)), .val (.int (own_byte (own_byte (own_byte (own_byte (own_byte (own_byte (0 : Int32) v0) v1) v2) v3) v4) v5)), .val (.int (6 : Int32)), .val (.int (7 : Int32)), .val (.int w9)] [])) _
    refine own_inner X0 hx hZ hby e0 a1 (0 : Int32) (own_byte (own_byte (own_byte (own_byte (own_byte (own_byte (0 : Int32) v0) v1) v2) v3) v4) v5) (6 : Int32) v6 cl10 _ Ar10 hin10 hat10 (One.val rfl) (fun w10 => ?_)
    show Steps p.tables e below (s₁.setTop (mkF m 59 #[.val (.ref a1), .val (.int (0 : Int32)), .val (.int (own_byte (own_byte (own_byte (own_byte (own_byte (own_byte (own_byte (0 : Int32) v0) v1) v2) v3) v4) v5) v6)), .val (.int (6 : Int32)), .val (.int (-1 : Int32)), .val (.int w10)] [])) _
    refine XS.iinc X0.here hx rfl (hb hby own_d2_59) rfl (l' := #[.val (.ref a1), .val (.int (0 : Int32)), .val (.int (own_byte (own_byte (own_byte (own_byte (own_byte (own_byte (own_byte (0 : Int32) v0) v1) v2) v3) v4) v5) v6)), .val (.int (7 : Int32)), .val (.int (-1 : Int32)), .val (.int w10)]) rfl ?_
    show Steps p.tables e below (s₁.setTop (mkF m 62 #[.val (.ref a1), .val (.int (0 : Int32)), .val (.int (own_byte (own_byte (own_byte (own_byte (own_byte (own_byte (own_byte (0 : Int32) v0) v1) v2) v3) v4) v5) v6)), .val (.int (7 : Int32)), .val (.int (-1 : Int32)), .val (.int w10)] [])) _
    refine XS.goto X0.here hx rfl (pc0 := 62) (pc' := 4) rfl (hb hby own_d2_62) (by decide) (by decide) ?_
    show Steps p.tables e below (s₁.setTop (mkF m 4 #[.val (.ref a1), .val (.int (0 : Int32)), .val (.int (own_byte (own_byte (own_byte (own_byte (own_byte (own_byte (own_byte (0 : Int32) v0) v1) v2) v3) v4) v5) v6)), .val (.int (7 : Int32)), .val (.int (-1 : Int32)), .val (.int w10)] [])) _
    refine XS.iloadN X0.here hx rfl (hb hby own_d2_4) rfl ?_
    show Steps p.tables e below (s₁.setTop (mkF m 5 #[.val (.ref a1), .val (.int (0 : Int32)), .val (.int (own_byte (own_byte (own_byte (own_byte (own_byte (own_byte (own_byte (0 : Int32) v0) v1) v2) v3) v4) v5) v6)), .val (.int (7 : Int32)), .val (.int (-1 : Int32)), .val (.int w10)] [(.int (7 : Int32))])) _
    refine XS.iloadN X0.here hx rfl (hb hby own_d2_5) rfl ?_
    show Steps p.tables e below (s₁.setTop (mkF m 6 #[.val (.ref a1), .val (.int (0 : Int32)), .val (.int (own_byte (own_byte (own_byte (own_byte (own_byte (own_byte (own_byte (0 : Int32) v0) v1) v2) v3) v4) v5) v6)), .val (.int (7 : Int32)), .val (.int (-1 : Int32)), .val (.int w10)] [(.int (0 : Int32)), (.int (7 : Int32))])) _
    refine XS.bipush X0.here hx rfl (hb hby own_d2_6) ?_
    show Steps p.tables e below (s₁.setTop (mkF m 8 #[.val (.ref a1), .val (.int (0 : Int32)), .val (.int (own_byte (own_byte (own_byte (own_byte (own_byte (own_byte (own_byte (0 : Int32) v0) v1) v2) v3) v4) v5) v6)), .val (.int (7 : Int32)), .val (.int (-1 : Int32)), .val (.int w10)] [(.int (7 : Int32)), (.int (0 : Int32)), (.int (7 : Int32))])) _
    refine XS.iadd X0.here hx rfl (hb hby own_d2_8) rfl ?_
    show Steps p.tables e below (s₁.setTop (mkF m 9 #[.val (.ref a1), .val (.int (0 : Int32)), .val (.int (own_byte (own_byte (own_byte (own_byte (own_byte (own_byte (own_byte (0 : Int32) v0) v1) v2) v3) v4) v5) v6)), .val (.int (7 : Int32)), .val (.int (-1 : Int32)), .val (.int w10)] [(.int (7 : Int32)), (.int (7 : Int32))])) _
    refine XS.icmpYes X0.here hx rfl (pc0 := 9) (pc' := 65) rfl (hb hby own_d2_9) rfl (flt (by decide : ¬ ((7 : Int32) < (7 : Int32)))).2.1 (by decide) (by decide) ?_
    show Steps p.tables e below (s₁.setTop (mkF m 65 #[.val (.ref a1), .val (.int (0 : Int32)), .val (.int (own_byte (own_byte (own_byte (own_byte (own_byte (own_byte (own_byte (0 : Int32) v0) v1) v2) v3) v4) v5) v6)), .val (.int (7 : Int32)), .val (.int (-1 : Int32)), .val (.int w10)] [])) _
    refine XS.iloadN X0.here hx rfl (hb hby own_d2_65) rfl ?_
    show Steps p.tables e below (s₁.setTop (mkF m 66 #[.val (.ref a1), .val (.int (0 : Int32)), .val (.int (own_byte (own_byte (own_byte (own_byte (own_byte (own_byte (own_byte (0 : Int32) v0) v1) v2) v3) v4) v5) v6)), .val (.int (7 : Int32)), .val (.int (-1 : Int32)), .val (.int w10)] [(.int (own_byte (own_byte (own_byte (own_byte (own_byte (own_byte (own_byte (0 : Int32) v0) v1) v2) v3) v4) v5) v6))])) _
    refine XS.iconst X0.here hx rfl (hb hby own_d2_66) ?_
    show Steps p.tables e below (s₁.setTop (mkF m 67 #[.val (.ref a1), .val (.int (0 : Int32)), .val (.int (own_byte (own_byte (own_byte (own_byte (own_byte (own_byte (own_byte (0 : Int32) v0) v1) v2) v3) v4) v5) v6)), .val (.int (7 : Int32)), .val (.int (-1 : Int32)), .val (.int w10)] [(.int (-1 : Int32)), (.int (own_byte (own_byte (own_byte (own_byte (own_byte (own_byte (own_byte (0 : Int32) v0) v1) v2) v3) v4) v5) v6))])) _
    refine XS.ixor X0.here hx rfl (hb hby own_d2_67) rfl ?_
    show Steps p.tables e below (s₁.setTop (mkF m 68 #[.val (.ref a1), .val (.int (0 : Int32)), .val (.int (own_byte (own_byte (own_byte (own_byte (own_byte (own_byte (own_byte (0 : Int32) v0) v1) v2) v3) v4) v5) v6)), .val (.int (7 : Int32)), .val (.int (-1 : Int32)), .val (.int w10)] [(.int ((own_byte (own_byte (own_byte (own_byte (own_byte (own_byte (own_byte (0 : Int32) v0) v1) v2) v3) v4) v5) v6) ^^^ (-1 : Int32)))])) _
    refine XS.bipush X0.here hx rfl (hb hby own_d2_68) ?_
    show Steps p.tables e below (s₁.setTop (mkF m 70 #[.val (.ref a1), .val (.int (0 : Int32)), .val (.int (own_byte (own_byte (own_byte (own_byte (own_byte (own_byte (own_byte (0 : Int32) v0) v1) v2) v3) v4) v5) v6)), .val (.int (7 : Int32)), .val (.int (-1 : Int32)), .val (.int w10)] [(.int (127 : Int32)), (.int ((own_byte (own_byte (own_byte (own_byte (own_byte (own_byte (own_byte (0 : Int32) v0) v1) v2) v3) v4) v5) v6) ^^^ (-1 : Int32)))])) _
    refine XS.iand X0.here hx rfl (hb hby own_d2_70) rfl ?_
    show Steps p.tables e below (s₁.setTop (mkF m 71 #[.val (.ref a1), .val (.int (0 : Int32)), .val (.int (own_byte (own_byte (own_byte (own_byte (own_byte (own_byte (own_byte (0 : Int32) v0) v1) v2) v3) v4) v5) v6)), .val (.int (7 : Int32)), .val (.int (-1 : Int32)), .val (.int w10)] [(.int (((own_byte (own_byte (own_byte (own_byte (own_byte (own_byte (own_byte (0 : Int32) v0) v1) v2) v3) v4) v5) v6) ^^^ (-1 : Int32)) &&& (127 : Int32)))])) _
    refine XS.iconst X0.here hx rfl (hb hby own_d2_71) ?_
    show Steps p.tables e below (s₁.setTop (mkF m 72 #[.val (.ref a1), .val (.int (0 : Int32)), .val (.int (own_byte (own_byte (own_byte (own_byte (own_byte (own_byte (own_byte (0 : Int32) v0) v1) v2) v3) v4) v5) v6)), .val (.int (7 : Int32)), .val (.int (-1 : Int32)), .val (.int w10)] [(.int (1 : Int32)), (.int (((own_byte (own_byte (own_byte (own_byte (own_byte (own_byte (own_byte (0 : Int32) v0) v1) v2) v3) v4) v5) v6) ^^^ (-1 : Int32)) &&& (127 : Int32)))])) _
    refine XS.ishl X0.here hx rfl (hb hby own_d2_72) rfl ?_
    show Steps p.tables e below (s₁.setTop (mkF m 73 #[.val (.ref a1), .val (.int (0 : Int32)), .val (.int (own_byte (own_byte (own_byte (own_byte (own_byte (own_byte (own_byte (0 : Int32) v0) v1) v2) v3) v4) v5) v6)), .val (.int (7 : Int32)), .val (.int (-1 : Int32)), .val (.int w10)] [(.int ((((own_byte (own_byte (own_byte (own_byte (own_byte (own_byte (own_byte (0 : Int32) v0) v1) v2) v3) v4) v5) v6) ^^^ (-1 : Int32)) &&& (127 : Int32)) <<< ((1 : Int32) &&& 31)))])) _
    exact retI X0 hx Bd.returns (hb hby own_d2_73) hr
  · show Q2_0 Z a1 k v0 v1 v2 v3 v4 v5 v6 v7 v8 v9 h0 n0 _ s₁.heap _
    rw [e0]
    exact ⟨rfl, N0, rfl⟩
theorem own_ef_rm2_1 (m : MethodId) (a1 : Addr) : entryFrame m #[(.ref a1), (.int (1 : Int32))] 6 = mkF m 0 #[.val (.ref a1), .val (.int (1 : Int32)), .unset, .unset, .unset, .unset] [] := by first | (simp [entryFrame, mkF, argsToLocals, Value.category]; done) | rfl
def Q2_1 (Z : State) (a1 : Addr) (k : ClassId) (v0 : Int32) (v1 : Int32) (v2 : Int32) (v3 : Int32) (v4 : Int32) (v5 : Int32) (v6 : Int32) (v7 : Int32) (v8 : Int32) (v9 : Int32) (h0 : Heap) (n0 : Nat) (v : Option Value) (h : Heap) (L : List Loc) : Prop := v = some (.int (own_par v1 v2 v3 v4 v5 v6 v7)) ∧ Fr n0 L ∧ h = h0
set_option maxRecDepth 65536 in
set_option maxHeartbeats 40000000 in
theorem rm2_1 (l : Launch) (Z : State) (a0 : Array Value) (hw : ∀ d ∈ tables_1, d.before a0 Z = true) (ws : List Jvm.Cond) (a1 : Addr) (k : ClassId) (v0 : Int32) (v1 : Int32) (v2 : Int32) (v3 : Int32) (v4 : Int32) (v5 : Int32) (v6 : Int32) (v7 : Int32) (v8 : Int32) (v9 : Int32) (h0 : Heap) (n0 : Nat) (Z0 : n0 ≤ h0.size) (V_a1 : Arv Z h0 a1 k .byte (10 : Int32) [(.int v0), (.int v1), (.int v2), (.int v3), (.int v4), (.int v5), (.int v6), (.int v7), (.int v8), (.int v9)] (.int (0 : Int32))) :
    MetFree l (⟨"com/example/linkbook/linkbook/coding/Bch", "parityOctet", "([BI)I"⟩ : MethodName) (head1 (Jvm.Cond.code (⟨"com/example/linkbook/linkbook/coding/Bch", "parityOctet", "([BI)I"⟩ : MethodName) prog_11_method_2_code 6 (some .int) :: ws) ({ frames := 0, cells := 0, slots := 0, locals := 0 } : Room)) (fun a U => a = #[(.ref a1), (.int (1 : Int32))] ∧ Z.Warmed39 U.vm ∧ U.heap = h0) (fun _ _ _ _ _ => True) (fun _ U o U' => ∃ v L, o = .returned v ∧ Q2_1 Z a1 k v0 v1 v2 v3 v4 v5 v6 v7 v8 v9 h0 n0 v U'.heap L ∧ FrameEnd U o U' L ({ frames := 0, cells := 0, slots := 0, locals := 0 } : Room).cells ({ frames := 0, cells := 0, slots := 0, locals := 0 } : Room).slots) := by
  refine MetFree.of_bodySF (plainFor_of_name own_pn0) hisR ?_
  intro p e s m args below meth c s₁ Bd hml0 hP hK
  obtain ⟨rfl, hZ, hh⟩ := hP
  have hx := Bd.exec
  have hby := Bd.bytes
  have hml : c.maxLocals = 6 := hml0
  have hown : s.vm.findClass "com/example/linkbook/linkbook/coding/Bch" = some m.cls := findClass_of_methodNamed Bd.named
  have hnm := (name_of_methodNamed Bd.named Bd.method).1
  have X0 : Stand p l e ({ frames := 0, cells := 0, slots := 0, locals := 0 } : Room) s m #[(.ref a1), (.int (1 : Int32))] below meth c s₁ [] 0 0 := Stand.of_body Bd
  have e0 : s₁.heap = h0 := by rw [← hh, Bd.state]; rfl
  have N0 := Fr.nil n0
  have K0 : Keep h0 h0 [] := Keep.refl h0 _
  have pre0 : ∀ t, Steps p.tables e below (s₁.setTop (mkF m 0 #[.val (.ref a1), .val (.int (1 : Int32)), .unset, .unset, .unset, .unset] [])) t → Steps p.tables e below (s₁.setTop (entryFrame m #[(.ref a1), (.int (1 : Int32))] 6)) t := fun t k => castTop (own_ef_rm2_1 m a1) k
  obtain ⟨cl11, Ar11, q11, S11, M11, H11, G11⟩ := id V_a1
  have hin11 : ¬ ((1 : Int32) < 0 ∨ cl11.slots.size ≤ ((1 : Int32)).toNatClampNeg) := inb_of S11 ⟨by decide, by decide⟩
  have hat11 : cl11.slots[((1 : Int32)).toNatClampNeg]? = some (.int v1) := Has.at H11 hin11 rfl
  obtain ⟨cl12, Ar12, q12, S12, M12, H12, G12⟩ := id V_a1
  have hin12 : ¬ ((2 : Int32) < 0 ∨ cl12.slots.size ≤ ((2 : Int32)).toNatClampNeg) := inb_of S12 ⟨by decide, by decide⟩
  have hat12 : cl12.slots[((2 : Int32)).toNatClampNeg]? = some (.int v2) := Has.at H12 hin12 rfl
  obtain ⟨cl13, Ar13, q13, S13, M13, H13, G13⟩ := id V_a1
  have hin13 : ¬ ((3 : Int32) < 0 ∨ cl13.slots.size ≤ ((3 : Int32)).toNatClampNeg) := inb_of S13 ⟨by decide, by decide⟩
  have hat13 : cl13.slots[((3 : Int32)).toNatClampNeg]? = some (.int v3) := Has.at H13 hin13 rfl
  obtain ⟨cl14, Ar14, q14, S14, M14, H14, G14⟩ := id V_a1
  have hin14 : ¬ ((4 : Int32) < 0 ∨ cl14.slots.size ≤ ((4 : Int32)).toNatClampNeg) := inb_of S14 ⟨by decide, by decide⟩
  have hat14 : cl14.slots[((4 : Int32)).toNatClampNeg]? = some (.int v4) := Has.at H14 hin14 rfl
  obtain ⟨cl15, Ar15, q15, S15, M15, H15, G15⟩ := id V_a1
  have hin15 : ¬ ((5 : Int32) < 0 ∨ cl15.slots.size ≤ ((5 : Int32)).toNatClampNeg) := inb_of S15 ⟨by decide, by decide⟩
  have hat15 : cl15.slots[((5 : Int32)).toNatClampNeg]? = some (.int v5) := Has.at H15 hin15 rfl
  obtain ⟨cl16, Ar16, q16, S16, M16, H16, G16⟩ := id V_a1
  have hin16 : ¬ ((6 : Int32) < 0 ∨ cl16.slots.size ≤ ((6 : Int32)).toNatClampNeg) := inb_of S16 ⟨by decide, by decide⟩
  have hat16 : cl16.slots[((6 : Int32)).toNatClampNeg]? = some (.int v6) := Has.at H16 hin16 rfl
  obtain ⟨cl17, Ar17, q17, S17, M17, H17, G17⟩ := id V_a1
  have hin17 : ¬ ((7 : Int32) < 0 ∨ cl17.slots.size ≤ ((7 : Int32)).toNatClampNeg) := inb_of S17 ⟨by decide, by decide⟩
  have hat17 : cl17.slots[((7 : Int32)).toNatClampNeg]? = some (.int v7) := Has.at H17 hin17 rfl
  obtain ⟨fs, hr, hrun, hended, hW, hsame⟩ := X0.leave (v := some (.int ((((own_byte (own_byte (own_byte (own_byte (own_byte (own_byte (own_byte (0 : Int32) v1) v2) v3) v4) v5) v6) v7) ^^^ (-1 : Int32)) &&& (127 : Int32)) <<< ((1 : Int32) &&& 31)))) (fun h => by rw [Bd.returns] at h; cases h)
  refine ⟨_, _, pre0 _ ?_, hrun, hended, _, _, rfl, ?_, ⟨_, rfl⟩, hW, hsame.mono (by decide) (by decide)⟩
  · show Steps p.tables e below (s₁.setTop (mkF m 0 #[.val (.ref a1), .val (.int (1 : Int32)), .unset, .unset, .unset, .unset] [])) _
    refine XS.iconst X0.here hx rfl (hb hby own_d2_0) ?_
    show Steps p.tables e below (s₁.setTop (mkF m 1 #[.val (.ref a1), .val (.int (1 : Int32)), .unset, .unset, .unset, .unset] [(.int (0 : Int32))])) _
    refine XS.istoreN X0.here hx rfl (hb hby own_d2_1) rfl (l' := #[.val (.ref a1), .val (.int (1 : Int32)), .val (.int (0 : Int32)), .unset, .unset, .unset]) rfl ?_
    show Steps p.tables e below (s₁.setTop (mkF m 2 #[.val (.ref a1), .val (.int (1 : Int32)), .val (.int (0 : Int32)), .unset, .unset, .unset] [])) _
    refine XS.iloadN X0.here hx rfl (hb hby own_d2_2) rfl ?_
    show Steps p.tables e below (s₁.setTop (mkF m 3 #[.val (.ref a1), .val (.int (1 : Int32)), .val (.int (0 : Int32)), .unset, .unset, .unset] [(.int (1 : Int32))])) _
    refine XS.istoreN X0.here hx rfl (hb hby own_d2_3) rfl (l' := #[.val (.ref a1), .val (.int (1 : Int32)), .val (.int (0 : Int32)), .val (.int (1 : Int32)), .unset, .unset]) rfl ?_
    show Steps p.tables e below (s₁.setTop (mkF m 4 #[.val (.ref a1), .val (.int (1 : Int32)), .val (.int (0 : Int32)), .val (.int (1 : Int32)), .unset, .unset] [])) _
    refine XS.iloadN X0.here hx rfl (hb hby own_d2_4) rfl ?_
    show Steps p.tables e below (s₁.setTop (mkF m 5 #[.val (.ref a1), .val (.int (1 : Int32)), .val (.int (0 : Int32)), .val (.int (1 : Int32)), .unset, .unset] [(.int (1 : Int32))])) _
    refine XS.iloadN X0.here hx rfl (hb hby own_d2_5) rfl ?_
    show Steps p.tables e below (s₁.setTop (mkF m 6 #[.val (.ref a1), .val (.int (1 : Int32)), .val (.int (0 : Int32)), .val (.int (1 : Int32)), .unset, .unset] [(.int (1 : Int32)), (.int (1 : Int32))])) _
    refine XS.bipush X0.here hx rfl (hb hby own_d2_6) ?_
    show Steps p.tables e below (s₁.setTop (mkF m 8 #[.val (.ref a1), .val (.int (1 : Int32)), .val (.int (0 : Int32)), .val (.int (1 : Int32)), .unset, .unset] [(.int (7 : Int32)), (.int (1 : Int32)), (.int (1 : Int32))])) _
    refine XS.iadd X0.here hx rfl (hb hby own_d2_8) rfl ?_
    show Steps p.tables e below (s₁.setTop (mkF m 9 #[.val (.ref a1), .val (.int (1 : Int32)), .val (.int (0 : Int32)), .val (.int (1 : Int32)), .unset, .unset] [(.int (8 : Int32)), (.int (1 : Int32))])) _
    refine XS.icmpNo X0.here hx rfl (hb hby own_d2_9) rfl (tlt (by decide : ((1 : Int32) < (8 : Int32)))).2.1 ?_
    show Steps p.tables e below (s₁.setTop (mkF m 12 #[.val (.ref a1), .val (.int (1 : Int32)), .val (.int (0 : Int32)), .val (.int (1 : Int32)), .unset, .unset] [])) _
    refine XS.bipush X0.here hx rfl (hb hby own_d2_12) ?_
    show Steps p.tables e below (s₁.setTop (mkF m 14 #[.val (.ref a1), .val (.int (1 : Int32)), .val (.int (0 : Int32)), .val (.int (1 : Int32)), .unset, .unset] [(.int (7 : Int32))])) _
    refine XS.istore X0.here hx rfl (hb hby own_d2_14) rfl (l' := #[.val (.ref a1), .val (.int (1 : Int32)), .val (.int (0 : Int32)), .val (.int (1 : Int32)), .val (.int (7 : Int32)), .unset]) rfl ?_
    show Steps p.tables e below (s₁.setTop (mkF m 16 #[.val (.ref a1), .val (.int (1 : Int32)), .val (.int (0 : Int32)), .val (.int (1 : Int32)), .val (.int (7 : Int32)), .unset] [])) _
    refine own_inner X0 hx hZ hby e0 a1 (1 : Int32) (0 : Int32) (1 : Int32) v1 cl11 _ Ar11 hin11 hat11 One.u (fun w11 => ?_)
    show Steps p.tables e below (s₁.setTop (mkF m 59 #[.val (.ref a1), .val (.int (1 : Int32)), .val (.int (own_byte (0 : Int32) v1)), .val (.int (1 : Int32)), .val (.int (-1 : Int32)), .val (.int w11)] [])) _
    refine XS.iinc X0.here hx rfl (hb hby own_d2_59) rfl (l' := #[.val (.ref a1), .val (.int (1 : Int32)), .val (.int (own_byte (0 : Int32) v1)), .val (.int (2 : Int32)), .val (.int (-1 : Int32)), .val (.int w11)]) rfl ?_
    show Steps p.tables e below (s₁.setTop (mkF m 62 #[.val (.ref a1), .val (.int (1 : Int32)), .val (.int (own_byte (0 : Int32) v1)), .val (.int (2 : Int32)), .val (.int (-1 : Int32)), .val (.int w11)] [])) _
    refine XS.goto X0.here hx rfl (pc0 := 62) (pc' := 4) rfl (hb hby own_d2_62) (by decide) (by decide) ?_
    show Steps p.tables e below (s₁.setTop (mkF m 4 #[.val (.ref a1), .val (.int (1 : Int32)), .val (.int (own_byte (0 : Int32) v1)), .val (.int (2 : Int32)), .val (.int (-1 : Int32)), .val (.int w11)] [])) _
    refine XS.iloadN X0.here hx rfl (hb hby own_d2_4) rfl ?_
    show Steps p.tables e below (s₁.setTop (mkF m 5 #[.val (.ref a1), .val (.int (1 : Int32)), .val (.int (own_byte (0 : Int32) v1)), .val (.int (2 : Int32)), .val (.int (-1 : Int32)), .val (.int w11)] [(.int (2 : Int32))])) _
    refine XS.iloadN X0.here hx rfl (hb hby own_d2_5) rfl ?_
    show Steps p.tables e below (s₁.setTop (mkF m 6 #[.val (.ref a1), .val (.int (1 : Int32)), .val (.int (own_byte (0 : Int32) v1)), .val (.int (2 : Int32)), .val (.int (-1 : Int32)), .val (.int w11)] [(.int (1 : Int32)), (.int (2 : Int32))])) _
    refine XS.bipush X0.here hx rfl (hb hby own_d2_6) ?_
    show Steps p.tables e below (s₁.setTop (mkF m 8 #[.val (.ref a1), .val (.int (1 : Int32)), .val (.int (own_byte (0 : Int32) v1)), .val (.int (2 : Int32)), .val (.int (-1 : Int32)), .val (.int w11)] [(.int (7 : Int32)), (.int (1 : Int32)), (.int (2 : Int32))])) _
    refine XS.iadd X0.here hx rfl (hb hby own_d2_8) rfl ?_
    show Steps p.tables e below (s₁.setTop (mkF m 9 #[.val (.ref a1), .val (.int (1 : Int32)), .val (.int (own_byte (0 : Int32) v1)), .val (.int (2 : Int32)), .val (.int (-1 : Int32)), .val (.int w11)] [(.int (8 : Int32)), (.int (2 : Int32))])) _
    refine XS.icmpNo X0.here hx rfl (hb hby own_d2_9) rfl (tlt (by decide : ((2 : Int32) < (8 : Int32)))).2.1 ?_
    show Steps p.tables e below (s₁.setTop (mkF m 12 #[.val (.ref a1), .val (.int (1 : Int32)), .val (.int (own_byte (0 : Int32) v1)), .val (.int (2 : Int32)), .val (.int (-1 : Int32)), .val (.int w11)] [])) _
    refine XS.bipush X0.here hx rfl (hb hby own_d2_12) ?_
    show Steps p.tables e below (s₁.setTop (mkF m 14 #[.val (.ref a1), .val (.int (1 : Int32)), .val (.int (own_byte (0 : Int32) v1)), .val (.int (2 : Int32)), .val (.int (-1 : Int32)), .val (.int w11)] [(.int (7 : Int32))])) _
    refine XS.istore X0.here hx rfl (hb hby own_d2_14) rfl (l' := #[.val (.ref a1), .val (.int (1 : Int32)), .val (.int (own_byte (0 : Int32) v1)), .val (.int (2 : Int32)), .val (.int (7 : Int32)), .val (.int w11)]) rfl ?_
    show Steps p.tables e below (s₁.setTop (mkF m 16 #[.val (.ref a1), .val (.int (1 : Int32)), .val (.int (own_byte (0 : Int32) v1)), .val (.int (2 : Int32)), .val (.int (7 : Int32)), .val (.int w11)] [])) _
    refine own_inner X0 hx hZ hby e0 a1 (1 : Int32) (own_byte (0 : Int32) v1) (2 : Int32) v2 cl12 _ Ar12 hin12 hat12 (One.val rfl) (fun w12 => ?_)
    show Steps p.tables e below (s₁.setTop (mkF m 59 #[.val (.ref a1), .val (.int (1 : Int32)), .val (.int (own_byte (own_byte (0 : Int32) v1) v2)), .val (.int (2 : Int32)), .val (.int (-1 : Int32)), .val (.int w12)] [])) _
    refine XS.iinc X0.here hx rfl (hb hby own_d2_59) rfl (l' := #[.val (.ref a1), .val (.int (1 : Int32)), .val (.int (own_byte (own_byte (0 : Int32) v1) v2)), .val (.int (3 : Int32)), .val (.int (-1 : Int32)), .val (.int w12)]) rfl ?_
    show Steps p.tables e below (s₁.setTop (mkF m 62 #[.val (.ref a1), .val (.int (1 : Int32)), .val (.int (own_byte (own_byte (0 : Int32) v1) v2)), .val (.int (3 : Int32)), .val (.int (-1 : Int32)), .val (.int w12)] [])) _
    refine XS.goto X0.here hx rfl (pc0 := 62) (pc' := 4) rfl (hb hby own_d2_62) (by decide) (by decide) ?_
    show Steps p.tables e below (s₁.setTop (mkF m 4 #[.val (.ref a1), .val (.int (1 : Int32)), .val (.int (own_byte (own_byte (0 : Int32) v1) v2)), .val (.int (3 : Int32)), .val (.int (-1 : Int32)), .val (.int w12)] [])) _
    refine XS.iloadN X0.here hx rfl (hb hby own_d2_4) rfl ?_
    show Steps p.tables e below (s₁.setTop (mkF m 5 #[.val (.ref a1), .val (.int (1 : Int32)), .val (.int (own_byte (own_byte (0 : Int32) v1) v2)), .val (.int (3 : Int32)), .val (.int (-1 : Int32)), .val (.int w12)] [(.int (3 : Int32))])) _
    refine XS.iloadN X0.here hx rfl (hb hby own_d2_5) rfl ?_
    show Steps p.tables e below (s₁.setTop (mkF m 6 #[.val (.ref a1), .val (.int (1 : Int32)), .val (.int (own_byte (own_byte (0 : Int32) v1) v2)), .val (.int (3 : Int32)), .val (.int (-1 : Int32)), .val (.int w12)] [(.int (1 : Int32)), (.int (3 : Int32))])) _
    refine XS.bipush X0.here hx rfl (hb hby own_d2_6) ?_
    show Steps p.tables e below (s₁.setTop (mkF m 8 #[.val (.ref a1), .val (.int (1 : Int32)), .val (.int (own_byte (own_byte (0 : Int32) v1) v2)), .val (.int (3 : Int32)), .val (.int (-1 : Int32)), .val (.int w12)] [(.int (7 : Int32)), (.int (1 : Int32)), (.int (3 : Int32))])) _
    refine XS.iadd X0.here hx rfl (hb hby own_d2_8) rfl ?_
    show Steps p.tables e below (s₁.setTop (mkF m 9 #[.val (.ref a1), .val (.int (1 : Int32)), .val (.int (own_byte (own_byte (0 : Int32) v1) v2)), .val (.int (3 : Int32)), .val (.int (-1 : Int32)), .val (.int w12)] [(.int (8 : Int32)), (.int (3 : Int32))])) _
    refine XS.icmpNo X0.here hx rfl (hb hby own_d2_9) rfl (tlt (by decide : ((3 : Int32) < (8 : Int32)))).2.1 ?_
    show Steps p.tables e below (s₁.setTop (mkF m 12 #[.val (.ref a1), .val (.int (1 : Int32)), .val (.int (own_byte (own_byte (0 : Int32) v1) v2)), .val (.int (3 : Int32)), .val (.int (-1 : Int32)), .val (.int w12)] [])) _
    refine XS.bipush X0.here hx rfl (hb hby own_d2_12) ?_
    show Steps p.tables e below (s₁.setTop (mkF m 14 #[.val (.ref a1), .val (.int (1 : Int32)), .val (.int (own_byte (own_byte (0 : Int32) v1) v2)), .val (.int (3 : Int32)), .val (.int (-1 : Int32)), .val (.int w12)] [(.int (7 : Int32))])) _
    refine XS.istore X0.here hx rfl (hb hby own_d2_14) rfl (l' := #[.val (.ref a1), .val (.int (1 : Int32)), .val (.int (own_byte (own_byte (0 : Int32) v1) v2)), .val (.int (3 : Int32)), .val (.int (7 : Int32)), .val (.int w12)]) rfl ?_
    show Steps p.tables e below (s₁.setTop (mkF m 16 #[.val (.ref a1), .val (.int (1 : Int32)), .val (.int (own_byte (own_byte (0 : Int32) v1) v2)), .val (.int (3 : Int32)), .val (.int (7 : Int32)), .val (.int w12)] [])) _
    refine own_inner X0 hx hZ hby e0 a1 (1 : Int32) (own_byte (own_byte (0 : Int32) v1) v2) (3 : Int32) v3 cl13 _ Ar13 hin13 hat13 (One.val rfl) (fun w13 => ?_)
    show Steps p.tables e below (s₁.setTop (mkF m 59 #[.val (.ref a1), .val (.int (1 : Int32)), .val (.int (own_byte (own_byte (own_byte (0 : Int32) v1) v2) v3)), .val (.int (3 : Int32)), .val (.int (-1 : Int32)), .val (.int w13)] [])) _
    refine XS.iinc X0.here hx rfl (hb hby own_d2_59) rfl (l' := #[.val (.ref a1), .val (.int (1 : Int32)), .val (.int (own_byte (own_byte (own_byte (0 : Int32) v1) v2) v3)), .val (.int (4 : Int32)), .val (.int (-1 : Int32)), .val (.int w13)]) rfl ?_
    show Steps p.tables e below (s₁.setTop (mkF m 62 #[.val (.ref a1), .val (.int (1 : Int32)), .val (.int (own_byte (own_byte (own_byte (0 : Int32) v1) v2) v3)), .val (.int (4 : Int32)), .val (.int (-1 : Int32)), .val (.int w13)] [])) _
    refine XS.goto X0.here hx rfl (pc0 := 62) (pc' := 4) rfl (hb hby own_d2_62) (by decide) (by decide) ?_
    show Steps p.tables e below (s₁.setTop (mkF m 4 #[.val (.ref a1), .val (.int (1 : Int32)), .val (.int (own_byte (own_byte (own_byte (0 : Int32) v1) v2) v3)), .val (.int (4 : Int32)), .val (.int (-1 : Int32)), .val (.int w13)] [])) _
    refine XS.iloadN X0.here hx rfl (hb hby own_d2_4) rfl ?_
    show Steps p.tables e below (s₁.setTop (mkF m 5 #[.val (.ref a1), .val (.int (1 : Int32)), .val (.int (own_byte (own_byte (own_byte (0 : Int32) v1) v2) v3)), .val (.int (4 : Int32)), .val (.int (-1 : Int32)), .val (.int w13)] [(.int (4 : Int32))])) _
    refine XS.iloadN X0.here hx rfl (hb hby own_d2_5) rfl ?_
    show Steps p.tables e below (s₁.setTop (mkF m 6 #[.val (.ref a1), .val (.int (1 : Int32)), .val (.int (own_byte (own_byte (own_byte (0 : Int32) v1) v2) v3)), .val (.int (4 : Int32)), .val (.int (-1 : Int32)), .val (.int w13)] [(.int (1 : Int32)), (.int (4 : Int32))])) _
    refine XS.bipush X0.here hx rfl (hb hby own_d2_6) ?_
    show Steps p.tables e below (s₁.setTop (mkF m 8 #[.val (.ref a1), .val (.int (1 : Int32)), .val (.int (own_byte (own_byte (own_byte (0 : Int32) v1) v2) v3)), .val (.int (4 : Int32)), .val (.int (-1 : Int32)), .val (.int w13)] [(.int (7 : Int32)), (.int (1 : Int32)), (.int (4 : Int32))])) _
    refine XS.iadd X0.here hx rfl (hb hby own_d2_8) rfl ?_
    show Steps p.tables e below (s₁.setTop (mkF m 9 #[.val (.ref a1), .val (.int (1 : Int32)), .val (.int (own_byte (own_byte (own_byte (0 : Int32) v1) v2) v3)), .val (.int (4 : Int32)), .val (.int (-1 : Int32)), .val (.int w13)] [(.int (8 : Int32)), (.int (4 : Int32))])) _
    refine XS.icmpNo X0.here hx rfl (hb hby own_d2_9) rfl (tlt (by decide : ((4 : Int32) < (8 : Int32)))).2.1 ?_
    show Steps p.tables e below (s₁.setTop (mkF m 12 #[.val (.ref a1), .val (.int (1 : Int32)), .val (.int (own_byte (own_byte (own_byte (0 : Int32) v1) v2) v3)), .val (.int (4 : Int32)), .val (.int (-1 : Int32)), .val (.int w13)] [])) _
    refine XS.bipush X0.here hx rfl (hb hby own_d2_12) ?_
    show Steps p.tables e below (s₁.setTop (mkF m 14 #[.val (.ref a1), .val (.int (1 : Int32)), .val (.int (own_byte (own_byte (own_byte (0 : Int32) v1) v2) v3)), .val (.int (4 : Int32)), .val (.int (-1 : Int32)), .val (.int w13)] [(.int (7 : Int32))])) _
    refine XS.istore X0.here hx rfl (hb hby own_d2_14) rfl (l' := #[.val (.ref a1), .val (.int (1 : Int32)), .val (.int (own_byte (own_byte (own_byte (0 : Int32) v1) v2) v3)), .val (.int (4 : Int32)), .val (.int (7 : Int32)), .val (.int w13)]) rfl ?_
    show Steps p.tables e below (s₁.setTop (mkF m 16 #[.val (.ref a1), .val (.int (1 : Int32)), .val (.int (own_byte (own_byte (own_byte (0 : Int32) v1) v2) v3)), .val (.int (4 : Int32)), .val (.int (7 : Int32)), .val (.int w13)] [])) _
    refine own_inner X0 hx hZ hby e0 a1 (1 : Int32) (own_byte (own_byte (own_byte (0 : Int32) v1) v2) v3) (4 : Int32) v4 cl14 _ Ar14 hin14 hat14 (One.val rfl) (fun w14 => ?_)
    show Steps p.tables e below (s₁.setTop (mkF m 59 #[.val (.ref a1), .val (.int (1 : Int32)), .val (.int (own_byte (own_byte (own_byte (own_byte (0 : Int32) v1) v2) v3) v4)), .val (.int (4 : Int32)), .val (.int (-1 : Int32)), .val (.int w14)] [])) _
    refine XS.iinc X0.here hx rfl (hb hby own_d2_59) rfl (l' := #[.val (.ref a1), .val (.int (1 : Int32)), .val (.int (own_byte (own_byte (own_byte (own_byte (0 : Int32) v1) v2) v3) v4)), .val (.int (5 : Int32)), .val (.int (-1 : Int32)), .val (.int w14)]) rfl ?_
    show Steps p.tables e below (s₁.setTop (mkF m 62 #[.val (.ref a1), .val (.int (1 : Int32)), .val (.int (own_byte (own_byte (own_byte (own_byte (0 : Int32) v1) v2) v3) v4)), .val (.int (5 : Int32)), .val (.int (-1 : Int32)), .val (.int w14)] [])) _
    refine XS.goto X0.here hx rfl (pc0 := 62) (pc' := 4) rfl (hb hby own_d2_62) (by decide) (by decide) ?_
    show Steps p.tables e below (s₁.setTop (mkF m 4 #[.val (.ref a1), .val (.int (1 : Int32)), .val (.int (own_byte (own_byte (own_byte (own_byte (0 : Int32) v1) v2) v3) v4)), .val (.int (5 : Int32)), .val (.int (-1 : Int32)), .val (.int w14)] [])) _
    refine XS.iloadN X0.here hx rfl (hb hby own_d2_4) rfl ?_
    show Steps p.tables e below (s₁.setTop (mkF m 5 #[.val (.ref a1), .val (.int (1 : Int32)), .val (.int (own_byte (own_byte (own_byte (own_byte (0 : Int32) v1) v2) v3) v4)), .val (.int (5 : Int32)), .val (.int (-1 : Int32)), .val (.int w14)] [(.int (5 : Int32))])) _
    refine XS.iloadN X0.here hx rfl (hb hby own_d2_5) rfl ?_
    show Steps p.tables e below (s₁.setTop (mkF m 6 #[.val (.ref a1), .val (.int (1 : Int32)), .val (.int (own_byte (own_byte (own_byte (own_byte (0 : Int32) v1) v2) v3) v4)), .val (.int (5 : Int32)), .val (.int (-1 : Int32)), .val (.int w14)] [(.int (1 : Int32)), (.int (5 : Int32))])) _
    refine XS.bipush X0.here hx rfl (hb hby own_d2_6) ?_
    show Steps p.tables e below (s₁.setTop (mkF m 8 #[.val (.ref a1), .val (.int (1 : Int32)), .val (.int (own_byte (own_byte (own_byte (own_byte (0 : Int32) v1) v2) v3) v4)), .val (.int (5 : Int32)), .val (.int (-1 : Int32)), .val (.int w14)] [(.int (7 : Int32)), (.int (1 : Int32)), (.int (5 : Int32))])) _
    refine XS.iadd X0.here hx rfl (hb hby own_d2_8) rfl ?_
    show Steps p.tables e below (s₁.setTop (mkF m 9 #[.val (.ref a1), .val (.int (1 : Int32)), .val (.int (own_byte (own_byte (own_byte (own_byte (0 : Int32) v1) v2) v3) v4)), .val (.int (5 : Int32)), .val (.int (-1 : Int32)), .val (.int w14)] [(.int (8 : Int32)), (.int (5 : Int32))])) _
    refine XS.icmpNo X0.here hx rfl (hb hby own_d2_9) rfl (tlt (by decide : ((5 : Int32) < (8 : Int32)))).2.1 ?_
    show Steps p.tables e below (s₁.setTop (mkF m 12 #[.val (.ref a1), .val (.int (1 : Int32)), .val (.int (own_byte (own_byte (own_byte (own_byte (0 : Int32) v1) v2) v3) v4)), .val (.int (5 : Int32)), .val (.int (-1 : Int32)), .val (.int w14)] [])) _
    refine XS.bipush X0.here hx rfl (hb hby own_d2_12) ?_
    show Steps p.tables e below (s₁.setTop (mkF m 14 #[.val (.ref a1), .val (.int (1 : Int32)), .val (.int (own_byte (own_byte (own_byte (own_byte (0 : Int32) v1) v2) v3) v4)), .val (.int (5 : Int32)), .val (.int (-1 : Int32)), .val (.int w14)] [(.int (7 : Int32))])) _
    refine XS.istore X0.here hx rfl (hb hby own_d2_14) rfl (l' := #[.val (.ref a1), .val (.int (1 : Int32)), .val (.int (own_byte (own_byte (own_byte (own_byte (0 : Int32) v1) v2) v3) v4)), .val (.int (5 : Int32)), .val (.int (7 : Int32)), .val (.int w14)]) rfl ?_
    show Steps p.tables e below (s₁.setTop (mkF m 16 #[.val (.ref a1), .val (.int (1 : Int32)), .val (.int (own_byte (own_byte (own_byte (own_byte (0 : Int32) v1) v2) v3) v4)), .val (.int (5 : Int32)), .val (.int (7 : Int32)), .val (.int w14)] [])) _
    refine own_inner X0 hx hZ hby e0 a1 (1 : Int32) (own_byte (own_byte (own_byte (own_byte (0 : Int32) v1) v2) v3) v4) (5 : Int32) v5 cl15 _ Ar15 hin15 hat15 (One.val rfl) (fun w15 => ?_)
    show Steps p.tables e below (s₁.setTop (mkF m 59 #[.val (.ref a1), .val (.int (1 : Int32)), .val (.int (own_byte (own_byte (own_byte (own_byte (own_byte (0 : Int32) v1) v2) v3) v4) v5)), .val (.int (5 : Int32)), .val (.int (-1 : Int32)), .val (.int w15)] [])) _
    refine XS.iinc X0.here hx rfl (hb hby own_d2_59) rfl (l' := #[.val (.ref a1), .val (.int (1 : Int32)), .val (.int (own_byte (own_byte (own_byte (own_byte (own_byte (0 : Int32) v1) v2) v3) v4) v5)), .val (.int (6 : Int32)), .val (.int (-1 : Int32)), .val (.int w15)]) rfl ?_
    show Steps p.tables e below (s₁.setTop (mkF m 62 #[.val (.ref a1), .val (.int (1 : Int32)), .val (.int (own_byte (own_byte (own_byte (own_byte (own_byte (0 : Int32) v1) v2) v3) v4) v5)), .val (.int (6 : Int32)), .val (.int (-1 : Int32)), .val (.int w15)] [])) _
    refine XS.goto X0.here hx rfl (pc0 := 62) (pc' := 4) rfl (hb hby own_d2_62) (by decide) (by decide) ?_
    show Steps p.tables e below (s₁.setTop (mkF m 4 #[.val (.ref a1), .val (.int (1 : Int32)), .val (.int (own_byte (own_byte (own_byte (own_byte (own_byte (0 : Int32) v1) v2) v3) v4) v5)), .val (.int (6 : Int32)), .val (.int (-1 : Int32)), .val (.int w15)] [])) _
    refine XS.iloadN X0.here hx rfl (hb hby own_d2_4) rfl ?_
    show Steps p.tables e below (s₁.setTop (mkF m 5 #[.val (.ref a1), .val (.int (1 : Int32)), .val (.int (own_byte (own_byte (own_byte (own_byte (own_byte (0 : Int32) v1) v2) v3) v4) v5)), .val (.int (6 : Int32)), .val (.int (-1 : Int32)), .val (.int w15)] [(.int (6 : Int32))])) _
    refine XS.iloadN X0.here hx rfl (hb hby own_d2_5) rfl ?_
    show Steps p.tables e below (s₁.setTop (mkF m 6 #[.val (.ref a1), .val (.int (1 : Int32)), .val (.int (own_byte (own_byte (own_byte (own_byte (own_byte (0 : Int32) v1) v2) v3) v4) v5)), .val (.int (6 : Int32)), .val (.int (-1 : Int32)), .val (.int w15)] [(.int (1 : Int32)), (.int (6 : Int32))])) _
    refine XS.bipush X0.here hx rfl (hb hby own_d2_6) ?_
    show Steps p.tables e below (s₁.setTop (mkF m 8 #[.val (.ref a1), .val (.int (1 : Int32)), .val (.int (own_byte (own_byte (own_byte (own_byte (own_byte (0 : Int32) v1) v2) v3) v4) v5)), .val (.int (6 : Int32)), .val (.int (-1 : Int32)), .val (.int w15)] [(.int (7 : Int32)), (.int (1 : Int32)), (.int (6 : Int32))])) _
    refine XS.iadd X0.here hx rfl (hb hby own_d2_8) rfl ?_
    show Steps p.tables e below (s₁.setTop (mkF m 9 #[.val (.ref a1), .val (.int (1 : Int32)), .val (.int (own_byte (own_byte (own_byte (own_byte (own_byte (0 : Int32) v1) v2) v3) v4) v5)), .val (.int (6 : Int32)), .val (.int (-1 : Int32)), .val (.int w15)] [(.int (8 : Int32)), (.int (6 : Int32))])) _
    refine XS.icmpNo X0.here hx rfl (hb hby own_d2_9) rfl (tlt (by decide : ((6 : Int32) < (8 : Int32)))).2.1 ?_
    show Steps p.tables e below (s₁.setTop (mkF m 12 #[.val (.ref a1), .val (.int (1 : Int32)), .val (.int (own_byte (own_byte (own_byte (own_byte (own_byte (0 : Int32) v1) v2) v3) v4) v5)), .val (.int (6 : Int32)), .val (.int (-1 : Int32)), .val (.int w15)] [])) _
    refine XS.bipush X0.here hx rfl (hb hby own_d2_12) ?_
    show Steps p.tables e below (s₁.setTop (mkF m 14 #[.val (.ref a1), .val (.int (1 : Int32)), .val (.int (own_byte (own_byte (own_byte (own_byte (own_byte (0 : Int32) v1) v2) v3) v4) v5)), .val (.int (6 : Int32)), .val (.int (-1 : Int32)), .val (.int w15)] [(.int (7 : Int32))])) _
    refine XS.istore X0.here hx rfl (hb hby own_d2_14) rfl (l' := #[.val (.ref a1), .val (.int (1 : Int32)), .val (.int (own_byte (own_byte (own_byte (own_byte (own_byte (0 : Int32) v1) v2) v3) v4) v5)), .val (.int (6 : Int32)), .val (.int (7 : Int32)), .val (.int w15)]) rfl ?_
    show Steps p.tables e below (s₁.setTop (mkF m 16 #[.val (.ref a1), .val (.int (1 : Int32)), .val (.int (own_byte (own_byte (own_byte (own_byte (own_byte (0 : Int32) v1) v2) v3) v4) v5)), .val (.int (6 : Int32)), .val (.int (7 : Int32)), .val (.int w15)] [])) _
    refine own_inner X0 hx hZ hby e0 a1 (1 : Int32) (own_byte (own_byte (own_byte (own_byte (own_byte (0 : Int32) v1) v2) v3) v4) v5) (6 : Int32) v6 cl16 _ Ar16 hin16 hat16 (One.val rfl) (fun w16 => ?_)
    show Steps p.tables e below (s₁.setTop (mkF m 59 #[.val (.ref a1), .val (.int (1 : Int32)), .val (.int (own_byte (own_byte (own_byte (own_byte (own_byte (own_byte (0 : Int32) v1) v2) v3) v4) v5) v6)), .val (.int (6 : Int32)), .val (.int (-1 : Int32)), .val (.int w16)] [])) _
    refine XS.iinc X0.here hx rfl (hb hby own_d2_59) rfl (l' := #[.val (.ref a1), .val (.int (1 : Int32)), .val (.int (own_byte (own_byte (own_byte (own_byte (own_byte (own_byte (0 : Int32) v1) v2) v3) v4) v5) v6)), .val (.int (7 : Int32)), .val (.int (-1 : Int32)), .val (.int w16)]) rfl ?_
    show Steps p.tables e below (s₁.setTop (mkF m 62 #[.val (.ref a1), .val (.int (1 : Int32)), .val (.int (own_byte (own_byte (own_byte (own_byte (own_byte (own_byte (0 : Int32) v1) v2) v3) v4) v5) v6)), .val (.int (7 : Int32)), .val (.int (-1 : Int32)), .val (.int w16)] [])) _
    refine XS.goto X0.here hx rfl (pc0 := 62) (pc' := 4) rfl (hb hby own_d2_62) (by decide) (by decide) ?_
    show Steps p.tables e below (s₁.setTop (mkF m 4 #[.val (.ref a1), .val (.int (1 : Int32)), .val (.int (own_byte (own_byte (own_byte (own_byte (own_byte (own_byte (0 : Int32) v1) v2) v3) v4) v5) v6)), .val (.int (7 : Int32)), .val (.int (-1 : Int32)), .val (.int w16)] [])) _
    refine XS.iloadN X0.here hx rfl (hb hby own_d2_4) rfl ?_
    show Steps p.tables e below (s₁.setTop (mkF m 5 #[.val (.ref a1), .val (.int (1 : Int32)), .val (.int (own_byte (own_byte (own_byte (own_byte (own_byte (own_byte (0 : Int32) v1) v2) v3) v4) v5) v6)), .val (.int (7 : Int32)), .val (.int (-1 : Int32)), .val (.int w16)] [(.int (7 : Int32))])) _
    refine XS.iloadN X0.here hx rfl (hb hby own_d2_5) rfl ?_
    show Steps p.tables e below (s₁.setTop (mkF m 6 #[.val (.ref a1), .val (.int (1 : Int32)), .val (.int (own_byte (own_byte (own_byte (own_byte (own_byte (own_byte (0 : Int32) v1) v2) v3) v4) v5) v6)), .val (.int (7 : Int32)), .val (.int (-1 : Int32)), .val (.int w16)] [(.int (1 : Int32)), (.int (7 : Int32))])) _
    refine XS.bipush X0.here hx rfl (hb hby own_d2_6) ?_
    show Steps p.tables e below (s₁.setTop (mkF m 8 #[.val (.ref a1), .val (.int (1 : Int32)), .val (.int (own_byte (own_byte (own_byte (own_byte (own_byte (own_byte (0 : Int32) v1) v2) v3) v4) v5) v6)), .val (.int (7 : Int32)), .val (.int (-1 : Int32)), .val (.int w16)] [(.int (7 : Int32)), (.int (1 : Int32)), (.int (7 : Int32))])) _
    refine XS.iadd X0.here hx rfl (hb hby own_d2_8) rfl ?_
    show Steps p.tables e below (s₁.setTop (mkF m 9 #[.val (.ref a1), .val (.int (1 : Int32)), .val (.int (own_byte (own_byte (own_byte (own_byte (own_byte (own_byte (0 : Int32) v1) v2) v3) v4) v5) v6)), .val (.int (7 : Int32)), .val (.int (-1 : Int32)), .val (.int w16)] [(.int (8 : Int32)), (.int (7 : Int32))])) _
    refine XS.icmpNo X0.here hx rfl (hb hby own_d2_9) rfl (tlt (by decide : ((7 : Int32) < (8 : Int32)))).2.1 ?_
    show Steps p.tables e below (s₁.setTop (mkF m 12 #[.val (.ref a1), .val (.int (1 : Int32)), .val (.int (own_byte (own_byte (own_byte (own_byte (own_byte (own_byte (0 : Int32) v1) v2) v3) v4) v5) v6)), .val (.int (7 : Int32)), .val (.int (-1 : Int32)), .val (.int w16)] [])) _
    refine XS.bipush X0.here hx rfl (hb hby own_d2_12) ?_
    show Steps p.tables e below (s₁.setTop (mkF m 14 #[.val (.ref a1), .val (.int (1 : Int32)), .val (.int (own_byte (own_byte (own_byte (own_byte (own_byte (own_byte (0 : Int32) v1) v2) v3) v4) v5) v6)), .val (.int (7 : Int32)), .val (.int (-1 : Int32)), .val (.int w16)] [(.int (7 : Int32))])) _
    refine XS.istore X0.here hx rfl (hb hby own_d2_14) rfl (l' := #[.val (.ref a1), .val (.int (1 : Int32)), .val (.int (own_byte (own_byte (own_byte (own_byte (own_byte (own_byte (0 : Int32) v1) v2) v3) v4) v5) v6)), .val (.int (7 : Int32)), .val (.int (7 : Int32)), .val (.int w16)]) rfl ?_
    show Steps p.tables e below (s₁.setTop (mkF m 16 #[.val (.ref a1), .val (.int (1 : Int32)), .val (.int (own_byte (own_byte (own_byte (own_byte (own_byte (own_byte (0 : Int32) v1) v2) v3) v4) v5) v6)), .val (.int (7 : Int32)), .val (.int (7 : Int32)), .val (.int w16)] [])) _
    refine own_inner X0 hx hZ hby e0 a1 (1 : Int32) (own_byte (own_byte (own_byte (own_byte (own_byte (own_byte (0 : Int32) v1) v2) v3) v4) v5) v6) (7 : Int32) v7 cl17 _ Ar17 hin17 hat17 (One.val rfl) (fun w17 => ?_)
    show Steps p.tables e below (s₁.setTop (mkF m 59 #[.val (.ref a1), .val (.int (1 : Int32)), .val (.int (own_byte (own_byte (own_byte (own_byte (own_byte (own_byte (own_byte (0 : Int32) v1) v2) v3) v4) v5) v6) v7)), .val (.int (7 : Int32)), .val (.int (-1 : Int32)), .val (.int w17)] [])) _
    refine XS.iinc X0.here hx rfl (hb hby own_d2_59) rfl (l' := #[.val (.ref a1), .val (.int (1 : Int32)), .val (.int (own_byte (own_byte (own_byte (own_byte (own_byte (own_byte (own_byte (0 : Int32) v1) v2) v3) v4) v5) v6) v7)), .val (.int (8 : Int32)), .val (.int (-1 : Int32)), .val (.int w17)]) rfl ?_
    show Steps p.tables e below (s₁.setTop (mkF m 62 #[.val (.ref a1), .val (.int (1 : Int32)), .val (.int (own_byte (own_byte (own_byte (own_byte (own_byte (own_byte (own_byte (0 : Int32) v1) v2) v3) v4) v5) v6) v7)), .val (.int (8 : Int32)), .val (.int (-1 : Int32)), .val (.int w17)] [])) _
    refine XS.goto X0.here hx rfl (pc0 := 62) (pc' := 4) rfl (hb hby own_d2_62) (by decide) (by decide) ?_
    show Steps p.tables e below (s₁.setTop (mkF m 4 #[.val (.ref a1), .val (.int (1 : Int32)), .val (.int (own_byte (own_byte (own_byte (own_byte (own_byte (own_byte (own_byte (0 : Int32) v1) v2) v3) v4) v5) v6) v7)), .val (.int (8 : Int32)), .val (.int (-1 : Int32)), .val (.int w17)] [])) _
    refine XS.iloadN X0.here hx rfl (hb hby own_d2_4) rfl ?_
    show Steps p.tables e below (s₁.setTop (mkF m 5 #[.val (.ref a1), .val (.int (1 : Int32)), .val (.int (own_byte (own_byte (own_byte (own_byte (own_byte (own_byte (own_byte (0 : Int32) v1) v2) v3) v4) v5) v6) v7)), .val (.int (8 : Int32)), .val (.int (-1 : Int32)), .val (.int w17)] [(.int (8 : Int32))])) _
    refine XS.iloadN X0.here hx rfl (hb hby own_d2_5) rfl ?_
    show Steps p.tables e below (s₁.setTop (mkF m 6 #[.val (.ref a1), .val (.int (1 : Int32)), .val (.int (own_byte (own_byte (own_byte (own_byte (own_byte (own_byte (own_byte (0 : Int32) v1) v2) v3) v4) v5) v6) v7)), .val (.int (8 : Int32)), .val (.int (-1 : Int32)), .val (.int w17)] [(.int (1 : Int32)), (.int (8 : Int32))])) _
    refine XS.bipush X0.here hx rfl (hb hby own_d2_6) ?_
    show Steps p.tables e below (s₁.setTop (mkF m 8 #[.val (.ref a1), .val (.int (1 : Int32)), .val (.int (own_byte (own_byte (own_byte (own_byte (own_byte (own_byte (own_byte (0 : Int32) v1) v2) v3) v4) v5) v6) v7)), .val (.int (8 : Int32)), .val (.int (-1 : Int32)), .val (.int w17)] [(.int (7 : Int32)), (.int (1 : Int32)), (.int (8 : Int32))])) _
    refine XS.iadd X0.here hx rfl (hb hby own_d2_8) rfl ?_
    show Steps p.tables e below (s₁.setTop (mkF m 9 #[.val (.ref a1), .val (.int (1 : Int32)), .val (.int (own_byte (own_byte (own_byte (own_byte (own_byte (own_byte (own_byte (0 : Int32) v1) v2) v3) v4) v5) v6) v7)), .val (.int (8 : Int32)), .val (.int (-1 : Int32)), .val (.int w17)] [(.int (8 : Int32)), (.int (8 : Int32))])) _
    refine XS.icmpYes X0.here hx rfl (pc0 := 9) (pc' := 65) rfl (hb hby own_d2_9) rfl (flt (by decide : ¬ ((8 : Int32) < (8 : Int32)))).2.1 (by decide) (by decide) ?_
    show Steps p.tables e below (s₁.setTop (mkF m 65 #[.val (.ref a1), .val (.int (1 : Int32)), .val (.int (own_byte (own_byte (own_byte (own_byte (own_byte (own_byte (own_byte (0 : Int32) v1) v2) v3) v4) v5) v6) v7)), .val (.int (8 : Int32)), .val (.int (-1 : Int32)), .val (.int w17)] [])) _
    refine XS.iloadN X0.here hx rfl (hb hby own_d2_65) rfl ?_
    show Steps p.tables e below (s₁.setTop (mkF m 66 #[.val (.ref a1), .val (.int (1 : Int32)), .val (.int (own_byte (own_byte (own_byte (own_byte (own_byte (own_byte (own_byte (0 : Int32) v1) v2) v3) v4) v5) v6) v7)), .val (.int (8 : Int32)), .val (.int (-1 : Int32)), .val (.int w17)] [(.int (own_byte (own_byte (own_byte (own_byte (own_byte (own_byte (own_byte (0 : Int32) v1) v2) v3) v4) v5) v6) v7))])) _
    refine XS.iconst X0.here hx rfl (hb hby own_d2_66) ?_
    show Steps p.tables e below (s₁.setTop (mkF m 67 #[.val (.ref a1), .val (.int (1 : Int32)), .val (.int (own_byte (own_byte (own_byte (own_byte (own_byte (own_byte (own_byte (0 : Int32) v1) v2) v3) v4) v5) v6) v7)), .val (.int (8 : Int32)), .val (.int (-1 : Int32)), .val (.int w17)] [(.int (-1 : Int32)), (.int (own_byte (own_byte (own_byte (own_byte (own_byte (own_byte (own_byte (0 : Int32) v1) v2) v3) v4) v5) v6) v7))])) _
    refine XS.ixor X0.here hx rfl (hb hby own_d2_67) rfl ?_
    show Steps p.tables e below (s₁.setTop (mkF m 68 #[.val (.ref a1), .val (.int (1 : Int32)), .val (.int (own_byte (own_byte (own_byte (own_byte (own_byte (own_byte (own_byte (0 : Int32) v1) v2) v3) v4) v5) v6) v7)), .val (.int (8 : Int32)), .val (.int (-1 : Int32)), .val (.int w17)] [(.int ((own_byte (own_byte (own_byte (own_byte (own_byte (own_byte (own_byte (0 : Int32) v1) v2) v3) v4) v5) v6) v7) ^^^ (-1 : Int32)))])) _
    refine XS.bipush X0.here hx rfl (hb hby own_d2_68) ?_
    show Steps p.tables e below (s₁.setTop (mkF m 70 #[.val (.ref a1), .val (.int (1 : Int32)), .val (.int (own_byte (own_byte (own_byte (own_byte (own_byte (own_byte (own_byte (0 : Int32) v1) v2) v3) v4) v5) v6) v7)), .val (.int (8 : Int32)), .val (.int (-1 : Int32)), .val (.int w17)] [(.int (127 : Int32)), (.int ((own_byte (own_byte (own_byte (own_byte (own_byte (own_byte (own_byte (0 : Int32) v1) v2) v3) v4) v5) v6) v7) ^^^ (-1 : Int32)))])) _
    refine XS.iand X0.here hx rfl (hb hby own_d2_70) rfl ?_
    show Steps p.tables e below (s₁.setTop (mkF m 71 #[.val (.ref a1), .val (.int (1 : Int32)), .val (.int (own_byte (own_byte (own_byte (own_byte (own_byte (own_byte (own_byte (0 : Int32) v1) v2) v3) v4) v5) v6) v7)), .val (.int (8 : Int32)), .val (.int (-1 : Int32)), .val (.int w17)] [(.int (((own_byte (own_byte (own_byte (own_byte (own_byte (own_byte (own_byte (0 : Int32) v1) v2) v3) v4) v5) v6) v7) ^^^ (-1 : Int32)) &&& (127 : Int32)))])) _
    refine XS.iconst X0.here hx rfl (hb hby own_d2_71) ?_
    show Steps p.tables e below (s₁.setTop (mkF m 72 #[.val (.ref a1), .val (.int (1 : Int32)), .val (.int (own_byte (own_byte (own_byte (own_byte (own_byte (own_byte (own_byte (0 : Int32) v1) v2) v3) v4) v5) v6) v7)), .val (.int (8 : Int32)), .val (.int (-1 : Int32)), .val (.int w17)] [(.int (1 : Int32)), (.int (((own_byte (own_byte (own_byte (own_byte (own_byte (own_byte (own_byte (0 : Int32) v1) v2) v3) v4) v5) v6) v7) ^^^ (-1 : Int32)) &&& (127 : Int32)))])) _
    refine XS.ishl X0.here hx rfl (hb hby own_d2_72) rfl ?_
    show Steps p.tables e below (s₁.setTop (mkF m 73 #[.val (.ref a1), .val (.int (1 : Int32)), .val (.int (own_byte (own_byte (own_byte (own_byte (own_byte (own_byte (own_byte (0 : Int32) v1) v2) v3) v4) v5) v6) v7)), .val (.int (8 : Int32)), .val (.int (-1 : Int32)), .val (.int w17)] [(.int ((((own_byte (own_byte (own_byte (own_byte (own_byte (own_byte (own_byte (0 : Int32) v1) v2) v3) v4) v5) v6) v7) ^^^ (-1 : Int32)) &&& (127 : Int32)) <<< ((1 : Int32) &&& 31)))])) _
    exact retI X0 hx Bd.returns (hb hby own_d2_73) hr
  · show Q2_1 Z a1 k v0 v1 v2 v3 v4 v5 v6 v7 v8 v9 h0 n0 _ s₁.heap _
    rw [e0]
    exact ⟨rfl, N0, rfl⟩
theorem own_ef_rm2_2 (m : MethodId) (a1 : Addr) : entryFrame m #[(.ref a1), (.int (2 : Int32))] 6 = mkF m 0 #[.val (.ref a1), .val (.int (2 : Int32)), .unset, .unset, .unset, .unset] [] := by first | (simp [entryFrame, mkF, argsToLocals, Value.category]; done) | rfl
def Q2_2 (Z : State) (a1 : Addr) (k : ClassId) (v0 : Int32) (v1 : Int32) (v2 : Int32) (v3 : Int32) (v4 : Int32) (v5 : Int32) (v6 : Int32) (v7 : Int32) (v8 : Int32) (v9 : Int32) (h0 : Heap) (n0 : Nat) (v : Option Value) (h : Heap) (L : List Loc) : Prop := v = some (.int (own_par v2 v3 v4 v5 v6 v7 v8)) ∧ Fr n0 L ∧ h = h0
set_option maxRecDepth 65536 in
set_option maxHeartbeats 40000000 in
theorem rm2_2 (l : Launch) (Z : State) (a0 : Array Value) (hw : ∀ d ∈ tables_1, d.before a0 Z = true) (ws : List Jvm.Cond) (a1 : Addr) (k : ClassId) (v0 : Int32) (v1 : Int32) (v2 : Int32) (v3 : Int32) (v4 : Int32) (v5 : Int32) (v6 : Int32) (v7 : Int32) (v8 : Int32) (v9 : Int32) (h0 : Heap) (n0 : Nat) (Z0 : n0 ≤ h0.size) (V_a1 : Arv Z h0 a1 k .byte (10 : Int32) [(.int v0), (.int v1), (.int v2), (.int v3), (.int v4), (.int v5), (.int v6), (.int v7), (.int v8), (.int v9)] (.int (0 : Int32))) :
    MetFree l (⟨"com/example/linkbook/linkbook/coding/Bch", "parityOctet", "([BI)I"⟩ : MethodName) (head1 (Jvm.Cond.code (⟨"com/example/linkbook/linkbook/coding/Bch", "parityOctet", "([BI)I"⟩ : MethodName) prog_11_method_2_code 6 (some .int) :: ws) ({ frames := 0, cells := 0, slots := 0, locals := 0 } : Room)) (fun a U => a = #[(.ref a1), (.int (2 : Int32))] ∧ Z.Warmed39 U.vm ∧ U.heap = h0) (fun _ _ _ _ _ => True) (fun _ U o U' => ∃ v L, o = .returned v ∧ Q2_2 Z a1 k v0 v1 v2 v3 v4 v5 v6 v7 v8 v9 h0 n0 v U'.heap L ∧ FrameEnd U o U' L ({ frames := 0, cells := 0, slots := 0, locals := 0 } : Room).cells ({ frames := 0, cells := 0, slots := 0, locals := 0 } : Room).slots) := by
  refine MetFree.of_bodySF (plainFor_of_name own_pn0) hisR ?_
  intro p e s m args below meth c s₁ Bd hml0 hP hK
  obtain ⟨rfl, hZ, hh⟩ := hP
  have hx := Bd.exec
  have hby := Bd.bytes
  have hml : c.maxLocals = 6 := hml0
  have hown : s.vm.findClass "com/example/linkbook/linkbook/coding/Bch" = some m.cls := findClass_of_methodNamed Bd.named
  have hnm := (name_of_methodNamed Bd.named Bd.method).1
  have X0 : Stand p l e ({ frames := 0, cells := 0, slots := 0, locals := 0 } : Room) s m #[(.ref a1), (.int (2 : Int32))] below meth c s₁ [] 0 0 := Stand.of_body Bd
  have e0 : s₁.heap = h0 := by rw [← hh, Bd.state]; rfl
  have N0 := Fr.nil n0
  have K0 : Keep h0 h0 [] := Keep.refl h0 _
  have pre0 : ∀ t, Steps p.tables e below (s₁.setTop (mkF m 0 #[.val (.ref a1), .val (.int (2 : Int32)), .unset, .unset, .unset, .unset] [])) t → Steps p.tables e below (s₁.setTop (entryFrame m #[(.ref a1), (.int (2 : Int32))] 6)) t := fun t k => castTop (own_ef_rm2_2 m a1) k
  obtain ⟨cl18, Ar18, q18, S18, M18, H18, G18⟩ := id V_a1
  have hin18 : ¬ ((2 : Int32) < 0 ∨ cl18.slots.size ≤ ((2 : Int32)).toNatClampNeg) := inb_of S18 ⟨by decide, by decide⟩
  have hat18 : cl18.slots[((2 : Int32)).toNatClampNeg]? = some (.int v2) := Has.at H18 hin18 rfl
  obtain ⟨cl19, Ar19, q19, S19, M19, H19, G19⟩ := id V_a1
  have hin19 : ¬ ((3 : Int32) < 0 ∨ cl19.slots.size ≤ ((3 : Int32)).toNatClampNeg) := inb_of S19 ⟨by decide, by decide⟩
  have hat19 : cl19.slots[((3 : Int32)).toNatClampNeg]? = some (.int v3) := Has.at H19 hin19 rfl
  obtain ⟨cl20, Ar20, q20, S20, M20, H20, G20⟩ := id V_a1
  have hin20 : ¬ ((4 : Int32) < 0 ∨ cl20.slots.size ≤ ((4 : Int32)).toNatClampNeg) := inb_of S20 ⟨by decide, by decide⟩
  have hat20 : cl20.slots[((4 : Int32)).toNatClampNeg]? = some (.int v4) := Has.at H20 hin20 rfl
  obtain ⟨cl21, Ar21, q21, S21, M21, H21, G21⟩ := id V_a1
  have hin21 : ¬ ((5 : Int32) < 0 ∨ cl21.slots.size ≤ ((5 : Int32)).toNatClampNeg) := inb_of S21 ⟨by decide, by decide⟩
  have hat21 : cl21.slots[((5 : Int32)).toNatClampNeg]? = some (.int v5) := Has.at H21 hin21 rfl
  obtain ⟨cl22, Ar22, q22, S22, M22, H22, G22⟩ := id V_a1
  have hin22 : ¬ ((6 : Int32) < 0 ∨ cl22.slots.size ≤ ((6 : Int32)).toNatClampNeg) := inb_of S22 ⟨by decide, by decide⟩
  have hat22 : cl22.slots[((6 : Int32)).toNatClampNeg]? = some (.int v6) := Has.at H22 hin22 rfl
  obtain ⟨cl23, Ar23, q23, S23, M23, H23, G23⟩ := id V_a1
  have hin23 : ¬ ((7 : Int32) < 0 ∨ cl23.slots.size ≤ ((7 : Int32)).toNatClampNeg) := inb_of S23 ⟨by decide, by decide⟩
  have hat23 : cl23.slots[((7 : Int32)).toNatClampNeg]? = some (.int v7) := Has.at H23 hin23 rfl
  obtain ⟨cl24, Ar24, q24, S24, M24, H24, G24⟩ := id V_a1
  have hin24 : ¬ ((8 : Int32) < 0 ∨ cl24.slots.size ≤ ((8 : Int32)).toNatClampNeg) := inb_of S24 ⟨by decide, by decide⟩
  have hat24 : cl24.slots[((8 : Int32)).toNatClampNeg]? = some (.int v8) := Has.at H24 hin24 rfl
  obtain ⟨fs, hr, hrun, hended, hW, hsame⟩ := X0.leave (v := some (.int ((((own_byte (own_byte (own_byte (own_byte (own_byte (own_byte (own_byte (0 : Int32) v2) v3) v4) v5) v6) v7) v8) ^^^ (-1 : Int32)) &&& (127 : Int32)) <<< ((1 : Int32) &&& 31)))) (fun h => by rw [Bd.returns] at h; cases h)
  refine ⟨_, _, pre0 _ ?_, hrun, hended, _, _, rfl, ?_, ⟨_, rfl⟩, hW, hsame.mono (by decide) (by decide)⟩
  · show Steps p.tables e below (s₁.setTop (mkF m 0 #[.val (.ref a1), .val (.int (2 : Int32)), .unset, .unset, .unset, .unset] [])) _
    refine XS.iconst X0.here hx rfl (hb hby own_d2_0) ?_
    show Steps p.tables e below (s₁.setTop (mkF m 1 #[.val (.ref a1), .val (.int (2 : Int32)), .unset, .unset, .unset, .unset] [(.int (0 : Int32))])) _
    refine XS.istoreN X0.here hx rfl (hb hby own_d2_1) rfl (l' := #[.val (.ref a1), .val (.int (2 : Int32)), .val (.int (0 : Int32)), .unset, .unset, .unset]) rfl ?_
    show Steps p.tables e below (s₁.setTop (mkF m 2 #[.val (.ref a1), .val (.int (2 : Int32)), .val (.int (0 : Int32)), .unset, .unset, .unset] [])) _
    refine XS.iloadN X0.here hx rfl (hb hby own_d2_2) rfl ?_
    show Steps p.tables e below (s₁.setTop (mkF m 3 #[.val (.ref a1), .val (.int (2 : Int32)), .val (.int (0 : Int32)), .unset, .unset, .unset] [(.int (2 : Int32))])) _
    refine XS.istoreN X0.here hx rfl (hb hby own_d2_3) rfl (l' := #[.val (.ref a1), .val (.int (2 : Int32)), .val (.int (0 : Int32)), .val (.int (2 : Int32)), .unset, .unset]) rfl ?_
    show Steps p.tables e below (s₁.setTop (mkF m 4 #[.val (.ref a1), .val (.int (2 : Int32)), .val (.int (0 : Int32)), .val (.int (2 : Int32)), .unset, .unset] [])) _
    refine XS.iloadN X0.here hx rfl (hb hby own_d2_4) rfl ?_
    show Steps p.tables e below (s₁.setTop (mkF m 5 #[.val (.ref a1), .val (.int (2 : Int32)), .val (.int (0 : Int32)), .val (.int (2 : Int32)), .unset, .unset] [(.int (2 : Int32))])) _
    refine XS.iloadN X0.here hx rfl (hb hby own_d2_5) rfl ?_
    show Steps p.tables e below (s₁.setTop (mkF m 6 #[.val (.ref a1), .val (.int (2 : Int32)), .val (.int (0 : Int32)), .val (.int (2 : Int32)), .unset, .unset] [(.int (2 : Int32)), (.int (2 : Int32))])) _
    refine XS.bipush X0.here hx rfl (hb hby own_d2_6) ?_
    show Steps p.tables e below (s₁.setTop (mkF m 8 #[.val (.ref a1), .val (.int (2 : Int32)), .val (.int (0 : Int32)), .val (.int (2 : Int32)), .unset, .unset] [(.int (7 : Int32)), (.int (2 : Int32)), (.int (2 : Int32))])) _
    refine XS.iadd X0.here hx rfl (hb hby own_d2_8) rfl ?_
    show Steps p.tables e below (s₁.setTop (mkF m 9 #[.val (.ref a1), .val (.int (2 : Int32)), .val (.int (0 : Int32)), .val (.int (2 : Int32)), .unset, .unset] [(.int (9 : Int32)), (.int (2 : Int32))])) _
    refine XS.icmpNo X0.here hx rfl (hb hby own_d2_9) rfl (tlt (by decide : ((2 : Int32) < (9 : Int32)))).2.1 ?_
    show Steps p.tables e below (s₁.setTop (mkF m 12 #[.val (.ref a1), .val (.int (2 : Int32)), .val (.int (0 : Int32)), .val (.int (2 : Int32)), .unset, .unset] [])) _
    refine XS.bipush X0.here hx rfl (hb hby own_d2_12) ?_
    show Steps p.tables e below (s₁.setTop (mkF m 14 #[.val (.ref a1), .val (.int (2 : Int32)), .val (.int (0 : Int32)), .val (.int (2 : Int32)), .unset, .unset] [(.int (7 : Int32))])) _
    refine XS.istore X0.here hx rfl (hb hby own_d2_14) rfl (l' := #[.val (.ref a1), .val (.int (2 : Int32)), .val (.int (0 : Int32)), .val (.int (2 : Int32)), .val (.int (7 : Int32)), .unset]) rfl ?_
    show Steps p.tables e below (s₁.setTop (mkF m 16 #[.val (.ref a1), .val (.int (2 : Int32)), .val (.int (0 : Int32)), .val (.int (2 : Int32)), .val (.int (7 : Int32)), .unset] [])) _
    refine own_inner X0 hx hZ hby e0 a1 (2 : Int32) (0 : Int32) (2 : Int32) v2 cl18 _ Ar18 hin18 hat18 One.u (fun w18 => ?_)
    show Steps p.tables e below (s₁.setTop (mkF m 59 #[.val (.ref a1), .val (.int (2 : Int32)), .val (.int (own_byte (0 : Int32) v2)), .val (.int (2 : Int32)), .val (.int (-1 : Int32)), .val (.int w18)] [])) _
    refine XS.iinc X0.here hx rfl (hb hby own_d2_59) rfl (l' := #[.val (.ref a1), .val (.int (2 : Int32)), .val (.int (own_byte (0 : Int32) v2)), .val (.int (3 : Int32)), .val (.int (-1 : Int32)), .val (.int w18)]) rfl ?_
    show Steps p.tables e below (s₁.setTop (mkF m 62 #[.val (.ref a1), .val (.int (2 : Int32)), .val (.int (own_byte (0 : Int32) v2)), .val (.int (3 : Int32)), .val (.int (-1 : Int32)), .val (.int w18)] [])) _
    refine XS.goto X0.here hx rfl (pc0 := 62) (pc' := 4) rfl (hb hby own_d2_62) (by decide) (by decide) ?_
    show Steps p.tables e below (s₁.setTop (mkF m 4 #[.val (.ref a1), .val (.int (2 : Int32)), .val (.int (own_byte (0 : Int32) v2)), .val (.int (3 : Int32)), .val (.int (-1 : Int32)), .val (.int w18)] [])) _
    refine XS.iloadN X0.here hx rfl (hb hby own_d2_4) rfl ?_
    show Steps p.tables e below (s₁.setTop (mkF m 5 #[.val (.ref a1), .val (.int (2 : Int32)), .val (.int (own_byte (0 : Int32) v2)), .val (.int (3 : Int32)), .val (.int (-1 : Int32)), .val (.int w18)] [(.int (3 : Int32))])) _
    refine XS.iloadN X0.here hx rfl (hb hby own_d2_5) rfl ?_
    show Steps p.tables e below (s₁.setTop (mkF m 6 #[.val (.ref a1), .val (.int (2 : Int32)), .val (.int (own_byte (0 : Int32) v2)), .val (.int (3 : Int32)), .val (.int (-1 : Int32)), .val (.int w18)] [(.int (2 : Int32)), (.int (3 : Int32))])) _
    refine XS.bipush X0.here hx rfl (hb hby own_d2_6) ?_
    show Steps p.tables e below (s₁.setTop (mkF m 8 #[.val (.ref a1), .val (.int (2 : Int32)), .val (.int (own_byte (0 : Int32) v2)), .val (.int (3 : Int32)), .val (.int (-1 : Int32)), .val (.int w18)] [(.int (7 : Int32)), (.int (2 : Int32)), (.int (3 : Int32))])) _
    refine XS.iadd X0.here hx rfl (hb hby own_d2_8) rfl ?_
    show Steps p.tables e below (s₁.setTop (mkF m 9 #[.val (.ref a1), .val (.int (2 : Int32)), .val (.int (own_byte (0 : Int32) v2)), .val (.int (3 : Int32)), .val (.int (-1 : Int32)), .val (.int w18)] [(.int (9 : Int32)), (.int (3 : Int32))])) _
    refine XS.icmpNo X0.here hx rfl (hb hby own_d2_9) rfl (tlt (by decide : ((3 : Int32) < (9 : Int32)))).2.1 ?_
    show Steps p.tables e below (s₁.setTop (mkF m 12 #[.val (.ref a1), .val (.int (2 : Int32)), .val (.int (own_byte (0 : Int32) v2)), .val (.int (3 : Int32)), .val (.int (-1 : Int32)), .val (.int w18)] [])) _
    refine XS.bipush X0.here hx rfl (hb hby own_d2_12) ?_
    show Steps p.tables e below (s₁.setTop (mkF m 14 #[.val (.ref a1), .val (.int (2 : Int32)), .val (.int (own_byte (0 : Int32) v2)), .val (.int (3 : Int32)), .val (.int (-1 : Int32)), .val (.int w18)] [(.int (7 : Int32))])) _
    refine XS.istore X0.here hx rfl (hb hby own_d2_14) rfl (l' := #[.val (.ref a1), .val (.int (2 : Int32)), .val (.int (own_byte (0 : Int32) v2)), .val (.int (3 : Int32)), .val (.int (7 : Int32)), .val (.int w18)]) rfl ?_
    show Steps p.tables e below (s₁.setTop (mkF m 16 #[.val (.ref a1), .val (.int (2 : Int32)), .val (.int (own_byte (0 : Int32) v2)), .val (.int (3 : Int32)), .val (.int (7 : Int32)), .val (.int w18)] [])) _
    refine own_inner X0 hx hZ hby e0 a1 (2 : Int32) (own_byte (0 : Int32) v2) (3 : Int32) v3 cl19 _ Ar19 hin19 hat19 (One.val rfl) (fun w19 => ?_)
    show Steps p.tables e below (s₁.setTop (mkF m 59 #[.val (.ref a1), .val (.int (2 : Int32)), .val (.int (own_byte (own_byte (0 : Int32) v2) v3)), .val (.int (3 : Int32)), .val (.int (-1 : Int32)), .val (.int w19)] [])) _
    refine XS.iinc X0.here hx rfl (hb hby own_d2_59) rfl (l' := #[.val (.ref a1), .val (.int (2 : Int32)), .val (.int (own_byte (own_byte (0 : Int32) v2) v3)), .val (.int (4 : Int32)), .val (.int (-1 : Int32)), .val (.int w19)]) rfl ?_
    show Steps p.tables e below (s₁.setTop (mkF m 62 #[.val (.ref a1), .val (.int (2 : Int32)), .val (.int (own_byte (own_byte (0 : Int32) v2) v3)), .val (.int (4 : Int32)), .val (.int (-1 : Int32)), .val (.int w19)] [])) _
    refine XS.goto X0.here hx rfl (pc0 := 62) (pc' := 4) rfl (hb hby own_d2_62) (by decide) (by decide) ?_
    show Steps p.tables e below (s₁.setTop (mkF m 4 #[.val (.ref a1), .val (.int (2 : Int32)), .val (.int (own_byte (own_byte (0 : Int32) v2) v3)), .val (.int (4 : Int32)), .val (.int (-1 : Int32)), .val (.int w19)] [])) _
    refine XS.iloadN X0.here hx rfl (hb hby own_d2_4) rfl ?_
    show Steps p.tables e below (s₁.setTop (mkF m 5 #[.val (.ref a1), .val (.int (2 : Int32)), .val (.int (own_byte (own_byte (0 : Int32) v2) v3)), .val (.int (4 : Int32)), .val (.int (-1 : Int32)), .val (.int w19)] [(.int (4 : Int32))])) _
    refine XS.iloadN X0.here hx rfl (hb hby own_d2_5) rfl ?_
    show Steps p.tables e below (s₁.setTop (mkF m 6 #[.val (.ref a1), .val (.int (2 : Int32)), .val (.int (own_byte (own_byte (0 : Int32) v2) v3)), .val (.int (4 : Int32)), .val (.int (-1 : Int32)), .val (.int w19)] [(.int (2 : Int32)), (.int (4 : Int32))])) _
    refine XS.bipush X0.here hx rfl (hb hby own_d2_6) ?_
    show Steps p.tables e below (s₁.setTop (mkF m 8 #[.val (.ref a1), .val (.int (2 : Int32)), .val (.int (own_byte (own_byte (0 : Int32) v2) v3)), .val (.int (4 : Int32)), .val (.int (-1 : Int32)), .val (.int w19)] [(.int (7 : Int32)), (.int (2 : Int32)), (.int (4 : Int32))])) _
    refine XS.iadd X0.here hx rfl (hb hby own_d2_8) rfl ?_
    show Steps p.tables e below (s₁.setTop (mkF m 9 #[.val (.ref a1), .val (.int (2 : Int32)), .val (.int (own_byte (own_byte (0 : Int32) v2) v3)), .val (.int (4 : Int32)), .val (.int (-1 : Int32)), .val (.int w19)] [(.int (9 : Int32)), (.int (4 : Int32))])) _
    refine XS.icmpNo X0.here hx rfl (hb hby own_d2_9) rfl (tlt (by decide : ((4 : Int32) < (9 : Int32)))).2.1 ?_
    show Steps p.tables e below (s₁.setTop (mkF m 12 #[.val (.ref a1), .val (.int (2 : Int32)), .val (.int (own_byte (own_byte (0 : Int32) v2) v3)), .val (.int (4 : Int32)), .val (.int (-1 : Int32)), .val (.int w19)] [])) _
    refine XS.bipush X0.here hx rfl (hb hby own_d2_12) ?_
    show Steps p.tables e below (s₁.setTop (mkF m 14 #[.val (.ref a1), .val (.int (2 : Int32)), .val (.int (own_byte (own_byte (0 : Int32) v2) v3)), .val (.int (4 : Int32)), .val (.int (-1 : Int32)), .val (.int w19)] [(.int (7 : Int32))])) _
    refine XS.istore X0.here hx rfl (hb hby own_d2_14) rfl (l' := #[.val (.ref a1), .val (.int (2 : Int32)), .val (.int (own_byte (own_byte (0 : Int32) v2) v3)), .val (.int (4 : Int32)), .val (.int (7 : Int32)), .val (.int w19)]) rfl ?_
    show Steps p.tables e below (s₁.setTop (mkF m 16 #[.val (.ref a1), .val (.int (2 : Int32)), .val (.int (own_byte (own_byte (0 : Int32) v2) v3)), .val (.int (4 : Int32)), .val (.int (7 : Int32)), .val (.int w19)] [])) _
    refine own_inner X0 hx hZ hby e0 a1 (2 : Int32) (own_byte (own_byte (0 : Int32) v2) v3) (4 : Int32) v4 cl20 _ Ar20 hin20 hat20 (One.val rfl) (fun w20 => ?_)
    show Steps p.tables e below (s₁.setTop (mkF m 59 #[.val (.ref a1), .val (.int (2 : Int32)), .val (.int (own_byte (own_byte (own_byte (0 : Int32) v2) v3) v4)), .val (.int (4 : Int32)), .val (.int (-1 : Int32)), .val (.int w20)] [])) _
    refine XS.iinc X0.here hx rfl (hb hby own_d2_59) rfl (l' := #[.val (.ref a1), .val (.int (2 : Int32)), .val (.int (own_byte (own_byte (own_byte (0 : Int32) v2) v3) v4)), .val (.int (5 : Int32)), .val (.int (-1 : Int32)), .val (.int w20)]) rfl ?_
    show Steps p.tables e below (s₁.setTop (mkF m 62 #[.val (.ref a1), .val (.int (2 : Int32)), .val (.int (own_byte (own_byte (own_byte (0 : Int32) v2) v3) v4)), .val (.int (5 : Int32)), .val (.int (-1 : Int32)), .val (.int w20)] [])) _
    refine XS.goto X0.here hx rfl (pc0 := 62) (pc' := 4) rfl (hb hby own_d2_62) (by decide) (by decide) ?_
    show Steps p.tables e below (s₁.setTop (mkF m 4 #[.val (.ref a1), .val (.int (2 : Int32)), .val (.int (own_byte (own_byte (own_byte (0 : Int32) v2) v3) v4)), .val (.int (5 : Int32)), .val (.int (-1 : Int32)), .val (.int w20)] [])) _
    refine XS.iloadN X0.here hx rfl (hb hby own_d2_4) rfl ?_
    show Steps p.tables e below (s₁.setTop (mkF m 5 #[.val (.ref a1), .val (.int (2 : Int32)), .val (.int (own_byte (own_byte (own_byte (0 : Int32) v2) v3) v4)), .val (.int (5 : Int32)), .val (.int (-1 : Int32)), .val (.int w20)] [(.int (5 : Int32))])) _
    refine XS.iloadN X0.here hx rfl (hb hby own_d2_5) rfl ?_
    show Steps p.tables e below (s₁.setTop (mkF m 6 #[.val (.ref a1), .val (.int (2 : Int32)), .val (.int (own_byte (own_byte (own_byte (0 : Int32) v2) v3) v4)), .val (.int (5 : Int32)), .val (.int (-1 : Int32)), .val (.int w20)] [(.int (2 : Int32)), (.int (5 : Int32))])) _
    refine XS.bipush X0.here hx rfl (hb hby own_d2_6) ?_
    show Steps p.tables e below (s₁.setTop (mkF m 8 #[.val (.ref a1), .val (.int (2 : Int32)), .val (.int (own_byte (own_byte (own_byte (0 : Int32) v2) v3) v4)), .val (.int (5 : Int32)), .val (.int (-1 : Int32)), .val (.int w20)] [(.int (7 : Int32)), (.int (2 : Int32)), (.int (5 : Int32))])) _
    refine XS.iadd X0.here hx rfl (hb hby own_d2_8) rfl ?_
    show Steps p.tables e below (s₁.setTop (mkF m 9 #[.val (.ref a1), .val (.int (2 : Int32)), .val (.int (own_byte (own_byte (own_byte (0 : Int32) v2) v3) v4)), .val (.int (5 : Int32)), .val (.int (-1 : Int32)), .val (.int w20)] [(.int (9 : Int32)), (.int (5 : Int32))])) _
    refine XS.icmpNo X0.here hx rfl (hb hby own_d2_9) rfl (tlt (by decide : ((5 : Int32) < (9 : Int32)))).2.1 ?_
    show Steps p.tables e below (s₁.setTop (mkF m 12 #[.val (.ref a1), .val (.int (2 : Int32)), .val (.int (own_byte (own_byte (own_byte (0 : Int32) v2) v3) v4)), .val (.int (5 : Int32)), .val (.int (-1 : Int32)), .val (.int w20)] [])) _
    refine XS.bipush X0.here hx rfl (hb hby own_d2_12) ?_
    show Steps p.tables e below (s₁.setTop (mkF m 14 #[.val (.ref a1), .val (.int (2 : Int32)), .val (.int (own_byte (own_byte (own_byte (0 : Int32) v2) v3) v4)), .val (.int (5 : Int32)), .val (.int (-1 : Int32)), .val (.int w20)] [(.int (7 : Int32))])) _
    refine XS.istore X0.here hx rfl (hb hby own_d2_14) rfl (l' := #[.val (.ref a1), .val (.int (2 : Int32)), .val (.int (own_byte (own_byte (own_byte (0 : Int32) v2) v3) v4)), .val (.int (5 : Int32)), .val (.int (7 : Int32)), .val (.int w20)]) rfl ?_
    show Steps p.tables e below (s₁.setTop (mkF m 16 #[.val (.ref a1), .val (.int (2 : Int32)), .val (.int (own_byte (own_byte (own_byte (0 : Int32) v2) v3) v4)), .val (.int (5 : Int32)), .val (.int (7 : Int32)), .val (.int w20)] [])) _
    refine own_inner X0 hx hZ hby e0 a1 (2 : Int32) (own_byte (own_byte (own_byte (0 : Int32) v2) v3) v4) (5 : Int32) v5 cl21 _ Ar21 hin21 hat21 (One.val rfl) (fun w21 => ?_)
    show Steps p.tables e below (s₁.setTop (mkF m 59 #[.val (.ref a1), .val (.int (2 : Int32)), .val (.int (own_byte (own_byte (own_byte (own_byte (0 : Int32) v2) v3) v4) v5)), .val (.int (5 : Int32)), .val (.int (-1 : Int32)), .val (.int w21)] [])) _
    refine XS.iinc X0.here hx rfl (hb hby own_d2_59) rfl (l' := #[.val (.ref a1), .val (.int (2 : Int32)), .val (.int (own_byte (own_byte (own_byte (own_byte (0 : Int32) v2) v3) v4) v5)), .val (.int (6 : Int32)), .val (.int (-1 : Int32)), .val (.int w21)]) rfl ?_
    show Steps p.tables e below (s₁.setTop (mkF m 62 #[.val (.ref a1), .val (.int (2 : Int32)), .val (.int (own_byte (own_byte (own_byte (own_byte (0 : Int32) v2) v3) v4) v5)), .val (.int (6 : Int32)), .val (.int (-1 : Int32)), .val (.int w21)] [])) _
    refine XS.goto X0.here hx rfl (pc0 := 62) (pc' := 4) rfl (hb hby own_d2_62) (by decide) (by decide) ?_
    show Steps p.tables e below (s₁.setTop (mkF m 4 #[.val (.ref a1), .val (.int (2 : Int32)), .val (.int (own_byte (own_byte (own_byte (own_byte (0 : Int32) v2) v3) v4) v5)), .val (.int (6 : Int32)), .val (.int (-1 : Int32)), .val (.int w21)] [])) _
    refine XS.iloadN X0.here hx rfl (hb hby own_d2_4) rfl ?_
    show Steps p.tables e below (s₁.setTop (mkF m 5 #[.val (.ref a1), .val (.int (2 : Int32)), .val (.int (own_byte (own_byte (own_byte (own_byte (0 : Int32) v2) v3) v4) v5)), .val (.int (6 : Int32)), .val (.int (-1 : Int32)), .val (.int w21)] [(.int (6 : Int32))])) _
    refine XS.iloadN X0.here hx rfl (hb hby own_d2_5) rfl ?_
    show Steps p.tables e below (s₁.setTop (mkF m 6 #[.val (.ref a1), .val (.int (2 : Int32)), .val (.int (own_byte (own_byte (own_byte (own_byte (0 : Int32) v2) v3) v4) v5)), .val (.int (6 : Int32)), .val (.int (-1 : Int32)), .val (.int w21)] [(.int (2 : Int32)), (.int (6 : Int32))])) _
    refine XS.bipush X0.here hx rfl (hb hby own_d2_6) ?_
    show Steps p.tables e below (s₁.setTop (mkF m 8 #[.val (.ref a1), .val (.int (2 : Int32)), .val (.int (own_byte (own_byte (own_byte (own_byte (0 : Int32) v2) v3) v4) v5)), .val (.int (6 : Int32)), .val (.int (-1 : Int32)), .val (.int w21)] [(.int (7 : Int32)), (.int (2 : Int32)), (.int (6 : Int32))])) _
    refine XS.iadd X0.here hx rfl (hb hby own_d2_8) rfl ?_
    show Steps p.tables e below (s₁.setTop (mkF m 9 #[.val (.ref a1), .val (.int (2 : Int32)), .val (.int (own_byte (own_byte (own_byte (own_byte (0 : Int32) v2) v3) v4) v5)), .val (.int (6 : Int32)), .val (.int (-1 : Int32)), .val (.int w21)] [(.int (9 : Int32)), (.int (6 : Int32))])) _
    refine XS.icmpNo X0.here hx rfl (hb hby own_d2_9) rfl (tlt (by decide : ((6 : Int32) < (9 : Int32)))).2.1 ?_
    show Steps p.tables e below (s₁.setTop (mkF m 12 #[.val (.ref a1), .val (.int (2 : Int32)), .val (.int (own_byte (own_byte (own_byte (own_byte (0 : Int32) v2) v3) v4) v5)), .val (.int (6 : Int32)), .val (.int (-1 : Int32)), .val (.int w21)] [])) _
    refine XS.bipush X0.here hx rfl (hb hby own_d2_12) ?_
    show Steps p.tables e below (s₁.setTop (mkF m 14 #[.val (.ref a1), .val (.int (2 : Int32)), .val (.int (own_byte (own_byte (own_byte (own_byte (0 : Int32) v2) v3) v4) v5)), .val (.int (6 : Int32)), .val (.int (-1 : Int32)), .val (.int w21)] [(.int (7 : Int32))])) _
    refine XS.istore X0.here hx rfl (hb hby own_d2_14) rfl (l' := #[.val (.ref a1), .val (.int (2 : Int32)), .val (.int (own_byte (own_byte (own_byte (own_byte (0 : Int32) v2) v3) v4) v5)), .val (.int (6 : Int32)), .val (.int (7 : Int32)), .val (.int w21)]) rfl ?_
    show Steps p.tables e below (s₁.setTop (mkF m 16 #[.val (.ref a1), .val (.int (2 : Int32)), .val (.int (own_byte (own_byte (own_byte (own_byte (0 : Int32) v2) v3) v4) v5)), .val (.int (6 : Int32)), .val (.int (7 : Int32)), .val (.int w21)] [])) _
    refine own_inner X0 hx hZ hby e0 a1 (2 : Int32) (own_byte (own_byte (own_byte (own_byte (0 : Int32) v2) v3) v4) v5) (6 : Int32) v6 cl22 _ Ar22 hin22 hat22 (One.val rfl) (fun w22 => ?_)
    show Steps p.tables e below (s₁.setTop (mkF m 59 #[.val (.ref a1), .val (.int (2 : Int32)), .val (.int (own_byte (own_byte (own_byte (own_byte (own_byte (0 : Int32) v2) v3) v4) v5) v6)), .val (.int (6 : Int32)), .val (.int (-1 : Int32)), .val (.int w22)] [])) _
    refine XS.iinc X0.here hx rfl (hb hby own_d2_59) rfl (l' := #[.val (.ref a1), .val (.int (2 : Int32)), .val (.int (own_byte (own_byte (own_byte (own_byte (own_byte (0 : Int32) v2) v3) v4) v5) v6)), .val (.int (7 : Int32)), .val (.int (-1 : Int32)), .val (.int w22)]) rfl ?_
    show Steps p.tables e below (s₁.setTop (mkF m 62 #[.val (.ref a1), .val (.int (2 : Int32)), .val (.int (own_byte (own_byte (own_byte (own_byte (own_byte (0 : Int32) v2) v3) v4) v5) v6)), .val (.int (7 : Int32)), .val (.int (-1 : Int32)), .val (.int w22)] [])) _
    refine XS.goto X0.here hx rfl (pc0 := 62) (pc' := 4) rfl (hb hby own_d2_62) (by decide) (by decide) ?_
    show Steps p.tables e below (s₁.setTop (mkF m 4 #[.val (.ref a1), .val (.int (2 : Int32)), .val (.int (own_byte (own_byte (own_byte (own_byte (own_byte (0 : Int32) v2) v3) v4) v5) v6)), .val (.int (7 : Int32)), .val (.int (-1 : Int32)), .val (.int w22)] [])) _
    refine XS.iloadN X0.here hx rfl (hb hby own_d2_4) rfl ?_
    show Steps p.tables e below (s₁.setTop (mkF m 5 #[.val (.ref a1), .val (.int (2 : Int32)), .val (.int (own_byte (own_byte (own_byte (own_byte (own_byte (0 : Int32) v2) v3) v4) v5) v6)), .val (.int (7 : Int32)), .val (.int (-1 : Int32)), .val (.int w22)] [(.int (7 : Int32))])) _
    refine XS.iloadN X0.here hx rfl (hb hby own_d2_5) rfl ?_
    show Steps p.tables e below (s₁.setTop (mkF m 6 #[.val (.ref a1), .val (.int (2 : Int32)), .val (.int (own_byte (own_byte (own_byte (own_byte (own_byte (0 : Int32) v2) v3) v4) v5) v6)), .val (.int (7 : Int32)), .val (.int (-1 : Int32)), .val (.int w22)] [(.int (2 : Int32)), (.int (7 : Int32))])) _
    refine XS.bipush X0.here hx rfl (hb hby own_d2_6) ?_
    show Steps p.tables e below (s₁.setTop (mkF m 8 #[.val (.ref a1), .val (.int (2 : Int32)), .val (.int (own_byte (own_byte (own_byte (own_byte (own_byte (0 : Int32) v2) v3) v4) v5) v6)), .val (.int (7 : Int32)), .val (.int (-1 : Int32)), .val (.int w22)] [(.int (7 : Int32)), (.int (2 : Int32)), (.int (7 : Int32))])) _
    refine XS.iadd X0.here hx rfl (hb hby own_d2_8) rfl ?_
    show Steps p.tables e below (s₁.setTop (mkF m 9 #[.val (.ref a1), .val (.int (2 : Int32)), .val (.int (own_byte (own_byte (own_byte (own_byte (own_byte (0 : Int32) v2) v3) v4) v5) v6)), .val (.int (7 : Int32)), .val (.int (-1 : Int32)), .val (.int w22)] [(.int (9 : Int32)), (.int (7 : Int32))])) _
    refine XS.icmpNo X0.here hx rfl (hb hby own_d2_9) rfl (tlt (by decide : ((7 : Int32) < (9 : Int32)))).2.1 ?_
    show Steps p.tables e below (s₁.setTop (mkF m 12 #[.val (.ref a1), .val (.int (2 : Int32)), .val (.int (own_byte (own_byte (own_byte (own_byte (own_byte (0 : Int32) v2) v3) v4) v5) v6)), .val (.int (7 : Int32)), .val (.int (-1 : Int32)), .val (.int w22)] [])) _
    refine XS.bipush X0.here hx rfl (hb hby own_d2_12) ?_
    show Steps p.tables e below (s₁.setTop (mkF m 14 #[.val (.ref a1), .val (.int (2 : Int32)), .val (.int (own_byte (own_byte (own_byte (own_byte (own_byte (0 : Int32) v2) v3) v4) v5) v6)), .val (.int (7 : Int32)), .val (.int (-1 : Int32)), .val (.int w22)] [(.int (7 : Int32))])) _
    refine XS.istore X0.here hx rfl (hb hby own_d2_14) rfl (l' := #[.val (.ref a1), .val (.int (2 : Int32)), .val (.int (own_byte (own_byte (own_byte (own_byte (own_byte (0 : Int32) v2) v3) v4) v5) v6)), .val (.int (7 : Int32)), .val (.int (7 : Int32)), .val (.int w22)]) rfl ?_
    show Steps p.tables e below (s₁.setTop (mkF m 16 #[.val (.ref a1), .val (.int (2 : Int32)), .val (.int (own_byte (own_byte (own_byte (own_byte (own_byte (0 : Int32) v2) v3) v4) v5) v6)), .val (.int (7 : Int32)), .val (.int (7 : Int32)), .val (.int w22)] [])) _
    refine own_inner X0 hx hZ hby e0 a1 (2 : Int32) (own_byte (own_byte (own_byte (own_byte (own_byte (0 : Int32) v2) v3) v4) v5) v6) (7 : Int32) v7 cl23 _ Ar23 hin23 hat23 (One.val rfl) (fun w23 => ?_)
    show Steps p.tables e below (s₁.setTop (mkF m 59 #[.val (.ref a1), .val (.int (2 : Int32)), .val (.int (own_byte (own_byte (own_byte (own_byte (own_byte (own_byte (0 : Int32) v2) v3) v4) v5) v6) v7)), .val (.int (7 : Int32)), .val (.int (-1 : Int32)), .val (.int w23)] [])) _
    refine XS.iinc X0.here hx rfl (hb hby own_d2_59) rfl (l' := #[.val (.ref a1), .val (.int (2 : Int32)), .val (.int (own_byte (own_byte (own_byte (own_byte (own_byte (own_byte (0 : Int32) v2) v3) v4) v5) v6) v7)), .val (.int (8 : Int32)), .val (.int (-1 : Int32)), .val (.int w23)]) rfl ?_
    show Steps p.tables e below (s₁.setTop (mkF m 62 #[.val (.ref a1), .val (.int (2 : Int32)), .val (.int (own_byte (own_byte (own_byte (own_byte (own_byte (own_byte (0 : Int32) v2) v3) v4) v5) v6) v7)), .val (.int (8 : Int32)), .val (.int (-1 : Int32)), .val (.int w23)] [])) _
    refine XS.goto X0.here hx rfl (pc0 := 62) (pc' := 4) rfl (hb hby own_d2_62) (by decide) (by decide) ?_
    show Steps p.tables e below (s₁.setTop (mkF m 4 #[.val (.ref a1), .val (.int (2 : Int32)), .val (.int (own_byte (own_byte (own_byte (own_byte (own_byte (own_byte (0 : Int32) v2) v3) v4) v5) v6) v7)), .val (.int (8 : Int32)), .val (.int (-1 : Int32)), .val (.int w23)] [])) _
    refine XS.iloadN X0.here hx rfl (hb hby own_d2_4) rfl ?_
    show Steps p.tables e below (s₁.setTop (mkF m 5 #[.val (.ref a1), .val (.int (2 : Int32)), .val (.int (own_byte (own_byte (own_byte (own_byte (own_byte (own_byte (0 : Int32) v2) v3) v4) v5) v6) v7)), .val (.int (8 : Int32)), .val (.int (-1 : Int32)), .val (.int w23)] [(.int (8 : Int32))])) _
    refine XS.iloadN X0.here hx rfl (hb hby own_d2_5) rfl ?_
    show Steps p.tables e below (s₁.setTop (mkF m 6 #[.val (.ref a1), .val (.int (2 : Int32)), .val (.int (own_byte (own_byte (own_byte (own_byte (own_byte (own_byte (0 : Int32) v2) v3) v4) v5) v6) v7)), .val (.int (8 : Int32)), .val (.int (-1 : Int32)), .val (.int w23)] [(.int (2 : Int32)), (.int (8 : Int32))])) _
    refine XS.bipush X0.here hx rfl (hb hby own_d2_6) ?_
    show Steps p.tables e below (s₁.setTop (mkF m 8 #[.val (.ref a1), .val (.int (2 : Int32)), .val (.int (own_byte (own_byte (own_byte (own_byte (own_byte (own_byte (0 : Int32) v2) v3) v4) v5) v6) v7)), .val (.int (8 : Int32)), .val (.int (-1 : Int32)), .val (.int w23)] [(.int (7 : Int32)), (.int (2 : Int32)), (.int (8 : Int32))])) _
    refine XS.iadd X0.here hx rfl (hb hby own_d2_8) rfl ?_
    show Steps p.tables e below (s₁.setTop (mkF m 9 #[.val (.ref a1), .val (.int (2 : Int32)), .val (.int (own_byte (own_byte (own_byte (own_byte (own_byte (own_byte (0 : Int32) v2) v3) v4) v5) v6) v7)), .val (.int (8 : Int32)), .val (.int (-1 : Int32)), .val (.int w23)] [(.int (9 : Int32)), (.int (8 : Int32))])) _
    refine XS.icmpNo X0.here hx rfl (hb hby own_d2_9) rfl (tlt (by decide : ((8 : Int32) < (9 : Int32)))).2.1 ?_
    show Steps p.tables e below (s₁.setTop (mkF m 12 #[.val (.ref a1), .val (.int (2 : Int32)), .val (.int (own_byte (own_byte (own_byte (own_byte (own_byte (own_byte (0 : Int32) v2) v3) v4) v5) v6) v7)), .val (.int (8 : Int32)), .val (.int (-1 : Int32)), .val (.int w23)] [])) _
    refine XS.bipush X0.here hx rfl (hb hby own_d2_12) ?_
    show Steps p.tables e below (s₁.setTop (mkF m 14 #[.val (.ref a1), .val (.int (2 : Int32)), .val (.int (own_byte (own_byte (own_byte (own_byte (own_byte (own_byte (0 : Int32) v2) v3) v4) v5) v6) v7)), .val (.int (8 : Int32)), .val (.int (-1 : Int32)), .val (.int w23)] [(.int (7 : Int32))])) _
    refine XS.istore X0.here hx rfl (hb hby own_d2_14) rfl (l' := #[.val (.ref a1), .val (.int (2 : Int32)), .val (.int (own_byte (own_byte (own_byte (own_byte (own_byte (own_byte (0 : Int32) v2) v3) v4) v5) v6) v7)), .val (.int (8 : Int32)), .val (.int (7 : Int32)), .val (.int w23)]) rfl ?_
    show Steps p.tables e below (s₁.setTop (mkF m 16 #[.val (.ref a1), .val (.int (2 : Int32)), .val (.int (own_byte (own_byte (own_byte (own_byte (own_byte (own_byte (0 : Int32) v2) v3) v4) v5) v6) v7)), .val (.int (8 : Int32)), .val (.int (7 : Int32)), .val (.int w23)] [])) _
    refine own_inner X0 hx hZ hby e0 a1 (2 : Int32) (own_byte (own_byte (own_byte (own_byte (own_byte (own_byte (0 : Int32) v2) v3) v4) v5) v6) v7) (8 : Int32) v8 cl24 _ Ar24 hin24 hat24 (One.val rfl) (fun w24 => ?_)
    show Steps p.tables e below (s₁.setTop (mkF m 59 #[.val (.ref a1), .val (.int (2 : Int32)), .val (.int (own_byte (own_byte (own_byte (own_byte (own_byte (own_byte (own_byte (0 : Int32) v2) v3) v4) v5) v6) v7) v8)), .val (.int (8 : Int32)), .val (.int (-1 : Int32)), .val (.int w24)] [])) _
    refine XS.iinc X0.here hx rfl (hb hby own_d2_59) rfl (l' := #[.val (.ref a1), .val (.int (2 : Int32)), .val (.int (own_byte (own_byte (own_byte (own_byte (own_byte (own_byte (own_byte (0 : Int32) v2) v3) v4) v5) v6) v7) v8)), .val (.int (9 : Int32)), .val (.int (-1 : Int32)), .val (.int w24)]) rfl ?_
    show Steps p.tables e below (s₁.setTop (mkF m 62 #[.val (.ref a1), .val (.int (2 : Int32)), .val (.int (own_byte (own_byte (own_byte (own_byte (own_byte (own_byte (own_byte (0 : Int32) v2) v3) v4) v5) v6) v7) v8)), .val (.int (9 : Int32)), .val (.int (-1 : Int32)), .val (.int w24)] [])) _
    refine XS.goto X0.here hx rfl (pc0 := 62) (pc' := 4) rfl (hb hby own_d2_62) (by decide) (by decide) ?_
    show Steps p.tables e below (s₁.setTop (mkF m 4 #[.val (.ref a1), .val (.int (2 : Int32)), .val (.int (own_byte (own_byte (own_byte (own_byte (own_byte (own_byte (own_byte (0 : Int32) v2) v3) v4) v5) v6) v7) v8)), .val (.int (9 : Int32)), .val (.int (-1 : Int32)), .val (.int w24)] [])) _
    refine XS.iloadN X0.here hx rfl (hb hby own_d2_4) rfl ?_
    show Steps p.tables e below (s₁.setTop (mkF m 5 #[.val (.ref a1), .val (.int (2 : Int32)), .val (.int (own_byte (own_byte (own_byte (own_byte (own_byte (own_byte (own_byte (0 : Int32) v2) v3) v4) v5) v6) v7) v8)), .val (.int (9 : Int32)), .val (.int (-1 : Int32)), .val (.int w24)] [(.int (9 : Int32))])) _
    refine XS.iloadN X0.here hx rfl (hb hby own_d2_5) rfl ?_
    show Steps p.tables e below (s₁.setTop (mkF m 6 #[.val (.ref a1), .val (.int (2 : Int32)), .val (.int (own_byte (own_byte (own_byte (own_byte (own_byte (own_byte (own_byte (0 : Int32) v2) v3) v4) v5) v6) v7) v8)), .val (.int (9 : Int32)), .val (.int (-1 : Int32)), .val (.int w24)] [(.int (2 : Int32)), (.int (9 : Int32))])) _
    refine XS.bipush X0.here hx rfl (hb hby own_d2_6) ?_
    show Steps p.tables e below (s₁.setTop (mkF m 8 #[.val (.ref a1), .val (.int (2 : Int32)), .val (.int (own_byte (own_byte (own_byte (own_byte (own_byte (own_byte (own_byte (0 : Int32) v2) v3) v4) v5) v6) v7) v8)), .val (.int (9 : Int32)), .val (.int (-1 : Int32)), .val (.int w24)] [(.int (7 : Int32)), (.int (2 : Int32)), (.int (9 : Int32))])) _
    refine XS.iadd X0.here hx rfl (hb hby own_d2_8) rfl ?_
    show Steps p.tables e below (s₁.setTop (mkF m 9 #[.val (.ref a1), .val (.int (2 : Int32)), .val (.int (own_byte (own_byte (own_byte (own_byte (own_byte (own_byte (own_byte (0 : Int32) v2) v3) v4) v5) v6) v7) v8)), .val (.int (9 : Int32)), .val (.int (-1 : Int32)), .val (.int w24)] [(.int (9 : Int32)), (.int (9 : Int32))])) _
    refine XS.icmpYes X0.here hx rfl (pc0 := 9) (pc' := 65) rfl (hb hby own_d2_9) rfl (flt (by decide : ¬ ((9 : Int32) < (9 : Int32)))).2.1 (by decide) (by decide) ?_
    show Steps p.tables e below (s₁.setTop (mkF m 65 #[.val (.ref a1), .val (.int (2 : Int32)), .val (.int (own_byte (own_byte (own_byte (own_byte (own_byte (own_byte (own_byte (0 : Int32) v2) v3) v4) v5) v6) v7) v8)), .val (.int (9 : Int32)), .val (.int (-1 : Int32)), .val (.int w24)] [])) _
    refine XS.iloadN X0.here hx rfl (hb hby own_d2_65) rfl ?_
    show Steps p.tables e below (s₁.setTop (mkF m 66 #[.val (.ref a1), .val (.int (2 : Int32)), .val (.int (own_byte (own_byte (own_byte (own_byte (own_byte (own_byte (own_byte (0 : Int32) v2) v3) v4) v5) v6) v7) v8)), .val (.int (9 : Int32)), .val (.int (-1 : Int32)), .val (.int w24)] [(.int (own_byte (own_byte (own_byte (own_byte (own_byte (own_byte (own_byte (0 : Int32) v2) v3) v4) v5) v6) v7) v8))])) _
    refine XS.iconst X0.here hx rfl (hb hby own_d2_66) ?_
    show Steps p.tables e below (s₁.setTop (mkF m 67 #[.val (.ref a1), .val (.int (2 : Int32)), .val (.int (own_byte (own_byte (own_byte (own_byte (own_byte (own_byte (own_byte (0 : Int32) v2) v3) v4) v5) v6) v7) v8)), .val (.int (9 : Int32)), .val (.int (-1 : Int32)), .val (.int w24)] [(.int (-1 : Int32)), (.int (own_byte (own_byte (own_byte (own_byte (own_byte (own_byte (own_byte (0 : Int32) v2) v3) v4) v5) v6) v7) v8))])) _
    refine XS.ixor X0.here hx rfl (hb hby own_d2_67) rfl ?_
    show Steps p.tables e below (s₁.setTop (mkF m 68 #[.val (.ref a1), .val (.int (2 : Int32)), .val (.int (own_byte (own_byte (own_byte (own_byte (own_byte (own_byte (own_byte (0 : Int32) v2) v3) v4) v5) v6) v7) v8)), .val (.int (9 : Int32)), .val (.int (-1 : Int32)), .val (.int w24)] [(.int ((own_byte (own_byte (own_byte (own_byte (own_byte (own_byte (own_byte (0 : Int32) v2) v3) v4) v5) v6) v7) v8) ^^^ (-1 : Int32)))])) _
    refine XS.bipush X0.here hx rfl (hb hby own_d2_68) ?_
    show Steps p.tables e below (s₁.setTop (mkF m 70 #[.val (.ref a1), .val (.int (2 : Int32)), .val (.int (own_byte (own_byte (own_byte (own_byte (own_byte (own_byte (own_byte (0 : Int32) v2) v3) v4) v5) v6) v7) v8)), .val (.int (9 : Int32)), .val (.int (-1 : Int32)), .val (.int w24)] [(.int (127 : Int32)), (.int ((own_byte (own_byte (own_byte (own_byte (own_byte (own_byte (own_byte (0 : Int32) v2) v3) v4) v5) v6) v7) v8) ^^^ (-1 : Int32)))])) _
    refine XS.iand X0.here hx rfl (hb hby own_d2_70) rfl ?_
    show Steps p.tables e below (s₁.setTop (mkF m 71 #[.val (.ref a1), .val (.int (2 : Int32)), .val (.int (own_byte (own_byte (own_byte (own_byte (own_byte (own_byte (own_byte (0 : Int32) v2) v3) v4) v5) v6) v7) v8)), .val (.int (9 : Int32)), .val (.int (-1 : Int32)), .val (.int w24)] [(.int (((own_byte (own_byte (own_byte (own_byte (own_byte (own_byte (own_byte (0 : Int32) v2) v3) v4) v5) v6) v7) v8) ^^^ (-1 : Int32)) &&& (127 : Int32)))])) _
    refine XS.iconst X0.here hx rfl (hb hby own_d2_71) ?_
    show Steps p.tables e below (s₁.setTop (mkF m 72 #[.val (.ref a1), .val (.int (2 : Int32)), .val (.int (own_byte (own_byte (own_byte (own_byte (own_byte (own_byte (own_byte (0 : Int32) v2) v3) v4) v5) v6) v7) v8)), .val (.int (9 : Int32)), .val (.int (-1 : Int32)), .val (.int w24)] [(.int (1 : Int32)), (.int (((own_byte (own_byte (own_byte (own_byte (own_byte (own_byte (own_byte (0 : Int32) v2) v3) v4) v5) v6) v7) v8) ^^^ (-1 : Int32)) &&& (127 : Int32)))])) _
    refine XS.ishl X0.here hx rfl (hb hby own_d2_72) rfl ?_
    show Steps p.tables e below (s₁.setTop (mkF m 73 #[.val (.ref a1), .val (.int (2 : Int32)), .val (.int (own_byte (own_byte (own_byte (own_byte (own_byte (own_byte (own_byte (0 : Int32) v2) v3) v4) v5) v6) v7) v8)), .val (.int (9 : Int32)), .val (.int (-1 : Int32)), .val (.int w24)] [(.int ((((own_byte (own_byte (own_byte (own_byte (own_byte (own_byte (own_byte (0 : Int32) v2) v3) v4) v5) v6) v7) v8) ^^^ (-1 : Int32)) &&& (127 : Int32)) <<< ((1 : Int32) &&& 31)))])) _
    exact retI X0 hx Bd.returns (hb hby own_d2_73) hr
  · show Q2_2 Z a1 k v0 v1 v2 v3 v4 v5 v6 v7 v8 v9 h0 n0 _ s₁.heap _
    rw [e0]
    exact ⟨rfl, N0, rfl⟩
theorem own_ef_rm2_3 (m : MethodId) (a1 : Addr) : entryFrame m #[(.ref a1), (.int (3 : Int32))] 6 = mkF m 0 #[.val (.ref a1), .val (.int (3 : Int32)), .unset, .unset, .unset, .unset] [] := by first | (simp [entryFrame, mkF, argsToLocals, Value.category]; done) | rfl
def Q2_3 (Z : State) (a1 : Addr) (k : ClassId) (v0 : Int32) (v1 : Int32) (v2 : Int32) (v3 : Int32) (v4 : Int32) (v5 : Int32) (v6 : Int32) (v7 : Int32) (v8 : Int32) (v9 : Int32) (h0 : Heap) (n0 : Nat) (v : Option Value) (h : Heap) (L : List Loc) : Prop := v = some (.int (own_par v3 v4 v5 v6 v7 v8 v9)) ∧ Fr n0 L ∧ h = h0
set_option maxRecDepth 65536 in
set_option maxHeartbeats 40000000 in
theorem rm2_3 (l : Launch) (Z : State) (a0 : Array Value) (hw : ∀ d ∈ tables_1, d.before a0 Z = true) (ws : List Jvm.Cond) (a1 : Addr) (k : ClassId) (v0 : Int32) (v1 : Int32) (v2 : Int32) (v3 : Int32) (v4 : Int32) (v5 : Int32) (v6 : Int32) (v7 : Int32) (v8 : Int32) (v9 : Int32) (h0 : Heap) (n0 : Nat) (Z0 : n0 ≤ h0.size) (V_a1 : Arv Z h0 a1 k .byte (10 : Int32) [(.int v0), (.int v1), (.int v2), (.int v3), (.int v4), (.int v5), (.int v6), (.int v7), (.int v8), (.int v9)] (.int (0 : Int32))) :
    MetFree l (⟨"com/example/linkbook/linkbook/coding/Bch", "parityOctet", "([BI)I"⟩ : MethodName) (head1 (Jvm.Cond.code (⟨"com/example/linkbook/linkbook/coding/Bch", "parityOctet", "([BI)I"⟩ : MethodName) prog_11_method_2_code 6 (some .int) :: ws) ({ frames := 0, cells := 0, slots := 0, locals := 0 } : Room)) (fun a U => a = #[(.ref a1), (.int (3 : Int32))] ∧ Z.Warmed39 U.vm ∧ U.heap = h0) (fun _ _ _ _ _ => True) (fun _ U o U' => ∃ v L, o = .returned v ∧ Q2_3 Z a1 k v0 v1 v2 v3 v4 v5 v6 v7 v8 v9 h0 n0 v U'.heap L ∧ FrameEnd U o U' L ({ frames := 0, cells := 0, slots := 0, locals := 0 } : Room).cells ({ frames := 0, cells := 0, slots := 0, locals := 0 } : Room).slots) := by
  refine MetFree.of_bodySF (plainFor_of_name own_pn0) hisR ?_
  intro p e s m args below meth c s₁ Bd hml0 hP hK
  obtain ⟨rfl, hZ, hh⟩ := hP
  have hx := Bd.exec
  have hby := Bd.bytes
  have hml : c.maxLocals = 6 := hml0
  have hown : s.vm.findClass "com/example/linkbook/linkbook/coding/Bch" = some m.cls := findClass_of_methodNamed Bd.named
  have hnm := (name_of_methodNamed Bd.named Bd.method).1
  have X0 : Stand p l e ({ frames := 0, cells := 0, slots := 0, locals := 0 } : Room) s m #[(.ref a1), (.int (3 : Int32))] below meth c s₁ [] 0 0 := Stand.of_body Bd
  have e0 : s₁.heap = h0 := by rw [← hh, Bd.state]; rfl
  have N0 := Fr.nil n0
  have K0 : Keep h0 h0 [] := Keep.refl h0 _
  have pre0 : ∀ t, Steps p.tables e below (s₁.setTop (mkF m 0 #[.val (.ref a1), .val (.int (3 : Int32)), .unset, .unset, .unset, .unset] [])) t → Steps p.tables e below (s₁.setTop (entryFrame m #[(.ref a1), (.int (3 : Int32))] 6)) t := fun t k => castTop (own_ef_rm2_3 m a1) k
  obtain ⟨cl25, Ar25, q25, S25, M25, H25, G25⟩ := id V_a1
  have hin25 : ¬ ((3 : Int32) < 0 ∨ cl25.slots.size ≤ ((3 : Int32)).toNatClampNeg) := inb_of S25 ⟨by decide, by decide⟩
  have hat25 : cl25.slots[((3 : Int32)).toNatClampNeg]? = some (.int v3) := Has.at H25 hin25 rfl
  obtain ⟨cl26, Ar26, q26, S26, M26, H26, G26⟩ := id V_a1
  have hin26 : ¬ ((4 : Int32) < 0 ∨ cl26.slots.size ≤ ((4 : Int32)).toNatClampNeg) := inb_of S26 ⟨by decide, by decide⟩
  have hat26 : cl26.slots[((4 : Int32)).toNatClampNeg]? = some (.int v4) := Has.at H26 hin26 rfl
  obtain ⟨cl27, Ar27, q27, S27, M27, H27, G27⟩ := id V_a1
  have hin27 : ¬ ((5 : Int32) < 0 ∨ cl27.slots.size ≤ ((5 : Int32)).toNatClampNeg) := inb_of S27 ⟨by decide, by decide⟩
  have hat27 : cl27.slots[((5 : Int32)).toNatClampNeg]? = some (.int v5) := Has.at H27 hin27 rfl
  obtain ⟨cl28, Ar28, q28, S28, M28, H28, G28⟩ := id V_a1
  have hin28 : ¬ ((6 : Int32) < 0 ∨ cl28.slots.size ≤ ((6 : Int32)).toNatClampNeg) := inb_of S28 ⟨by decide, by decide⟩
  have hat28 : cl28.slots[((6 : Int32)).toNatClampNeg]? = some (.int v6) := Has.at H28 hin28 rfl
  obtain ⟨cl29, Ar29, q29, S29, M29, H29, G29⟩ := id V_a1
  have hin29 : ¬ ((7 : Int32) < 0 ∨ cl29.slots.size ≤ ((7 : Int32)).toNatClampNeg) := inb_of S29 ⟨by decide, by decide⟩
  have hat29 : cl29.slots[((7 : Int32)).toNatClampNeg]? = some (.int v7) := Has.at H29 hin29 rfl
  obtain ⟨cl30, Ar30, q30, S30, M30, H30, G30⟩ := id V_a1
  have hin30 : ¬ ((8 : Int32) < 0 ∨ cl30.slots.size ≤ ((8 : Int32)).toNatClampNeg) := inb_of S30 ⟨by decide, by decide⟩
  have hat30 : cl30.slots[((8 : Int32)).toNatClampNeg]? = some (.int v8) := Has.at H30 hin30 rfl
  obtain ⟨cl31, Ar31, q31, S31, M31, H31, G31⟩ := id V_a1
  have hin31 : ¬ ((9 : Int32) < 0 ∨ cl31.slots.size ≤ ((9 : Int32)).toNatClampNeg) := inb_of S31 ⟨by decide, by decide⟩
  have hat31 : cl31.slots[((9 : Int32)).toNatClampNeg]? = some (.int v9) := Has.at H31 hin31 rfl
  obtain ⟨fs, hr, hrun, hended, hW, hsame⟩ := X0.leave (v := some (.int ((((own_byte (own_byte (own_byte (own_byte (own_byte (own_byte (own_byte (0 : Int32) v3) v4) v5) v6) v7) v8) v9) ^^^ (-1 : Int32)) &&& (127 : Int32)) <<< ((1 : Int32) &&& 31)))) (fun h => by rw [Bd.returns] at h; cases h)
  refine ⟨_, _, pre0 _ ?_, hrun, hended, _, _, rfl, ?_, ⟨_, rfl⟩, hW, hsame.mono (by decide) (by decide)⟩
  · show Steps p.tables e below (s₁.setTop (mkF m 0 #[.val (.ref a1), .val (.int (3 : Int32)), .unset, .unset, .unset, .unset] [])) _
    refine XS.iconst X0.here hx rfl (hb hby own_d2_0) ?_
    show Steps p.tables e below (s₁.setTop (mkF m 1 #[.val (.ref a1), .val (.int (3 : Int32)), .unset, .unset, .unset, .unset] [(.int (0 : Int32))])) _
    refine XS.istoreN X0.here hx rfl (hb hby own_d2_1) rfl (l' := #[.val (.ref a1), .val (.int (3 : Int32)), .val (.int (0 : Int32)), .unset, .unset, .unset]) rfl ?_
    show Steps p.tables e below (s₁.setTop (mkF m 2 #[.val (.ref a1), .val (.int (3 : Int32)), .val (.int (0 : Int32)), .unset, .unset, .unset] [])) _
    refine XS.iloadN X0.here hx rfl (hb hby own_d2_2) rfl ?_
    show Steps p.tables e below (s₁.setTop (mkF m 3 #[.val (.ref a1), .val (.int (3 : Int32)), .val (.int (0 : Int32)), .unset, .unset, .unset] [(.int (3 : Int32))])) _
    refine XS.istoreN X0.here hx rfl (hb hby own_d2_3) rfl (l' := #[.val (.ref a1), .val (.int (3 : Int32)), .val (.int (0 : Int32)), .val (.int (3 : Int32)), .unset, .unset]) rfl ?_
    show Steps p.tables e below (s₁.setTop (mkF m 4 #[.val (.ref a1), .val (.int (3 : Int32)), .val (.int (0 : Int32)), .val (.int (3 : Int32)), .unset, .unset] [])) _
    refine XS.iloadN X0.here hx rfl (hb hby own_d2_4) rfl ?_
    show Steps p.tables e below (s₁.setTop (mkF m 5 #[.val (.ref a1), .val (.int (3 : Int32)), .val (.int (0 : Int32)), .val (.int (3 : Int32)), .unset, .unset] [(.int (3 : Int32))])) _
    refine XS.iloadN X0.here hx rfl (hb hby own_d2_5) rfl ?_
    show Steps p.tables e below (s₁.setTop (mkF m 6 #[.val (.ref a1), .val (.int (3 : Int32)), .val (.int (0 : Int32)), .val (.int (3 : Int32)), .unset, .unset] [(.int (3 : Int32)), (.int (3 : Int32))])) _
    refine XS.bipush X0.here hx rfl (hb hby own_d2_6) ?_
    show Steps p.tables e below (s₁.setTop (mkF m 8 #[.val (.ref a1), .val (.int (3 : Int32)), .val (.int (0 : Int32)), .val (.int (3 : Int32)), .unset, .unset] [(.int (7 : Int32)), (.int (3 : Int32)), (.int (3 : Int32))])) _
    refine XS.iadd X0.here hx rfl (hb hby own_d2_8) rfl ?_
    show Steps p.tables e below (s₁.setTop (mkF m 9 #[.val (.ref a1), .val (.int (3 : Int32)), .val (.int (0 : Int32)), .val (.int (3 : Int32)), .unset, .unset] [(.int (10 : Int32)), (.int (3 : Int32))])) _
    refine XS.icmpNo X0.here hx rfl (hb hby own_d2_9) rfl (tlt (by decide : ((3 : Int32) < (10 : Int32)))).2.1 ?_
    show Steps p.tables e below (s₁.setTop (mkF m 12 #[.val (.ref a1), .val (.int (3 : Int32)), .val (.int (0 : Int32)), .val (.int (3 : Int32)), .unset, .unset] [])) _
    refine XS.bipush X0.here hx rfl (hb hby own_d2_12) ?_
    show Steps p.tables e below (s₁.setTop (mkF m 14 #[.val (.ref a1), .val (.int (3 : Int32)), .val (.int (0 : Int32)), .val (.int (3 : Int32)), .unset, .unset] [(.int (7 : Int32))])) _
    refine XS.istore X0.here hx rfl (hb hby own_d2_14) rfl (l' := #[.val (.ref a1), .val (.int (3 : Int32)), .val (.int (0 : Int32)), .val (.int (3 : Int32)), .val (.int (7 : Int32)), .unset]) rfl ?_
    show Steps p.tables e below (s₁.setTop (mkF m 16 #[.val (.ref a1), .val (.int (3 : Int32)), .val (.int (0 : Int32)), .val (.int (3 : Int32)), .val (.int (7 : Int32)), .unset] [])) _
    refine own_inner X0 hx hZ hby e0 a1 (3 : Int32) (0 : Int32) (3 : Int32) v3 cl25 _ Ar25 hin25 hat25 One.u (fun w25 => ?_)
    show Steps p.tables e below (s₁.setTop (mkF m 59 #[.val (.ref a1), .val (.int (3 : Int32)), .val (.int (own_byte (0 : Int32) v3)), .val (.int (3 : Int32)), .val (.int (-1 : Int32)), .val (.int w25)] [])) _
    refine XS.iinc X0.here hx rfl (hb hby own_d2_59) rfl (l' := #[.val (.ref a1), .val (.int (3 : Int32)), .val (.int (own_byte (0 : Int32) v3)), .val (.int (4 : Int32)), .val (.int (-1 : Int32)), .val (.int w25)]) rfl ?_
    show Steps p.tables e below (s₁.setTop (mkF m 62 #[.val (.ref a1), .val (.int (3 : Int32)), .val (.int (own_byte (0 : Int32) v3)), .val (.int (4 : Int32)), .val (.int (-1 : Int32)), .val (.int w25)] [])) _
    refine XS.goto X0.here hx rfl (pc0 := 62) (pc' := 4) rfl (hb hby own_d2_62) (by decide) (by decide) ?_
    show Steps p.tables e below (s₁.setTop (mkF m 4 #[.val (.ref a1), .val (.int (3 : Int32)), .val (.int (own_byte (0 : Int32) v3)), .val (.int (4 : Int32)), .val (.int (-1 : Int32)), .val (.int w25)] [])) _
    refine XS.iloadN X0.here hx rfl (hb hby own_d2_4) rfl ?_
    show Steps p.tables e below (s₁.setTop (mkF m 5 #[.val (.ref a1), .val (.int (3 : Int32)), .val (.int (own_byte (0 : Int32) v3)), .val (.int (4 : Int32)), .val (.int (-1 : Int32)), .val (.int w25)] [(.int (4 : Int32))])) _
    refine XS.iloadN X0.here hx rfl (hb hby own_d2_5) rfl ?_
    show Steps p.tables e below (s₁.setTop (mkF m 6 #[.val (.ref a1), .val (.int (3 : Int32)), .val (.int (own_byte (0 : Int32) v3)), .val (.int (4 : Int32)), .val (.int (-1 : Int32)), .val (.int w25)] [(.int (3 : Int32)), (.int (4 : Int32))])) _
    refine XS.bipush X0.here hx rfl (hb hby own_d2_6) ?_
    show Steps p.tables e below (s₁.setTop (mkF m 8 #[.val (.ref a1), .val (.int (3 : Int32)), .val (.int (own_byte (0 : Int32) v3)), .val (.int (4 : Int32)), .val (.int (-1 : Int32)), .val (.int w25)] [(.int (7 : Int32)), (.int (3 : Int32)), (.int (4 : Int32))])) _
    refine XS.iadd X0.here hx rfl (hb hby own_d2_8) rfl ?_
    show Steps p.tables e below (s₁.setTop (mkF m 9 #[.val (.ref a1), .val (.int (3 : Int32)), .val (.int (own_byte (0 : Int32) v3)), .val (.int (4 : Int32)), .val (.int (-1 : Int32)), .val (.int w25)] [(.int (10 : Int32)), (.int (4 : Int32))])) _
    refine XS.icmpNo X0.here hx rfl (hb hby own_d2_9) rfl (tlt (by decide : ((4 : Int32) < (10 : Int32)))).2.1 ?_
    show Steps p.tables e below (s₁.setTop (mkF m 12 #[.val (.ref a1), .val (.int (3 : Int32)), .val (.int (own_byte (0 : Int32) v3)), .val (.int (4 : Int32)), .val (.int (-1 : Int32)), .val (.int w25)] [])) _
    refine XS.bipush X0.here hx rfl (hb hby own_d2_12) ?_
    show Steps p.tables e below (s₁.setTop (mkF m 14 #[.val (.ref a1), .val (.int (3 : Int32)), .val (.int (own_byte (0 : Int32) v3)), .val (.int (4 : Int32)), .val (.int (-1 : Int32)), .val (.int w25)] [(.int (7 : Int32))])) _
    refine XS.istore X0.here hx rfl (hb hby own_d2_14) rfl (l' := #[.val (.ref a1), .val (.int (3 : Int32)), .val (.int (own_byte (0 : Int32) v3)), .val (.int (4 : Int32)), .val (.int (7 : Int32)), .val (.int w25)]) rfl ?_
    show Steps p.tables e below (s₁.setTop (mkF m 16 #[.val (.ref a1), .val (.int (3 : Int32)), .val (.int (own_byte (0 : Int32) v3)), .val (.int (4 : Int32)), .val (.int (7 : Int32)), .val (.int w25)] [])) _
    refine own_inner X0 hx hZ hby e0 a1 (3 : Int32) (own_byte (0 : Int32) v3) (4 : Int32) v4 cl26 _ Ar26 hin26 hat26 (One.val rfl) (fun w26 => ?_)
    show Steps p.tables e below (s₁.setTop (mkF m 59 #[.val (.ref a1), .val (.int (3 : Int32)), .val (.int (own_byte (own_byte (0 : Int32) v3) v4)), .val (.int (4 : Int32)), .val (.int (-1 : Int32)), .val (.int w26)] [])) _
    refine XS.iinc X0.here hx rfl (hb hby own_d2_59) rfl (l' := #[.val (.ref a1), .val (.int (3 : Int32)), .val (.int (own_byte (own_byte (0 : Int32) v3) v4)), .val (.int (5 : Int32)), .val (.int (-1 : Int32)), .val (.int w26)]) rfl ?_
    show Steps p.tables e below (s₁.setTop (mkF m 62 #[.val (.ref a1), .val (.int (3 : Int32)), .val (.int (own_byte (own_byte (0 : Int32) v3) v4)), .val (.int (5 : Int32)), .val (.int (-1 : Int32)), .val (.int w26)] [])) _
    refine XS.goto X0.here hx rfl (pc0 := 62) (pc' := 4) rfl (hb hby own_d2_62) (by decide) (by decide) ?_
    show Steps p.tables e below (s₁.setTop (mkF m 4 #[.val (.ref a1), .val (.int (3 : Int32)), .val (.int (own_byte (own_byte (0 : Int32) v3) v4)), .val (.int (5 : Int32)), .val (.int (-1 : Int32)), .val (.int w26)] [])) _
    refine XS.iloadN X0.here hx rfl (hb hby own_d2_4) rfl ?_
    show Steps p.tables e below (s₁.setTop (mkF m 5 #[.val (.ref a1), .val (.int (3 : Int32)), .val (.int (own_byte (own_byte (0 : Int32) v3) v4)), .val (.int (5 : Int32)), .val (.int (-1 : Int32)), .val (.int w26)] [(.int (5 : Int32))])) _
    refine XS.iloadN X0.here hx rfl (hb hby own_d2_5) rfl ?_
    show Steps p.tables e below (s₁.setTop (mkF m 6 #[.val (.ref a1), .val (.int (3 : Int32)), .val (.int (own_byte (own_byte (0 : Int32) v3) v4)), .val (.int (5 : Int32)), .val (.int (-1 : Int32)), .val (.int w26)] [(.int (3 : Int32)), (.int (5 : Int32))])) _
    refine XS.bipush X0.here hx rfl (hb hby own_d2_6) ?_
    show Steps p.tables e below (s₁.setTop (mkF m 8 #[.val (.ref a1), .val (.int (3 : Int32)), .val (.int (own_byte (own_byte (0 : Int32) v3) v4)), .val (.int (5 : Int32)), .val (.int (-1 : Int32)), .val (.int w26)] [(.int (7 : Int32)), (.int (3 : Int32)), (.int (5 : Int32))])) _
    refine XS.iadd X0.here hx rfl (hb hby own_d2_8) rfl ?_
    show Steps p.tables e below (s₁.setTop (mkF m 9 #[.val (.ref a1), .val (.int (3 : Int32)), .val (.int (own_byte (own_byte (0 : Int32) v3) v4)), .val (.int (5 : Int32)), .val (.int (-1 : Int32)), .val (.int w26)] [(.int (10 : Int32)), (.int (5 : Int32))])) _
    refine XS.icmpNo X0.here hx rfl (hb hby own_d2_9) rfl (tlt (by decide : ((5 : Int32) < (10 : Int32)))).2.1 ?_
    show Steps p.tables e below (s₁.setTop (mkF m 12 #[.val (.ref a1), .val (.int (3 : Int32)), .val (.int (own_byte (own_byte (0 : Int32) v3) v4)), .val (.int (5 : Int32)), .val (.int (-1 : Int32)), .val (.int w26)] [])) _
    refine XS.bipush X0.here hx rfl (hb hby own_d2_12) ?_
    show Steps p.tables e below (s₁.setTop (mkF m 14 #[.val (.ref a1), .val (.int (3 : Int32)), .val (.int (own_byte (own_byte (0 : Int32) v3) v4)), .val (.int (5 : Int32)), .val (.int (-1 : Int32)), .val (.int w26)] [(.int (7 : Int32))])) _
    refine XS.istore X0.here hx rfl (hb hby own_d2_14) rfl (l' := #[.val (.ref a1), .val (.int (3 : Int32)), .val (.int (own_byte (own_byte (0 : Int32) v3) v4)), .val (.int (5 : Int32)), .val (.int (7 : Int32)), .val (.int w26)]) rfl ?_
    show Steps p.tables e below (s₁.setTop (mkF m 16 #[.val (.ref a1), .val (.int (3 : Int32)), .val (.int (own_byte (own_byte (0 : Int32) v3) v4)), .val (.int (5 : Int32)), .val (.int (7 : Int32)), .val (.int w26)] [])) _
    refine own_inner X0 hx hZ hby e0 a1 (3 : Int32) (own_byte (own_byte (0 : Int32) v3) v4) (5 : Int32) v5 cl27 _ Ar27 hin27 hat27 (One.val rfl) (fun w27 => ?_)
    show Steps p.tables e below (s₁.setTop (mkF m 59 #[.val (.ref a1), .val (.int (3 : Int32)), .val (.int (own_byte (own_byte (own_byte (0 : Int32) v3) v4) v5)), .val (.int (5 : Int32)), .val (.int (-1 : Int32)), .val (.int w27)] [])) _
    refine XS.iinc X0.here hx rfl (hb hby own_d2_59) rfl (l' := #[.val (.ref a1), .val (.int (3 : Int32)), .val (.int (own_byte (own_byte (own_byte (0 : Int32) v3) v4) v5)), .val (.int (6 : Int32)), .val (.int (-1 : Int32)), .val (.int w27)]) rfl ?_
    show Steps p.tables e below (s₁.setTop (mkF m 62 #[.val (.ref a1), .val (.int (3 : Int32)), .val (.int (own_byte (own_byte (own_byte (0 : Int32) v3) v4) v5)), .val (.int (6 : Int32)), .val (.int (-1 : Int32)), .val (.int w27)] [])) _
    refine XS.goto X0.here hx rfl (pc0 := 62) (pc' := 4) rfl (hb hby own_d2_62) (by decide) (by decide) ?_
    show Steps p.tables e below (s₁.setTop (mkF m 4 #[.val (.ref a1), .val (.int (3 : Int32)), .val (.int (own_byte (own_byte (own_byte (0 : Int32) v3) v4) v5)), .val (.int (6 : Int32)), .val (.int (-1 : Int32)), .val (.int w27)] [])) _
    refine XS.iloadN X0.here hx rfl (hb hby own_d2_4) rfl ?_
    show Steps p.tables e below (s₁.setTop (mkF m 5 #[.val (.ref a1), .val (.int (3 : Int32)), .val (.int (own_byte (own_byte (own_byte (0 : Int32) v3) v4) v5)), .val (.int (6 : Int32)), .val (.int (-1 : Int32)), .val (.int w27)] [(.int (6 : Int32))])) _
    refine XS.iloadN X0.here hx rfl (hb hby own_d2_5) rfl ?_
    show Steps p.tables e below (s₁.setTop (mkF m 6 #[.val (.ref a1), .val (.int (3 : Int32)), .val (.int (own_byte (own_byte (own_byte (0 : Int32) v3) v4) v5)), .val (.int (6 : Int32)), .val (.int (-1 : Int32)), .val (.int w27)] [(.int (3 : Int32)), (.int (6 : Int32))])) _
    refine XS.bipush X0.here hx rfl (hb hby own_d2_6) ?_
    show Steps p.tables e below (s₁.setTop (mkF m 8 #[.val (.ref a1), .val (.int (3 : Int32)), .val (.int (own_byte (own_byte (own_byte (0 : Int32) v3) v4) v5)), .val (.int (6 : Int32)), .val (.int (-1 : Int32)), .val (.int w27)] [(.int (7 : Int32)), (.int (3 : Int32)), (.int (6 : Int32))])) _
    refine XS.iadd X0.here hx rfl (hb hby own_d2_8) rfl ?_
    show Steps p.tables e below (s₁.setTop (mkF m 9 #[.val (.ref a1), .val (.int (3 : Int32)), .val (.int (own_byte (own_byte (own_byte (0 : Int32) v3) v4) v5)), .val (.int (6 : Int32)), .val (.int (-1 : Int32)), .val (.int w27)] [(.int (10 : Int32)), (.int (6 : Int32))])) _
    refine XS.icmpNo X0.here hx rfl (hb hby own_d2_9) rfl (tlt (by decide : ((6 : Int32) < (10 : Int32)))).2.1 ?_
    show Steps p.tables e below (s₁.setTop (mkF m 12 #[.val (.ref a1), .val (.int (3 : Int32)), .val (.int (own_byte (own_byte (own_byte (0 : Int32) v3) v4) v5)), .val (.int (6 : Int32)), .val (.int (-1 : Int32)), .val (.int w27)] [])) _
    refine XS.bipush X0.here hx rfl (hb hby own_d2_12) ?_
    show Steps p.tables e below (s₁.setTop (mkF m 14 #[.val (.ref a1), .val (.int (3 : Int32)), .val (.int (own_byte (own_byte (own_byte (0 : Int32) v3) v4) v5)), .val (.int (6 : Int32)), .val (.int (-1 : Int32)), .val (.int w27)] [(.int (7 : Int32))])) _
    refine XS.istore X0.here hx rfl (hb hby own_d2_14) rfl (l' := #[.val (.ref a1), .val (.int (3 : Int32)), .val (.int (own_byte (own_byte (own_byte (0 : Int32) v3) v4) v5)), .val (.int (6 : Int32)), .val (.int (7 : Int32)), .val (.int w27)]) rfl ?_
    show Steps p.tables e below (s₁.setTop (mkF m 16 #[.val (.ref a1), .val (.int (3 : Int32)), .val (.int (own_byte (own_byte (own_byte (0 : Int32) v3) v4) v5)), .val (.int (6 : Int32)), .val (.int (7 : Int32)), .val (.int w27)] [])) _
    refine own_inner X0 hx hZ hby e0 a1 (3 : Int32) (own_byte (own_byte (own_byte (0 : Int32) v3) v4) v5) (6 : Int32) v6 cl28 _ Ar28 hin28 hat28 (One.val rfl) (fun w28 => ?_)
    show Steps p.tables e below (s₁.setTop (mkF m 59 #[.val (.ref a1), .val (.int (3 : Int32)), .val (.int (own_byte (own_byte (own_byte (own_byte (0 : Int32) v3) v4) v5) v6)), .val (.int (6 : Int32)), .val (.int (-1 : Int32)), .val (.int w28)] [])) _
    refine XS.iinc X0.here hx rfl (hb hby own_d2_59) rfl (l' := #[.val (.ref a1), .val (.int (3 : Int32)), .val (.int (own_byte (own_byte (own_byte (own_byte (0 : Int32) v3) v4) v5) v6)), .val (.int (7 : Int32)), .val (.int (-1 : Int32)), .val (.int w28)]) rfl ?_
    show Steps p.tables e below (s₁.setTop (mkF m 62 #[.val (.ref a1), .val (.int (3 : Int32)), .val (.int (own_byte (own_byte (own_byte (own_byte (0 : Int32) v3) v4) v5) v6)), .val (.int (7 : Int32)), .val (.int (-1 : Int32)), .val (.int w28)] [])) _
    refine XS.goto X0.here hx rfl (pc0 := 62) (pc' := 4) rfl (hb hby own_d2_62) (by decide) (by decide) ?_
    show Steps p.tables e below (s₁.setTop (mkF m 4 #[.val (.ref a1), .val (.int (3 : Int32)), .val (.int (own_byte (own_byte (own_byte (own_byte (0 : Int32) v3) v4) v5) v6)), .val (.int (7 : Int32)), .val (.int (-1 : Int32)), .val (.int w28)] [])) _
    refine XS.iloadN X0.here hx rfl (hb hby own_d2_4) rfl ?_
    show Steps p.tables e below (s₁.setTop (mkF m 5 #[.val (.ref a1), .val (.int (3 : Int32)), .val (.int (own_byte (own_byte (own_byte (own_byte (0 : Int32) v3) v4) v5) v6)), .val (.int (7 : Int32)), .val (.int (-1 : Int32)), .val (.int w28)] [(.int (7 : Int32))])) _
    refine XS.iloadN X0.here hx rfl (hb hby own_d2_5) rfl ?_
    show Steps p.tables e below (s₁.setTop (mkF m 6 #[.val (.ref a1), .val (.int (3 : Int32)), .val (.int (own_byte (own_byte (own_byte (own_byte (0 : Int32) v3) v4) v5) v6)), .val (.int (7 : Int32)), .val (.int (-1 : Int32)), .val (.int w28)] [(.int (3 : Int32)), (.int (7 : Int32))])) _
    refine XS.bipush X0.here hx rfl (hb hby own_d2_6) ?_
    show Steps p.tables e below (s₁.setTop (mkF m 8 #[.val (.ref a1), .val (.int (3 : Int32)), .val (.int (own_byte (own_byte (own_byte (own_byte (0 : Int32) v3) v4) v5) v6)), .val (.int (7 : Int32)), .val (.int (-1 : Int32)), .val (.int w28)] [(.int (7 : Int32)), (.int (3 : Int32)), (.int (7 : Int32))])) _
    refine XS.iadd X0.here hx rfl (hb hby own_d2_8) rfl ?_
    show Steps p.tables e below (s₁.setTop (mkF m 9 #[.val (.ref a1), .val (.int (3 : Int32)), .val (.int (own_byte (own_byte (own_byte (own_byte (0 : Int32) v3) v4) v5) v6)), .val (.int (7 : Int32)), .val (.int (-1 : Int32)), .val (.int w28)] [(.int (10 : Int32)), (.int (7 : Int32))])) _
    refine XS.icmpNo X0.here hx rfl (hb hby own_d2_9) rfl (tlt (by decide : ((7 : Int32) < (10 : Int32)))).2.1 ?_
    show Steps p.tables e below (s₁.setTop (mkF m 12 #[.val (.ref a1), .val (.int (3 : Int32)), .val (.int (own_byte (own_byte (own_byte (own_byte (0 : Int32) v3) v4) v5) v6)), .val (.int (7 : Int32)), .val (.int (-1 : Int32)), .val (.int w28)] [])) _
    refine XS.bipush X0.here hx rfl (hb hby own_d2_12) ?_
    show Steps p.tables e below (s₁.setTop (mkF m 14 #[.val (.ref a1), .val (.int (3 : Int32)), .val (.int (own_byte (own_byte (own_byte (own_byte (0 : Int32) v3) v4) v5) v6)), .val (.int (7 : Int32)), .val (.int (-1 : Int32)), .val (.int w28)] [(.int (7 : Int32))])) _
    refine XS.istore X0.here hx rfl (hb hby own_d2_14) rfl (l' := #[.val (.ref a1), .val (.int (3 : Int32)), .val (.int (own_byte (own_byte (own_byte (own_byte (0 : Int32) v3) v4) v5) v6)), .val (.int (7 : Int32)), .val (.int (7 : Int32)), .val (.int w28)]) rfl ?_
    show Steps p.tables e below (s₁.setTop (mkF m 16 #[.val (.ref a1), .val (.int (3 : Int32)), .val (.int (own_byte (own_byte (own_byte (own_byte (0 : Int32) v3) v4) v5) v6)), .val (.int (7 : Int32)), .val (.int (7 : Int32)), .val (.int w28)] [])) _
    refine own_inner X0 hx hZ hby e0 a1 (3 : Int32) (own_byte (own_byte (own_byte (own_byte (0 : Int32) v3) v4) v5) v6) (7 : Int32) v7 cl29 _ Ar29 hin29 hat29 (One.val rfl) (fun w29 => ?_)
    show Steps p.tables e below (s₁.setTop (mkF m 59 #[.val (.ref a1), .val (.int (3 : Int32)), .val (.int (own_byte (own_byte (own_byte (own_byte (own_byte (0 : Int32) v3) v4) v5) v6) v7)), .val (.int (7 : Int32)), .val (.int (-1 : Int32)), .val (.int w29)] [])) _
    refine XS.iinc X0.here hx rfl (hb hby own_d2_59) rfl (l' := #[.val (.ref a1), .val (.int (3 : Int32)), .val (.int (own_byte (own_byte (own_byte (own_byte (own_byte (0 : Int32) v3) v4) v5) v6) v7)), .val (.int (8 : Int32)), .val (.int (-1 : Int32)), .val (.int w29)]) rfl ?_
    show Steps p.tables e below (s₁.setTop (mkF m 62 #[.val (.ref a1), .val (.int (3 : Int32)), .val (.int (own_byte (own_byte (own_byte (own_byte (own_byte (0 : Int32) v3) v4) v5) v6) v7)), .val (.int (8 : Int32)), .val (.int (-1 : Int32)), .val (.int w29)] [])) _
    refine XS.goto X0.here hx rfl (pc0 := 62) (pc' := 4) rfl (hb hby own_d2_62) (by decide) (by decide) ?_
    show Steps p.tables e below (s₁.setTop (mkF m 4 #[.val (.ref a1), .val (.int (3 : Int32)), .val (.int (own_byte (own_byte (own_byte (own_byte (own_byte (0 : Int32) v3) v4) v5) v6) v7)), .val (.int (8 : Int32)), .val (.int (-1 : Int32)), .val (.int w29)] [])) _
    refine XS.iloadN X0.here hx rfl (hb hby own_d2_4) rfl ?_
    show Steps p.tables e below (s₁.setTop (mkF m 5 #[.val (.ref a1), .val (.int (3 : Int32)), .val (.int (own_byte (own_byte (own_byte (own_byte (own_byte (0 : Int32) v3) v4) v5) v6) v7)), .val (.int (8 : Int32)), .val (.int (-1 : Int32)), .val (.int w29)] [(.int (8 : Int32))])) _
    refine XS.iloadN X0.here hx rfl (hb hby own_d2_5) rfl ?_
    show Steps p.tables e below (s₁.setTop (mkF m 6 #[.val (.ref a1), .val (.int (3 : Int32)), .val (.int (own_byte (own_byte (own_byte (own_byte (own_byte (0 : Int32) v3) v4) v5) v6) v7)), .val (.int (8 : Int32)), .val (.int (-1 : Int32)), .val (.int w29)] [(.int (3 : Int32)), (.int (8 : Int32))])) _
    refine XS.bipush X0.here hx rfl (hb hby own_d2_6) ?_
    show Steps p.tables e below (s₁.setTop (mkF m 8 #[.val (.ref a1), .val (.int (3 : Int32)), .val (.int (own_byte (own_byte (own_byte (own_byte (own_byte (0 : Int32) v3) v4) v5) v6) v7)), .val (.int (8 : Int32)), .val (.int (-1 : Int32)), .val (.int w29)] [(.int (7 : Int32)), (.int (3 : Int32)), (.int (8 : Int32))])) _
    refine XS.iadd X0.here hx rfl (hb hby own_d2_8) rfl ?_
    show Steps p.tables e below (s₁.setTop (mkF m 9 #[.val (.ref a1), .val (.int (3 : Int32)), .val (.int (own_byte (own_byte (own_byte (own_byte (own_byte (0 : Int32) v3) v4) v5) v6) v7)), .val (.int (8 : Int32)), .val (.int (-1 : Int32)), .val (.int w29)] [(.int (10 : Int32)), (.int (8 : Int32))])) _
    refine XS.icmpNo X0.here hx rfl (hb hby own_d2_9) rfl (tlt (by decide : ((8 : Int32) < (10 : Int32)))).2.1 ?_
    show Steps p.tables e below (s₁.setTop (mkF m 12 #[.val (.ref a1), .val (.int (3 : Int32)), .val (.int (own_byte (own_byte (own_byte (own_byte (own_byte (0 : Int32) v3) v4) v5) v6) v7)), .val (.int (8 : Int32)), .val (.int (-1 : Int32)), .val (.int w29)] [])) _
    refine XS.bipush X0.here hx rfl (hb hby own_d2_12) ?_
    show Steps p.tables e below (s₁.setTop (mkF m 14 #[.val (.ref a1), .val (.int (3 : Int32)), .val (.int (own_byte (own_byte (own_byte (own_byte (own_byte (0 : Int32) v3) v4) v5) v6) v7)), .val (.int (8 : Int32)), .val (.int (-1 : Int32)), .val (.int w29)] [(.int (7 : Int32))])) _
    refine XS.istore X0.here hx rfl (hb hby own_d2_14) rfl (l' := #[.val (.ref a1), .val (.int (3 : Int32)), .val (.int (own_byte (own_byte (own_byte (own_byte (own_byte (0 : Int32) v3) v4) v5) v6) v7)), .val (.int (8 : Int32)), .val (.int (7 : Int32)), .val (.int w29)]) rfl ?_
    show Steps p.tables e below (s₁.setTop (mkF m 16 #[.val (.ref a1), .val (.int (3 : Int32)), .val (.int (own_byte (own_byte (own_byte (own_byte (own_byte (0 : Int32) v3) v4) v5) v6) v7)), .val (.int (8 : Int32)), .val (.int (7 : Int32)), .val (.int w29)] [])) _
    refine own_inner X0 hx hZ hby e0 a1 (3 : Int32) (own_byte (own_byte (own_byte (own_byte (own_byte (0 : Int32) v3) v4) v5) v6) v7) (8 : Int32) v8 cl30 _ Ar30 hin30 hat30 (One.val rfl) (fun w30 => ?_)
    show Steps p.tables e below (s₁.setTop (mkF m 59 #[.val (.ref a1), .val (.int (3 : Int32)), .val (.int (own_byte (own_byte (own_byte (own_byte (own_byte (own_byte (0 : Int32) v3) v4) v5) v6) v7) v8)), .val (.int (8 : Int32)), .val (.int (-1 : Int32)), .val (.int w30)] [])) _
    refine XS.iinc X0.here hx rfl (hb hby own_d2_59) rfl (l' := #[.val (.ref a1), .val (.int (3 : Int32)), .val (.int (own_byte (own_byte (own_byte (own_byte (own_byte (own_byte (0 : Int32) v3) v4) v5) v6) v7) v8)), .val (.int (9 : Int32)), .val (.int (-1 : Int32)), .val (.int w30)]) rfl ?_
    show Steps p.tables e below (s₁.setTop (mkF m 62 #[.val (.ref a1), .val (.int (3 : Int32)), .val (.int (own_byte (own_byte (own_byte (own_byte (own_byte (own_byte (0 : Int32) v3) v4) v5) v6) v7) v8)), .val (.int (9 : Int32)), .val (.int (-1 : Int32)), .val (.int w30)] [])) _
    refine XS.goto X0.here hx rfl (pc0 := 62) (pc' := 4) rfl (hb hby own_d2_62) (by decide) (by decide) ?_
    show Steps p.tables e below (s₁.setTop (mkF m 4 #[.val (.ref a1), .val (.int (3 : Int32)), .val (.int (own_byte (own_byte (own_byte (own_byte (own_byte (own_byte (0 : Int32) v3) v4) v5) v6) v7) v8)), .val (.int (9 : Int32)), .val (.int (-1 : Int32)), .val (.int w30)] [])) _
    refine XS.iloadN X0.here hx rfl (hb hby own_d2_4) rfl ?_
    show Steps p.tables e below (s₁.setTop (mkF m 5 #[.val (.ref a1), .val (.int (3 : Int32)), .val (.int (own_byte (own_byte (own_byte (own_byte (own_byte (own_byte (0 : Int32) v3) v4) v5) v6) v7) v8)), .val (.int (9 : Int32)), .val (.int (-1 : Int32)), .val (.int w30)] [(.int (9 : Int32))])) _
    refine XS.iloadN X0.here hx rfl (hb hby own_d2_5) rfl ?_
    show Steps p.tables e below (s₁.setTop (mkF m 6 #[.val (.ref a1), .val (.int (3 : Int32)), .val (.int (own_byte (own_byte (own_byte (own_byte (own_byte (own_byte (0 : Int32) v3) v4) v5) v6) v7) v8)), .val (.int (9 : Int32)), .val (.int (-1 : Int32)), .val (.int w30)] [(.int (3 : Int32)), (.int (9 : Int32))])) _
    refine XS.bipush X0.here hx rfl (hb hby own_d2_6) ?_
    show Steps p.tables e below (s₁.setTop (mkF m 8 #[.val (.ref a1), .val (.int (3 : Int32)), .val (.int (own_byte (own_byte (own_byte (own_byte (own_byte (own_byte (0 : Int32) v3) v4) v5) v6) v7) v8)), .val (.int (9 : Int32)), .val (.int (-1 : Int32)), .val (.int w30)] [(.int (7 : Int32)), (.int (3 : Int32)), (.int (9 : Int32))])) _
    refine XS.iadd X0.here hx rfl (hb hby own_d2_8) rfl ?_
    show Steps p.tables e below (s₁.setTop (mkF m 9 #[.val (.ref a1), .val (.int (3 : Int32)), .val (.int (own_byte (own_byte (own_byte (own_byte (own_byte (own_byte (0 : Int32) v3) v4) v5) v6) v7) v8)), .val (.int (9 : Int32)), .val (.int (-1 : Int32)), .val (.int w30)] [(.int (10 : Int32)), (.int (9 : Int32))])) _
    refine XS.icmpNo X0.here hx rfl (hb hby own_d2_9) rfl (tlt (by decide : ((9 : Int32) < (10 : Int32)))).2.1 ?_
    show Steps p.tables e below (s₁.setTop (mkF m 12 #[.val (.ref a1), .val (.int (3 : Int32)), .val (.int (own_byte (own_byte (own_byte (own_byte (own_byte (own_byte (0 : Int32) v3) v4) v5) v6) v7) v8)), .val (.int (9 : Int32)), .val (.int (-1 : Int32)), .val (.int w30)] [])) _
    refine XS.bipush X0.here hx rfl (hb hby own_d2_12) ?_
    show Steps p.tables e below (s₁.setTop (mkF m 14 #[.val (.ref a1), .val (.int (3 : Int32)), .val (.int (own_byte (own_byte (own_byte (own_byte (own_byte (own_byte (0 : Int32) v3) v4) v5) v6) v7) v8)), .val (.int (9 : Int32)), .val (.int (-1 : Int32)), .val (.int w30)] [(.int (7 : Int32))])) _
    refine XS.istore X0.here hx rfl (hb hby own_d2_14) rfl (l' := #[.val (.ref a1), .val (.int (3 : Int32)), .val (.int (own_byte (own_byte (own_byte (own_byte (own_byte (own_byte (0 : Int32) v3) v4) v5) v6) v7) v8)), .val (.int (9 : Int32)), .val (.int (7 : Int32)), .val (.int w30)]) rfl ?_
    show Steps p.tables e below (s₁.setTop (mkF m 16 #[.val (.ref a1), .val (.int (3 : Int32)), .val (.int (own_byte (own_byte (own_byte (own_byte (own_byte (own_byte (0 : Int32) v3) v4) v5) v6) v7) v8)), .val (.int (9 : Int32)), .val (.int (7 : Int32)), .val (.int w30)] [])) _
    refine own_inner X0 hx hZ hby e0 a1 (3 : Int32) (own_byte (own_byte (own_byte (own_byte (own_byte (own_byte (0 : Int32) v3) v4) v5) v6) v7) v8) (9 : Int32) v9 cl31 _ Ar31 hin31 hat31 (One.val rfl) (fun w31 => ?_)
    show Steps p.tables e below (s₁.setTop (mkF m 59 #[.val (.ref a1), .val (.int (3 : Int32)), .val (.int (own_byte (own_byte (own_byte (own_byte (own_byte (own_byte (own_byte (0 : Int32) v3) v4) v5) v6) v7) v8) v9)), .val (.int (9 : Int32)), .val (.int (-1 : Int32)), .val (.int w31)] [])) _
    refine XS.iinc X0.here hx rfl (hb hby own_d2_59) rfl (l' := #[.val (.ref a1), .val (.int (3 : Int32)), .val (.int (own_byte (own_byte (own_byte (own_byte (own_byte (own_byte (own_byte (0 : Int32) v3) v4) v5) v6) v7) v8) v9)), .val (.int (10 : Int32)), .val (.int (-1 : Int32)), .val (.int w31)]) rfl ?_
    show Steps p.tables e below (s₁.setTop (mkF m 62 #[.val (.ref a1), .val (.int (3 : Int32)), .val (.int (own_byte (own_byte (own_byte (own_byte (own_byte (own_byte (own_byte (0 : Int32) v3) v4) v5) v6) v7) v8) v9)), .val (.int (10 : Int32)), .val (.int (-1 : Int32)), .val (.int w31)] [])) _
    refine XS.goto X0.here hx rfl (pc0 := 62) (pc' := 4) rfl (hb hby own_d2_62) (by decide) (by decide) ?_
    show Steps p.tables e below (s₁.setTop (mkF m 4 #[.val (.ref a1), .val (.int (3 : Int32)), .val (.int (own_byte (own_byte (own_byte (own_byte (own_byte (own_byte (own_byte (0 : Int32) v3) v4) v5) v6) v7) v8) v9)), .val (.int (10 : Int32)), .val (.int (-1 : Int32)), .val (.int w31)] [])) _
    refine XS.iloadN X0.here hx rfl (hb hby own_d2_4) rfl ?_
    show Steps p.tables e below (s₁.setTop (mkF m 5 #[.val (.ref a1), .val (.int (3 : Int32)), .val (.int (own_byte (own_byte (own_byte (own_byte (own_byte (own_byte (own_byte (0 : Int32) v3) v4) v5) v6) v7) v8) v9)), .val (.int (10 : Int32)), .val (.int (-1 : Int32)), .val (.int w31)] [(.int (10 : Int32))])) _
    refine XS.iloadN X0.here hx rfl (hb hby own_d2_5) rfl ?_
    show Steps p.tables e below (s₁.setTop (mkF m 6 #[.val (.ref a1), .val (.int (3 : Int32)), .val (.int (own_byte (own_byte (own_byte (own_byte (own_byte (own_byte (own_byte (0 : Int32) v3) v4) v5) v6) v7) v8) v9)), .val (.int (10 : Int32)), .val (.int (-1 : Int32)), .val (.int w31)] [(.int (3 : Int32)), (.int (10 : Int32))])) _
    refine XS.bipush X0.here hx rfl (hb hby own_d2_6) ?_
    show Steps p.tables e below (s₁.setTop (mkF m 8 #[.val (.ref a1), .val (.int (3 : Int32)), .val (.int (own_byte (own_byte (own_byte (own_byte (own_byte (own_byte (own_byte (0 : Int32) v3) v4) v5) v6) v7) v8) v9)), .val (.int (10 : Int32)), .val (.int (-1 : Int32)), .val (.int w31)] [(.int (7 : Int32)), (.int (3 : Int32)), (.int (10 : Int32))])) _
    refine XS.iadd X0.here hx rfl (hb hby own_d2_8) rfl ?_
    show Steps p.tables e below (s₁.setTop (mkF m 9 #[.val (.ref a1), .val (.int (3 : Int32)), .val (.int (own_byte (own_byte (own_byte (own_byte (own_byte (own_byte (own_byte (0 : Int32) v3) v4) v5) v6) v7) v8) v9)), .val (.int (10 : Int32)), .val (.int (-1 : Int32)), .val (.int w31)] [(.int (10 : Int32)), (.int (10 : Int32))])) _
    refine XS.icmpYes X0.here hx rfl (pc0 := 9) (pc' := 65) rfl (hb hby own_d2_9) rfl (flt (by decide : ¬ ((10 : Int32) < (10 : Int32)))).2.1 (by decide) (by decide) ?_
    show Steps p.tables e below (s₁.setTop (mkF m 65 #[.val (.ref a1), .val (.int (3 : Int32)), .val (.int (own_byte (own_byte (own_byte (own_byte (own_byte (own_byte (own_byte (0 : Int32) v3) v4) v5) v6) v7) v8) v9)), .val (.int (10 : Int32)), .val (.int (-1 : Int32)), .val (.int w31)] [])) _
    refine XS.iloadN X0.here hx rfl (hb hby own_d2_65) rfl ?_
    show Steps p.tables e below (s₁.setTop (mkF m 66 #[.val (.ref a1), .val (.int (3 : Int32)), .val (.int (own_byte (own_byte (own_byte (own_byte (own_byte (own_byte (own_byte (0 : Int32) v3) v4) v5) v6) v7) v8) v9)), .val (.int (10 : Int32)), .val (.int (-1 : Int32)), .val (.int w31)] [(.int (own_byte (own_byte (own_byte (own_byte (own_byte (own_byte (own_byte (0 : Int32) v3) v4) v5) v6) v7) v8) v9))])) _
    refine XS.iconst X0.here hx rfl (hb hby own_d2_66) ?_
    show Steps p.tables e below (s₁.setTop (mkF m 67 #[.val (.ref a1), .val (.int (3 : Int32)), .val (.int (own_byte (own_byte (own_byte (own_byte (own_byte (own_byte (own_byte (0 : Int32) v3) v4) v5) v6) v7) v8) v9)), .val (.int (10 : Int32)), .val (.int (-1 : Int32)), .val (.int w31)] [(.int (-1 : Int32)), (.int (own_byte (own_byte (own_byte (own_byte (own_byte (own_byte (own_byte (0 : Int32) v3) v4) v5) v6) v7) v8) v9))])) _
    refine XS.ixor X0.here hx rfl (hb hby own_d2_67) rfl ?_
    show Steps p.tables e below (s₁.setTop (mkF m 68 #[.val (.ref a1), .val (.int (3 : Int32)), .val (.int (own_byte (own_byte (own_byte (own_byte (own_byte (own_byte (own_byte (0 : Int32) v3) v4) v5) v6) v7) v8) v9)), .val (.int (10 : Int32)), .val (.int (-1 : Int32)), .val (.int w31)] [(.int ((own_byte (own_byte (own_byte (own_byte (own_byte (own_byte (own_byte (0 : Int32) v3) v4) v5) v6) v7) v8) v9) ^^^ (-1 : Int32)))])) _
    refine XS.bipush X0.here hx rfl (hb hby own_d2_68) ?_
    show Steps p.tables e below (s₁.setTop (mkF m 70 #[.val (.ref a1), .val (.int (3 : Int32)), .val (.int (own_byte (own_byte (own_byte (own_byte (own_byte (own_byte (own_byte (0 : Int32) v3) v4) v5) v6) v7) v8) v9)), .val (.int (10 : Int32)), .val (.int (-1 : Int32)), .val (.int w31)] [(.int (127 : Int32)), (.int ((own_byte (own_byte (own_byte (own_byte (own_byte (own_byte (own_byte (0 : Int32) v3) v4) v5) v6) v7) v8) v9) ^^^ (-1 : Int32)))])) _
    refine XS.iand X0.here hx rfl (hb hby own_d2_70) rfl ?_
    show Steps p.tables e below (s₁.setTop (mkF m 71 #[.val (.ref a1), .val (.int (3 : Int32)), .val (.int (own_byte (own_byte (own_byte (own_byte (own_byte (own_byte (own_byte (0 : Int32) v3) v4) v5) v6) v7) v8) v9)), .val (.int (10 : Int32)), .val (.int (-1 : Int32)), .val (.int w31)] [(.int (((own_byte (own_byte (own_byte (own_byte (own_byte (own_byte (own_byte (0 : Int32) v3) v4) v5) v6) v7) v8) v9) ^^^ (-1 : Int32)) &&& (127 : Int32)))])) _
    refine XS.iconst X0.here hx rfl (hb hby own_d2_71) ?_
    show Steps p.tables e below (s₁.setTop (mkF m 72 #[.val (.ref a1), .val (.int (3 : Int32)), .val (.int (own_byte (own_byte (own_byte (own_byte (own_byte (own_byte (own_byte (0 : Int32) v3) v4) v5) v6) v7) v8) v9)), .val (.int (10 : Int32)), .val (.int (-1 : Int32)), .val (.int w31)] [(.int (1 : Int32)), (.int (((own_byte (own_byte (own_byte (own_byte (own_byte (own_byte (own_byte (0 : Int32) v3) v4) v5) v6) v7) v8) v9) ^^^ (-1 : Int32)) &&& (127 : Int32)))])) _
    refine XS.ishl X0.here hx rfl (hb hby own_d2_72) rfl ?_
    show Steps p.tables e below (s₁.setTop (mkF m 73 #[.val (.ref a1), .val (.int (3 : Int32)), .val (.int (own_byte (own_byte (own_byte (own_byte (own_byte (own_byte (own_byte (0 : Int32) v3) v4) v5) v6) v7) v8) v9)), .val (.int (10 : Int32)), .val (.int (-1 : Int32)), .val (.int w31)] [(.int ((((own_byte (own_byte (own_byte (own_byte (own_byte (own_byte (own_byte (0 : Int32) v3) v4) v5) v6) v7) v8) v9) ^^^ (-1 : Int32)) &&& (127 : Int32)) <<< ((1 : Int32) &&& 31)))])) _
    exact retI X0 hx Bd.returns (hb hby own_d2_73) hr
  · show Q2_3 Z a1 k v0 v1 v2 v3 v4 v5 v6 v7 v8 v9 h0 n0 _ s₁.heap _
    rw [e0]
    exact ⟨rfl, N0, rfl⟩
theorem own_d1_0 : decode method_2_code 0 = .ok (.bipush 10, 2) := by decide +kernel
theorem own_d1_2 : decode method_2_code 2 = .ok (.newarray .byte, 2) := by decide +kernel
theorem own_d1_4 : decode method_2_code 4 = .ok (.astore 5, 2) := by decide +kernel
theorem own_d1_6 : decode method_2_code 6 = .ok (.aload 5, 2) := by decide +kernel
theorem own_d1_8 : decode method_2_code 8 = .ok (.iconst 0, 1) := by decide +kernel
theorem own_d1_9 : decode method_2_code 9 = .ok (.lload_n 2, 1) := by decide +kernel
theorem own_d1_10 : decode method_2_code 10 = .ok (.l2i, 1) := by decide +kernel
theorem own_d1_11 : decode method_2_code 11 = .ok (.i2b, 1) := by decide +kernel
theorem own_d1_12 : decode method_2_code 12 = .ok (.bastore, 1) := by decide +kernel
theorem own_d1_13 : decode method_2_code 13 = .ok (.aload 5, 2) := by decide +kernel
theorem own_d1_15 : decode method_2_code 15 = .ok (.iconst 1, 1) := by decide +kernel
theorem own_d1_16 : decode method_2_code 16 = .ok (.lload_n 2, 1) := by decide +kernel
theorem own_d1_17 : decode method_2_code 17 = .ok (.bipush 8, 2) := by decide +kernel
theorem own_d1_19 : decode method_2_code 19 = .ok (.lushr, 1) := by decide +kernel
theorem own_d1_20 : decode method_2_code 20 = .ok (.l2i, 1) := by decide +kernel
theorem own_d1_21 : decode method_2_code 21 = .ok (.i2b, 1) := by decide +kernel
theorem own_d1_22 : decode method_2_code 22 = .ok (.bastore, 1) := by decide +kernel
theorem own_d1_23 : decode method_2_code 23 = .ok (.aload 5, 2) := by decide +kernel
theorem own_d1_25 : decode method_2_code 25 = .ok (.iconst 2, 1) := by decide +kernel
theorem own_d1_26 : decode method_2_code 26 = .ok (.lload_n 2, 1) := by decide +kernel
theorem own_d1_27 : decode method_2_code 27 = .ok (.bipush 16, 2) := by decide +kernel
theorem own_d1_29 : decode method_2_code 29 = .ok (.lushr, 1) := by decide +kernel
theorem own_d1_30 : decode method_2_code 30 = .ok (.l2i, 1) := by decide +kernel
theorem own_d1_31 : decode method_2_code 31 = .ok (.i2b, 1) := by decide +kernel
theorem own_d1_32 : decode method_2_code 32 = .ok (.bastore, 1) := by decide +kernel
theorem own_d1_33 : decode method_2_code 33 = .ok (.aload 5, 2) := by decide +kernel
theorem own_d1_35 : decode method_2_code 35 = .ok (.iconst 3, 1) := by decide +kernel
theorem own_d1_36 : decode method_2_code 36 = .ok (.lload_n 2, 1) := by decide +kernel
theorem own_d1_37 : decode method_2_code 37 = .ok (.bipush 24, 2) := by decide +kernel
theorem own_d1_39 : decode method_2_code 39 = .ok (.lushr, 1) := by decide +kernel
theorem own_d1_40 : decode method_2_code 40 = .ok (.l2i, 1) := by decide +kernel
theorem own_d1_41 : decode method_2_code 41 = .ok (.i2b, 1) := by decide +kernel
theorem own_d1_42 : decode method_2_code 42 = .ok (.bastore, 1) := by decide +kernel
theorem own_d1_43 : decode method_2_code 43 = .ok (.aload 5, 2) := by decide +kernel
theorem own_d1_45 : decode method_2_code 45 = .ok (.iconst 4, 1) := by decide +kernel
theorem own_d1_46 : decode method_2_code 46 = .ok (.lload_n 2, 1) := by decide +kernel
theorem own_d1_47 : decode method_2_code 47 = .ok (.bipush 32, 2) := by decide +kernel
theorem own_d1_49 : decode method_2_code 49 = .ok (.lushr, 1) := by decide +kernel
theorem own_d1_50 : decode method_2_code 50 = .ok (.l2i, 1) := by decide +kernel
theorem own_d1_51 : decode method_2_code 51 = .ok (.i2b, 1) := by decide +kernel
theorem own_d1_52 : decode method_2_code 52 = .ok (.bastore, 1) := by decide +kernel
theorem own_d1_53 : decode method_2_code 53 = .ok (.aload 5, 2) := by decide +kernel
theorem own_d1_55 : decode method_2_code 55 = .ok (.iconst 5, 1) := by decide +kernel
theorem own_d1_56 : decode method_2_code 56 = .ok (.lload_n 2, 1) := by decide +kernel
theorem own_d1_57 : decode method_2_code 57 = .ok (.bipush 40, 2) := by decide +kernel
theorem own_d1_59 : decode method_2_code 59 = .ok (.lushr, 1) := by decide +kernel
theorem own_d1_60 : decode method_2_code 60 = .ok (.l2i, 1) := by decide +kernel
theorem own_d1_61 : decode method_2_code 61 = .ok (.i2b, 1) := by decide +kernel
theorem own_d1_62 : decode method_2_code 62 = .ok (.bastore, 1) := by decide +kernel
theorem own_d1_63 : decode method_2_code 63 = .ok (.aload 5, 2) := by decide +kernel
theorem own_d1_65 : decode method_2_code 65 = .ok (.bipush 6, 2) := by decide +kernel
theorem own_d1_67 : decode method_2_code 67 = .ok (.lload_n 2, 1) := by decide +kernel
theorem own_d1_68 : decode method_2_code 68 = .ok (.bipush 48, 2) := by decide +kernel
theorem own_d1_70 : decode method_2_code 70 = .ok (.lushr, 1) := by decide +kernel
theorem own_d1_71 : decode method_2_code 71 = .ok (.l2i, 1) := by decide +kernel
theorem own_d1_72 : decode method_2_code 72 = .ok (.i2b, 1) := by decide +kernel
theorem own_d1_73 : decode method_2_code 73 = .ok (.bastore, 1) := by decide +kernel
theorem own_d1_74 : decode method_2_code 74 = .ok (.aload 5, 2) := by decide +kernel
theorem own_d1_76 : decode method_2_code 76 = .ok (.bipush 7, 2) := by decide +kernel
theorem own_d1_78 : decode method_2_code 78 = .ok (.lload_n 2, 1) := by decide +kernel
theorem own_d1_79 : decode method_2_code 79 = .ok (.bipush 56, 2) := by decide +kernel
theorem own_d1_81 : decode method_2_code 81 = .ok (.lushr, 1) := by decide +kernel
theorem own_d1_82 : decode method_2_code 82 = .ok (.l2i, 1) := by decide +kernel
theorem own_d1_83 : decode method_2_code 83 = .ok (.i2b, 1) := by decide +kernel
theorem own_d1_84 : decode method_2_code 84 = .ok (.bastore, 1) := by decide +kernel
theorem own_d1_85 : decode method_2_code 85 = .ok (.aload 5, 2) := by decide +kernel
theorem own_d1_87 : decode method_2_code 87 = .ok (.bipush 8, 2) := by decide +kernel
theorem own_d1_89 : decode method_2_code 89 = .ok (.lload_n 2, 1) := by decide +kernel
theorem own_d1_90 : decode method_2_code 90 = .ok (.iconst 3, 1) := by decide +kernel
theorem own_d1_91 : decode method_2_code 91 = .ok (.lushr, 1) := by decide +kernel
theorem own_d1_92 : decode method_2_code 92 = .ok (.l2i, 1) := by decide +kernel
theorem own_d1_93 : decode method_2_code 93 = .ok (.i2b, 1) := by decide +kernel
theorem own_d1_94 : decode method_2_code 94 = .ok (.bastore, 1) := by decide +kernel
theorem own_d1_95 : decode method_2_code 95 = .ok (.aload 5, 2) := by decide +kernel
theorem own_d1_97 : decode method_2_code 97 = .ok (.bipush 9, 2) := by decide +kernel
theorem own_d1_99 : decode method_2_code 99 = .ok (.lload_n 2, 1) := by decide +kernel
theorem own_d1_100 : decode method_2_code 100 = .ok (.bipush 11, 2) := by decide +kernel
theorem own_d1_102 : decode method_2_code 102 = .ok (.lushr, 1) := by decide +kernel
theorem own_d1_103 : decode method_2_code 103 = .ok (.l2i, 1) := by decide +kernel
theorem own_d1_104 : decode method_2_code 104 = .ok (.i2b, 1) := by decide +kernel
theorem own_d1_105 : decode method_2_code 105 = .ok (.bastore, 1) := by decide +kernel
theorem own_d1_106 : decode method_2_code 106 = .ok (.aload 5, 2) := by decide +kernel
theorem own_d1_108 : decode method_2_code 108 = .ok (.iload 4, 2) := by decide +kernel
theorem own_d1_110 : decode method_2_code 110 = .ok (.lload_n 0, 1) := by decide +kernel
theorem own_d1_111 : decode method_2_code 111 = .ok (.bipush 48, 2) := by decide +kernel
theorem own_d1_113 : decode method_2_code 113 = .ok (.lushr, 1) := by decide +kernel
theorem own_d1_114 : decode method_2_code 114 = .ok (.l2i, 1) := by decide +kernel
theorem own_d1_115 : decode method_2_code 115 = .ok (.i2b, 1) := by decide +kernel
theorem own_d1_116 : decode method_2_code 116 = .ok (.bastore, 1) := by decide +kernel
theorem own_d1_117 : decode method_2_code 117 = .ok (.aload 5, 2) := by decide +kernel
theorem own_d1_119 : decode method_2_code 119 = .ok (.iload 4, 2) := by decide +kernel
theorem own_d1_121 : decode method_2_code 121 = .ok (.iconst 1, 1) := by decide +kernel
theorem own_d1_122 : decode method_2_code 122 = .ok (.iadd, 1) := by decide +kernel
theorem own_d1_123 : decode method_2_code 123 = .ok (.lload_n 0, 1) := by decide +kernel
theorem own_d1_124 : decode method_2_code 124 = .ok (.bipush 40, 2) := by decide +kernel
theorem own_d1_126 : decode method_2_code 126 = .ok (.lushr, 1) := by decide +kernel
theorem own_d1_127 : decode method_2_code 127 = .ok (.l2i, 1) := by decide +kernel
theorem own_d1_128 : decode method_2_code 128 = .ok (.i2b, 1) := by decide +kernel
theorem own_d1_129 : decode method_2_code 129 = .ok (.bastore, 1) := by decide +kernel
theorem own_d1_130 : decode method_2_code 130 = .ok (.aload 5, 2) := by decide +kernel
theorem own_d1_132 : decode method_2_code 132 = .ok (.iload 4, 2) := by decide +kernel
theorem own_d1_134 : decode method_2_code 134 = .ok (.iconst 2, 1) := by decide +kernel
theorem own_d1_135 : decode method_2_code 135 = .ok (.iadd, 1) := by decide +kernel
theorem own_d1_136 : decode method_2_code 136 = .ok (.lload_n 0, 1) := by decide +kernel
theorem own_d1_137 : decode method_2_code 137 = .ok (.bipush 32, 2) := by decide +kernel
theorem own_d1_139 : decode method_2_code 139 = .ok (.lushr, 1) := by decide +kernel
theorem own_d1_140 : decode method_2_code 140 = .ok (.l2i, 1) := by decide +kernel
theorem own_d1_141 : decode method_2_code 141 = .ok (.i2b, 1) := by decide +kernel
theorem own_d1_142 : decode method_2_code 142 = .ok (.bastore, 1) := by decide +kernel
theorem own_d1_143 : decode method_2_code 143 = .ok (.aload 5, 2) := by decide +kernel
theorem own_d1_145 : decode method_2_code 145 = .ok (.iload 4, 2) := by decide +kernel
theorem own_d1_147 : decode method_2_code 147 = .ok (.iconst 3, 1) := by decide +kernel
theorem own_d1_148 : decode method_2_code 148 = .ok (.iadd, 1) := by decide +kernel
theorem own_d1_149 : decode method_2_code 149 = .ok (.lload_n 0, 1) := by decide +kernel
theorem own_d1_150 : decode method_2_code 150 = .ok (.bipush 24, 2) := by decide +kernel
theorem own_d1_152 : decode method_2_code 152 = .ok (.lushr, 1) := by decide +kernel
theorem own_d1_153 : decode method_2_code 153 = .ok (.l2i, 1) := by decide +kernel
theorem own_d1_154 : decode method_2_code 154 = .ok (.i2b, 1) := by decide +kernel
theorem own_d1_155 : decode method_2_code 155 = .ok (.bastore, 1) := by decide +kernel
theorem own_d1_156 : decode method_2_code 156 = .ok (.aload 5, 2) := by decide +kernel
theorem own_d1_158 : decode method_2_code 158 = .ok (.iload 4, 2) := by decide +kernel
theorem own_d1_160 : decode method_2_code 160 = .ok (.iconst 4, 1) := by decide +kernel
theorem own_d1_161 : decode method_2_code 161 = .ok (.iadd, 1) := by decide +kernel
theorem own_d1_162 : decode method_2_code 162 = .ok (.lload_n 0, 1) := by decide +kernel
theorem own_d1_163 : decode method_2_code 163 = .ok (.bipush 16, 2) := by decide +kernel
theorem own_d1_165 : decode method_2_code 165 = .ok (.lushr, 1) := by decide +kernel
theorem own_d1_166 : decode method_2_code 166 = .ok (.l2i, 1) := by decide +kernel
theorem own_d1_167 : decode method_2_code 167 = .ok (.i2b, 1) := by decide +kernel
theorem own_d1_168 : decode method_2_code 168 = .ok (.bastore, 1) := by decide +kernel
theorem own_d1_169 : decode method_2_code 169 = .ok (.aload 5, 2) := by decide +kernel
theorem own_d1_171 : decode method_2_code 171 = .ok (.iload 4, 2) := by decide +kernel
theorem own_d1_173 : decode method_2_code 173 = .ok (.iconst 5, 1) := by decide +kernel
theorem own_d1_174 : decode method_2_code 174 = .ok (.iadd, 1) := by decide +kernel
theorem own_d1_175 : decode method_2_code 175 = .ok (.lload_n 0, 1) := by decide +kernel
theorem own_d1_176 : decode method_2_code 176 = .ok (.bipush 8, 2) := by decide +kernel
theorem own_d1_178 : decode method_2_code 178 = .ok (.lushr, 1) := by decide +kernel
theorem own_d1_179 : decode method_2_code 179 = .ok (.l2i, 1) := by decide +kernel
theorem own_d1_180 : decode method_2_code 180 = .ok (.i2b, 1) := by decide +kernel
theorem own_d1_181 : decode method_2_code 181 = .ok (.bastore, 1) := by decide +kernel
theorem own_d1_182 : decode method_2_code 182 = .ok (.aload 5, 2) := by decide +kernel
theorem own_d1_184 : decode method_2_code 184 = .ok (.iload 4, 2) := by decide +kernel
theorem own_d1_186 : decode method_2_code 186 = .ok (.bipush 6, 2) := by decide +kernel
theorem own_d1_188 : decode method_2_code 188 = .ok (.iadd, 1) := by decide +kernel
theorem own_d1_189 : decode method_2_code 189 = .ok (.lload_n 0, 1) := by decide +kernel
theorem own_d1_190 : decode method_2_code 190 = .ok (.l2i, 1) := by decide +kernel
theorem own_d1_191 : decode method_2_code 191 = .ok (.i2b, 1) := by decide +kernel
theorem own_d1_192 : decode method_2_code 192 = .ok (.bastore, 1) := by decide +kernel
theorem own_d1_193 : decode method_2_code 193 = .ok (.aload 5, 2) := by decide +kernel
theorem own_d1_195 : decode method_2_code 195 = .ok (.areturn, 1) := by decide +kernel
theorem own_pn1 : plainName "com/example/linkbook/linkbook/coding/BchParityOctetPinLaw" = true := by first | (simp [plainName, overriddenIn]; done) | decide +kernel
theorem own_ef_rm1_0 (m : MethodId) (q1 : Int64) (q2 : Int64) : entryFrame m #[(.long q1), (.long q2), (.int (0 : Int32))] 6 = mkF m 0 #[.val (.long q1), .second, .val (.long q2), .second, .val (.int (0 : Int32)), .unset] [] := by first | (simp [entryFrame, mkF, argsToLocals, Value.category]; done) | rfl
def Q1_0 (Z : State) (q1 : Int64) (q2 : Int64) (h0 : Heap) (n0 : Nat) (v : Option Value) (h : Heap) (L : List Loc) : Prop := ∃ b : Addr, ∃ k : ClassId, v = some (.ref b) ∧ Fr n0 L ∧ Keep h0 h [] ∧ h0.size ≤ b ∧ Arv Z h b k .byte (10 : Int32) [(.int (own_by q1 (48 : Int32))), (.int (own_by q1 (40 : Int32))), (.int (own_by q1 (32 : Int32))), (.int (own_by q1 (24 : Int32))), (.int (own_by q1 (16 : Int32))), (.int (own_by q1 (8 : Int32))), (.int (own_by0 q1)), (.int (own_by q2 (56 : Int32))), (.int (own_by q2 (3 : Int32))), (.int (own_by q2 (11 : Int32)))] (.int (0 : Int32))
set_option maxRecDepth 65536 in
set_option maxHeartbeats 40000000 in
theorem rm1_0 (l : Launch) (Z : State) (a0 : Array Value) (hw : ∀ d ∈ tables_1, d.before a0 Z = true) (ws : List Jvm.Cond) (q1 : Int64) (q2 : Int64) (h0 : Heap) (n0 : Nat) (Z0 : n0 ≤ h0.size) :
    MetFree l (⟨"com/example/linkbook/linkbook/coding/BchParityOctetPinLaw", "build", "(JJI)[B"⟩ : MethodName) (head1 (Jvm.Cond.code (⟨"com/example/linkbook/linkbook/coding/BchParityOctetPinLaw", "build", "(JJI)[B"⟩ : MethodName) method_2_code 6 (some (.array .byte)) :: ws) ({ frames := 0, cells := 1, slots := 10, locals := 0 } : Room)) (fun a U => a = #[(.long q1), (.long q2), (.int (0 : Int32))] ∧ Z.Warmed39 U.vm ∧ U.heap = h0) (fun _ _ _ _ _ => True) (fun _ U o U' => ∃ v L, o = .returned v ∧ Q1_0 Z q1 q2 h0 n0 v U'.heap L ∧ FrameEnd U o U' L ({ frames := 0, cells := 1, slots := 10, locals := 0 } : Room).cells ({ frames := 0, cells := 1, slots := 10, locals := 0 } : Room).slots) := by
  refine MetFree.of_bodySF (plainFor_of_name own_pn1) hisR ?_
  intro p e s m args below meth c s₁ Bd hml0 hP hK
  obtain ⟨rfl, hZ, hh⟩ := hP
  have hx := Bd.exec
  have hby := Bd.bytes
  have hml : c.maxLocals = 6 := hml0
  have hown : s.vm.findClass "com/example/linkbook/linkbook/coding/BchParityOctetPinLaw" = some m.cls := findClass_of_methodNamed Bd.named
  have hnm := (name_of_methodNamed Bd.named Bd.method).1
  have X0 : Stand p l e ({ frames := 0, cells := 1, slots := 10, locals := 0 } : Room) s m #[(.long q1), (.long q2), (.int (0 : Int32))] below meth c s₁ [] 0 0 := Stand.of_body Bd
  have e0 : s₁.heap = h0 := by rw [← hh, Bd.state]; rfl
  have N0 := Fr.nil n0
  have K0 : Keep h0 h0 [] := Keep.refl h0 _
  have pre0 : ∀ t, Steps p.tables e below (s₁.setTop (mkF m 0 #[.val (.long q1), .second, .val (.long q2), .second, .val (.int (0 : Int32)), .unset] [])) t → Steps p.tables e below (s₁.setTop (entryFrame m #[(.long q1), (.long q2), (.int (0 : Int32))] 6)) t := fun t k => castTop (own_ef_rm1_0 m q1 q2) k
  obtain ⟨T32, h32, k32, X32, e32, E32, A32, st32⟩ := newP X0 hx hZ (hw _ (List.mem_of_getElem? (i := 6) rfl)) e0 (g := (mkF m 2 #[.val (.long q1), .second, .val (.long q2), .second, .val (.int (0 : Int32)), .unset] [(.int (10 : Int32))])) rfl (hb hby own_d1_2) rfl (by decide) (cap := 10) (by decide) (by decide) (by decide) (by decide)
  obtain ⟨b32, g32⟩ : ∃ z, z = h0.size := ⟨_, rfl⟩
  rw [← g32] at A32 st32
  have gg_b32 : n0 ≤ b32 := Nat.le_trans (Nat.le_trans Z0 K0.1) (Nat.le_of_eq g32.symm)
  have sz_b32 : h0.size ≤ b32 := Nat.le_trans K0.1 (Nat.le_of_eq g32.symm)
  have K32 := K0.ext E32
  have V32 : Arv Z h32 b32 k32 .byte (10 : Int32) [(.int (0 : Int32)), (.int (0 : Int32)), (.int (0 : Int32)), (.int (0 : Int32)), (.int (0 : Int32)), (.int (0 : Int32)), (.int (0 : Int32)), (.int (0 : Int32)), (.int (0 : Int32)), (.int (0 : Int32))] (.int (0 : Int32)) := (Arv.new A32 (by decide)).pad (pad_rep [] (.int (0 : Int32)) 10)
  obtain ⟨cl33, Ar33, q33, S33, M33, H33, G33⟩ := id V32
  have hin33 : ¬ ((0 : Int32) < 0 ∨ cl33.slots.size ≤ ((0 : Int32)).toNatClampNeg) := inb_of S33 ⟨by decide, by decide⟩
  obtain ⟨T34, h34, X34, e34, W34, st34⟩ := stB X32 hx hZ e32 Ar33 (j := (0 : Int32)) hin33 (g := (mkF m 12 #[.val (.long q1), .second, .val (.long q2), .second, .val (.int (0 : Int32)), .val (.ref b32)] [(.int ((q2.toInt32).toInt8.toInt32)), (.int (0 : Int32)), (.ref b32)])) rfl rfl (hb hby own_d1_12)
  have V34 : Arv Z h34 b32 k32 .byte (10 : Int32) [(.int (nar .byte ((q2.toInt32).toInt8.toInt32))), (.int (0 : Int32)), (.int (0 : Int32)), (.int (0 : Int32)), (.int (0 : Int32)), (.int (0 : Int32)), (.int (0 : Int32)), (.int (0 : Int32)), (.int (0 : Int32)), (.int (0 : Int32))] (.int (0 : Int32)) := Arv.set Ar33 q33 S33 M33 H33 G33 (fits_nar_byte _) W34 0 rfl (Nat.le_of_ble_eq_true rfl)
  have K34 := K32.wr W34 (Or.inr sz_b32)
  have N34 := Fr.snoc X34 N0 gg_b32
  obtain ⟨cl35, Ar35, q35, S35, M35, H35, G35⟩ := id V34
  have hin35 : ¬ ((1 : Int32) < 0 ∨ cl35.slots.size ≤ ((1 : Int32)).toNatClampNeg) := inb_of S35 ⟨by decide, by decide⟩
  obtain ⟨T36, h36, X36, e36, W36, st36⟩ := stB X34 hx hZ e34 Ar35 (j := (1 : Int32)) hin35 (g := (mkF m 22 #[.val (.long q1), .second, .val (.long q2), .second, .val (.int (0 : Int32)), .val (.ref b32)] [(.int ((((q2.toUInt64 >>> ((8 : Int32) &&& 0x3f).toInt64.toUInt64).toInt64).toInt32).toInt8.toInt32)), (.int (1 : Int32)), (.ref b32)])) rfl rfl (hb hby own_d1_22)
  have V36 : Arv Z h36 b32 k32 .byte (10 : Int32) [(.int (nar .byte ((q2.toInt32).toInt8.toInt32))), (.int (nar .byte ((((q2.toUInt64 >>> ((8 : Int32) &&& 0x3f).toInt64.toUInt64).toInt64).toInt32).toInt8.toInt32))), (.int (0 : Int32)), (.int (0 : Int32)), (.int (0 : Int32)), (.int (0 : Int32)), (.int (0 : Int32)), (.int (0 : Int32)), (.int (0 : Int32)), (.int (0 : Int32))] (.int (0 : Int32)) := Arv.set Ar35 q35 S35 M35 H35 G35 (fits_nar_byte _) W36 1 rfl (Nat.le_of_ble_eq_true rfl)
  have K36 := K34.wr W36 (Or.inr sz_b32)
  have N36 := Fr.snoc X36 N34 gg_b32
  obtain ⟨cl37, Ar37, q37, S37, M37, H37, G37⟩ := id V36
  have hin37 : ¬ ((2 : Int32) < 0 ∨ cl37.slots.size ≤ ((2 : Int32)).toNatClampNeg) := inb_of S37 ⟨by decide, by decide⟩
  obtain ⟨T38, h38, X38, e38, W38, st38⟩ := stB X36 hx hZ e36 Ar37 (j := (2 : Int32)) hin37 (g := (mkF m 32 #[.val (.long q1), .second, .val (.long q2), .second, .val (.int (0 : Int32)), .val (.ref b32)] [(.int ((((q2.toUInt64 >>> ((16 : Int32) &&& 0x3f).toInt64.toUInt64).toInt64).toInt32).toInt8.toInt32)), (.int (2 : Int32)), (.ref b32)])) rfl rfl (hb hby own_d1_32)
  have V38 : Arv Z h38 b32 k32 .byte (10 : Int32) [(.int (nar .byte ((q2.toInt32).toInt8.toInt32))), (.int (nar .byte ((((q2.toUInt64 >>> ((8 : Int32) &&& 0x3f).toInt64.toUInt64).toInt64).toInt32).toInt8.toInt32))), (.int (nar .byte ((((q2.toUInt64 >>> ((16 : Int32) &&& 0x3f).toInt64.toUInt64).toInt64).toInt32).toInt8.toInt32))), (.int (0 : Int32)), (.int (0 : Int32)), (.int (0 : Int32)), (.int (0 : Int32)), (.int (0 : Int32)), (.int (0 : Int32)), (.int (0 : Int32))] (.int (0 : Int32)) := Arv.set Ar37 q37 S37 M37 H37 G37 (fits_nar_byte _) W38 2 rfl (Nat.le_of_ble_eq_true rfl)
  have K38 := K36.wr W38 (Or.inr sz_b32)
  have N38 := Fr.snoc X38 N36 gg_b32
  obtain ⟨cl39, Ar39, q39, S39, M39, H39, G39⟩ := id V38
  have hin39 : ¬ ((3 : Int32) < 0 ∨ cl39.slots.size ≤ ((3 : Int32)).toNatClampNeg) := inb_of S39 ⟨by decide, by decide⟩
  obtain ⟨T40, h40, X40, e40, W40, st40⟩ := stB X38 hx hZ e38 Ar39 (j := (3 : Int32)) hin39 (g := (mkF m 42 #[.val (.long q1), .second, .val (.long q2), .second, .val (.int (0 : Int32)), .val (.ref b32)] [(.int ((((q2.toUInt64 >>> ((24 : Int32) &&& 0x3f).toInt64.toUInt64).toInt64).toInt32).toInt8.toInt32)), (.int (3 : Int32)), (.ref b32)])) rfl rfl (hb hby own_d1_42)
  have V40 : Arv Z h40 b32 k32 .byte (10 : Int32) [(.int (nar .byte ((q2.toInt32).toInt8.toInt32))), (.int (nar .byte ((((q2.toUInt64 >>> ((8 : Int32) &&& 0x3f).toInt64.toUInt64).toInt64).toInt32).toInt8.toInt32))), (.int (nar .byte ((((q2.toUInt64 >>> ((16 : Int32) &&& 0x3f).toInt64.toUInt64).toInt64).toInt32).toInt8.toInt32))), (.int (nar .byte ((((q2.toUInt64 >>> ((24 : Int32) &&& 0x3f).toInt64.toUInt64).toInt64).toInt32).toInt8.toInt32))), (.int (0 : Int32)), (.int (0 : Int32)), (.int (0 : Int32)), (.int (0 : Int32)), (.int (0 : Int32)), (.int (0 : Int32))] (.int (0 : Int32)) := Arv.set Ar39 q39 S39 M39 H39 G39 (fits_nar_byte _) W40 3 rfl (Nat.le_of_ble_eq_true rfl)
  have K40 := K38.wr W40 (Or.inr sz_b32)
  have N40 := Fr.snoc X40 N38 gg_b32
  obtain ⟨cl41, Ar41, q41, S41, M41, H41, G41⟩ := id V40
  have hin41 : ¬ ((4 : Int32) < 0 ∨ cl41.slots.size ≤ ((4 : Int32)).toNatClampNeg) := inb_of S41 ⟨by decide, by decide⟩
  obtain ⟨T42, h42, X42, e42, W42, st42⟩ := stB X40 hx hZ e40 Ar41 (j := (4 : Int32)) hin41 (g := (mkF m 52 #[.val (.long q1), .second, .val (.long q2), .second, .val (.int (0 : Int32)), .val (.ref b32)] [(.int ((((q2.toUInt64 >>> ((32 : Int32) &&& 0x3f).toInt64.toUInt64).toInt64).toInt32).toInt8.toInt32)), (.int (4 : Int32)), (.ref b32)])) rfl rfl (hb hby own_d1_52)
  have V42 : Arv Z h42 b32 k32 .byte (10 : Int32) [(.int (nar .byte ((q2.toInt32).toInt8.toInt32))), (.int (nar .byte ((((q2.toUInt64 >>> ((8 : Int32) &&& 0x3f).toInt64.toUInt64).toInt64).toInt32).toInt8.toInt32))), (.int (nar .byte ((((q2.toUInt64 >>> ((16 : Int32) &&& 0x3f).toInt64.toUInt64).toInt64).toInt32).toInt8.toInt32))), (.int (nar .byte ((((q2.toUInt64 >>> ((24 : Int32) &&& 0x3f).toInt64.toUInt64).toInt64).toInt32).toInt8.toInt32))), (.int (nar .byte ((((q2.toUInt64 >>> ((32 : Int32) &&& 0x3f).toInt64.toUInt64).toInt64).toInt32).toInt8.toInt32))), (.int (0 : Int32)), (.int (0 : Int32)), (.int (0 : Int32)), (.int (0 : Int32)), (.int (0 : Int32))] (.int (0 : Int32)) := Arv.set Ar41 q41 S41 M41 H41 G41 (fits_nar_byte _) W42 4 rfl (Nat.le_of_ble_eq_true rfl)
  have K42 := K40.wr W42 (Or.inr sz_b32)
  have N42 := Fr.snoc X42 N40 gg_b32
  obtain ⟨cl43, Ar43, q43, S43, M43, H43, G43⟩ := id V42
  have hin43 : ¬ ((5 : Int32) < 0 ∨ cl43.slots.size ≤ ((5 : Int32)).toNatClampNeg) := inb_of S43 ⟨by decide, by decide⟩
  obtain ⟨T44, h44, X44, e44, W44, st44⟩ := stB X42 hx hZ e42 Ar43 (j := (5 : Int32)) hin43 (g := (mkF m 62 #[.val (.long q1), .second, .val (.long q2), .second, .val (.int (0 : Int32)), .val (.ref b32)] [(.int ((((q2.toUInt64 >>> ((40 : Int32) &&& 0x3f).toInt64.toUInt64).toInt64).toInt32).toInt8.toInt32)), (.int (5 : Int32)), (.ref b32)])) rfl rfl (hb hby own_d1_62)
  have V44 : Arv Z h44 b32 k32 .byte (10 : Int32) [(.int (nar .byte ((q2.toInt32).toInt8.toInt32))), (.int (nar .byte ((((q2.toUInt64 >>> ((8 : Int32) &&& 0x3f).toInt64.toUInt64).toInt64).toInt32).toInt8.toInt32))), (.int (nar .byte ((((q2.toUInt64 >>> ((16 : Int32) &&& 0x3f).toInt64.toUInt64).toInt64).toInt32).toInt8.toInt32))), (.int (nar .byte ((((q2.toUInt64 >>> ((24 : Int32) &&& 0x3f).toInt64.toUInt64).toInt64).toInt32).toInt8.toInt32))), (.int (nar .byte ((((q2.toUInt64 >>> ((32 : Int32) &&& 0x3f).toInt64.toUInt64).toInt64).toInt32).toInt8.toInt32))), (.int (nar .byte ((((q2.toUInt64 >>> ((40 : Int32) &&& 0x3f).toInt64.toUInt64).toInt64).toInt32).toInt8.toInt32))), (.int (0 : Int32)), (.int (0 : Int32)), (.int (0 : Int32)), (.int (0 : Int32))] (.int (0 : Int32)) := Arv.set Ar43 q43 S43 M43 H43 G43 (fits_nar_byte _) W44 5 rfl (Nat.le_of_ble_eq_true rfl)
  have K44 := K42.wr W44 (Or.inr sz_b32)
  have N44 := Fr.snoc X44 N42 gg_b32
  obtain ⟨cl45, Ar45, q45, S45, M45, H45, G45⟩ := id V44
  have hin45 : ¬ ((6 : Int32) < 0 ∨ cl45.slots.size ≤ ((6 : Int32)).toNatClampNeg) := inb_of S45 ⟨by decide, by decide⟩
  obtain ⟨T46, h46, X46, e46, W46, st46⟩ := stB X44 hx hZ e44 Ar45 (j := (6 : Int32)) hin45 (g := (mkF m 73 #[.val (.long q1), .second, .val (.long q2), .second, .val (.int (0 : Int32)), .val (.ref b32)] [(.int ((((q2.toUInt64 >>> ((48 : Int32) &&& 0x3f).toInt64.toUInt64).toInt64).toInt32).toInt8.toInt32)), (.int (6 : Int32)), (.ref b32)])) rfl rfl (hb hby own_d1_73)
  have V46 : Arv Z h46 b32 k32 .byte (10 : Int32) [(.int (nar .byte ((q2.toInt32).toInt8.toInt32))), (.int (nar .byte ((((q2.toUInt64 >>> ((8 : Int32) &&& 0x3f).toInt64.toUInt64).toInt64).toInt32).toInt8.toInt32))), (.int (nar .byte ((((q2.toUInt64 >>> ((16 : Int32) &&& 0x3f).toInt64.toUInt64).toInt64).toInt32).toInt8.toInt32))), (.int (nar .byte ((((q2.toUInt64 >>> ((24 : Int32) &&& 0x3f).toInt64.toUInt64).toInt64).toInt32).toInt8.toInt32))), (.int (nar .byte ((((q2.toUInt64 >>> ((32 : Int32) &&& 0x3f).toInt64.toUInt64).toInt64).toInt32).toInt8.toInt32))), (.int (nar .byte ((((q2.toUInt64 >>> ((40 : Int32) &&& 0x3f).toInt64.toUInt64).toInt64).toInt32).toInt8.toInt32))), (.int (nar .byte ((((q2.toUInt64 >>> ((48 : Int32) &&& 0x3f).toInt64.toUInt64).toInt64).toInt32).toInt8.toInt32))), (.int (0 : Int32)), (.int (0 : Int32)), (.int (0 : Int32))] (.int (0 : Int32)) := Arv.set Ar45 q45 S45 M45 H45 G45 (fits_nar_byte _) W46 6 rfl (Nat.le_of_ble_eq_true rfl)
  have K46 := K44.wr W46 (Or.inr sz_b32)
  have N46 := Fr.snoc X46 N44 gg_b32
  obtain ⟨cl47, Ar47, q47, S47, M47, H47, G47⟩ := id V46
  have hin47 : ¬ ((7 : Int32) < 0 ∨ cl47.slots.size ≤ ((7 : Int32)).toNatClampNeg) := inb_of S47 ⟨by decide, by decide⟩
  obtain ⟨T48, h48, X48, e48, W48, st48⟩ := stB X46 hx hZ e46 Ar47 (j := (7 : Int32)) hin47 (g := (mkF m 84 #[.val (.long q1), .second, .val (.long q2), .second, .val (.int (0 : Int32)), .val (.ref b32)] [(.int ((((q2.toUInt64 >>> ((56 : Int32) &&& 0x3f).toInt64.toUInt64).toInt64).toInt32).toInt8.toInt32)), (.int (7 : Int32)), (.ref b32)])) rfl rfl (hb hby own_d1_84)
  have V48 : Arv Z h48 b32 k32 .byte (10 : Int32) [(.int (nar .byte ((q2.toInt32).toInt8.toInt32))), (.int (nar .byte ((((q2.toUInt64 >>> ((8 : Int32) &&& 0x3f).toInt64.toUInt64).toInt64).toInt32).toInt8.toInt32))), (.int (nar .byte ((((q2.toUInt64 >>> ((16 : Int32) &&& 0x3f).toInt64.toUInt64).toInt64).toInt32).toInt8.toInt32))), (.int (nar .byte ((((q2.toUInt64 >>> ((24 : Int32) &&& 0x3f).toInt64.toUInt64).toInt64).toInt32).toInt8.toInt32))), (.int (nar .byte ((((q2.toUInt64 >>> ((32 : Int32) &&& 0x3f).toInt64.toUInt64).toInt64).toInt32).toInt8.toInt32))), (.int (nar .byte ((((q2.toUInt64 >>> ((40 : Int32) &&& 0x3f).toInt64.toUInt64).toInt64).toInt32).toInt8.toInt32))), (.int (nar .byte ((((q2.toUInt64 >>> ((48 : Int32) &&& 0x3f).toInt64.toUInt64).toInt64).toInt32).toInt8.toInt32))), (.int (nar .byte ((((q2.toUInt64 >>> ((56 : Int32) &&& 0x3f).toInt64.toUInt64).toInt64).toInt32).toInt8.toInt32))), (.int (0 : Int32)), (.int (0 : Int32))] (.int (0 : Int32)) := Arv.set Ar47 q47 S47 M47 H47 G47 (fits_nar_byte _) W48 7 rfl (Nat.le_of_ble_eq_true rfl)
  have K48 := K46.wr W48 (Or.inr sz_b32)
  have N48 := Fr.snoc X48 N46 gg_b32
  obtain ⟨cl49, Ar49, q49, S49, M49, H49, G49⟩ := id V48
  have hin49 : ¬ ((8 : Int32) < 0 ∨ cl49.slots.size ≤ ((8 : Int32)).toNatClampNeg) := inb_of S49 ⟨by decide, by decide⟩
  obtain ⟨T50, h50, X50, e50, W50, st50⟩ := stB X48 hx hZ e48 Ar49 (j := (8 : Int32)) hin49 (g := (mkF m 94 #[.val (.long q1), .second, .val (.long q2), .second, .val (.int (0 : Int32)), .val (.ref b32)] [(.int ((((q2.toUInt64 >>> ((3 : Int32) &&& 0x3f).toInt64.toUInt64).toInt64).toInt32).toInt8.toInt32)), (.int (8 : Int32)), (.ref b32)])) rfl rfl (hb hby own_d1_94)
  have V50 : Arv Z h50 b32 k32 .byte (10 : Int32) [(.int (nar .byte ((q2.toInt32).toInt8.toInt32))), (.int (nar .byte ((((q2.toUInt64 >>> ((8 : Int32) &&& 0x3f).toInt64.toUInt64).toInt64).toInt32).toInt8.toInt32))), (.int (nar .byte ((((q2.toUInt64 >>> ((16 : Int32) &&& 0x3f).toInt64.toUInt64).toInt64).toInt32).toInt8.toInt32))), (.int (nar .byte ((((q2.toUInt64 >>> ((24 : Int32) &&& 0x3f).toInt64.toUInt64).toInt64).toInt32).toInt8.toInt32))), (.int (nar .byte ((((q2.toUInt64 >>> ((32 : Int32) &&& 0x3f).toInt64.toUInt64).toInt64).toInt32).toInt8.toInt32))), (.int (nar .byte ((((q2.toUInt64 >>> ((40 : Int32) &&& 0x3f).toInt64.toUInt64).toInt64).toInt32).toInt8.toInt32))), (.int (nar .byte ((((q2.toUInt64 >>> ((48 : Int32) &&& 0x3f).toInt64.toUInt64).toInt64).toInt32).toInt8.toInt32))), (.int (nar .byte ((((q2.toUInt64 >>> ((56 : Int32) &&& 0x3f).toInt64.toUInt64).toInt64).toInt32).toInt8.toInt32))), (.int (nar .byte ((((q2.toUInt64 >>> ((3 : Int32) &&& 0x3f).toInt64.toUInt64).toInt64).toInt32).toInt8.toInt32))), (.int (0 : Int32))] (.int (0 : Int32)) := Arv.set Ar49 q49 S49 M49 H49 G49 (fits_nar_byte _) W50 8 rfl (Nat.le_of_ble_eq_true rfl)
  have K50 := K48.wr W50 (Or.inr sz_b32)
  have N50 := Fr.snoc X50 N48 gg_b32
  obtain ⟨cl51, Ar51, q51, S51, M51, H51, G51⟩ := id V50
  have hin51 : ¬ ((9 : Int32) < 0 ∨ cl51.slots.size ≤ ((9 : Int32)).toNatClampNeg) := inb_of S51 ⟨by decide, by decide⟩
  obtain ⟨T52, h52, X52, e52, W52, st52⟩ := stB X50 hx hZ e50 Ar51 (j := (9 : Int32)) hin51 (g := (mkF m 105 #[.val (.long q1), .second, .val (.long q2), .second, .val (.int (0 : Int32)), .val (.ref b32)] [(.int ((((q2.toUInt64 >>> ((11 : Int32) &&& 0x3f).toInt64.toUInt64).toInt64).toInt32).toInt8.toInt32)), (.int (9 : Int32)), (.ref b32)])) rfl rfl (hb hby own_d1_105)
  have V52 : Arv Z h52 b32 k32 .byte (10 : Int32) [(.int (nar .byte ((q2.toInt32).toInt8.toInt32))), (.int (nar .byte ((((q2.toUInt64 >>> ((8 : Int32) &&& 0x3f).toInt64.toUInt64).toInt64).toInt32).toInt8.toInt32))), (.int (nar .byte ((((q2.toUInt64 >>> ((16 : Int32) &&& 0x3f).toInt64.toUInt64).toInt64).toInt32).toInt8.toInt32))), (.int (nar .byte ((((q2.toUInt64 >>> ((24 : Int32) &&& 0x3f).toInt64.toUInt64).toInt64).toInt32).toInt8.toInt32))), (.int (nar .byte ((((q2.toUInt64 >>> ((32 : Int32) &&& 0x3f).toInt64.toUInt64).toInt64).toInt32).toInt8.toInt32))), (.int (nar .byte ((((q2.toUInt64 >>> ((40 : Int32) &&& 0x3f).toInt64.toUInt64).toInt64).toInt32).toInt8.toInt32))), (.int (nar .byte ((((q2.toUInt64 >>> ((48 : Int32) &&& 0x3f).toInt64.toUInt64).toInt64).toInt32).toInt8.toInt32))), (.int (nar .byte ((((q2.toUInt64 >>> ((56 : Int32) &&& 0x3f).toInt64.toUInt64).toInt64).toInt32).toInt8.toInt32))), (.int (nar .byte ((((q2.toUInt64 >>> ((3 : Int32) &&& 0x3f).toInt64.toUInt64).toInt64).toInt32).toInt8.toInt32))), (.int (nar .byte ((((q2.toUInt64 >>> ((11 : Int32) &&& 0x3f).toInt64.toUInt64).toInt64).toInt32).toInt8.toInt32)))] (.int (0 : Int32)) := Arv.set Ar51 q51 S51 M51 H51 G51 (fits_nar_byte _) W52 9 rfl (Nat.le_of_ble_eq_true rfl)
  have K52 := K50.wr W52 (Or.inr sz_b32)
  have N52 := Fr.snoc X52 N50 gg_b32
  obtain ⟨cl53, Ar53, q53, S53, M53, H53, G53⟩ := id V52
  have hin53 : ¬ ((0 : Int32) < 0 ∨ cl53.slots.size ≤ ((0 : Int32)).toNatClampNeg) := inb_of S53 ⟨by decide, by decide⟩
  obtain ⟨T54, h54, X54, e54, W54, st54⟩ := stB X52 hx hZ e52 Ar53 (j := (0 : Int32)) hin53 (g := (mkF m 116 #[.val (.long q1), .second, .val (.long q2), .second, .val (.int (0 : Int32)), .val (.ref b32)] [(.int ((((q1.toUInt64 >>> ((48 : Int32) &&& 0x3f).toInt64.toUInt64).toInt64).toInt32).toInt8.toInt32)), (.int (0 : Int32)), (.ref b32)])) rfl rfl (hb hby own_d1_116)
  have V54 : Arv Z h54 b32 k32 .byte (10 : Int32) [(.int (nar .byte ((((q1.toUInt64 >>> ((48 : Int32) &&& 0x3f).toInt64.toUInt64).toInt64).toInt32).toInt8.toInt32))), (.int (nar .byte ((((q2.toUInt64 >>> ((8 : Int32) &&& 0x3f).toInt64.toUInt64).toInt64).toInt32).toInt8.toInt32))), (.int (nar .byte ((((q2.toUInt64 >>> ((16 : Int32) &&& 0x3f).toInt64.toUInt64).toInt64).toInt32).toInt8.toInt32))), (.int (nar .byte ((((q2.toUInt64 >>> ((24 : Int32) &&& 0x3f).toInt64.toUInt64).toInt64).toInt32).toInt8.toInt32))), (.int (nar .byte ((((q2.toUInt64 >>> ((32 : Int32) &&& 0x3f).toInt64.toUInt64).toInt64).toInt32).toInt8.toInt32))), (.int (nar .byte ((((q2.toUInt64 >>> ((40 : Int32) &&& 0x3f).toInt64.toUInt64).toInt64).toInt32).toInt8.toInt32))), (.int (nar .byte ((((q2.toUInt64 >>> ((48 : Int32) &&& 0x3f).toInt64.toUInt64).toInt64).toInt32).toInt8.toInt32))), (.int (nar .byte ((((q2.toUInt64 >>> ((56 : Int32) &&& 0x3f).toInt64.toUInt64).toInt64).toInt32).toInt8.toInt32))), (.int (nar .byte ((((q2.toUInt64 >>> ((3 : Int32) &&& 0x3f).toInt64.toUInt64).toInt64).toInt32).toInt8.toInt32))), (.int (nar .byte ((((q2.toUInt64 >>> ((11 : Int32) &&& 0x3f).toInt64.toUInt64).toInt64).toInt32).toInt8.toInt32)))] (.int (0 : Int32)) := Arv.set Ar53 q53 S53 M53 H53 G53 (fits_nar_byte _) W54 0 rfl (Nat.le_of_ble_eq_true rfl)
  have K54 := K52.wr W54 (Or.inr sz_b32)
  have N54 := Fr.snoc X54 N52 gg_b32
  obtain ⟨cl55, Ar55, q55, S55, M55, H55, G55⟩ := id V54
  have hin55 : ¬ ((1 : Int32) < 0 ∨ cl55.slots.size ≤ ((1 : Int32)).toNatClampNeg) := inb_of S55 ⟨by decide, by decide⟩
  obtain ⟨T56, h56, X56, e56, W56, st56⟩ := stB X54 hx hZ e54 Ar55 (j := (1 : Int32)) hin55 (g := (mkF m 129 #[.val (.long q1), .second, .val (.long q2), .second, .val (.int (0 : Int32)), .val (.ref b32)] [(.int ((((q1.toUInt64 >>> ((40 : Int32) &&& 0x3f).toInt64.toUInt64).toInt64).toInt32).toInt8.toInt32)), (.int (1 : Int32)), (.ref b32)])) rfl rfl (hb hby own_d1_129)
  have V56 : Arv Z h56 b32 k32 .byte (10 : Int32) [(.int (nar .byte ((((q1.toUInt64 >>> ((48 : Int32) &&& 0x3f).toInt64.toUInt64).toInt64).toInt32).toInt8.toInt32))), (.int (nar .byte ((((q1.toUInt64 >>> ((40 : Int32) &&& 0x3f).toInt64.toUInt64).toInt64).toInt32).toInt8.toInt32))), (.int (nar .byte ((((q2.toUInt64 >>> ((16 : Int32) &&& 0x3f).toInt64.toUInt64).toInt64).toInt32).toInt8.toInt32))), (.int (nar .byte ((((q2.toUInt64 >>> ((24 : Int32) &&& 0x3f).toInt64.toUInt64).toInt64).toInt32).toInt8.toInt32))), (.int (nar .byte ((((q2.toUInt64 >>> ((32 : Int32) &&& 0x3f).toInt64.toUInt64).toInt64).toInt32).toInt8.toInt32))), (.int (nar .byte ((((q2.toUInt64 >>> ((40 : Int32) &&& 0x3f).toInt64.toUInt64).toInt64).toInt32).toInt8.toInt32))), (.int (nar .byte ((((q2.toUInt64 >>> ((48 : Int32) &&& 0x3f).toInt64.toUInt64).toInt64).toInt32).toInt8.toInt32))), (.int (nar .byte ((((q2.toUInt64 >>> ((56 : Int32) &&& 0x3f).toInt64.toUInt64).toInt64).toInt32).toInt8.toInt32))), (.int (nar .byte ((((q2.toUInt64 >>> ((3 : Int32) &&& 0x3f).toInt64.toUInt64).toInt64).toInt32).toInt8.toInt32))), (.int (nar .byte ((((q2.toUInt64 >>> ((11 : Int32) &&& 0x3f).toInt64.toUInt64).toInt64).toInt32).toInt8.toInt32)))] (.int (0 : Int32)) := Arv.set Ar55 q55 S55 M55 H55 G55 (fits_nar_byte _) W56 1 rfl (Nat.le_of_ble_eq_true rfl)
  have K56 := K54.wr W56 (Or.inr sz_b32)
  have N56 := Fr.snoc X56 N54 gg_b32
  obtain ⟨cl57, Ar57, q57, S57, M57, H57, G57⟩ := id V56
  have hin57 : ¬ ((2 : Int32) < 0 ∨ cl57.slots.size ≤ ((2 : Int32)).toNatClampNeg) := inb_of S57 ⟨by decide, by decide⟩
  obtain ⟨T58, h58, X58, e58, W58, st58⟩ := stB X56 hx hZ e56 Ar57 (j := (2 : Int32)) hin57 (g := (mkF m 142 #[.val (.long q1), .second, .val (.long q2), .second, .val (.int (0 : Int32)), .val (.ref b32)] [(.int ((((q1.toUInt64 >>> ((32 : Int32) &&& 0x3f).toInt64.toUInt64).toInt64).toInt32).toInt8.toInt32)), (.int (2 : Int32)), (.ref b32)])) rfl rfl (hb hby own_d1_142)
  have V58 : Arv Z h58 b32 k32 .byte (10 : Int32) [(.int (nar .byte ((((q1.toUInt64 >>> ((48 : Int32) &&& 0x3f).toInt64.toUInt64).toInt64).toInt32).toInt8.toInt32))), (.int (nar .byte ((((q1.toUInt64 >>> ((40 : Int32) &&& 0x3f).toInt64.toUInt64).toInt64).toInt32).toInt8.toInt32))), (.int (nar .byte ((((q1.toUInt64 >>> ((32 : Int32) &&& 0x3f).toInt64.toUInt64).toInt64).toInt32).toInt8.toInt32))), (.int (nar .byte ((((q2.toUInt64 >>> ((24 : Int32) &&& 0x3f).toInt64.toUInt64).toInt64).toInt32).toInt8.toInt32))), (.int (nar .byte ((((q2.toUInt64 >>> ((32 : Int32) &&& 0x3f).toInt64.toUInt64).toInt64).toInt32).toInt8.toInt32))), (.int (nar .byte ((((q2.toUInt64 >>> ((40 : Int32) &&& 0x3f).toInt64.toUInt64).toInt64).toInt32).toInt8.toInt32))), (.int (nar .byte ((((q2.toUInt64 >>> ((48 : Int32) &&& 0x3f).toInt64.toUInt64).toInt64).toInt32).toInt8.toInt32))), (.int (nar .byte ((((q2.toUInt64 >>> ((56 : Int32) &&& 0x3f).toInt64.toUInt64).toInt64).toInt32).toInt8.toInt32))), (.int (nar .byte ((((q2.toUInt64 >>> ((3 : Int32) &&& 0x3f).toInt64.toUInt64).toInt64).toInt32).toInt8.toInt32))), (.int (nar .byte ((((q2.toUInt64 >>> ((11 : Int32) &&& 0x3f).toInt64.toUInt64).toInt64).toInt32).toInt8.toInt32)))] (.int (0 : Int32)) := Arv.set Ar57 q57 S57 M57 H57 G57 (fits_nar_byte _) W58 2 rfl (Nat.le_of_ble_eq_true rfl)
  have K58 := K56.wr W58 (Or.inr sz_b32)
  have N58 := Fr.snoc X58 N56 gg_b32
  obtain ⟨cl59, Ar59, q59, S59, M59, H59, G59⟩ := id V58
  have hin59 : ¬ ((3 : Int32) < 0 ∨ cl59.slots.size ≤ ((3 : Int32)).toNatClampNeg) := inb_of S59 ⟨by decide, by decide⟩
  obtain ⟨T60, h60, X60, e60, W60, st60⟩ := stB X58 hx hZ e58 Ar59 (j := (3 : Int32)) hin59 (g := (mkF m 155 #[.val (.long q1), .second, .val (.long q2), .second, .val (.int (0 : Int32)), .val (.ref b32)] [(.int ((((q1.toUInt64 >>> ((24 : Int32) &&& 0x3f).toInt64.toUInt64).toInt64).toInt32).toInt8.toInt32)), (.int (3 : Int32)), (.ref b32)])) rfl rfl (hb hby own_d1_155)
  have V60 : Arv Z h60 b32 k32 .byte (10 : Int32) [(.int (nar .byte ((((q1.toUInt64 >>> ((48 : Int32) &&& 0x3f).toInt64.toUInt64).toInt64).toInt32).toInt8.toInt32))), (.int (nar .byte ((((q1.toUInt64 >>> ((40 : Int32) &&& 0x3f).toInt64.toUInt64).toInt64).toInt32).toInt8.toInt32))), (.int (nar .byte ((((q1.toUInt64 >>> ((32 : Int32) &&& 0x3f).toInt64.toUInt64).toInt64).toInt32).toInt8.toInt32))), (.int (nar .byte ((((q1.toUInt64 >>> ((24 : Int32) &&& 0x3f).toInt64.toUInt64).toInt64).toInt32).toInt8.toInt32))), (.int (nar .byte ((((q2.toUInt64 >>> ((32 : Int32) &&& 0x3f).toInt64.toUInt64).toInt64).toInt32).toInt8.toInt32))), (.int (nar .byte ((((q2.toUInt64 >>> ((40 : Int32) &&& 0x3f).toInt64.toUInt64).toInt64).toInt32).toInt8.toInt32))), (.int (nar .byte ((((q2.toUInt64 >>> ((48 : Int32) &&& 0x3f).toInt64.toUInt64).toInt64).toInt32).toInt8.toInt32))), (.int (nar .byte ((((q2.toUInt64 >>> ((56 : Int32) &&& 0x3f).toInt64.toUInt64).toInt64).toInt32).toInt8.toInt32))), (.int (nar .byte ((((q2.toUInt64 >>> ((3 : Int32) &&& 0x3f).toInt64.toUInt64).toInt64).toInt32).toInt8.toInt32))), (.int (nar .byte ((((q2.toUInt64 >>> ((11 : Int32) &&& 0x3f).toInt64.toUInt64).toInt64).toInt32).toInt8.toInt32)))] (.int (0 : Int32)) := Arv.set Ar59 q59 S59 M59 H59 G59 (fits_nar_byte _) W60 3 rfl (Nat.le_of_ble_eq_true rfl)
  have K60 := K58.wr W60 (Or.inr sz_b32)
  have N60 := Fr.snoc X60 N58 gg_b32
  obtain ⟨cl61, Ar61, q61, S61, M61, H61, G61⟩ := id V60
  have hin61 : ¬ ((4 : Int32) < 0 ∨ cl61.slots.size ≤ ((4 : Int32)).toNatClampNeg) := inb_of S61 ⟨by decide, by decide⟩
  obtain ⟨T62, h62, X62, e62, W62, st62⟩ := stB X60 hx hZ e60 Ar61 (j := (4 : Int32)) hin61 (g := (mkF m 168 #[.val (.long q1), .second, .val (.long q2), .second, .val (.int (0 : Int32)), .val (.ref b32)] [(.int ((((q1.toUInt64 >>> ((16 : Int32) &&& 0x3f).toInt64.toUInt64).toInt64).toInt32).toInt8.toInt32)), (.int (4 : Int32)), (.ref b32)])) rfl rfl (hb hby own_d1_168)
  have V62 : Arv Z h62 b32 k32 .byte (10 : Int32) [(.int (nar .byte ((((q1.toUInt64 >>> ((48 : Int32) &&& 0x3f).toInt64.toUInt64).toInt64).toInt32).toInt8.toInt32))), (.int (nar .byte ((((q1.toUInt64 >>> ((40 : Int32) &&& 0x3f).toInt64.toUInt64).toInt64).toInt32).toInt8.toInt32))), (.int (nar .byte ((((q1.toUInt64 >>> ((32 : Int32) &&& 0x3f).toInt64.toUInt64).toInt64).toInt32).toInt8.toInt32))), (.int (nar .byte ((((q1.toUInt64 >>> ((24 : Int32) &&& 0x3f).toInt64.toUInt64).toInt64).toInt32).toInt8.toInt32))), (.int (nar .byte ((((q1.toUInt64 >>> ((16 : Int32) &&& 0x3f).toInt64.toUInt64).toInt64).toInt32).toInt8.toInt32))), (.int (nar .byte ((((q2.toUInt64 >>> ((40 : Int32) &&& 0x3f).toInt64.toUInt64).toInt64).toInt32).toInt8.toInt32))), (.int (nar .byte ((((q2.toUInt64 >>> ((48 : Int32) &&& 0x3f).toInt64.toUInt64).toInt64).toInt32).toInt8.toInt32))), (.int (nar .byte ((((q2.toUInt64 >>> ((56 : Int32) &&& 0x3f).toInt64.toUInt64).toInt64).toInt32).toInt8.toInt32))), (.int (nar .byte ((((q2.toUInt64 >>> ((3 : Int32) &&& 0x3f).toInt64.toUInt64).toInt64).toInt32).toInt8.toInt32))), (.int (nar .byte ((((q2.toUInt64 >>> ((11 : Int32) &&& 0x3f).toInt64.toUInt64).toInt64).toInt32).toInt8.toInt32)))] (.int (0 : Int32)) := Arv.set Ar61 q61 S61 M61 H61 G61 (fits_nar_byte _) W62 4 rfl (Nat.le_of_ble_eq_true rfl)
  have K62 := K60.wr W62 (Or.inr sz_b32)
  have N62 := Fr.snoc X62 N60 gg_b32
  obtain ⟨cl63, Ar63, q63, S63, M63, H63, G63⟩ := id V62
  have hin63 : ¬ ((5 : Int32) < 0 ∨ cl63.slots.size ≤ ((5 : Int32)).toNatClampNeg) := inb_of S63 ⟨by decide, by decide⟩
  obtain ⟨T64, h64, X64, e64, W64, st64⟩ := stB X62 hx hZ e62 Ar63 (j := (5 : Int32)) hin63 (g := (mkF m 181 #[.val (.long q1), .second, .val (.long q2), .second, .val (.int (0 : Int32)), .val (.ref b32)] [(.int ((((q1.toUInt64 >>> ((8 : Int32) &&& 0x3f).toInt64.toUInt64).toInt64).toInt32).toInt8.toInt32)), (.int (5 : Int32)), (.ref b32)])) rfl rfl (hb hby own_d1_181)
  have V64 : Arv Z h64 b32 k32 .byte (10 : Int32) [(.int (nar .byte ((((q1.toUInt64 >>> ((48 : Int32) &&& 0x3f).toInt64.toUInt64).toInt64).toInt32).toInt8.toInt32))), (.int (nar .byte ((((q1.toUInt64 >>> ((40 : Int32) &&& 0x3f).toInt64.toUInt64).toInt64).toInt32).toInt8.toInt32))), (.int (nar .byte ((((q1.toUInt64 >>> ((32 : Int32) &&& 0x3f).toInt64.toUInt64).toInt64).toInt32).toInt8.toInt32))), (.int (nar .byte ((((q1.toUInt64 >>> ((24 : Int32) &&& 0x3f).toInt64.toUInt64).toInt64).toInt32).toInt8.toInt32))), (.int (nar .byte ((((q1.toUInt64 >>> ((16 : Int32) &&& 0x3f).toInt64.toUInt64).toInt64).toInt32).toInt8.toInt32))), (.int (nar .byte ((((q1.toUInt64 >>> ((8 : Int32) &&& 0x3f).toInt64.toUInt64).toInt64).toInt32).toInt8.toInt32))), (.int (nar .byte ((((q2.toUInt64 >>> ((48 : Int32) &&& 0x3f).toInt64.toUInt64).toInt64).toInt32).toInt8.toInt32))), (.int (nar .byte ((((q2.toUInt64 >>> ((56 : Int32) &&& 0x3f).toInt64.toUInt64).toInt64).toInt32).toInt8.toInt32))), (.int (nar .byte ((((q2.toUInt64 >>> ((3 : Int32) &&& 0x3f).toInt64.toUInt64).toInt64).toInt32).toInt8.toInt32))), (.int (nar .byte ((((q2.toUInt64 >>> ((11 : Int32) &&& 0x3f).toInt64.toUInt64).toInt64).toInt32).toInt8.toInt32)))] (.int (0 : Int32)) := Arv.set Ar63 q63 S63 M63 H63 G63 (fits_nar_byte _) W64 5 rfl (Nat.le_of_ble_eq_true rfl)
  have K64 := K62.wr W64 (Or.inr sz_b32)
  have N64 := Fr.snoc X64 N62 gg_b32
  obtain ⟨cl65, Ar65, q65, S65, M65, H65, G65⟩ := id V64
  have hin65 : ¬ ((6 : Int32) < 0 ∨ cl65.slots.size ≤ ((6 : Int32)).toNatClampNeg) := inb_of S65 ⟨by decide, by decide⟩
  obtain ⟨T66, h66, X66, e66, W66, st66⟩ := stB X64 hx hZ e64 Ar65 (j := (6 : Int32)) hin65 (g := (mkF m 192 #[.val (.long q1), .second, .val (.long q2), .second, .val (.int (0 : Int32)), .val (.ref b32)] [(.int ((q1.toInt32).toInt8.toInt32)), (.int (6 : Int32)), (.ref b32)])) rfl rfl (hb hby own_d1_192)
  have V66 : Arv Z h66 b32 k32 .byte (10 : Int32) [(.int (nar .byte ((((q1.toUInt64 >>> ((48 : Int32) &&& 0x3f).toInt64.toUInt64).toInt64).toInt32).toInt8.toInt32))), (.int (nar .byte ((((q1.toUInt64 >>> ((40 : Int32) &&& 0x3f).toInt64.toUInt64).toInt64).toInt32).toInt8.toInt32))), (.int (nar .byte ((((q1.toUInt64 >>> ((32 : Int32) &&& 0x3f).toInt64.toUInt64).toInt64).toInt32).toInt8.toInt32))), (.int (nar .byte ((((q1.toUInt64 >>> ((24 : Int32) &&& 0x3f).toInt64.toUInt64).toInt64).toInt32).toInt8.toInt32))), (.int (nar .byte ((((q1.toUInt64 >>> ((16 : Int32) &&& 0x3f).toInt64.toUInt64).toInt64).toInt32).toInt8.toInt32))), (.int (nar .byte ((((q1.toUInt64 >>> ((8 : Int32) &&& 0x3f).toInt64.toUInt64).toInt64).toInt32).toInt8.toInt32))), (.int (nar .byte ((q1.toInt32).toInt8.toInt32))), (.int (nar .byte ((((q2.toUInt64 >>> ((56 : Int32) &&& 0x3f).toInt64.toUInt64).toInt64).toInt32).toInt8.toInt32))), (.int (nar .byte ((((q2.toUInt64 >>> ((3 : Int32) &&& 0x3f).toInt64.toUInt64).toInt64).toInt32).toInt8.toInt32))), (.int (nar .byte ((((q2.toUInt64 >>> ((11 : Int32) &&& 0x3f).toInt64.toUInt64).toInt64).toInt32).toInt8.toInt32)))] (.int (0 : Int32)) := Arv.set Ar65 q65 S65 M65 H65 G65 (fits_nar_byte _) W66 6 rfl (Nat.le_of_ble_eq_true rfl)
  have K66 := K64.wr W66 (Or.inr sz_b32)
  have N66 := Fr.snoc X66 N64 gg_b32
  obtain ⟨fs, hr, hrun, hended, hW, hsame⟩ := X66.leave (v := some (.ref b32)) (fun h => by rw [Bd.returns] at h; cases h)
  refine ⟨_, _, pre0 _ ?_, hrun, hended, _, _, rfl, ?_, ⟨_, rfl⟩, hW, hsame.mono (by decide) (by decide)⟩
  · show Steps p.tables e below (s₁.setTop (mkF m 0 #[.val (.long q1), .second, .val (.long q2), .second, .val (.int (0 : Int32)), .unset] [])) _
    refine XS.bipush X0.here hx rfl (hb hby own_d1_0) ?_
    show Steps p.tables e below (s₁.setTop (mkF m 2 #[.val (.long q1), .second, .val (.long q2), .second, .val (.int (0 : Int32)), .unset] [(.int (10 : Int32))])) _
    refine st32 _ ?_
    show Steps p.tables e below (T32.setTop (mkF m 4 #[.val (.long q1), .second, .val (.long q2), .second, .val (.int (0 : Int32)), .unset] [(.ref b32)])) _
    refine XS.astore X32.here hx rfl (hb hby own_d1_4) rfl rfl (l' := #[.val (.long q1), .second, .val (.long q2), .second, .val (.int (0 : Int32)), .val (.ref b32)]) rfl ?_
    show Steps p.tables e below (T32.setTop (mkF m 6 #[.val (.long q1), .second, .val (.long q2), .second, .val (.int (0 : Int32)), .val (.ref b32)] [])) _
    refine XS.aload X32.here hx rfl (hb hby own_d1_6) rfl rfl ?_
    show Steps p.tables e below (T32.setTop (mkF m 8 #[.val (.long q1), .second, .val (.long q2), .second, .val (.int (0 : Int32)), .val (.ref b32)] [(.ref b32)])) _
    refine XS.iconst X32.here hx rfl (hb hby own_d1_8) ?_
    show Steps p.tables e below (T32.setTop (mkF m 9 #[.val (.long q1), .second, .val (.long q2), .second, .val (.int (0 : Int32)), .val (.ref b32)] [(.int (0 : Int32)), (.ref b32)])) _
    refine XS.lloadN X32.here hx rfl (hb hby own_d1_9) rfl ?_
    show Steps p.tables e below (T32.setTop (mkF m 10 #[.val (.long q1), .second, .val (.long q2), .second, .val (.int (0 : Int32)), .val (.ref b32)] [(.long q2), (.int (0 : Int32)), (.ref b32)])) _
    refine XS.l2i X32.here hx rfl (hb hby own_d1_10) rfl ?_
    show Steps p.tables e below (T32.setTop (mkF m 11 #[.val (.long q1), .second, .val (.long q2), .second, .val (.int (0 : Int32)), .val (.ref b32)] [(.int (q2.toInt32)), (.int (0 : Int32)), (.ref b32)])) _
    refine XS.i2b X32.here hx rfl (hb hby own_d1_11) rfl ?_
    show Steps p.tables e below (T32.setTop (mkF m 12 #[.val (.long q1), .second, .val (.long q2), .second, .val (.int (0 : Int32)), .val (.ref b32)] [(.int ((q2.toInt32).toInt8.toInt32)), (.int (0 : Int32)), (.ref b32)])) _
    refine st34 _ ?_
    show Steps p.tables e below (T34.setTop (mkF m 13 #[.val (.long q1), .second, .val (.long q2), .second, .val (.int (0 : Int32)), .val (.ref b32)] [])) _
    refine XS.aload X34.here hx rfl (hb hby own_d1_13) rfl rfl ?_
    show Steps p.tables e below (T34.setTop (mkF m 15 #[.val (.long q1), .second, .val (.long q2), .second, .val (.int (0 : Int32)), .val (.ref b32)] [(.ref b32)])) _
    refine XS.iconst X34.here hx rfl (hb hby own_d1_15) ?_
    show Steps p.tables e below (T34.setTop (mkF m 16 #[.val (.long q1), .second, .val (.long q2), .second, .val (.int (0 : Int32)), .val (.ref b32)] [(.int (1 : Int32)), (.ref b32)])) _
    refine XS.lloadN X34.here hx rfl (hb hby own_d1_16) rfl ?_
    show Steps p.tables e below (T34.setTop (mkF m 17 #[.val (.long q1), .second, .val (.long q2), .second, .val (.int (0 : Int32)), .val (.ref b32)] [(.long q2), (.int (1 : Int32)), (.ref b32)])) _
    refine XS.bipush X34.here hx rfl (hb hby own_d1_17) ?_
    show Steps p.tables e below (T34.setTop (mkF m 19 #[.val (.long q1), .second, .val (.long q2), .second, .val (.int (0 : Int32)), .val (.ref b32)] [(.int (8 : Int32)), (.long q2), (.int (1 : Int32)), (.ref b32)])) _
    refine XS.lushr X34.here hx rfl (hb hby own_d1_19) rfl ?_
    show Steps p.tables e below (T34.setTop (mkF m 20 #[.val (.long q1), .second, .val (.long q2), .second, .val (.int (0 : Int32)), .val (.ref b32)] [(.long ((q2.toUInt64 >>> ((8 : Int32) &&& 0x3f).toInt64.toUInt64).toInt64)), (.int (1 : Int32)), (.ref b32)])) _
    refine XS.l2i X34.here hx rfl (hb hby own_d1_20) rfl ?_
    show Steps p.tables e below (T34.setTop (mkF m 21 #[.val (.long q1), .second, .val (.long q2), .second, .val (.int (0 : Int32)), .val (.ref b32)] [(.int (((q2.toUInt64 >>> ((8 : Int32) &&& 0x3f).toInt64.toUInt64).toInt64).toInt32)), (.int (1 : Int32)), (.ref b32)])) _
    refine XS.i2b X34.here hx rfl (hb hby own_d1_21) rfl ?_
    show Steps p.tables e below (T34.setTop (mkF m 22 #[.val (.long q1), .second, .val (.long q2), .second, .val (.int (0 : Int32)), .val (.ref b32)] [(.int ((((q2.toUInt64 >>> ((8 : Int32) &&& 0x3f).toInt64.toUInt64).toInt64).toInt32).toInt8.toInt32)), (.int (1 : Int32)), (.ref b32)])) _
    refine st36 _ ?_
    show Steps p.tables e below (T36.setTop (mkF m 23 #[.val (.long q1), .second, .val (.long q2), .second, .val (.int (0 : Int32)), .val (.ref b32)] [])) _
    refine XS.aload X36.here hx rfl (hb hby own_d1_23) rfl rfl ?_
    show Steps p.tables e below (T36.setTop (mkF m 25 #[.val (.long q1), .second, .val (.long q2), .second, .val (.int (0 : Int32)), .val (.ref b32)] [(.ref b32)])) _
    refine XS.iconst X36.here hx rfl (hb hby own_d1_25) ?_
    show Steps p.tables e below (T36.setTop (mkF m 26 #[.val (.long q1), .second, .val (.long q2), .second, .val (.int (0 : Int32)), .val (.ref b32)] [(.int (2 : Int32)), (.ref b32)])) _
    refine XS.lloadN X36.here hx rfl (hb hby own_d1_26) rfl ?_
    show Steps p.tables e below (T36.setTop (mkF m 27 #[.val (.long q1), .second, .val (.long q2), .second, .val (.int (0 : Int32)), .val (.ref b32)] [(.long q2), (.int (2 : Int32)), (.ref b32)])) _
    refine XS.bipush X36.here hx rfl (hb hby own_d1_27) ?_
    show Steps p.tables e below (T36.setTop (mkF m 29 #[.val (.long q1), .second, .val (.long q2), .second, .val (.int (0 : Int32)), .val (.ref b32)] [(.int (16 : Int32)), (.long q2), (.int (2 : Int32)), (.ref b32)])) _
    refine XS.lushr X36.here hx rfl (hb hby own_d1_29) rfl ?_
    show Steps p.tables e below (T36.setTop (mkF m 30 #[.val (.long q1), .second, .val (.long q2), .second, .val (.int (0 : Int32)), .val (.ref b32)] [(.long ((q2.toUInt64 >>> ((16 : Int32) &&& 0x3f).toInt64.toUInt64).toInt64)), (.int (2 : Int32)), (.ref b32)])) _
    refine XS.l2i X36.here hx rfl (hb hby own_d1_30) rfl ?_
    show Steps p.tables e below (T36.setTop (mkF m 31 #[.val (.long q1), .second, .val (.long q2), .second, .val (.int (0 : Int32)), .val (.ref b32)] [(.int (((q2.toUInt64 >>> ((16 : Int32) &&& 0x3f).toInt64.toUInt64).toInt64).toInt32)), (.int (2 : Int32)), (.ref b32)])) _
    refine XS.i2b X36.here hx rfl (hb hby own_d1_31) rfl ?_
    show Steps p.tables e below (T36.setTop (mkF m 32 #[.val (.long q1), .second, .val (.long q2), .second, .val (.int (0 : Int32)), .val (.ref b32)] [(.int ((((q2.toUInt64 >>> ((16 : Int32) &&& 0x3f).toInt64.toUInt64).toInt64).toInt32).toInt8.toInt32)), (.int (2 : Int32)), (.ref b32)])) _
    refine st38 _ ?_
    show Steps p.tables e below (T38.setTop (mkF m 33 #[.val (.long q1), .second, .val (.long q2), .second, .val (.int (0 : Int32)), .val (.ref b32)] [])) _
    refine XS.aload X38.here hx rfl (hb hby own_d1_33) rfl rfl ?_
    show Steps p.tables e below (T38.setTop (mkF m 35 #[.val (.long q1), .second, .val (.long q2), .second, .val (.int (0 : Int32)), .val (.ref b32)] [(.ref b32)])) _
    refine XS.iconst X38.here hx rfl (hb hby own_d1_35) ?_
    show Steps p.tables e below (T38.setTop (mkF m 36 #[.val (.long q1), .second, .val (.long q2), .second, .val (.int (0 : Int32)), .val (.ref b32)] [(.int (3 : Int32)), (.ref b32)])) _
    refine XS.lloadN X38.here hx rfl (hb hby own_d1_36) rfl ?_
    show Steps p.tables e below (T38.setTop (mkF m 37 #[.val (.long q1), .second, .val (.long q2), .second, .val (.int (0 : Int32)), .val (.ref b32)] [(.long q2), (.int (3 : Int32)), (.ref b32)])) _
    refine XS.bipush X38.here hx rfl (hb hby own_d1_37) ?_
    show Steps p.tables e below (T38.setTop (mkF m 39 #[.val (.long q1), .second, .val (.long q2), .second, .val (.int (0 : Int32)), .val (.ref b32)] [(.int (24 : Int32)), (.long q2), (.int (3 : Int32)), (.ref b32)])) _
    refine XS.lushr X38.here hx rfl (hb hby own_d1_39) rfl ?_
    show Steps p.tables e below (T38.setTop (mkF m 40 #[.val (.long q1), .second, .val (.long q2), .second, .val (.int (0 : Int32)), .val (.ref b32)] [(.long ((q2.toUInt64 >>> ((24 : Int32) &&& 0x3f).toInt64.toUInt64).toInt64)), (.int (3 : Int32)), (.ref b32)])) _
    refine XS.l2i X38.here hx rfl (hb hby own_d1_40) rfl ?_
    show Steps p.tables e below (T38.setTop (mkF m 41 #[.val (.long q1), .second, .val (.long q2), .second, .val (.int (0 : Int32)), .val (.ref b32)] [(.int (((q2.toUInt64 >>> ((24 : Int32) &&& 0x3f).toInt64.toUInt64).toInt64).toInt32)), (.int (3 : Int32)), (.ref b32)])) _
    refine XS.i2b X38.here hx rfl (hb hby own_d1_41) rfl ?_
    show Steps p.tables e below (T38.setTop (mkF m 42 #[.val (.long q1), .second, .val (.long q2), .second, .val (.int (0 : Int32)), .val (.ref b32)] [(.int ((((q2.toUInt64 >>> ((24 : Int32) &&& 0x3f).toInt64.toUInt64).toInt64).toInt32).toInt8.toInt32)), (.int (3 : Int32)), (.ref b32)])) _
    refine st40 _ ?_
    show Steps p.tables e below (T40.setTop (mkF m 43 #[.val (.long q1), .second, .val (.long q2), .second, .val (.int (0 : Int32)), .val (.ref b32)] [])) _
    refine XS.aload X40.here hx rfl (hb hby own_d1_43) rfl rfl ?_
    show Steps p.tables e below (T40.setTop (mkF m 45 #[.val (.long q1), .second, .val (.long q2), .second, .val (.int (0 : Int32)), .val (.ref b32)] [(.ref b32)])) _
    refine XS.iconst X40.here hx rfl (hb hby own_d1_45) ?_
    show Steps p.tables e below (T40.setTop (mkF m 46 #[.val (.long q1), .second, .val (.long q2), .second, .val (.int (0 : Int32)), .val (.ref b32)] [(.int (4 : Int32)), (.ref b32)])) _
    refine XS.lloadN X40.here hx rfl (hb hby own_d1_46) rfl ?_
    show Steps p.tables e below (T40.setTop (mkF m 47 #[.val (.long q1), .second, .val (.long q2), .second, .val (.int (0 : Int32)), .val (.ref b32)] [(.long q2), (.int (4 : Int32)), (.ref b32)])) _
    refine XS.bipush X40.here hx rfl (hb hby own_d1_47) ?_
    show Steps p.tables e below (T40.setTop (mkF m 49 #[.val (.long q1), .second, .val (.long q2), .second, .val (.int (0 : Int32)), .val (.ref b32)] [(.int (32 : Int32)), (.long q2), (.int (4 : Int32)), (.ref b32)])) _
    refine XS.lushr X40.here hx rfl (hb hby own_d1_49) rfl ?_
    show Steps p.tables e below (T40.setTop (mkF m 50 #[.val (.long q1), .second, .val (.long q2), .second, .val (.int (0 : Int32)), .val (.ref b32)] [(.long ((q2.toUInt64 >>> ((32 : Int32) &&& 0x3f).toInt64.toUInt64).toInt64)), (.int (4 : Int32)), (.ref b32)])) _
    refine XS.l2i X40.here hx rfl (hb hby own_d1_50) rfl ?_
    show Steps p.tables e below (T40.setTop (mkF m 51 #[.val (.long q1), .second, .val (.long q2), .second, .val (.int (0 : Int32)), .val (.ref b32)] [(.int (((q2.toUInt64 >>> ((32 : Int32) &&& 0x3f).toInt64.toUInt64).toInt64).toInt32)), (.int (4 : Int32)), (.ref b32)])) _
    refine XS.i2b X40.here hx rfl (hb hby own_d1_51) rfl ?_
    show Steps p.tables e below (T40.setTop (mkF m 52 #[.val (.long q1), .second, .val (.long q2), .second, .val (.int (0 : Int32)), .val (.ref b32)] [(.int ((((q2.toUInt64 >>> ((32 : Int32) &&& 0x3f).toInt64.toUInt64).toInt64).toInt32).toInt8.toInt32)), (.int (4 : Int32)), (.ref b32)])) _
    refine st42 _ ?_
    show Steps p.tables e below (T42.setTop (mkF m 53 #[.val (.long q1), .second, .val (.long q2), .second, .val (.int (0 : Int32)), .val (.ref b32)] [])) _
    refine XS.aload X42.here hx rfl (hb hby own_d1_53) rfl rfl ?_
    show Steps p.tables e below (T42.setTop (mkF m 55 #[.val (.long q1), .second, .val (.long q2), .second, .val (.int (0 : Int32)), .val (.ref b32)] [(.ref b32)])) _
    refine XS.iconst X42.here hx rfl (hb hby own_d1_55) ?_
    show Steps p.tables e below (T42.setTop (mkF m 56 #[.val (.long q1), .second, .val (.long q2), .second, .val (.int (0 : Int32)), .val (.ref b32)] [(.int (5 : Int32)), (.ref b32)])) _
    refine XS.lloadN X42.here hx rfl (hb hby own_d1_56) rfl ?_
    show Steps p.tables e below (T42.setTop (mkF m 57 #[.val (.long q1), .second, .val (.long q2), .second, .val (.int (0 : Int32)), .val (.ref b32)] [(.long q2), (.int (5 : Int32)), (.ref b32)])) _
    refine XS.bipush X42.here hx rfl (hb hby own_d1_57) ?_
    show Steps p.tables e below (T42.setTop (mkF m 59 #[.val (.long q1), .second, .val (.long q2), .second, .val (.int (0 : Int32)), .val (.ref b32)] [(.int (40 : Int32)), (.long q2), (.int (5 : Int32)), (.ref b32)])) _
    refine XS.lushr X42.here hx rfl (hb hby own_d1_59) rfl ?_
    show Steps p.tables e below (T42.setTop (mkF m 60 #[.val (.long q1), .second, .val (.long q2), .second, .val (.int (0 : Int32)), .val (.ref b32)] [(.long ((q2.toUInt64 >>> ((40 : Int32) &&& 0x3f).toInt64.toUInt64).toInt64)), (.int (5 : Int32)), (.ref b32)])) _
    refine XS.l2i X42.here hx rfl (hb hby own_d1_60) rfl ?_
    show Steps p.tables e below (T42.setTop (mkF m 61 #[.val (.long q1), .second, .val (.long q2), .second, .val (.int (0 : Int32)), .val (.ref b32)] [(.int (((q2.toUInt64 >>> ((40 : Int32) &&& 0x3f).toInt64.toUInt64).toInt64).toInt32)), (.int (5 : Int32)), (.ref b32)])) _
    refine XS.i2b X42.here hx rfl (hb hby own_d1_61) rfl ?_
    show Steps p.tables e below (T42.setTop (mkF m 62 #[.val (.long q1), .second, .val (.long q2), .second, .val (.int (0 : Int32)), .val (.ref b32)] [(.int ((((q2.toUInt64 >>> ((40 : Int32) &&& 0x3f).toInt64.toUInt64).toInt64).toInt32).toInt8.toInt32)), (.int (5 : Int32)), (.ref b32)])) _
    refine st44 _ ?_
    show Steps p.tables e below (T44.setTop (mkF m 63 #[.val (.long q1), .second, .val (.long q2), .second, .val (.int (0 : Int32)), .val (.ref b32)] [])) _
    refine XS.aload X44.here hx rfl (hb hby own_d1_63) rfl rfl ?_
    show Steps p.tables e below (T44.setTop (mkF m 65 #[.val (.long q1), .second, .val (.long q2), .second, .val (.int (0 : Int32)), .val (.ref b32)] [(.ref b32)])) _
    refine XS.bipush X44.here hx rfl (hb hby own_d1_65) ?_
    show Steps p.tables e below (T44.setTop (mkF m 67 #[.val (.long q1), .second, .val (.long q2), .second, .val (.int (0 : Int32)), .val (.ref b32)] [(.int (6 : Int32)), (.ref b32)])) _
    refine XS.lloadN X44.here hx rfl (hb hby own_d1_67) rfl ?_
    show Steps p.tables e below (T44.setTop (mkF m 68 #[.val (.long q1), .second, .val (.long q2), .second, .val (.int (0 : Int32)), .val (.ref b32)] [(.long q2), (.int (6 : Int32)), (.ref b32)])) _
    refine XS.bipush X44.here hx rfl (hb hby own_d1_68) ?_
    show Steps p.tables e below (T44.setTop (mkF m 70 #[.val (.long q1), .second, .val (.long q2), .second, .val (.int (0 : Int32)), .val (.ref b32)] [(.int (48 : Int32)), (.long q2), (.int (6 : Int32)), (.ref b32)])) _
    refine XS.lushr X44.here hx rfl (hb hby own_d1_70) rfl ?_
    show Steps p.tables e below (T44.setTop (mkF m 71 #[.val (.long q1), .second, .val (.long q2), .second, .val (.int (0 : Int32)), .val (.ref b32)] [(.long ((q2.toUInt64 >>> ((48 : Int32) &&& 0x3f).toInt64.toUInt64).toInt64)), (.int (6 : Int32)), (.ref b32)])) _
    refine XS.l2i X44.here hx rfl (hb hby own_d1_71) rfl ?_
    show Steps p.tables e below (T44.setTop (mkF m 72 #[.val (.long q1), .second, .val (.long q2), .second, .val (.int (0 : Int32)), .val (.ref b32)] [(.int (((q2.toUInt64 >>> ((48 : Int32) &&& 0x3f).toInt64.toUInt64).toInt64).toInt32)), (.int (6 : Int32)), (.ref b32)])) _
    refine XS.i2b X44.here hx rfl (hb hby own_d1_72) rfl ?_
    show Steps p.tables e below (T44.setTop (mkF m 73 #[.val (.long q1), .second, .val (.long q2), .second, .val (.int (0 : Int32)), .val (.ref b32)] [(.int ((((q2.toUInt64 >>> ((48 : Int32) &&& 0x3f).toInt64.toUInt64).toInt64).toInt32).toInt8.toInt32)), (.int (6 : Int32)), (.ref b32)])) _
    refine st46 _ ?_
    show Steps p.tables e below (T46.setTop (mkF m 74 #[.val (.long q1), .second, .val (.long q2), .second, .val (.int (0 : Int32)), .val (.ref b32)] [])) _
    refine XS.aload X46.here hx rfl (hb hby own_d1_74) rfl rfl ?_
    show Steps p.tables e below (T46.setTop (mkF m 76 #[.val (.long q1), .second, .val (.long q2), .second, .val (.int (0 : Int32)), .val (.ref b32)] [(.ref b32)])) _
    refine XS.bipush X46.here hx rfl (hb hby own_d1_76) ?_
    show Steps p.tables e below (T46.setTop (mkF m 78 #[.val (.long q1), .second, .val (.long q2), .second, .val (.int (0 : Int32)), .val (.ref b32)] [(.int (7 : Int32)), (.ref b32)])) _
    refine XS.lloadN X46.here hx rfl (hb hby own_d1_78) rfl ?_
    show Steps p.tables e below (T46.setTop (mkF m 79 #[.val (.long q1), .second, .val (.long q2), .second, .val (.int (0 : Int32)), .val (.ref b32)] [(.long q2), (.int (7 : Int32)), (.ref b32)])) _
    refine XS.bipush X46.here hx rfl (hb hby own_d1_79) ?_
    show Steps p.tables e below (T46.setTop (mkF m 81 #[.val (.long q1), .second, .val (.long q2), .second, .val (.int (0 : Int32)), .val (.ref b32)] [(.int (56 : Int32)), (.long q2), (.int (7 : Int32)), (.ref b32)])) _
    refine XS.lushr X46.here hx rfl (hb hby own_d1_81) rfl ?_
    show Steps p.tables e below (T46.setTop (mkF m 82 #[.val (.long q1), .second, .val (.long q2), .second, .val (.int (0 : Int32)), .val (.ref b32)] [(.long ((q2.toUInt64 >>> ((56 : Int32) &&& 0x3f).toInt64.toUInt64).toInt64)), (.int (7 : Int32)), (.ref b32)])) _
    refine XS.l2i X46.here hx rfl (hb hby own_d1_82) rfl ?_
    show Steps p.tables e below (T46.setTop (mkF m 83 #[.val (.long q1), .second, .val (.long q2), .second, .val (.int (0 : Int32)), .val (.ref b32)] [(.int (((q2.toUInt64 >>> ((56 : Int32) &&& 0x3f).toInt64.toUInt64).toInt64).toInt32)), (.int (7 : Int32)), (.ref b32)])) _
    refine XS.i2b X46.here hx rfl (hb hby own_d1_83) rfl ?_
    show Steps p.tables e below (T46.setTop (mkF m 84 #[.val (.long q1), .second, .val (.long q2), .second, .val (.int (0 : Int32)), .val (.ref b32)] [(.int ((((q2.toUInt64 >>> ((56 : Int32) &&& 0x3f).toInt64.toUInt64).toInt64).toInt32).toInt8.toInt32)), (.int (7 : Int32)), (.ref b32)])) _
    refine st48 _ ?_
    show Steps p.tables e below (T48.setTop (mkF m 85 #[.val (.long q1), .second, .val (.long q2), .second, .val (.int (0 : Int32)), .val (.ref b32)] [])) _
    refine XS.aload X48.here hx rfl (hb hby own_d1_85) rfl rfl ?_
    show Steps p.tables e below (T48.setTop (mkF m 87 #[.val (.long q1), .second, .val (.long q2), .second, .val (.int (0 : Int32)), .val (.ref b32)] [(.ref b32)])) _
    refine XS.bipush X48.here hx rfl (hb hby own_d1_87) ?_
    show Steps p.tables e below (T48.setTop (mkF m 89 #[.val (.long q1), .second, .val (.long q2), .second, .val (.int (0 : Int32)), .val (.ref b32)] [(.int (8 : Int32)), (.ref b32)])) _
    refine XS.lloadN X48.here hx rfl (hb hby own_d1_89) rfl ?_
    show Steps p.tables e below (T48.setTop (mkF m 90 #[.val (.long q1), .second, .val (.long q2), .second, .val (.int (0 : Int32)), .val (.ref b32)] [(.long q2), (.int (8 : Int32)), (.ref b32)])) _
    refine XS.iconst X48.here hx rfl (hb hby own_d1_90) ?_
    show Steps p.tables e below (T48.setTop (mkF m 91 #[.val (.long q1), .second, .val (.long q2), .second, .val (.int (0 : Int32)), .val (.ref b32)] [(.int (3 : Int32)), (.long q2), (.int (8 : Int32)), (.ref b32)])) _
    refine XS.lushr X48.here hx rfl (hb hby own_d1_91) rfl ?_
    show Steps p.tables e below (T48.setTop (mkF m 92 #[.val (.long q1), .second, .val (.long q2), .second, .val (.int (0 : Int32)), .val (.ref b32)] [(.long ((q2.toUInt64 >>> ((3 : Int32) &&& 0x3f).toInt64.toUInt64).toInt64)), (.int (8 : Int32)), (.ref b32)])) _
    refine XS.l2i X48.here hx rfl (hb hby own_d1_92) rfl ?_
    show Steps p.tables e below (T48.setTop (mkF m 93 #[.val (.long q1), .second, .val (.long q2), .second, .val (.int (0 : Int32)), .val (.ref b32)] [(.int (((q2.toUInt64 >>> ((3 : Int32) &&& 0x3f).toInt64.toUInt64).toInt64).toInt32)), (.int (8 : Int32)), (.ref b32)])) _
    refine XS.i2b X48.here hx rfl (hb hby own_d1_93) rfl ?_
    show Steps p.tables e below (T48.setTop (mkF m 94 #[.val (.long q1), .second, .val (.long q2), .second, .val (.int (0 : Int32)), .val (.ref b32)] [(.int ((((q2.toUInt64 >>> ((3 : Int32) &&& 0x3f).toInt64.toUInt64).toInt64).toInt32).toInt8.toInt32)), (.int (8 : Int32)), (.ref b32)])) _
    refine st50 _ ?_
    show Steps p.tables e below (T50.setTop (mkF m 95 #[.val (.long q1), .second, .val (.long q2), .second, .val (.int (0 : Int32)), .val (.ref b32)] [])) _
    refine XS.aload X50.here hx rfl (hb hby own_d1_95) rfl rfl ?_
    show Steps p.tables e below (T50.setTop (mkF m 97 #[.val (.long q1), .second, .val (.long q2), .second, .val (.int (0 : Int32)), .val (.ref b32)] [(.ref b32)])) _
    refine XS.bipush X50.here hx rfl (hb hby own_d1_97) ?_
    show Steps p.tables e below (T50.setTop (mkF m 99 #[.val (.long q1), .second, .val (.long q2), .second, .val (.int (0 : Int32)), .val (.ref b32)] [(.int (9 : Int32)), (.ref b32)])) _
    refine XS.lloadN X50.here hx rfl (hb hby own_d1_99) rfl ?_
    show Steps p.tables e below (T50.setTop (mkF m 100 #[.val (.long q1), .second, .val (.long q2), .second, .val (.int (0 : Int32)), .val (.ref b32)] [(.long q2), (.int (9 : Int32)), (.ref b32)])) _
    refine XS.bipush X50.here hx rfl (hb hby own_d1_100) ?_
    show Steps p.tables e below (T50.setTop (mkF m 102 #[.val (.long q1), .second, .val (.long q2), .second, .val (.int (0 : Int32)), .val (.ref b32)] [(.int (11 : Int32)), (.long q2), (.int (9 : Int32)), (.ref b32)])) _
    refine XS.lushr X50.here hx rfl (hb hby own_d1_102) rfl ?_
    show Steps p.tables e below (T50.setTop (mkF m 103 #[.val (.long q1), .second, .val (.long q2), .second, .val (.int (0 : Int32)), .val (.ref b32)] [(.long ((q2.toUInt64 >>> ((11 : Int32) &&& 0x3f).toInt64.toUInt64).toInt64)), (.int (9 : Int32)), (.ref b32)])) _
    refine XS.l2i X50.here hx rfl (hb hby own_d1_103) rfl ?_
    show Steps p.tables e below (T50.setTop (mkF m 104 #[.val (.long q1), .second, .val (.long q2), .second, .val (.int (0 : Int32)), .val (.ref b32)] [(.int (((q2.toUInt64 >>> ((11 : Int32) &&& 0x3f).toInt64.toUInt64).toInt64).toInt32)), (.int (9 : Int32)), (.ref b32)])) _
    refine XS.i2b X50.here hx rfl (hb hby own_d1_104) rfl ?_
    show Steps p.tables e below (T50.setTop (mkF m 105 #[.val (.long q1), .second, .val (.long q2), .second, .val (.int (0 : Int32)), .val (.ref b32)] [(.int ((((q2.toUInt64 >>> ((11 : Int32) &&& 0x3f).toInt64.toUInt64).toInt64).toInt32).toInt8.toInt32)), (.int (9 : Int32)), (.ref b32)])) _
    refine st52 _ ?_
    show Steps p.tables e below (T52.setTop (mkF m 106 #[.val (.long q1), .second, .val (.long q2), .second, .val (.int (0 : Int32)), .val (.ref b32)] [])) _
    refine XS.aload X52.here hx rfl (hb hby own_d1_106) rfl rfl ?_
    show Steps p.tables e below (T52.setTop (mkF m 108 #[.val (.long q1), .second, .val (.long q2), .second, .val (.int (0 : Int32)), .val (.ref b32)] [(.ref b32)])) _
    refine XS.iload X52.here hx rfl (hb hby own_d1_108) rfl ?_
    show Steps p.tables e below (T52.setTop (mkF m 110 #[.val (.long q1), .second, .val (.long q2), .second, .val (.int (0 : Int32)), .val (.ref b32)] [(.int (0 : Int32)), (.ref b32)])) _
    refine XS.lloadN X52.here hx rfl (hb hby own_d1_110) rfl ?_
    show Steps p.tables e below (T52.setTop (mkF m 111 #[.val (.long q1), .second, .val (.long q2), .second, .val (.int (0 : Int32)), .val (.ref b32)] [(.long q1), (.int (0 : Int32)), (.ref b32)])) _
    refine XS.bipush X52.here hx rfl (hb hby own_d1_111) ?_
    show Steps p.tables e below (T52.setTop (mkF m 113 #[.val (.long q1), .second, .val (.long q2), .second, .val (.int (0 : Int32)), .val (.ref b32)] [(.int (48 : Int32)), (.long q1), (.int (0 : Int32)), (.ref b32)])) _
    refine XS.lushr X52.here hx rfl (hb hby own_d1_113) rfl ?_
    show Steps p.tables e below (T52.setTop (mkF m 114 #[.val (.long q1), .second, .val (.long q2), .second, .val (.int (0 : Int32)), .val (.ref b32)] [(.long ((q1.toUInt64 >>> ((48 : Int32) &&& 0x3f).toInt64.toUInt64).toInt64)), (.int (0 : Int32)), (.ref b32)])) _
    refine XS.l2i X52.here hx rfl (hb hby own_d1_114) rfl ?_
    show Steps p.tables e below (T52.setTop (mkF m 115 #[.val (.long q1), .second, .val (.long q2), .second, .val (.int (0 : Int32)), .val (.ref b32)] [(.int (((q1.toUInt64 >>> ((48 : Int32) &&& 0x3f).toInt64.toUInt64).toInt64).toInt32)), (.int (0 : Int32)), (.ref b32)])) _
    refine XS.i2b X52.here hx rfl (hb hby own_d1_115) rfl ?_
    show Steps p.tables e below (T52.setTop (mkF m 116 #[.val (.long q1), .second, .val (.long q2), .second, .val (.int (0 : Int32)), .val (.ref b32)] [(.int ((((q1.toUInt64 >>> ((48 : Int32) &&& 0x3f).toInt64.toUInt64).toInt64).toInt32).toInt8.toInt32)), (.int (0 : Int32)), (.ref b32)])) _
    refine st54 _ ?_
    show Steps p.tables e below (T54.setTop (mkF m 117 #[.val (.long q1), .second, .val (.long q2), .second, .val (.int (0 : Int32)), .val (.ref b32)] [])) _
    refine XS.aload X54.here hx rfl (hb hby own_d1_117) rfl rfl ?_
    show Steps p.tables e below (T54.setTop (mkF m 119 #[.val (.long q1), .second, .val (.long q2), .second, .val (.int (0 : Int32)), .val (.ref b32)] [(.ref b32)])) _
    refine XS.iload X54.here hx rfl (hb hby own_d1_119) rfl ?_
    show Steps p.tables e below (T54.setTop (mkF m 121 #[.val (.long q1), .second, .val (.long q2), .second, .val (.int (0 : Int32)), .val (.ref b32)] [(.int (0 : Int32)), (.ref b32)])) _
    refine XS.iconst X54.here hx rfl (hb hby own_d1_121) ?_
    show Steps p.tables e below (T54.setTop (mkF m 122 #[.val (.long q1), .second, .val (.long q2), .second, .val (.int (0 : Int32)), .val (.ref b32)] [(.int (1 : Int32)), (.int (0 : Int32)), (.ref b32)])) _
    refine XS.iadd X54.here hx rfl (hb hby own_d1_122) rfl ?_
    show Steps p.tables e below (T54.setTop (mkF m 123 #[.val (.long q1), .second, .val (.long q2), .second, .val (.int (0 : Int32)), .val (.ref b32)] [(.int (1 : Int32)), (.ref b32)])) _
    refine XS.lloadN X54.here hx rfl (hb hby own_d1_123) rfl ?_
    show Steps p.tables e below (T54.setTop (mkF m 124 #[.val (.long q1), .second, .val (.long q2), .second, .val (.int (0 : Int32)), .val (.ref b32)] [(.long q1), (.int (1 : Int32)), (.ref b32)])) _
    refine XS.bipush X54.here hx rfl (hb hby own_d1_124) ?_
    show Steps p.tables e below (T54.setTop (mkF m 126 #[.val (.long q1), .second, .val (.long q2), .second, .val (.int (0 : Int32)), .val (.ref b32)] [(.int (40 : Int32)), (.long q1), (.int (1 : Int32)), (.ref b32)])) _
    refine XS.lushr X54.here hx rfl (hb hby own_d1_126) rfl ?_
    show Steps p.tables e below (T54.setTop (mkF m 127 #[.val (.long q1), .second, .val (.long q2), .second, .val (.int (0 : Int32)), .val (.ref b32)] [(.long ((q1.toUInt64 >>> ((40 : Int32) &&& 0x3f).toInt64.toUInt64).toInt64)), (.int (1 : Int32)), (.ref b32)])) _
    refine XS.l2i X54.here hx rfl (hb hby own_d1_127) rfl ?_
    show Steps p.tables e below (T54.setTop (mkF m 128 #[.val (.long q1), .second, .val (.long q2), .second, .val (.int (0 : Int32)), .val (.ref b32)] [(.int (((q1.toUInt64 >>> ((40 : Int32) &&& 0x3f).toInt64.toUInt64).toInt64).toInt32)), (.int (1 : Int32)), (.ref b32)])) _
    refine XS.i2b X54.here hx rfl (hb hby own_d1_128) rfl ?_
    show Steps p.tables e below (T54.setTop (mkF m 129 #[.val (.long q1), .second, .val (.long q2), .second, .val (.int (0 : Int32)), .val (.ref b32)] [(.int ((((q1.toUInt64 >>> ((40 : Int32) &&& 0x3f).toInt64.toUInt64).toInt64).toInt32).toInt8.toInt32)), (.int (1 : Int32)), (.ref b32)])) _
    refine st56 _ ?_
    show Steps p.tables e below (T56.setTop (mkF m 130 #[.val (.long q1), .second, .val (.long q2), .second, .val (.int (0 : Int32)), .val (.ref b32)] [])) _
    refine XS.aload X56.here hx rfl (hb hby own_d1_130) rfl rfl ?_
    show Steps p.tables e below (T56.setTop (mkF m 132 #[.val (.long q1), .second, .val (.long q2), .second, .val (.int (0 : Int32)), .val (.ref b32)] [(.ref b32)])) _
    refine XS.iload X56.here hx rfl (hb hby own_d1_132) rfl ?_
    show Steps p.tables e below (T56.setTop (mkF m 134 #[.val (.long q1), .second, .val (.long q2), .second, .val (.int (0 : Int32)), .val (.ref b32)] [(.int (0 : Int32)), (.ref b32)])) _
    refine XS.iconst X56.here hx rfl (hb hby own_d1_134) ?_
    show Steps p.tables e below (T56.setTop (mkF m 135 #[.val (.long q1), .second, .val (.long q2), .second, .val (.int (0 : Int32)), .val (.ref b32)] [(.int (2 : Int32)), (.int (0 : Int32)), (.ref b32)])) _
    refine XS.iadd X56.here hx rfl (hb hby own_d1_135) rfl ?_
    show Steps p.tables e below (T56.setTop (mkF m 136 #[.val (.long q1), .second, .val (.long q2), .second, .val (.int (0 : Int32)), .val (.ref b32)] [(.int (2 : Int32)), (.ref b32)])) _
    refine XS.lloadN X56.here hx rfl (hb hby own_d1_136) rfl ?_
    show Steps p.tables e below (T56.setTop (mkF m 137 #[.val (.long q1), .second, .val (.long q2), .second, .val (.int (0 : Int32)), .val (.ref b32)] [(.long q1), (.int (2 : Int32)), (.ref b32)])) _
    refine XS.bipush X56.here hx rfl (hb hby own_d1_137) ?_
    show Steps p.tables e below (T56.setTop (mkF m 139 #[.val (.long q1), .second, .val (.long q2), .second, .val (.int (0 : Int32)), .val (.ref b32)] [(.int (32 : Int32)), (.long q1), (.int (2 : Int32)), (.ref b32)])) _
    refine XS.lushr X56.here hx rfl (hb hby own_d1_139) rfl ?_
    show Steps p.tables e below (T56.setTop (mkF m 140 #[.val (.long q1), .second, .val (.long q2), .second, .val (.int (0 : Int32)), .val (.ref b32)] [(.long ((q1.toUInt64 >>> ((32 : Int32) &&& 0x3f).toInt64.toUInt64).toInt64)), (.int (2 : Int32)), (.ref b32)])) _
    refine XS.l2i X56.here hx rfl (hb hby own_d1_140) rfl ?_
    show Steps p.tables e below (T56.setTop (mkF m 141 #[.val (.long q1), .second, .val (.long q2), .second, .val (.int (0 : Int32)), .val (.ref b32)] [(.int (((q1.toUInt64 >>> ((32 : Int32) &&& 0x3f).toInt64.toUInt64).toInt64).toInt32)), (.int (2 : Int32)), (.ref b32)])) _
    refine XS.i2b X56.here hx rfl (hb hby own_d1_141) rfl ?_
    show Steps p.tables e below (T56.setTop (mkF m 142 #[.val (.long q1), .second, .val (.long q2), .second, .val (.int (0 : Int32)), .val (.ref b32)] [(.int ((((q1.toUInt64 >>> ((32 : Int32) &&& 0x3f).toInt64.toUInt64).toInt64).toInt32).toInt8.toInt32)), (.int (2 : Int32)), (.ref b32)])) _
    refine st58 _ ?_
    show Steps p.tables e below (T58.setTop (mkF m 143 #[.val (.long q1), .second, .val (.long q2), .second, .val (.int (0 : Int32)), .val (.ref b32)] [])) _
    refine XS.aload X58.here hx rfl (hb hby own_d1_143) rfl rfl ?_
    show Steps p.tables e below (T58.setTop (mkF m 145 #[.val (.long q1), .second, .val (.long q2), .second, .val (.int (0 : Int32)), .val (.ref b32)] [(.ref b32)])) _
    refine XS.iload X58.here hx rfl (hb hby own_d1_145) rfl ?_
    show Steps p.tables e below (T58.setTop (mkF m 147 #[.val (.long q1), .second, .val (.long q2), .second, .val (.int (0 : Int32)), .val (.ref b32)] [(.int (0 : Int32)), (.ref b32)])) _
    refine XS.iconst X58.here hx rfl (hb hby own_d1_147) ?_
    show Steps p.tables e below (T58.setTop (mkF m 148 #[.val (.long q1), .second, .val (.long q2), .second, .val (.int (0 : Int32)), .val (.ref b32)] [(.int (3 : Int32)), (.int (0 : Int32)), (.ref b32)])) _
    refine XS.iadd X58.here hx rfl (hb hby own_d1_148) rfl ?_
    show Steps p.tables e below (T58.setTop (mkF m 149 #[.val (.long q1), .second, .val (.long q2), .second, .val (.int (0 : Int32)), .val (.ref b32)] [(.int (3 : Int32)), (.ref b32)])) _
    refine XS.lloadN X58.here hx rfl (hb hby own_d1_149) rfl ?_
    show Steps p.tables e below (T58.setTop (mkF m 150 #[.val (.long q1), .second, .val (.long q2), .second, .val (.int (0 : Int32)), .val (.ref b32)] [(.long q1), (.int (3 : Int32)), (.ref b32)])) _
    refine XS.bipush X58.here hx rfl (hb hby own_d1_150) ?_
    show Steps p.tables e below (T58.setTop (mkF m 152 #[.val (.long q1), .second, .val (.long q2), .second, .val (.int (0 : Int32)), .val (.ref b32)] [(.int (24 : Int32)), (.long q1), (.int (3 : Int32)), (.ref b32)])) _
    refine XS.lushr X58.here hx rfl (hb hby own_d1_152) rfl ?_
    show Steps p.tables e below (T58.setTop (mkF m 153 #[.val (.long q1), .second, .val (.long q2), .second, .val (.int (0 : Int32)), .val (.ref b32)] [(.long ((q1.toUInt64 >>> ((24 : Int32) &&& 0x3f).toInt64.toUInt64).toInt64)), (.int (3 : Int32)), (.ref b32)])) _
    refine XS.l2i X58.here hx rfl (hb hby own_d1_153) rfl ?_
    show Steps p.tables e below (T58.setTop (mkF m 154 #[.val (.long q1), .second, .val (.long q2), .second, .val (.int (0 : Int32)), .val (.ref b32)] [(.int (((q1.toUInt64 >>> ((24 : Int32) &&& 0x3f).toInt64.toUInt64).toInt64).toInt32)), (.int (3 : Int32)), (.ref b32)])) _
    refine XS.i2b X58.here hx rfl (hb hby own_d1_154) rfl ?_
    show Steps p.tables e below (T58.setTop (mkF m 155 #[.val (.long q1), .second, .val (.long q2), .second, .val (.int (0 : Int32)), .val (.ref b32)] [(.int ((((q1.toUInt64 >>> ((24 : Int32) &&& 0x3f).toInt64.toUInt64).toInt64).toInt32).toInt8.toInt32)), (.int (3 : Int32)), (.ref b32)])) _
    refine st60 _ ?_
    show Steps p.tables e below (T60.setTop (mkF m 156 #[.val (.long q1), .second, .val (.long q2), .second, .val (.int (0 : Int32)), .val (.ref b32)] [])) _
    refine XS.aload X60.here hx rfl (hb hby own_d1_156) rfl rfl ?_
    show Steps p.tables e below (T60.setTop (mkF m 158 #[.val (.long q1), .second, .val (.long q2), .second, .val (.int (0 : Int32)), .val (.ref b32)] [(.ref b32)])) _
    refine XS.iload X60.here hx rfl (hb hby own_d1_158) rfl ?_
    show Steps p.tables e below (T60.setTop (mkF m 160 #[.val (.long q1), .second, .val (.long q2), .second, .val (.int (0 : Int32)), .val (.ref b32)] [(.int (0 : Int32)), (.ref b32)])) _
    refine XS.iconst X60.here hx rfl (hb hby own_d1_160) ?_
    show Steps p.tables e below (T60.setTop (mkF m 161 #[.val (.long q1), .second, .val (.long q2), .second, .val (.int (0 : Int32)), .val (.ref b32)] [(.int (4 : Int32)), (.int (0 : Int32)), (.ref b32)])) _
    refine XS.iadd X60.here hx rfl (hb hby own_d1_161) rfl ?_
    show Steps p.tables e below (T60.setTop (mkF m 162 #[.val (.long q1), .second, .val (.long q2), .second, .val (.int (0 : Int32)), .val (.ref b32)] [(.int (4 : Int32)), (.ref b32)])) _
    refine XS.lloadN X60.here hx rfl (hb hby own_d1_162) rfl ?_
    show Steps p.tables e below (T60.setTop (mkF m 163 #[.val (.long q1), .second, .val (.long q2), .second, .val (.int (0 : Int32)), .val (.ref b32)] [(.long q1), (.int (4 : Int32)), (.ref b32)])) _
    refine XS.bipush X60.here hx rfl (hb hby own_d1_163) ?_
    show Steps p.tables e below (T60.setTop (mkF m 165 #[.val (.long q1), .second, .val (.long q2), .second, .val (.int (0 : Int32)), .val (.ref b32)] [(.int (16 : Int32)), (.long q1), (.int (4 : Int32)), (.ref b32)])) _
    refine XS.lushr X60.here hx rfl (hb hby own_d1_165) rfl ?_
    show Steps p.tables e below (T60.setTop (mkF m 166 #[.val (.long q1), .second, .val (.long q2), .second, .val (.int (0 : Int32)), .val (.ref b32)] [(.long ((q1.toUInt64 >>> ((16 : Int32) &&& 0x3f).toInt64.toUInt64).toInt64)), (.int (4 : Int32)), (.ref b32)])) _
    refine XS.l2i X60.here hx rfl (hb hby own_d1_166) rfl ?_
    show Steps p.tables e below (T60.setTop (mkF m 167 #[.val (.long q1), .second, .val (.long q2), .second, .val (.int (0 : Int32)), .val (.ref b32)] [(.int (((q1.toUInt64 >>> ((16 : Int32) &&& 0x3f).toInt64.toUInt64).toInt64).toInt32)), (.int (4 : Int32)), (.ref b32)])) _
    refine XS.i2b X60.here hx rfl (hb hby own_d1_167) rfl ?_
    show Steps p.tables e below (T60.setTop (mkF m 168 #[.val (.long q1), .second, .val (.long q2), .second, .val (.int (0 : Int32)), .val (.ref b32)] [(.int ((((q1.toUInt64 >>> ((16 : Int32) &&& 0x3f).toInt64.toUInt64).toInt64).toInt32).toInt8.toInt32)), (.int (4 : Int32)), (.ref b32)])) _
    refine st62 _ ?_
    show Steps p.tables e below (T62.setTop (mkF m 169 #[.val (.long q1), .second, .val (.long q2), .second, .val (.int (0 : Int32)), .val (.ref b32)] [])) _
    refine XS.aload X62.here hx rfl (hb hby own_d1_169) rfl rfl ?_
    show Steps p.tables e below (T62.setTop (mkF m 171 #[.val (.long q1), .second, .val (.long q2), .second, .val (.int (0 : Int32)), .val (.ref b32)] [(.ref b32)])) _
    refine XS.iload X62.here hx rfl (hb hby own_d1_171) rfl ?_
    show Steps p.tables e below (T62.setTop (mkF m 173 #[.val (.long q1), .second, .val (.long q2), .second, .val (.int (0 : Int32)), .val (.ref b32)] [(.int (0 : Int32)), (.ref b32)])) _
    refine XS.iconst X62.here hx rfl (hb hby own_d1_173) ?_
    show Steps p.tables e below (T62.setTop (mkF m 174 #[.val (.long q1), .second, .val (.long q2), .second, .val (.int (0 : Int32)), .val (.ref b32)] [(.int (5 : Int32)), (.int (0 : Int32)), (.ref b32)])) _
    refine XS.iadd X62.here hx rfl (hb hby own_d1_174) rfl ?_
    show Steps p.tables e below (T62.setTop (mkF m 175 #[.val (.long q1), .second, .val (.long q2), .second, .val (.int (0 : Int32)), .val (.ref b32)] [(.int (5 : Int32)), (.ref b32)])) _
    refine XS.lloadN X62.here hx rfl (hb hby own_d1_175) rfl ?_
    show Steps p.tables e below (T62.setTop (mkF m 176 #[.val (.long q1), .second, .val (.long q2), .second, .val (.int (0 : Int32)), .val (.ref b32)] [(.long q1), (.int (5 : Int32)), (.ref b32)])) _
    refine XS.bipush X62.here hx rfl (hb hby own_d1_176) ?_
    show Steps p.tables e below (T62.setTop (mkF m 178 #[.val (.long q1), .second, .val (.long q2), .second, .val (.int (0 : Int32)), .val (.ref b32)] [(.int (8 : Int32)), (.long q1), (.int (5 : Int32)), (.ref b32)])) _
    refine XS.lushr X62.here hx rfl (hb hby own_d1_178) rfl ?_
    show Steps p.tables e below (T62.setTop (mkF m 179 #[.val (.long q1), .second, .val (.long q2), .second, .val (.int (0 : Int32)), .val (.ref b32)] [(.long ((q1.toUInt64 >>> ((8 : Int32) &&& 0x3f).toInt64.toUInt64).toInt64)), (.int (5 : Int32)), (.ref b32)])) _
    refine XS.l2i X62.here hx rfl (hb hby own_d1_179) rfl ?_
    show Steps p.tables e below (T62.setTop (mkF m 180 #[.val (.long q1), .second, .val (.long q2), .second, .val (.int (0 : Int32)), .val (.ref b32)] [(.int (((q1.toUInt64 >>> ((8 : Int32) &&& 0x3f).toInt64.toUInt64).toInt64).toInt32)), (.int (5 : Int32)), (.ref b32)])) _
    refine XS.i2b X62.here hx rfl (hb hby own_d1_180) rfl ?_
    show Steps p.tables e below (T62.setTop (mkF m 181 #[.val (.long q1), .second, .val (.long q2), .second, .val (.int (0 : Int32)), .val (.ref b32)] [(.int ((((q1.toUInt64 >>> ((8 : Int32) &&& 0x3f).toInt64.toUInt64).toInt64).toInt32).toInt8.toInt32)), (.int (5 : Int32)), (.ref b32)])) _
    refine st64 _ ?_
    show Steps p.tables e below (T64.setTop (mkF m 182 #[.val (.long q1), .second, .val (.long q2), .second, .val (.int (0 : Int32)), .val (.ref b32)] [])) _
    refine XS.aload X64.here hx rfl (hb hby own_d1_182) rfl rfl ?_
    show Steps p.tables e below (T64.setTop (mkF m 184 #[.val (.long q1), .second, .val (.long q2), .second, .val (.int (0 : Int32)), .val (.ref b32)] [(.ref b32)])) _
    refine XS.iload X64.here hx rfl (hb hby own_d1_184) rfl ?_
    show Steps p.tables e below (T64.setTop (mkF m 186 #[.val (.long q1), .second, .val (.long q2), .second, .val (.int (0 : Int32)), .val (.ref b32)] [(.int (0 : Int32)), (.ref b32)])) _
    refine XS.bipush X64.here hx rfl (hb hby own_d1_186) ?_
    show Steps p.tables e below (T64.setTop (mkF m 188 #[.val (.long q1), .second, .val (.long q2), .second, .val (.int (0 : Int32)), .val (.ref b32)] [(.int (6 : Int32)), (.int (0 : Int32)), (.ref b32)])) _
    refine XS.iadd X64.here hx rfl (hb hby own_d1_188) rfl ?_
    show Steps p.tables e below (T64.setTop (mkF m 189 #[.val (.long q1), .second, .val (.long q2), .second, .val (.int (0 : Int32)), .val (.ref b32)] [(.int (6 : Int32)), (.ref b32)])) _
    refine XS.lloadN X64.here hx rfl (hb hby own_d1_189) rfl ?_
    show Steps p.tables e below (T64.setTop (mkF m 190 #[.val (.long q1), .second, .val (.long q2), .second, .val (.int (0 : Int32)), .val (.ref b32)] [(.long q1), (.int (6 : Int32)), (.ref b32)])) _
    refine XS.l2i X64.here hx rfl (hb hby own_d1_190) rfl ?_
    show Steps p.tables e below (T64.setTop (mkF m 191 #[.val (.long q1), .second, .val (.long q2), .second, .val (.int (0 : Int32)), .val (.ref b32)] [(.int (q1.toInt32)), (.int (6 : Int32)), (.ref b32)])) _
    refine XS.i2b X64.here hx rfl (hb hby own_d1_191) rfl ?_
    show Steps p.tables e below (T64.setTop (mkF m 192 #[.val (.long q1), .second, .val (.long q2), .second, .val (.int (0 : Int32)), .val (.ref b32)] [(.int ((q1.toInt32).toInt8.toInt32)), (.int (6 : Int32)), (.ref b32)])) _
    refine st66 _ ?_
    show Steps p.tables e below (T66.setTop (mkF m 193 #[.val (.long q1), .second, .val (.long q2), .second, .val (.int (0 : Int32)), .val (.ref b32)] [])) _
    refine XS.aload X66.here hx rfl (hb hby own_d1_193) rfl rfl ?_
    show Steps p.tables e below (T66.setTop (mkF m 195 #[.val (.long q1), .second, .val (.long q2), .second, .val (.int (0 : Int32)), .val (.ref b32)] [(.ref b32)])) _
    jvm_step X66.here [X66.here.top, hx, (hb hby own_d1_195), X66.method', Bd.returns, Value.isRef, FieldType.isReference]
    first | (intro acts; rw [hr _ acts rfl rfl rfl]) | rw [hr _ _ rfl rfl rfl]
    exact Steps.refl _
  · show Q1_0 Z q1 q2 h0 n0 _ T66.heap _
    rw [e66]
    exact ⟨b32, k32, rfl, N66, K66, sz_b32, V66⟩
theorem own_ef_rm1_1 (m : MethodId) (q1 : Int64) (q2 : Int64) : entryFrame m #[(.long q1), (.long q2), (.int (1 : Int32))] 6 = mkF m 0 #[.val (.long q1), .second, .val (.long q2), .second, .val (.int (1 : Int32)), .unset] [] := by first | (simp [entryFrame, mkF, argsToLocals, Value.category]; done) | rfl
def Q1_1 (Z : State) (q1 : Int64) (q2 : Int64) (h0 : Heap) (n0 : Nat) (v : Option Value) (h : Heap) (L : List Loc) : Prop := ∃ b : Addr, ∃ k : ClassId, v = some (.ref b) ∧ Fr n0 L ∧ Keep h0 h [] ∧ h0.size ≤ b ∧ Arv Z h b k .byte (10 : Int32) [(.int (own_by0 q2)), (.int (own_by q1 (48 : Int32))), (.int (own_by q1 (40 : Int32))), (.int (own_by q1 (32 : Int32))), (.int (own_by q1 (24 : Int32))), (.int (own_by q1 (16 : Int32))), (.int (own_by q1 (8 : Int32))), (.int (own_by0 q1)), (.int (own_by q2 (3 : Int32))), (.int (own_by q2 (11 : Int32)))] (.int (0 : Int32))
set_option maxRecDepth 65536 in
set_option maxHeartbeats 40000000 in
theorem rm1_1 (l : Launch) (Z : State) (a0 : Array Value) (hw : ∀ d ∈ tables_1, d.before a0 Z = true) (ws : List Jvm.Cond) (q1 : Int64) (q2 : Int64) (h0 : Heap) (n0 : Nat) (Z0 : n0 ≤ h0.size) :
    MetFree l (⟨"com/example/linkbook/linkbook/coding/BchParityOctetPinLaw", "build", "(JJI)[B"⟩ : MethodName) (head1 (Jvm.Cond.code (⟨"com/example/linkbook/linkbook/coding/BchParityOctetPinLaw", "build", "(JJI)[B"⟩ : MethodName) method_2_code 6 (some (.array .byte)) :: ws) ({ frames := 0, cells := 1, slots := 10, locals := 0 } : Room)) (fun a U => a = #[(.long q1), (.long q2), (.int (1 : Int32))] ∧ Z.Warmed39 U.vm ∧ U.heap = h0) (fun _ _ _ _ _ => True) (fun _ U o U' => ∃ v L, o = .returned v ∧ Q1_1 Z q1 q2 h0 n0 v U'.heap L ∧ FrameEnd U o U' L ({ frames := 0, cells := 1, slots := 10, locals := 0 } : Room).cells ({ frames := 0, cells := 1, slots := 10, locals := 0 } : Room).slots) := by
  refine MetFree.of_bodySF (plainFor_of_name own_pn1) hisR ?_
  intro p e s m args below meth c s₁ Bd hml0 hP hK
  obtain ⟨rfl, hZ, hh⟩ := hP
  have hx := Bd.exec
  have hby := Bd.bytes
  have hml : c.maxLocals = 6 := hml0
  have hown : s.vm.findClass "com/example/linkbook/linkbook/coding/BchParityOctetPinLaw" = some m.cls := findClass_of_methodNamed Bd.named
  have hnm := (name_of_methodNamed Bd.named Bd.method).1
  have X0 : Stand p l e ({ frames := 0, cells := 1, slots := 10, locals := 0 } : Room) s m #[(.long q1), (.long q2), (.int (1 : Int32))] below meth c s₁ [] 0 0 := Stand.of_body Bd
  have e0 : s₁.heap = h0 := by rw [← hh, Bd.state]; rfl
  have N0 := Fr.nil n0
  have K0 : Keep h0 h0 [] := Keep.refl h0 _
  have pre0 : ∀ t, Steps p.tables e below (s₁.setTop (mkF m 0 #[.val (.long q1), .second, .val (.long q2), .second, .val (.int (1 : Int32)), .unset] [])) t → Steps p.tables e below (s₁.setTop (entryFrame m #[(.long q1), (.long q2), (.int (1 : Int32))] 6)) t := fun t k => castTop (own_ef_rm1_1 m q1 q2) k
  obtain ⟨T67, h67, k67, X67, e67, E67, A67, st67⟩ := newP X0 hx hZ (hw _ (List.mem_of_getElem? (i := 6) rfl)) e0 (g := (mkF m 2 #[.val (.long q1), .second, .val (.long q2), .second, .val (.int (1 : Int32)), .unset] [(.int (10 : Int32))])) rfl (hb hby own_d1_2) rfl (by decide) (cap := 10) (by decide) (by decide) (by decide) (by decide)
  obtain ⟨b67, g67⟩ : ∃ z, z = h0.size := ⟨_, rfl⟩
  rw [← g67] at A67 st67
  have gg_b67 : n0 ≤ b67 := Nat.le_trans (Nat.le_trans Z0 K0.1) (Nat.le_of_eq g67.symm)
  have sz_b67 : h0.size ≤ b67 := Nat.le_trans K0.1 (Nat.le_of_eq g67.symm)
  have K67 := K0.ext E67
  have V67 : Arv Z h67 b67 k67 .byte (10 : Int32) [(.int (0 : Int32)), (.int (0 : Int32)), (.int (0 : Int32)), (.int (0 : Int32)), (.int (0 : Int32)), (.int (0 : Int32)), (.int (0 : Int32)), (.int (0 : Int32)), (.int (0 : Int32)), (.int (0 : Int32))] (.int (0 : Int32)) := (Arv.new A67 (by decide)).pad (pad_rep [] (.int (0 : Int32)) 10)
  obtain ⟨cl68, Ar68, q68, S68, M68, H68, G68⟩ := id V67
  have hin68 : ¬ ((0 : Int32) < 0 ∨ cl68.slots.size ≤ ((0 : Int32)).toNatClampNeg) := inb_of S68 ⟨by decide, by decide⟩
  obtain ⟨T69, h69, X69, e69, W69, st69⟩ := stB X67 hx hZ e67 Ar68 (j := (0 : Int32)) hin68 (g := (mkF m 12 #[.val (.long q1), .second, .val (.long q2), .second, .val (.int (1 : Int32)), .val (.ref b67)] [(.int ((q2.toInt32).toInt8.toInt32)), (.int (0 : Int32)), (.ref b67)])) rfl rfl (hb hby own_d1_12)
  have V69 : Arv Z h69 b67 k67 .byte (10 : Int32) [(.int (nar .byte ((q2.toInt32).toInt8.toInt32))), (.int (0 : Int32)), (.int (0 : Int32)), (.int (0 : Int32)), (.int (0 : Int32)), (.int (0 : Int32)), (.int (0 : Int32)), (.int (0 : Int32)), (.int (0 : Int32)), (.int (0 : Int32))] (.int (0 : Int32)) := Arv.set Ar68 q68 S68 M68 H68 G68 (fits_nar_byte _) W69 0 rfl (Nat.le_of_ble_eq_true rfl)
  have K69 := K67.wr W69 (Or.inr sz_b67)
  have N69 := Fr.snoc X69 N0 gg_b67
  obtain ⟨cl70, Ar70, q70, S70, M70, H70, G70⟩ := id V69
  have hin70 : ¬ ((1 : Int32) < 0 ∨ cl70.slots.size ≤ ((1 : Int32)).toNatClampNeg) := inb_of S70 ⟨by decide, by decide⟩
  obtain ⟨T71, h71, X71, e71, W71, st71⟩ := stB X69 hx hZ e69 Ar70 (j := (1 : Int32)) hin70 (g := (mkF m 22 #[.val (.long q1), .second, .val (.long q2), .second, .val (.int (1 : Int32)), .val (.ref b67)] [(.int ((((q2.toUInt64 >>> ((8 : Int32) &&& 0x3f).toInt64.toUInt64).toInt64).toInt32).toInt8.toInt32)), (.int (1 : Int32)), (.ref b67)])) rfl rfl (hb hby own_d1_22)
  have V71 : Arv Z h71 b67 k67 .byte (10 : Int32) [(.int (nar .byte ((q2.toInt32).toInt8.toInt32))), (.int (nar .byte ((((q2.toUInt64 >>> ((8 : Int32) &&& 0x3f).toInt64.toUInt64).toInt64).toInt32).toInt8.toInt32))), (.int (0 : Int32)), (.int (0 : Int32)), (.int (0 : Int32)), (.int (0 : Int32)), (.int (0 : Int32)), (.int (0 : Int32)), (.int (0 : Int32)), (.int (0 : Int32))] (.int (0 : Int32)) := Arv.set Ar70 q70 S70 M70 H70 G70 (fits_nar_byte _) W71 1 rfl (Nat.le_of_ble_eq_true rfl)
  have K71 := K69.wr W71 (Or.inr sz_b67)
  have N71 := Fr.snoc X71 N69 gg_b67
  obtain ⟨cl72, Ar72, q72, S72, M72, H72, G72⟩ := id V71
  have hin72 : ¬ ((2 : Int32) < 0 ∨ cl72.slots.size ≤ ((2 : Int32)).toNatClampNeg) := inb_of S72 ⟨by decide, by decide⟩
  obtain ⟨T73, h73, X73, e73, W73, st73⟩ := stB X71 hx hZ e71 Ar72 (j := (2 : Int32)) hin72 (g := (mkF m 32 #[.val (.long q1), .second, .val (.long q2), .second, .val (.int (1 : Int32)), .val (.ref b67)] [(.int ((((q2.toUInt64 >>> ((16 : Int32) &&& 0x3f).toInt64.toUInt64).toInt64).toInt32).toInt8.toInt32)), (.int (2 : Int32)), (.ref b67)])) rfl rfl (hb hby own_d1_32)
  have V73 : Arv Z h73 b67 k67 .byte (10 : Int32) [(.int (nar .byte ((q2.toInt32).toInt8.toInt32))), (.int (nar .byte ((((q2.toUInt64 >>> ((8 : Int32) &&& 0x3f).toInt64.toUInt64).toInt64).toInt32).toInt8.toInt32))), (.int (nar .byte ((((q2.toUInt64 >>> ((16 : Int32) &&& 0x3f).toInt64.toUInt64).toInt64).toInt32).toInt8.toInt32))), (.int (0 : Int32)), (.int (0 : Int32)), (.int (0 : Int32)), (.int (0 : Int32)), (.int (0 : Int32)), (.int (0 : Int32)), (.int (0 : Int32))] (.int (0 : Int32)) := Arv.set Ar72 q72 S72 M72 H72 G72 (fits_nar_byte _) W73 2 rfl (Nat.le_of_ble_eq_true rfl)
  have K73 := K71.wr W73 (Or.inr sz_b67)
  have N73 := Fr.snoc X73 N71 gg_b67
  obtain ⟨cl74, Ar74, q74, S74, M74, H74, G74⟩ := id V73
  have hin74 : ¬ ((3 : Int32) < 0 ∨ cl74.slots.size ≤ ((3 : Int32)).toNatClampNeg) := inb_of S74 ⟨by decide, by decide⟩
  obtain ⟨T75, h75, X75, e75, W75, st75⟩ := stB X73 hx hZ e73 Ar74 (j := (3 : Int32)) hin74 (g := (mkF m 42 #[.val (.long q1), .second, .val (.long q2), .second, .val (.int (1 : Int32)), .val (.ref b67)] [(.int ((((q2.toUInt64 >>> ((24 : Int32) &&& 0x3f).toInt64.toUInt64).toInt64).toInt32).toInt8.toInt32)), (.int (3 : Int32)), (.ref b67)])) rfl rfl (hb hby own_d1_42)
  have V75 : Arv Z h75 b67 k67 .byte (10 : Int32) [(.int (nar .byte ((q2.toInt32).toInt8.toInt32))), (.int (nar .byte ((((q2.toUInt64 >>> ((8 : Int32) &&& 0x3f).toInt64.toUInt64).toInt64).toInt32).toInt8.toInt32))), (.int (nar .byte ((((q2.toUInt64 >>> ((16 : Int32) &&& 0x3f).toInt64.toUInt64).toInt64).toInt32).toInt8.toInt32))), (.int (nar .byte ((((q2.toUInt64 >>> ((24 : Int32) &&& 0x3f).toInt64.toUInt64).toInt64).toInt32).toInt8.toInt32))), (.int (0 : Int32)), (.int (0 : Int32)), (.int (0 : Int32)), (.int (0 : Int32)), (.int (0 : Int32)), (.int (0 : Int32))] (.int (0 : Int32)) := Arv.set Ar74 q74 S74 M74 H74 G74 (fits_nar_byte _) W75 3 rfl (Nat.le_of_ble_eq_true rfl)
  have K75 := K73.wr W75 (Or.inr sz_b67)
  have N75 := Fr.snoc X75 N73 gg_b67
  obtain ⟨cl76, Ar76, q76, S76, M76, H76, G76⟩ := id V75
  have hin76 : ¬ ((4 : Int32) < 0 ∨ cl76.slots.size ≤ ((4 : Int32)).toNatClampNeg) := inb_of S76 ⟨by decide, by decide⟩
  obtain ⟨T77, h77, X77, e77, W77, st77⟩ := stB X75 hx hZ e75 Ar76 (j := (4 : Int32)) hin76 (g := (mkF m 52 #[.val (.long q1), .second, .val (.long q2), .second, .val (.int (1 : Int32)), .val (.ref b67)] [(.int ((((q2.toUInt64 >>> ((32 : Int32) &&& 0x3f).toInt64.toUInt64).toInt64).toInt32).toInt8.toInt32)), (.int (4 : Int32)), (.ref b67)])) rfl rfl (hb hby own_d1_52)
  have V77 : Arv Z h77 b67 k67 .byte (10 : Int32) [(.int (nar .byte ((q2.toInt32).toInt8.toInt32))), (.int (nar .byte ((((q2.toUInt64 >>> ((8 : Int32) &&& 0x3f).toInt64.toUInt64).toInt64).toInt32).toInt8.toInt32))), (.int (nar .byte ((((q2.toUInt64 >>> ((16 : Int32) &&& 0x3f).toInt64.toUInt64).toInt64).toInt32).toInt8.toInt32))), (.int (nar .byte ((((q2.toUInt64 >>> ((24 : Int32) &&& 0x3f).toInt64.toUInt64).toInt64).toInt32).toInt8.toInt32))), (.int (nar .byte ((((q2.toUInt64 >>> ((32 : Int32) &&& 0x3f).toInt64.toUInt64).toInt64).toInt32).toInt8.toInt32))), (.int (0 : Int32)), (.int (0 : Int32)), (.int (0 : Int32)), (.int (0 : Int32)), (.int (0 : Int32))] (.int (0 : Int32)) := Arv.set Ar76 q76 S76 M76 H76 G76 (fits_nar_byte _) W77 4 rfl (Nat.le_of_ble_eq_true rfl)
  have K77 := K75.wr W77 (Or.inr sz_b67)
  have N77 := Fr.snoc X77 N75 gg_b67
  obtain ⟨cl78, Ar78, q78, S78, M78, H78, G78⟩ := id V77
  have hin78 : ¬ ((5 : Int32) < 0 ∨ cl78.slots.size ≤ ((5 : Int32)).toNatClampNeg) := inb_of S78 ⟨by decide, by decide⟩
  obtain ⟨T79, h79, X79, e79, W79, st79⟩ := stB X77 hx hZ e77 Ar78 (j := (5 : Int32)) hin78 (g := (mkF m 62 #[.val (.long q1), .second, .val (.long q2), .second, .val (.int (1 : Int32)), .val (.ref b67)] [(.int ((((q2.toUInt64 >>> ((40 : Int32) &&& 0x3f).toInt64.toUInt64).toInt64).toInt32).toInt8.toInt32)), (.int (5 : Int32)), (.ref b67)])) rfl rfl (hb hby own_d1_62)
  have V79 : Arv Z h79 b67 k67 .byte (10 : Int32) [(.int (nar .byte ((q2.toInt32).toInt8.toInt32))), (.int (nar .byte ((((q2.toUInt64 >>> ((8 : Int32) &&& 0x3f).toInt64.toUInt64).toInt64).toInt32).toInt8.toInt32))), (.int (nar .byte ((((q2.toUInt64 >>> ((16 : Int32) &&& 0x3f).toInt64.toUInt64).toInt64).toInt32).toInt8.toInt32))), (.int (nar .byte ((((q2.toUInt64 >>> ((24 : Int32) &&& 0x3f).toInt64.toUInt64).toInt64).toInt32).toInt8.toInt32))), (.int (nar .byte ((((q2.toUInt64 >>> ((32 : Int32) &&& 0x3f).toInt64.toUInt64).toInt64).toInt32).toInt8.toInt32))), (.int (nar .byte ((((q2.toUInt64 >>> ((40 : Int32) &&& 0x3f).toInt64.toUInt64).toInt64).toInt32).toInt8.toInt32))), (.int (0 : Int32)), (.int (0 : Int32)), (.int (0 : Int32)), (.int (0 : Int32))] (.int (0 : Int32)) := Arv.set Ar78 q78 S78 M78 H78 G78 (fits_nar_byte _) W79 5 rfl (Nat.le_of_ble_eq_true rfl)
  have K79 := K77.wr W79 (Or.inr sz_b67)
  have N79 := Fr.snoc X79 N77 gg_b67
  obtain ⟨cl80, Ar80, q80, S80, M80, H80, G80⟩ := id V79
  have hin80 : ¬ ((6 : Int32) < 0 ∨ cl80.slots.size ≤ ((6 : Int32)).toNatClampNeg) := inb_of S80 ⟨by decide, by decide⟩
  obtain ⟨T81, h81, X81, e81, W81, st81⟩ := stB X79 hx hZ e79 Ar80 (j := (6 : Int32)) hin80 (g := (mkF m 73 #[.val (.long q1), .second, .val (.long q2), .second, .val (.int (1 : Int32)), .val (.ref b67)] [(.int ((((q2.toUInt64 >>> ((48 : Int32) &&& 0x3f).toInt64.toUInt64).toInt64).toInt32).toInt8.toInt32)), (.int (6 : Int32)), (.ref b67)])) rfl rfl (hb hby own_d1_73)
  have V81 : Arv Z h81 b67 k67 .byte (10 : Int32) [(.int (nar .byte ((q2.toInt32).toInt8.toInt32))), (.int (nar .byte ((((q2.toUInt64 >>> ((8 : Int32) &&& 0x3f).toInt64.toUInt64).toInt64).toInt32).toInt8.toInt32))), (.int (nar .byte ((((q2.toUInt64 >>> ((16 : Int32) &&& 0x3f).toInt64.toUInt64).toInt64).toInt32).toInt8.toInt32))), (.int (nar .byte ((((q2.toUInt64 >>> ((24 : Int32) &&& 0x3f).toInt64.toUInt64).toInt64).toInt32).toInt8.toInt32))), (.int (nar .byte ((((q2.toUInt64 >>> ((32 : Int32) &&& 0x3f).toInt64.toUInt64).toInt64).toInt32).toInt8.toInt32))), (.int (nar .byte ((((q2.toUInt64 >>> ((40 : Int32) &&& 0x3f).toInt64.toUInt64).toInt64).toInt32).toInt8.toInt32))), (.int (nar .byte ((((q2.toUInt64 >>> ((48 : Int32) &&& 0x3f).toInt64.toUInt64).toInt64).toInt32).toInt8.toInt32))), (.int (0 : Int32)), (.int (0 : Int32)), (.int (0 : Int32))] (.int (0 : Int32)) := Arv.set Ar80 q80 S80 M80 H80 G80 (fits_nar_byte _) W81 6 rfl (Nat.le_of_ble_eq_true rfl)
  have K81 := K79.wr W81 (Or.inr sz_b67)
  have N81 := Fr.snoc X81 N79 gg_b67
  obtain ⟨cl82, Ar82, q82, S82, M82, H82, G82⟩ := id V81
  have hin82 : ¬ ((7 : Int32) < 0 ∨ cl82.slots.size ≤ ((7 : Int32)).toNatClampNeg) := inb_of S82 ⟨by decide, by decide⟩
  obtain ⟨T83, h83, X83, e83, W83, st83⟩ := stB X81 hx hZ e81 Ar82 (j := (7 : Int32)) hin82 (g := (mkF m 84 #[.val (.long q1), .second, .val (.long q2), .second, .val (.int (1 : Int32)), .val (.ref b67)] [(.int ((((q2.toUInt64 >>> ((56 : Int32) &&& 0x3f).toInt64.toUInt64).toInt64).toInt32).toInt8.toInt32)), (.int (7 : Int32)), (.ref b67)])) rfl rfl (hb hby own_d1_84)
  have V83 : Arv Z h83 b67 k67 .byte (10 : Int32) [(.int (nar .byte ((q2.toInt32).toInt8.toInt32))), (.int (nar .byte ((((q2.toUInt64 >>> ((8 : Int32) &&& 0x3f).toInt64.toUInt64).toInt64).toInt32).toInt8.toInt32))), (.int (nar .byte ((((q2.toUInt64 >>> ((16 : Int32) &&& 0x3f).toInt64.toUInt64).toInt64).toInt32).toInt8.toInt32))), (.int (nar .byte ((((q2.toUInt64 >>> ((24 : Int32) &&& 0x3f).toInt64.toUInt64).toInt64).toInt32).toInt8.toInt32))), (.int (nar .byte ((((q2.toUInt64 >>> ((32 : Int32) &&& 0x3f).toInt64.toUInt64).toInt64).toInt32).toInt8.toInt32))), (.int (nar .byte ((((q2.toUInt64 >>> ((40 : Int32) &&& 0x3f).toInt64.toUInt64).toInt64).toInt32).toInt8.toInt32))), (.int (nar .byte ((((q2.toUInt64 >>> ((48 : Int32) &&& 0x3f).toInt64.toUInt64).toInt64).toInt32).toInt8.toInt32))), (.int (nar .byte ((((q2.toUInt64 >>> ((56 : Int32) &&& 0x3f).toInt64.toUInt64).toInt64).toInt32).toInt8.toInt32))), (.int (0 : Int32)), (.int (0 : Int32))] (.int (0 : Int32)) := Arv.set Ar82 q82 S82 M82 H82 G82 (fits_nar_byte _) W83 7 rfl (Nat.le_of_ble_eq_true rfl)
  have K83 := K81.wr W83 (Or.inr sz_b67)
  have N83 := Fr.snoc X83 N81 gg_b67
  obtain ⟨cl84, Ar84, q84, S84, M84, H84, G84⟩ := id V83
  have hin84 : ¬ ((8 : Int32) < 0 ∨ cl84.slots.size ≤ ((8 : Int32)).toNatClampNeg) := inb_of S84 ⟨by decide, by decide⟩
  obtain ⟨T85, h85, X85, e85, W85, st85⟩ := stB X83 hx hZ e83 Ar84 (j := (8 : Int32)) hin84 (g := (mkF m 94 #[.val (.long q1), .second, .val (.long q2), .second, .val (.int (1 : Int32)), .val (.ref b67)] [(.int ((((q2.toUInt64 >>> ((3 : Int32) &&& 0x3f).toInt64.toUInt64).toInt64).toInt32).toInt8.toInt32)), (.int (8 : Int32)), (.ref b67)])) rfl rfl (hb hby own_d1_94)
  have V85 : Arv Z h85 b67 k67 .byte (10 : Int32) [(.int (nar .byte ((q2.toInt32).toInt8.toInt32))), (.int (nar .byte ((((q2.toUInt64 >>> ((8 : Int32) &&& 0x3f).toInt64.toUInt64).toInt64).toInt32).toInt8.toInt32))), (.int (nar .byte ((((q2.toUInt64 >>> ((16 : Int32) &&& 0x3f).toInt64.toUInt64).toInt64).toInt32).toInt8.toInt32))), (.int (nar .byte ((((q2.toUInt64 >>> ((24 : Int32) &&& 0x3f).toInt64.toUInt64).toInt64).toInt32).toInt8.toInt32))), (.int (nar .byte ((((q2.toUInt64 >>> ((32 : Int32) &&& 0x3f).toInt64.toUInt64).toInt64).toInt32).toInt8.toInt32))), (.int (nar .byte ((((q2.toUInt64 >>> ((40 : Int32) &&& 0x3f).toInt64.toUInt64).toInt64).toInt32).toInt8.toInt32))), (.int (nar .byte ((((q2.toUInt64 >>> ((48 : Int32) &&& 0x3f).toInt64.toUInt64).toInt64).toInt32).toInt8.toInt32))), (.int (nar .byte ((((q2.toUInt64 >>> ((56 : Int32) &&& 0x3f).toInt64.toUInt64).toInt64).toInt32).toInt8.toInt32))), (.int (nar .byte ((((q2.toUInt64 >>> ((3 : Int32) &&& 0x3f).toInt64.toUInt64).toInt64).toInt32).toInt8.toInt32))), (.int (0 : Int32))] (.int (0 : Int32)) := Arv.set Ar84 q84 S84 M84 H84 G84 (fits_nar_byte _) W85 8 rfl (Nat.le_of_ble_eq_true rfl)
  have K85 := K83.wr W85 (Or.inr sz_b67)
  have N85 := Fr.snoc X85 N83 gg_b67
  obtain ⟨cl86, Ar86, q86, S86, M86, H86, G86⟩ := id V85
  have hin86 : ¬ ((9 : Int32) < 0 ∨ cl86.slots.size ≤ ((9 : Int32)).toNatClampNeg) := inb_of S86 ⟨by decide, by decide⟩
  obtain ⟨T87, h87, X87, e87, W87, st87⟩ := stB X85 hx hZ e85 Ar86 (j := (9 : Int32)) hin86 (g := (mkF m 105 #[.val (.long q1), .second, .val (.long q2), .second, .val (.int (1 : Int32)), .val (.ref b67)] [(.int ((((q2.toUInt64 >>> ((11 : Int32) &&& 0x3f).toInt64.toUInt64).toInt64).toInt32).toInt8.toInt32)), (.int (9 : Int32)), (.ref b67)])) rfl rfl (hb hby own_d1_105)
  have V87 : Arv Z h87 b67 k67 .byte (10 : Int32) [(.int (nar .byte ((q2.toInt32).toInt8.toInt32))), (.int (nar .byte ((((q2.toUInt64 >>> ((8 : Int32) &&& 0x3f).toInt64.toUInt64).toInt64).toInt32).toInt8.toInt32))), (.int (nar .byte ((((q2.toUInt64 >>> ((16 : Int32) &&& 0x3f).toInt64.toUInt64).toInt64).toInt32).toInt8.toInt32))), (.int (nar .byte ((((q2.toUInt64 >>> ((24 : Int32) &&& 0x3f).toInt64.toUInt64).toInt64).toInt32).toInt8.toInt32))), (.int (nar .byte ((((q2.toUInt64 >>> ((32 : Int32) &&& 0x3f).toInt64.toUInt64).toInt64).toInt32).toInt8.toInt32))), (.int (nar .byte ((((q2.toUInt64 >>> ((40 : Int32) &&& 0x3f).toInt64.toUInt64).toInt64).toInt32).toInt8.toInt32))), (.int (nar .byte ((((q2.toUInt64 >>> ((48 : Int32) &&& 0x3f).toInt64.toUInt64).toInt64).toInt32).toInt8.toInt32))), (.int (nar .byte ((((q2.toUInt64 >>> ((56 : Int32) &&& 0x3f).toInt64.toUInt64).toInt64).toInt32).toInt8.toInt32))), (.int (nar .byte ((((q2.toUInt64 >>> ((3 : Int32) &&& 0x3f).toInt64.toUInt64).toInt64).toInt32).toInt8.toInt32))), (.int (nar .byte ((((q2.toUInt64 >>> ((11 : Int32) &&& 0x3f).toInt64.toUInt64).toInt64).toInt32).toInt8.toInt32)))] (.int (0 : Int32)) := Arv.set Ar86 q86 S86 M86 H86 G86 (fits_nar_byte _) W87 9 rfl (Nat.le_of_ble_eq_true rfl)
  have K87 := K85.wr W87 (Or.inr sz_b67)
  have N87 := Fr.snoc X87 N85 gg_b67
  obtain ⟨cl88, Ar88, q88, S88, M88, H88, G88⟩ := id V87
  have hin88 : ¬ ((1 : Int32) < 0 ∨ cl88.slots.size ≤ ((1 : Int32)).toNatClampNeg) := inb_of S88 ⟨by decide, by decide⟩
  obtain ⟨T89, h89, X89, e89, W89, st89⟩ := stB X87 hx hZ e87 Ar88 (j := (1 : Int32)) hin88 (g := (mkF m 116 #[.val (.long q1), .second, .val (.long q2), .second, .val (.int (1 : Int32)), .val (.ref b67)] [(.int ((((q1.toUInt64 >>> ((48 : Int32) &&& 0x3f).toInt64.toUInt64).toInt64).toInt32).toInt8.toInt32)), (.int (1 : Int32)), (.ref b67)])) rfl rfl (hb hby own_d1_116)
  have V89 : Arv Z h89 b67 k67 .byte (10 : Int32) [(.int (nar .byte ((q2.toInt32).toInt8.toInt32))), (.int (nar .byte ((((q1.toUInt64 >>> ((48 : Int32) &&& 0x3f).toInt64.toUInt64).toInt64).toInt32).toInt8.toInt32))), (.int (nar .byte ((((q2.toUInt64 >>> ((16 : Int32) &&& 0x3f).toInt64.toUInt64).toInt64).toInt32).toInt8.toInt32))), (.int (nar .byte ((((q2.toUInt64 >>> ((24 : Int32) &&& 0x3f).toInt64.toUInt64).toInt64).toInt32).toInt8.toInt32))), (.int (nar .byte ((((q2.toUInt64 >>> ((32 : Int32) &&& 0x3f).toInt64.toUInt64).toInt64).toInt32).toInt8.toInt32))), (.int (nar .byte ((((q2.toUInt64 >>> ((40 : Int32) &&& 0x3f).toInt64.toUInt64).toInt64).toInt32).toInt8.toInt32))), (.int (nar .byte ((((q2.toUInt64 >>> ((48 : Int32) &&& 0x3f).toInt64.toUInt64).toInt64).toInt32).toInt8.toInt32))), (.int (nar .byte ((((q2.toUInt64 >>> ((56 : Int32) &&& 0x3f).toInt64.toUInt64).toInt64).toInt32).toInt8.toInt32))), (.int (nar .byte ((((q2.toUInt64 >>> ((3 : Int32) &&& 0x3f).toInt64.toUInt64).toInt64).toInt32).toInt8.toInt32))), (.int (nar .byte ((((q2.toUInt64 >>> ((11 : Int32) &&& 0x3f).toInt64.toUInt64).toInt64).toInt32).toInt8.toInt32)))] (.int (0 : Int32)) := Arv.set Ar88 q88 S88 M88 H88 G88 (fits_nar_byte _) W89 1 rfl (Nat.le_of_ble_eq_true rfl)
  have K89 := K87.wr W89 (Or.inr sz_b67)
  have N89 := Fr.snoc X89 N87 gg_b67
  obtain ⟨cl90, Ar90, q90, S90, M90, H90, G90⟩ := id V89
  have hin90 : ¬ ((2 : Int32) < 0 ∨ cl90.slots.size ≤ ((2 : Int32)).toNatClampNeg) := inb_of S90 ⟨by decide, by decide⟩
  obtain ⟨T91, h91, X91, e91, W91, st91⟩ := stB X89 hx hZ e89 Ar90 (j := (2 : Int32)) hin90 (g := (mkF m 129 #[.val (.long q1), .second, .val (.long q2), .second, .val (.int (1 : Int32)), .val (.ref b67)] [(.int ((((q1.toUInt64 >>> ((40 : Int32) &&& 0x3f).toInt64.toUInt64).toInt64).toInt32).toInt8.toInt32)), (.int (2 : Int32)), (.ref b67)])) rfl rfl (hb hby own_d1_129)
  have V91 : Arv Z h91 b67 k67 .byte (10 : Int32) [(.int (nar .byte ((q2.toInt32).toInt8.toInt32))), (.int (nar .byte ((((q1.toUInt64 >>> ((48 : Int32) &&& 0x3f).toInt64.toUInt64).toInt64).toInt32).toInt8.toInt32))), (.int (nar .byte ((((q1.toUInt64 >>> ((40 : Int32) &&& 0x3f).toInt64.toUInt64).toInt64).toInt32).toInt8.toInt32))), (.int (nar .byte ((((q2.toUInt64 >>> ((24 : Int32) &&& 0x3f).toInt64.toUInt64).toInt64).toInt32).toInt8.toInt32))), (.int (nar .byte ((((q2.toUInt64 >>> ((32 : Int32) &&& 0x3f).toInt64.toUInt64).toInt64).toInt32).toInt8.toInt32))), (.int (nar .byte ((((q2.toUInt64 >>> ((40 : Int32) &&& 0x3f).toInt64.toUInt64).toInt64).toInt32).toInt8.toInt32))), (.int (nar .byte ((((q2.toUInt64 >>> ((48 : Int32) &&& 0x3f).toInt64.toUInt64).toInt64).toInt32).toInt8.toInt32))), (.int (nar .byte ((((q2.toUInt64 >>> ((56 : Int32) &&& 0x3f).toInt64.toUInt64).toInt64).toInt32).toInt8.toInt32))), (.int (nar .byte ((((q2.toUInt64 >>> ((3 : Int32) &&& 0x3f).toInt64.toUInt64).toInt64).toInt32).toInt8.toInt32))), (.int (nar .byte ((((q2.toUInt64 >>> ((11 : Int32) &&& 0x3f).toInt64.toUInt64).toInt64).toInt32).toInt8.toInt32)))] (.int (0 : Int32)) := Arv.set Ar90 q90 S90 M90 H90 G90 (fits_nar_byte _) W91 2 rfl (Nat.le_of_ble_eq_true rfl)
  have K91 := K89.wr W91 (Or.inr sz_b67)
  have N91 := Fr.snoc X91 N89 gg_b67
  obtain ⟨cl92, Ar92, q92, S92, M92, H92, G92⟩ := id V91
  have hin92 : ¬ ((3 : Int32) < 0 ∨ cl92.slots.size ≤ ((3 : Int32)).toNatClampNeg) := inb_of S92 ⟨by decide, by decide⟩
  obtain ⟨T93, h93, X93, e93, W93, st93⟩ := stB X91 hx hZ e91 Ar92 (j := (3 : Int32)) hin92 (g := (mkF m 142 #[.val (.long q1), .second, .val (.long q2), .second, .val (.int (1 : Int32)), .val (.ref b67)] [(.int ((((q1.toUInt64 >>> ((32 : Int32) &&& 0x3f).toInt64.toUInt64).toInt64).toInt32).toInt8.toInt32)), (.int (3 : Int32)), (.ref b67)])) rfl rfl (hb hby own_d1_142)
  have V93 : Arv Z h93 b67 k67 .byte (10 : Int32) [(.int (nar .byte ((q2.toInt32).toInt8.toInt32))), (.int (nar .byte ((((q1.toUInt64 >>> ((48 : Int32) &&& 0x3f).toInt64.toUInt64).toInt64).toInt32).toInt8.toInt32))), (.int (nar .byte ((((q1.toUInt64 >>> ((40 : Int32) &&& 0x3f).toInt64.toUInt64).toInt64).toInt32).toInt8.toInt32))), (.int (nar .byte ((((q1.toUInt64 >>> ((32 : Int32) &&& 0x3f).toInt64.toUInt64).toInt64).toInt32).toInt8.toInt32))), (.int (nar .byte ((((q2.toUInt64 >>> ((32 : Int32) &&& 0x3f).toInt64.toUInt64).toInt64).toInt32).toInt8.toInt32))), (.int (nar .byte ((((q2.toUInt64 >>> ((40 : Int32) &&& 0x3f).toInt64.toUInt64).toInt64).toInt32).toInt8.toInt32))), (.int (nar .byte ((((q2.toUInt64 >>> ((48 : Int32) &&& 0x3f).toInt64.toUInt64).toInt64).toInt32).toInt8.toInt32))), (.int (nar .byte ((((q2.toUInt64 >>> ((56 : Int32) &&& 0x3f).toInt64.toUInt64).toInt64).toInt32).toInt8.toInt32))), (.int (nar .byte ((((q2.toUInt64 >>> ((3 : Int32) &&& 0x3f).toInt64.toUInt64).toInt64).toInt32).toInt8.toInt32))), (.int (nar .byte ((((q2.toUInt64 >>> ((11 : Int32) &&& 0x3f).toInt64.toUInt64).toInt64).toInt32).toInt8.toInt32)))] (.int (0 : Int32)) := Arv.set Ar92 q92 S92 M92 H92 G92 (fits_nar_byte _) W93 3 rfl (Nat.le_of_ble_eq_true rfl)
  have K93 := K91.wr W93 (Or.inr sz_b67)
  have N93 := Fr.snoc X93 N91 gg_b67
  obtain ⟨cl94, Ar94, q94, S94, M94, H94, G94⟩ := id V93
  have hin94 : ¬ ((4 : Int32) < 0 ∨ cl94.slots.size ≤ ((4 : Int32)).toNatClampNeg) := inb_of S94 ⟨by decide, by decide⟩
  obtain ⟨T95, h95, X95, e95, W95, st95⟩ := stB X93 hx hZ e93 Ar94 (j := (4 : Int32)) hin94 (g := (mkF m 155 #[.val (.long q1), .second, .val (.long q2), .second, .val (.int (1 : Int32)), .val (.ref b67)] [(.int ((((q1.toUInt64 >>> ((24 : Int32) &&& 0x3f).toInt64.toUInt64).toInt64).toInt32).toInt8.toInt32)), (.int (4 : Int32)), (.ref b67)])) rfl rfl (hb hby own_d1_155)
  have V95 : Arv Z h95 b67 k67 .byte (10 : Int32) [(.int (nar .byte ((q2.toInt32).toInt8.toInt32))), (.int (nar .byte ((((q1.toUInt64 >>> ((48 : Int32) &&& 0x3f).toInt64.toUInt64).toInt64).toInt32).toInt8.toInt32))), (.int (nar .byte ((((q1.toUInt64 >>> ((40 : Int32) &&& 0x3f).toInt64.toUInt64).toInt64).toInt32).toInt8.toInt32))), (.int (nar .byte ((((q1.toUInt64 >>> ((32 : Int32) &&& 0x3f).toInt64.toUInt64).toInt64).toInt32).toInt8.toInt32))), (.int (nar .byte ((((q1.toUInt64 >>> ((24 : Int32) &&& 0x3f).toInt64.toUInt64).toInt64).toInt32).toInt8.toInt32))), (.int (nar .byte ((((q2.toUInt64 >>> ((40 : Int32) &&& 0x3f).toInt64.toUInt64).toInt64).toInt32).toInt8.toInt32))), (.int (nar .byte ((((q2.toUInt64 >>> ((48 : Int32) &&& 0x3f).toInt64.toUInt64).toInt64).toInt32).toInt8.toInt32))), (.int (nar .byte ((((q2.toUInt64 >>> ((56 : Int32) &&& 0x3f).toInt64.toUInt64).toInt64).toInt32).toInt8.toInt32))), (.int (nar .byte ((((q2.toUInt64 >>> ((3 : Int32) &&& 0x3f).toInt64.toUInt64).toInt64).toInt32).toInt8.toInt32))), (.int (nar .byte ((((q2.toUInt64 >>> ((11 : Int32) &&& 0x3f).toInt64.toUInt64).toInt64).toInt32).toInt8.toInt32)))] (.int (0 : Int32)) := Arv.set Ar94 q94 S94 M94 H94 G94 (fits_nar_byte _) W95 4 rfl (Nat.le_of_ble_eq_true rfl)
  have K95 := K93.wr W95 (Or.inr sz_b67)
  have N95 := Fr.snoc X95 N93 gg_b67
  obtain ⟨cl96, Ar96, q96, S96, M96, H96, G96⟩ := id V95
  have hin96 : ¬ ((5 : Int32) < 0 ∨ cl96.slots.size ≤ ((5 : Int32)).toNatClampNeg) := inb_of S96 ⟨by decide, by decide⟩
  obtain ⟨T97, h97, X97, e97, W97, st97⟩ := stB X95 hx hZ e95 Ar96 (j := (5 : Int32)) hin96 (g := (mkF m 168 #[.val (.long q1), .second, .val (.long q2), .second, .val (.int (1 : Int32)), .val (.ref b67)] [(.int ((((q1.toUInt64 >>> ((16 : Int32) &&& 0x3f).toInt64.toUInt64).toInt64).toInt32).toInt8.toInt32)), (.int (5 : Int32)), (.ref b67)])) rfl rfl (hb hby own_d1_168)
  have V97 : Arv Z h97 b67 k67 .byte (10 : Int32) [(.int (nar .byte ((q2.toInt32).toInt8.toInt32))), (.int (nar .byte ((((q1.toUInt64 >>> ((48 : Int32) &&& 0x3f).toInt64.toUInt64).toInt64).toInt32).toInt8.toInt32))), (.int (nar .byte ((((q1.toUInt64 >>> ((40 : Int32) &&& 0x3f).toInt64.toUInt64).toInt64).toInt32).toInt8.toInt32))), (.int (nar .byte ((((q1.toUInt64 >>> ((32 : Int32) &&& 0x3f).toInt64.toUInt64).toInt64).toInt32).toInt8.toInt32))), (.int (nar .byte ((((q1.toUInt64 >>> ((24 : Int32) &&& 0x3f).toInt64.toUInt64).toInt64).toInt32).toInt8.toInt32))), (.int (nar .byte ((((q1.toUInt64 >>> ((16 : Int32) &&& 0x3f).toInt64.toUInt64).toInt64).toInt32).toInt8.toInt32))), (.int (nar .byte ((((q2.toUInt64 >>> ((48 : Int32) &&& 0x3f).toInt64.toUInt64).toInt64).toInt32).toInt8.toInt32))), (.int (nar .byte ((((q2.toUInt64 >>> ((56 : Int32) &&& 0x3f).toInt64.toUInt64).toInt64).toInt32).toInt8.toInt32))), (.int (nar .byte ((((q2.toUInt64 >>> ((3 : Int32) &&& 0x3f).toInt64.toUInt64).toInt64).toInt32).toInt8.toInt32))), (.int (nar .byte ((((q2.toUInt64 >>> ((11 : Int32) &&& 0x3f).toInt64.toUInt64).toInt64).toInt32).toInt8.toInt32)))] (.int (0 : Int32)) := Arv.set Ar96 q96 S96 M96 H96 G96 (fits_nar_byte _) W97 5 rfl (Nat.le_of_ble_eq_true rfl)
  have K97 := K95.wr W97 (Or.inr sz_b67)
  have N97 := Fr.snoc X97 N95 gg_b67
  obtain ⟨cl98, Ar98, q98, S98, M98, H98, G98⟩ := id V97
  have hin98 : ¬ ((6 : Int32) < 0 ∨ cl98.slots.size ≤ ((6 : Int32)).toNatClampNeg) := inb_of S98 ⟨by decide, by decide⟩
  obtain ⟨T99, h99, X99, e99, W99, st99⟩ := stB X97 hx hZ e97 Ar98 (j := (6 : Int32)) hin98 (g := (mkF m 181 #[.val (.long q1), .second, .val (.long q2), .second, .val (.int (1 : Int32)), .val (.ref b67)] [(.int ((((q1.toUInt64 >>> ((8 : Int32) &&& 0x3f).toInt64.toUInt64).toInt64).toInt32).toInt8.toInt32)), (.int (6 : Int32)), (.ref b67)])) rfl rfl (hb hby own_d1_181)
  have V99 : Arv Z h99 b67 k67 .byte (10 : Int32) [(.int (nar .byte ((q2.toInt32).toInt8.toInt32))), (.int (nar .byte ((((q1.toUInt64 >>> ((48 : Int32) &&& 0x3f).toInt64.toUInt64).toInt64).toInt32).toInt8.toInt32))), (.int (nar .byte ((((q1.toUInt64 >>> ((40 : Int32) &&& 0x3f).toInt64.toUInt64).toInt64).toInt32).toInt8.toInt32))), (.int (nar .byte ((((q1.toUInt64 >>> ((32 : Int32) &&& 0x3f).toInt64.toUInt64).toInt64).toInt32).toInt8.toInt32))), (.int (nar .byte ((((q1.toUInt64 >>> ((24 : Int32) &&& 0x3f).toInt64.toUInt64).toInt64).toInt32).toInt8.toInt32))), (.int (nar .byte ((((q1.toUInt64 >>> ((16 : Int32) &&& 0x3f).toInt64.toUInt64).toInt64).toInt32).toInt8.toInt32))), (.int (nar .byte ((((q1.toUInt64 >>> ((8 : Int32) &&& 0x3f).toInt64.toUInt64).toInt64).toInt32).toInt8.toInt32))), (.int (nar .byte ((((q2.toUInt64 >>> ((56 : Int32) &&& 0x3f).toInt64.toUInt64).toInt64).toInt32).toInt8.toInt32))), (.int (nar .byte ((((q2.toUInt64 >>> ((3 : Int32) &&& 0x3f).toInt64.toUInt64).toInt64).toInt32).toInt8.toInt32))), (.int (nar .byte ((((q2.toUInt64 >>> ((11 : Int32) &&& 0x3f).toInt64.toUInt64).toInt64).toInt32).toInt8.toInt32)))] (.int (0 : Int32)) := Arv.set Ar98 q98 S98 M98 H98 G98 (fits_nar_byte _) W99 6 rfl (Nat.le_of_ble_eq_true rfl)
  have K99 := K97.wr W99 (Or.inr sz_b67)
  have N99 := Fr.snoc X99 N97 gg_b67
  obtain ⟨cl100, Ar100, q100, S100, M100, H100, G100⟩ := id V99
  have hin100 : ¬ ((7 : Int32) < 0 ∨ cl100.slots.size ≤ ((7 : Int32)).toNatClampNeg) := inb_of S100 ⟨by decide, by decide⟩
  obtain ⟨T101, h101, X101, e101, W101, st101⟩ := stB X99 hx hZ e99 Ar100 (j := (7 : Int32)) hin100 (g := (mkF m 192 #[.val (.long q1), .second, .val (.long q2), .second, .val (.int (1 : Int32)), .val (.ref b67)] [(.int ((q1.toInt32).toInt8.toInt32)), (.int (7 : Int32)), (.ref b67)])) rfl rfl (hb hby own_d1_192)
  have V101 : Arv Z h101 b67 k67 .byte (10 : Int32) [(.int (nar .byte ((q2.toInt32).toInt8.toInt32))), (.int (nar .byte ((((q1.toUInt64 >>> ((48 : Int32) &&& 0x3f).toInt64.toUInt64).toInt64).toInt32).toInt8.toInt32))), (.int (nar .byte ((((q1.toUInt64 >>> ((40 : Int32) &&& 0x3f).toInt64.toUInt64).toInt64).toInt32).toInt8.toInt32))), (.int (nar .byte ((((q1.toUInt64 >>> ((32 : Int32) &&& 0x3f).toInt64.toUInt64).toInt64).toInt32).toInt8.toInt32))), (.int (nar .byte ((((q1.toUInt64 >>> ((24 : Int32) &&& 0x3f).toInt64.toUInt64).toInt64).toInt32).toInt8.toInt32))), (.int (nar .byte ((((q1.toUInt64 >>> ((16 : Int32) &&& 0x3f).toInt64.toUInt64).toInt64).toInt32).toInt8.toInt32))), (.int (nar .byte ((((q1.toUInt64 >>> ((8 : Int32) &&& 0x3f).toInt64.toUInt64).toInt64).toInt32).toInt8.toInt32))), (.int (nar .byte ((q1.toInt32).toInt8.toInt32))), (.int (nar .byte ((((q2.toUInt64 >>> ((3 : Int32) &&& 0x3f).toInt64.toUInt64).toInt64).toInt32).toInt8.toInt32))), (.int (nar .byte ((((q2.toUInt64 >>> ((11 : Int32) &&& 0x3f).toInt64.toUInt64).toInt64).toInt32).toInt8.toInt32)))] (.int (0 : Int32)) := Arv.set Ar100 q100 S100 M100 H100 G100 (fits_nar_byte _) W101 7 rfl (Nat.le_of_ble_eq_true rfl)
  have K101 := K99.wr W101 (Or.inr sz_b67)
  have N101 := Fr.snoc X101 N99 gg_b67
  obtain ⟨fs, hr, hrun, hended, hW, hsame⟩ := X101.leave (v := some (.ref b67)) (fun h => by rw [Bd.returns] at h; cases h)
  refine ⟨_, _, pre0 _ ?_, hrun, hended, _, _, rfl, ?_, ⟨_, rfl⟩, hW, hsame.mono (by decide) (by decide)⟩
  · show Steps p.tables e below (s₁.setTop (mkF m 0 #[.val (.long q1), .second, .val (.long q2), .second, .val (.int (1 : Int32)), .unset] [])) _
    refine XS.bipush X0.here hx rfl (hb hby own_d1_0) ?_
    show Steps p.tables e below (s₁.setTop (mkF m 2 #[.val (.long q1), .second, .val (.long q2), .second, .val (.int (1 : Int32)), .unset] [(.int (10 : Int32))])) _
    refine st67 _ ?_
    show Steps p.tables e below (T67.setTop (mkF m 4 #[.val (.long q1), .second, .val (.long q2), .second, .val (.int (1 : Int32)), .unset] [(.ref b67)])) _
    refine XS.astore X67.here hx rfl (hb hby own_d1_4) rfl rfl (l' := #[.val (.long q1), .second, .val (.long q2), .second, .val (.int (1 : Int32)), .val (.ref b67)]) rfl ?_
    show Steps p.tables e below (T67.setTop (mkF m 6 #[.val (.long q1), .second, .val (.long q2), .second, .val (.int (1 : Int32)), .val (.ref b67)] [])) _
    refine XS.aload X67.here hx rfl (hb hby own_d1_6) rfl rfl ?_
    show Steps p.tables e below (T67.setTop (mkF m 8 #[.val (.long q1), .second, .val (.long q2), .second, .val (.int (1 : Int32)), .val (.ref b67)] [(.ref b67)])) _
    refine XS.iconst X67.here hx rfl (hb hby own_d1_8) ?_
    show Steps p.tables e below (T67.setTop (mkF m 9 #[.val (.long q1), .second, .val (.long q2), .second, .val (.int (1 : Int32)), .val (.ref b67)] [(.int (0 : Int32)), (.ref b67)])) _
    refine XS.lloadN X67.here hx rfl (hb hby own_d1_9) rfl ?_
    show Steps p.tables e below (T67.setTop (mkF m 10 #[.val (.long q1), .second, .val (.long q2), .second, .val (.int (1 : Int32)), .val (.ref b67)] [(.long q2), (.int (0 : Int32)), (.ref b67)])) _
    refine XS.l2i X67.here hx rfl (hb hby own_d1_10) rfl ?_
    show Steps p.tables e below (T67.setTop (mkF m 11 #[.val (.long q1), .second, .val (.long q2), .second, .val (.int (1 : Int32)), .val (.ref b67)] [(.int (q2.toInt32)), (.int (0 : Int32)), (.ref b67)])) _
    refine XS.i2b X67.here hx rfl (hb hby own_d1_11) rfl ?_
    show Steps p.tables e below (T67.setTop (mkF m 12 #[.val (.long q1), .second, .val (.long q2), .second, .val (.int (1 : Int32)), .val (.ref b67)] [(.int ((q2.toInt32).toInt8.toInt32)), (.int (0 : Int32)), (.ref b67)])) _
    refine st69 _ ?_
    show Steps p.tables e below (T69.setTop (mkF m 13 #[.val (.long q1), .second, .val (.long q2), .second, .val (.int (1 : Int32)), .val (.ref b67)] [])) _
    refine XS.aload X69.here hx rfl (hb hby own_d1_13) rfl rfl ?_
    show Steps p.tables e below (T69.setTop (mkF m 15 #[.val (.long q1), .second, .val (.long q2), .second, .val (.int (1 : Int32)), .val (.ref b67)] [(.ref b67)])) _
    refine XS.iconst X69.here hx rfl (hb hby own_d1_15) ?_
    show Steps p.tables e below (T69.setTop (mkF m 16 #[.val (.long q1), .second, .val (.long q2), .second, .val (.int (1 : Int32)), .val (.ref b67)] [(.int (1 : Int32)), (.ref b67)])) _
    refine XS.lloadN X69.here hx rfl (hb hby own_d1_16) rfl ?_
    show Steps p.tables e below (T69.setTop (mkF m 17 #[.val (.long q1), .second, .val (.long q2), .second, .val (.int (1 : Int32)), .val (.ref b67)] [(.long q2), (.int (1 : Int32)), (.ref b67)])) _
    refine XS.bipush X69.here hx rfl (hb hby own_d1_17) ?_
    show Steps p.tables e below (T69.setTop (mkF m 19 #[.val (.long q1), .second, .val (.long q2), .second, .val (.int (1 : Int32)), .val (.ref b67)] [(.int (8 : Int32)), (.long q2), (.int (1 : Int32)), (.ref b67)])) _
    refine XS.lushr X69.here hx rfl (hb hby own_d1_19) rfl ?_
    show Steps p.tables e below (T69.setTop (mkF m 20 #[.val (.long q1), .second, .val (.long q2), .second, .val (.int (1 : Int32)), .val (.ref b67)] [(.long ((q2.toUInt64 >>> ((8 : Int32) &&& 0x3f).toInt64.toUInt64).toInt64)), (.int (1 : Int32)), (.ref b67)])) _
    refine XS.l2i X69.here hx rfl (hb hby own_d1_20) rfl ?_
    show Steps p.tables e below (T69.setTop (mkF m 21 #[.val (.long q1), .second, .val (.long q2), .second, .val (.int (1 : Int32)), .val (.ref b67)] [(.int (((q2.toUInt64 >>> ((8 : Int32) &&& 0x3f).toInt64.toUInt64).toInt64).toInt32)), (.int (1 : Int32)), (.ref b67)])) _
    refine XS.i2b X69.here hx rfl (hb hby own_d1_21) rfl ?_
    show Steps p.tables e below (T69.setTop (mkF m 22 #[.val (.long q1), .second, .val (.long q2), .second, .val (.int (1 : Int32)), .val (.ref b67)] [(.int ((((q2.toUInt64 >>> ((8 : Int32) &&& 0x3f).toInt64.toUInt64).toInt64).toInt32).toInt8.toInt32)), (.int (1 : Int32)), (.ref b67)])) _
    refine st71 _ ?_
    show Steps p.tables e below (T71.setTop (mkF m 23 #[.val (.long q1), .second, .val (.long q2), .second, .val (.int (1 : Int32)), .val (.ref b67)] [])) _
    refine XS.aload X71.here hx rfl (hb hby own_d1_23) rfl rfl ?_
    show Steps p.tables e below (T71.setTop (mkF m 25 #[.val (.long q1), .second, .val (.long q2), .second, .val (.int (1 : Int32)), .val (.ref b67)] [(.ref b67)])) _
    refine XS.iconst X71.here hx rfl (hb hby own_d1_25) ?_
    show Steps p.tables e below (T71.setTop (mkF m 26 #[.val (.long q1), .second, .val (.long q2), .second, .val (.int (1 : Int32)), .val (.ref b67)] [(.int (2 : Int32)), (.ref b67)])) _
    refine XS.lloadN X71.here hx rfl (hb hby own_d1_26) rfl ?_
    show Steps p.tables e below (T71.setTop (mkF m 27 #[.val (.long q1), .second, .val (.long q2), .second, .val (.int (1 : Int32)), .val (.ref b67)] [(.long q2), (.int (2 : Int32)), (.ref b67)])) _
    refine XS.bipush X71.here hx rfl (hb hby own_d1_27) ?_
    show Steps p.tables e below (T71.setTop (mkF m 29 #[.val (.long q1), .second, .val (.long q2), .second, .val (.int (1 : Int32)), .val (.ref b67)] [(.int (16 : Int32)), (.long q2), (.int (2 : Int32)), (.ref b67)])) _
    refine XS.lushr X71.here hx rfl (hb hby own_d1_29) rfl ?_
    show Steps p.tables e below (T71.setTop (mkF m 30 #[.val (.long q1), .second, .val (.long q2), .second, .val (.int (1 : Int32)), .val (.ref b67)] [(.long ((q2.toUInt64 >>> ((16 : Int32) &&& 0x3f).toInt64.toUInt64).toInt64)), (.int (2 : Int32)), (.ref b67)])) _
    refine XS.l2i X71.here hx rfl (hb hby own_d1_30) rfl ?_
    show Steps p.tables e below (T71.setTop (mkF m 31 #[.val (.long q1), .second, .val (.long q2), .second, .val (.int (1 : Int32)), .val (.ref b67)] [(.int (((q2.toUInt64 >>> ((16 : Int32) &&& 0x3f).toInt64.toUInt64).toInt64).toInt32)), (.int (2 : Int32)), (.ref b67)])) _
    refine XS.i2b X71.here hx rfl (hb hby own_d1_31) rfl ?_
    show Steps p.tables e below (T71.setTop (mkF m 32 #[.val (.long q1), .second, .val (.long q2), .second, .val (.int (1 : Int32)), .val (.ref b67)] [(.int ((((q2.toUInt64 >>> ((16 : Int32) &&& 0x3f).toInt64.toUInt64).toInt64).toInt32).toInt8.toInt32)), (.int (2 : Int32)), (.ref b67)])) _
    refine st73 _ ?_
    show Steps p.tables e below (T73.setTop (mkF m 33 #[.val (.long q1), .second, .val (.long q2), .second, .val (.int (1 : Int32)), .val (.ref b67)] [])) _
    refine XS.aload X73.here hx rfl (hb hby own_d1_33) rfl rfl ?_
    show Steps p.tables e below (T73.setTop (mkF m 35 #[.val (.long q1), .second, .val (.long q2), .second, .val (.int (1 : Int32)), .val (.ref b67)] [(.ref b67)])) _
    refine XS.iconst X73.here hx rfl (hb hby own_d1_35) ?_
    show Steps p.tables e below (T73.setTop (mkF m 36 #[.val (.long q1), .second, .val (.long q2), .second, .val (.int (1 : Int32)), .val (.ref b67)] [(.int (3 : Int32)), (.ref b67)])) _
    refine XS.lloadN X73.here hx rfl (hb hby own_d1_36) rfl ?_
    show Steps p.tables e below (T73.setTop (mkF m 37 #[.val (.long q1), .second, .val (.long q2), .second, .val (.int (1 : Int32)), .val (.ref b67)] [(.long q2), (.int (3 : Int32)), (.ref b67)])) _
    refine XS.bipush X73.here hx rfl (hb hby own_d1_37) ?_
    show Steps p.tables e below (T73.setTop (mkF m 39 #[.val (.long q1), .second, .val (.long q2), .second, .val (.int (1 : Int32)), .val (.ref b67)] [(.int (24 : Int32)), (.long q2), (.int (3 : Int32)), (.ref b67)])) _
    refine XS.lushr X73.here hx rfl (hb hby own_d1_39) rfl ?_
    show Steps p.tables e below (T73.setTop (mkF m 40 #[.val (.long q1), .second, .val (.long q2), .second, .val (.int (1 : Int32)), .val (.ref b67)] [(.long ((q2.toUInt64 >>> ((24 : Int32) &&& 0x3f).toInt64.toUInt64).toInt64)), (.int (3 : Int32)), (.ref b67)])) _
    refine XS.l2i X73.here hx rfl (hb hby own_d1_40) rfl ?_
    show Steps p.tables e below (T73.setTop (mkF m 41 #[.val (.long q1), .second, .val (.long q2), .second, .val (.int (1 : Int32)), .val (.ref b67)] [(.int (((q2.toUInt64 >>> ((24 : Int32) &&& 0x3f).toInt64.toUInt64).toInt64).toInt32)), (.int (3 : Int32)), (.ref b67)])) _
    refine XS.i2b X73.here hx rfl (hb hby own_d1_41) rfl ?_
    show Steps p.tables e below (T73.setTop (mkF m 42 #[.val (.long q1), .second, .val (.long q2), .second, .val (.int (1 : Int32)), .val (.ref b67)] [(.int ((((q2.toUInt64 >>> ((24 : Int32) &&& 0x3f).toInt64.toUInt64).toInt64).toInt32).toInt8.toInt32)), (.int (3 : Int32)), (.ref b67)])) _
    refine st75 _ ?_
    show Steps p.tables e below (T75.setTop (mkF m 43 #[.val (.long q1), .second, .val (.long q2), .second, .val (.int (1 : Int32)), .val (.ref b67)] [])) _
    refine XS.aload X75.here hx rfl (hb hby own_d1_43) rfl rfl ?_
    show Steps p.tables e below (T75.setTop (mkF m 45 #[.val (.long q1), .second, .val (.long q2), .second, .val (.int (1 : Int32)), .val (.ref b67)] [(.ref b67)])) _
    refine XS.iconst X75.here hx rfl (hb hby own_d1_45) ?_
    show Steps p.tables e below (T75.setTop (mkF m 46 #[.val (.long q1), .second, .val (.long q2), .second, .val (.int (1 : Int32)), .val (.ref b67)] [(.int (4 : Int32)), (.ref b67)])) _
    refine XS.lloadN X75.here hx rfl (hb hby own_d1_46) rfl ?_
    show Steps p.tables e below (T75.setTop (mkF m 47 #[.val (.long q1), .second, .val (.long q2), .second, .val (.int (1 : Int32)), .val (.ref b67)] [(.long q2), (.int (4 : Int32)), (.ref b67)])) _
    refine XS.bipush X75.here hx rfl (hb hby own_d1_47) ?_
    show Steps p.tables e below (T75.setTop (mkF m 49 #[.val (.long q1), .second, .val (.long q2), .second, .val (.int (1 : Int32)), .val (.ref b67)] [(.int (32 : Int32)), (.long q2), (.int (4 : Int32)), (.ref b67)])) _
    refine XS.lushr X75.here hx rfl (hb hby own_d1_49) rfl ?_
    show Steps p.tables e below (T75.setTop (mkF m 50 #[.val (.long q1), .second, .val (.long q2), .second, .val (.int (1 : Int32)), .val (.ref b67)] [(.long ((q2.toUInt64 >>> ((32 : Int32) &&& 0x3f).toInt64.toUInt64).toInt64)), (.int (4 : Int32)), (.ref b67)])) _
    refine XS.l2i X75.here hx rfl (hb hby own_d1_50) rfl ?_
    show Steps p.tables e below (T75.setTop (mkF m 51 #[.val (.long q1), .second, .val (.long q2), .second, .val (.int (1 : Int32)), .val (.ref b67)] [(.int (((q2.toUInt64 >>> ((32 : Int32) &&& 0x3f).toInt64.toUInt64).toInt64).toInt32)), (.int (4 : Int32)), (.ref b67)])) _
    refine XS.i2b X75.here hx rfl (hb hby own_d1_51) rfl ?_
    show Steps p.tables e below (T75.setTop (mkF m 52 #[.val (.long q1), .second, .val (.long q2), .second, .val (.int (1 : Int32)), .val (.ref b67)] [(.int ((((q2.toUInt64 >>> ((32 : Int32) &&& 0x3f).toInt64.toUInt64).toInt64).toInt32).toInt8.toInt32)), (.int (4 : Int32)), (.ref b67)])) _
    refine st77 _ ?_
    show Steps p.tables e below (T77.setTop (mkF m 53 #[.val (.long q1), .second, .val (.long q2), .second, .val (.int (1 : Int32)), .val (.ref b67)] [])) _
    refine XS.aload X77.here hx rfl (hb hby own_d1_53) rfl rfl ?_
    show Steps p.tables e below (T77.setTop (mkF m 55 #[.val (.long q1), .second, .val (.long q2), .second, .val (.int (1 : Int32)), .val (.ref b67)] [(.ref b67)])) _
    refine XS.iconst X77.here hx rfl (hb hby own_d1_55) ?_
    show Steps p.tables e below (T77.setTop (mkF m 56 #[.val (.long q1), .second, .val (.long q2), .second, .val (.int (1 : Int32)), .val (.ref b67)] [(.int (5 : Int32)), (.ref b67)])) _
    refine XS.lloadN X77.here hx rfl (hb hby own_d1_56) rfl ?_
    show Steps p.tables e below (T77.setTop (mkF m 57 #[.val (.long q1), .second, .val (.long q2), .second, .val (.int (1 : Int32)), .val (.ref b67)] [(.long q2), (.int (5 : Int32)), (.ref b67)])) _
    refine XS.bipush X77.here hx rfl (hb hby own_d1_57) ?_
    show Steps p.tables e below (T77.setTop (mkF m 59 #[.val (.long q1), .second, .val (.long q2), .second, .val (.int (1 : Int32)), .val (.ref b67)] [(.int (40 : Int32)), (.long q2), (.int (5 : Int32)), (.ref b67)])) _
    refine XS.lushr X77.here hx rfl (hb hby own_d1_59) rfl ?_
    show Steps p.tables e below (T77.setTop (mkF m 60 #[.val (.long q1), .second, .val (.long q2), .second, .val (.int (1 : Int32)), .val (.ref b67)] [(.long ((q2.toUInt64 >>> ((40 : Int32) &&& 0x3f).toInt64.toUInt64).toInt64)), (.int (5 : Int32)), (.ref b67)])) _
    refine XS.l2i X77.here hx rfl (hb hby own_d1_60) rfl ?_
    show Steps p.tables e below (T77.setTop (mkF m 61 #[.val (.long q1), .second, .val (.long q2), .second, .val (.int (1 : Int32)), .val (.ref b67)] [(.int (((q2.toUInt64 >>> ((40 : Int32) &&& 0x3f).toInt64.toUInt64).toInt64).toInt32)), (.int (5 : Int32)), (.ref b67)])) _
    refine XS.i2b X77.here hx rfl (hb hby own_d1_61) rfl ?_
    show Steps p.tables e below (T77.setTop (mkF m 62 #[.val (.long q1), .second, .val (.long q2), .second, .val (.int (1 : Int32)), .val (.ref b67)] [(.int ((((q2.toUInt64 >>> ((40 : Int32) &&& 0x3f).toInt64.toUInt64).toInt64).toInt32).toInt8.toInt32)), (.int (5 : Int32)), (.ref b67)])) _
    refine st79 _ ?_
    show Steps p.tables e below (T79.setTop (mkF m 63 #[.val (.long q1), .second, .val (.long q2), .second, .val (.int (1 : Int32)), .val (.ref b67)] [])) _
    refine XS.aload X79.here hx rfl (hb hby own_d1_63) rfl rfl ?_
    show Steps p.tables e below (T79.setTop (mkF m 65 #[.val (.long q1), .second, .val (.long q2), .second, .val (.int (1 : Int32)), .val (.ref b67)] [(.ref b67)])) _
    refine XS.bipush X79.here hx rfl (hb hby own_d1_65) ?_
    show Steps p.tables e below (T79.setTop (mkF m 67 #[.val (.long q1), .second, .val (.long q2), .second, .val (.int (1 : Int32)), .val (.ref b67)] [(.int (6 : Int32)), (.ref b67)])) _
    refine XS.lloadN X79.here hx rfl (hb hby own_d1_67) rfl ?_
    show Steps p.tables e below (T79.setTop (mkF m 68 #[.val (.long q1), .second, .val (.long q2), .second, .val (.int (1 : Int32)), .val (.ref b67)] [(.long q2), (.int (6 : Int32)), (.ref b67)])) _
    refine XS.bipush X79.here hx rfl (hb hby own_d1_68) ?_
    show Steps p.tables e below (T79.setTop (mkF m 70 #[.val (.long q1), .second, .val (.long q2), .second, .val (.int (1 : Int32)), .val (.ref b67)] [(.int (48 : Int32)), (.long q2), (.int (6 : Int32)), (.ref b67)])) _
    refine XS.lushr X79.here hx rfl (hb hby own_d1_70) rfl ?_
    show Steps p.tables e below (T79.setTop (mkF m 71 #[.val (.long q1), .second, .val (.long q2), .second, .val (.int (1 : Int32)), .val (.ref b67)] [(.long ((q2.toUInt64 >>> ((48 : Int32) &&& 0x3f).toInt64.toUInt64).toInt64)), (.int (6 : Int32)), (.ref b67)])) _
    refine XS.l2i X79.here hx rfl (hb hby own_d1_71) rfl ?_
    show Steps p.tables e below (T79.setTop (mkF m 72 #[.val (.long q1), .second, .val (.long q2), .second, .val (.int (1 : Int32)), .val (.ref b67)] [(.int (((q2.toUInt64 >>> ((48 : Int32) &&& 0x3f).toInt64.toUInt64).toInt64).toInt32)), (.int (6 : Int32)), (.ref b67)])) _
    refine XS.i2b X79.here hx rfl (hb hby own_d1_72) rfl ?_
    show Steps p.tables e below (T79.setTop (mkF m 73 #[.val (.long q1), .second, .val (.long q2), .second, .val (.int (1 : Int32)), .val (.ref b67)] [(.int ((((q2.toUInt64 >>> ((48 : Int32) &&& 0x3f).toInt64.toUInt64).toInt64).toInt32).toInt8.toInt32)), (.int (6 : Int32)), (.ref b67)])) _
    refine st81 _ ?_
    show Steps p.tables e below (T81.setTop (mkF m 74 #[.val (.long q1), .second, .val (.long q2), .second, .val (.int (1 : Int32)), .val (.ref b67)] [])) _
    refine XS.aload X81.here hx rfl (hb hby own_d1_74) rfl rfl ?_
    show Steps p.tables e below (T81.setTop (mkF m 76 #[.val (.long q1), .second, .val (.long q2), .second, .val (.int (1 : Int32)), .val (.ref b67)] [(.ref b67)])) _
    refine XS.bipush X81.here hx rfl (hb hby own_d1_76) ?_
    show Steps p.tables e below (T81.setTop (mkF m 78 #[.val (.long q1), .second, .val (.long q2), .second, .val (.int (1 : Int32)), .val (.ref b67)] [(.int (7 : Int32)), (.ref b67)])) _
    refine XS.lloadN X81.here hx rfl (hb hby own_d1_78) rfl ?_
    show Steps p.tables e below (T81.setTop (mkF m 79 #[.val (.long q1), .second, .val (.long q2), .second, .val (.int (1 : Int32)), .val (.ref b67)] [(.long q2), (.int (7 : Int32)), (.ref b67)])) _
    refine XS.bipush X81.here hx rfl (hb hby own_d1_79) ?_
    show Steps p.tables e below (T81.setTop (mkF m 81 #[.val (.long q1), .second, .val (.long q2), .second, .val (.int (1 : Int32)), .val (.ref b67)] [(.int (56 : Int32)), (.long q2), (.int (7 : Int32)), (.ref b67)])) _
    refine XS.lushr X81.here hx rfl (hb hby own_d1_81) rfl ?_
    show Steps p.tables e below (T81.setTop (mkF m 82 #[.val (.long q1), .second, .val (.long q2), .second, .val (.int (1 : Int32)), .val (.ref b67)] [(.long ((q2.toUInt64 >>> ((56 : Int32) &&& 0x3f).toInt64.toUInt64).toInt64)), (.int (7 : Int32)), (.ref b67)])) _
    refine XS.l2i X81.here hx rfl (hb hby own_d1_82) rfl ?_
    show Steps p.tables e below (T81.setTop (mkF m 83 #[.val (.long q1), .second, .val (.long q2), .second, .val (.int (1 : Int32)), .val (.ref b67)] [(.int (((q2.toUInt64 >>> ((56 : Int32) &&& 0x3f).toInt64.toUInt64).toInt64).toInt32)), (.int (7 : Int32)), (.ref b67)])) _
    refine XS.i2b X81.here hx rfl (hb hby own_d1_83) rfl ?_
    show Steps p.tables e below (T81.setTop (mkF m 84 #[.val (.long q1), .second, .val (.long q2), .second, .val (.int (1 : Int32)), .val (.ref b67)] [(.int ((((q2.toUInt64 >>> ((56 : Int32) &&& 0x3f).toInt64.toUInt64).toInt64).toInt32).toInt8.toInt32)), (.int (7 : Int32)), (.ref b67)])) _
    refine st83 _ ?_
    show Steps p.tables e below (T83.setTop (mkF m 85 #[.val (.long q1), .second, .val (.long q2), .second, .val (.int (1 : Int32)), .val (.ref b67)] [])) _
    refine XS.aload X83.here hx rfl (hb hby own_d1_85) rfl rfl ?_
    show Steps p.tables e below (T83.setTop (mkF m 87 #[.val (.long q1), .second, .val (.long q2), .second, .val (.int (1 : Int32)), .val (.ref b67)] [(.ref b67)])) _
    refine XS.bipush X83.here hx rfl (hb hby own_d1_87) ?_
    show Steps p.tables e below (T83.setTop (mkF m 89 #[.val (.long q1), .second, .val (.long q2), .second, .val (.int (1 : Int32)), .val (.ref b67)] [(.int (8 : Int32)), (.ref b67)])) _
    refine XS.lloadN X83.here hx rfl (hb hby own_d1_89) rfl ?_
    show Steps p.tables e below (T83.setTop (mkF m 90 #[.val (.long q1), .second, .val (.long q2), .second, .val (.int (1 : Int32)), .val (.ref b67)] [(.long q2), (.int (8 : Int32)), (.ref b67)])) _
    refine XS.iconst X83.here hx rfl (hb hby own_d1_90) ?_
    show Steps p.tables e below (T83.setTop (mkF m 91 #[.val (.long q1), .second, .val (.long q2), .second, .val (.int (1 : Int32)), .val (.ref b67)] [(.int (3 : Int32)), (.long q2), (.int (8 : Int32)), (.ref b67)])) _
    refine XS.lushr X83.here hx rfl (hb hby own_d1_91) rfl ?_
    show Steps p.tables e below (T83.setTop (mkF m 92 #[.val (.long q1), .second, .val (.long q2), .second, .val (.int (1 : Int32)), .val (.ref b67)] [(.long ((q2.toUInt64 >>> ((3 : Int32) &&& 0x3f).toInt64.toUInt64).toInt64)), (.int (8 : Int32)), (.ref b67)])) _
    refine XS.l2i X83.here hx rfl (hb hby own_d1_92) rfl ?_
    show Steps p.tables e below (T83.setTop (mkF m 93 #[.val (.long q1), .second, .val (.long q2), .second, .val (.int (1 : Int32)), .val (.ref b67)] [(.int (((q2.toUInt64 >>> ((3 : Int32) &&& 0x3f).toInt64.toUInt64).toInt64).toInt32)), (.int (8 : Int32)), (.ref b67)])) _
    refine XS.i2b X83.here hx rfl (hb hby own_d1_93) rfl ?_
    show Steps p.tables e below (T83.setTop (mkF m 94 #[.val (.long q1), .second, .val (.long q2), .second, .val (.int (1 : Int32)), .val (.ref b67)] [(.int ((((q2.toUInt64 >>> ((3 : Int32) &&& 0x3f).toInt64.toUInt64).toInt64).toInt32).toInt8.toInt32)), (.int (8 : Int32)), (.ref b67)])) _
    refine st85 _ ?_
    show Steps p.tables e below (T85.setTop (mkF m 95 #[.val (.long q1), .second, .val (.long q2), .second, .val (.int (1 : Int32)), .val (.ref b67)] [])) _
    refine XS.aload X85.here hx rfl (hb hby own_d1_95) rfl rfl ?_
    show Steps p.tables e below (T85.setTop (mkF m 97 #[.val (.long q1), .second, .val (.long q2), .second, .val (.int (1 : Int32)), .val (.ref b67)] [(.ref b67)])) _
    refine XS.bipush X85.here hx rfl (hb hby own_d1_97) ?_
    show Steps p.tables e below (T85.setTop (mkF m 99 #[.val (.long q1), .second, .val (.long q2), .second, .val (.int (1 : Int32)), .val (.ref b67)] [(.int (9 : Int32)), (.ref b67)])) _
    refine XS.lloadN X85.here hx rfl (hb hby own_d1_99) rfl ?_
    show Steps p.tables e below (T85.setTop (mkF m 100 #[.val (.long q1), .second, .val (.long q2), .second, .val (.int (1 : Int32)), .val (.ref b67)] [(.long q2), (.int (9 : Int32)), (.ref b67)])) _
    refine XS.bipush X85.here hx rfl (hb hby own_d1_100) ?_
    show Steps p.tables e below (T85.setTop (mkF m 102 #[.val (.long q1), .second, .val (.long q2), .second, .val (.int (1 : Int32)), .val (.ref b67)] [(.int (11 : Int32)), (.long q2), (.int (9 : Int32)), (.ref b67)])) _
    refine XS.lushr X85.here hx rfl (hb hby own_d1_102) rfl ?_
    show Steps p.tables e below (T85.setTop (mkF m 103 #[.val (.long q1), .second, .val (.long q2), .second, .val (.int (1 : Int32)), .val (.ref b67)] [(.long ((q2.toUInt64 >>> ((11 : Int32) &&& 0x3f).toInt64.toUInt64).toInt64)), (.int (9 : Int32)), (.ref b67)])) _
    refine XS.l2i X85.here hx rfl (hb hby own_d1_103) rfl ?_
    show Steps p.tables e below (T85.setTop (mkF m 104 #[.val (.long q1), .second, .val (.long q2), .second, .val (.int (1 : Int32)), .val (.ref b67)] [(.int (((q2.toUInt64 >>> ((11 : Int32) &&& 0x3f).toInt64.toUInt64).toInt64).toInt32)), (.int (9 : Int32)), (.ref b67)])) _
    refine XS.i2b X85.here hx rfl (hb hby own_d1_104) rfl ?_
    show Steps p.tables e below (T85.setTop (mkF m 105 #[.val (.long q1), .second, .val (.long q2), .second, .val (.int (1 : Int32)), .val (.ref b67)] [(.int ((((q2.toUInt64 >>> ((11 : Int32) &&& 0x3f).toInt64.toUInt64).toInt64).toInt32).toInt8.toInt32)), (.int (9 : Int32)), (.ref b67)])) _
    refine st87 _ ?_
    show Steps p.tables e below (T87.setTop (mkF m 106 #[.val (.long q1), .second, .val (.long q2), .second, .val (.int (1 : Int32)), .val (.ref b67)] [])) _
    refine XS.aload X87.here hx rfl (hb hby own_d1_106) rfl rfl ?_
    show Steps p.tables e below (T87.setTop (mkF m 108 #[.val (.long q1), .second, .val (.long q2), .second, .val (.int (1 : Int32)), .val (.ref b67)] [(.ref b67)])) _
    refine XS.iload X87.here hx rfl (hb hby own_d1_108) rfl ?_
    show Steps p.tables e below (T87.setTop (mkF m 110 #[.val (.long q1), .second, .val (.long q2), .second, .val (.int (1 : Int32)), .val (.ref b67)] [(.int (1 : Int32)), (.ref b67)])) _
    refine XS.lloadN X87.here hx rfl (hb hby own_d1_110) rfl ?_
    show Steps p.tables e below (T87.setTop (mkF m 111 #[.val (.long q1), .second, .val (.long q2), .second, .val (.int (1 : Int32)), .val (.ref b67)] [(.long q1), (.int (1 : Int32)), (.ref b67)])) _
    refine XS.bipush X87.here hx rfl (hb hby own_d1_111) ?_
    show Steps p.tables e below (T87.setTop (mkF m 113 #[.val (.long q1), .second, .val (.long q2), .second, .val (.int (1 : Int32)), .val (.ref b67)] [(.int (48 : Int32)), (.long q1), (.int (1 : Int32)), (.ref b67)])) _
    refine XS.lushr X87.here hx rfl (hb hby own_d1_113) rfl ?_
    show Steps p.tables e below (T87.setTop (mkF m 114 #[.val (.long q1), .second, .val (.long q2), .second, .val (.int (1 : Int32)), .val (.ref b67)] [(.long ((q1.toUInt64 >>> ((48 : Int32) &&& 0x3f).toInt64.toUInt64).toInt64)), (.int (1 : Int32)), (.ref b67)])) _
    refine XS.l2i X87.here hx rfl (hb hby own_d1_114) rfl ?_
    show Steps p.tables e below (T87.setTop (mkF m 115 #[.val (.long q1), .second, .val (.long q2), .second, .val (.int (1 : Int32)), .val (.ref b67)] [(.int (((q1.toUInt64 >>> ((48 : Int32) &&& 0x3f).toInt64.toUInt64).toInt64).toInt32)), (.int (1 : Int32)), (.ref b67)])) _
    refine XS.i2b X87.here hx rfl (hb hby own_d1_115) rfl ?_
    show Steps p.tables e below (T87.setTop (mkF m 116 #[.val (.long q1), .second, .val (.long q2), .second, .val (.int (1 : Int32)), .val (.ref b67)] [(.int ((((q1.toUInt64 >>> ((48 : Int32) &&& 0x3f).toInt64.toUInt64).toInt64).toInt32).toInt8.toInt32)), (.int (1 : Int32)), (.ref b67)])) _
    refine st89 _ ?_
    show Steps p.tables e below (T89.setTop (mkF m 117 #[.val (.long q1), .second, .val (.long q2), .second, .val (.int (1 : Int32)), .val (.ref b67)] [])) _
    refine XS.aload X89.here hx rfl (hb hby own_d1_117) rfl rfl ?_
    show Steps p.tables e below (T89.setTop (mkF m 119 #[.val (.long q1), .second, .val (.long q2), .second, .val (.int (1 : Int32)), .val (.ref b67)] [(.ref b67)])) _
    refine XS.iload X89.here hx rfl (hb hby own_d1_119) rfl ?_
    show Steps p.tables e below (T89.setTop (mkF m 121 #[.val (.long q1), .second, .val (.long q2), .second, .val (.int (1 : Int32)), .val (.ref b67)] [(.int (1 : Int32)), (.ref b67)])) _
    refine XS.iconst X89.here hx rfl (hb hby own_d1_121) ?_
    show Steps p.tables e below (T89.setTop (mkF m 122 #[.val (.long q1), .second, .val (.long q2), .second, .val (.int (1 : Int32)), .val (.ref b67)] [(.int (1 : Int32)), (.int (1 : Int32)), (.ref b67)])) _
    refine XS.iadd X89.here hx rfl (hb hby own_d1_122) rfl ?_
    show Steps p.tables e below (T89.setTop (mkF m 123 #[.val (.long q1), .second, .val (.long q2), .second, .val (.int (1 : Int32)), .val (.ref b67)] [(.int (2 : Int32)), (.ref b67)])) _
    refine XS.lloadN X89.here hx rfl (hb hby own_d1_123) rfl ?_
    show Steps p.tables e below (T89.setTop (mkF m 124 #[.val (.long q1), .second, .val (.long q2), .second, .val (.int (1 : Int32)), .val (.ref b67)] [(.long q1), (.int (2 : Int32)), (.ref b67)])) _
    refine XS.bipush X89.here hx rfl (hb hby own_d1_124) ?_
    show Steps p.tables e below (T89.setTop (mkF m 126 #[.val (.long q1), .second, .val (.long q2), .second, .val (.int (1 : Int32)), .val (.ref b67)] [(.int (40 : Int32)), (.long q1), (.int (2 : Int32)), (.ref b67)])) _
    refine XS.lushr X89.here hx rfl (hb hby own_d1_126) rfl ?_
    show Steps p.tables e below (T89.setTop (mkF m 127 #[.val (.long q1), .second, .val (.long q2), .second, .val (.int (1 : Int32)), .val (.ref b67)] [(.long ((q1.toUInt64 >>> ((40 : Int32) &&& 0x3f).toInt64.toUInt64).toInt64)), (.int (2 : Int32)), (.ref b67)])) _
    refine XS.l2i X89.here hx rfl (hb hby own_d1_127) rfl ?_
    show Steps p.tables e below (T89.setTop (mkF m 128 #[.val (.long q1), .second, .val (.long q2), .second, .val (.int (1 : Int32)), .val (.ref b67)] [(.int (((q1.toUInt64 >>> ((40 : Int32) &&& 0x3f).toInt64.toUInt64).toInt64).toInt32)), (.int (2 : Int32)), (.ref b67)])) _
    refine XS.i2b X89.here hx rfl (hb hby own_d1_128) rfl ?_
    show Steps p.tables e below (T89.setTop (mkF m 129 #[.val (.long q1), .second, .val (.long q2), .second, .val (.int (1 : Int32)), .val (.ref b67)] [(.int ((((q1.toUInt64 >>> ((40 : Int32) &&& 0x3f).toInt64.toUInt64).toInt64).toInt32).toInt8.toInt32)), (.int (2 : Int32)), (.ref b67)])) _
    refine st91 _ ?_
    show Steps p.tables e below (T91.setTop (mkF m 130 #[.val (.long q1), .second, .val (.long q2), .second, .val (.int (1 : Int32)), .val (.ref b67)] [])) _
    refine XS.aload X91.here hx rfl (hb hby own_d1_130) rfl rfl ?_
    show Steps p.tables e below (T91.setTop (mkF m 132 #[.val (.long q1), .second, .val (.long q2), .second, .val (.int (1 : Int32)), .val (.ref b67)] [(.ref b67)])) _
    refine XS.iload X91.here hx rfl (hb hby own_d1_132) rfl ?_
    show Steps p.tables e below (T91.setTop (mkF m 134 #[.val (.long q1), .second, .val (.long q2), .second, .val (.int (1 : Int32)), .val (.ref b67)] [(.int (1 : Int32)), (.ref b67)])) _
    refine XS.iconst X91.here hx rfl (hb hby own_d1_134) ?_
    show Steps p.tables e below (T91.setTop (mkF m 135 #[.val (.long q1), .second, .val (.long q2), .second, .val (.int (1 : Int32)), .val (.ref b67)] [(.int (2 : Int32)), (.int (1 : Int32)), (.ref b67)])) _
    refine XS.iadd X91.here hx rfl (hb hby own_d1_135) rfl ?_
    show Steps p.tables e below (T91.setTop (mkF m 136 #[.val (.long q1), .second, .val (.long q2), .second, .val (.int (1 : Int32)), .val (.ref b67)] [(.int (3 : Int32)), (.ref b67)])) _
    refine XS.lloadN X91.here hx rfl (hb hby own_d1_136) rfl ?_
    show Steps p.tables e below (T91.setTop (mkF m 137 #[.val (.long q1), .second, .val (.long q2), .second, .val (.int (1 : Int32)), .val (.ref b67)] [(.long q1), (.int (3 : Int32)), (.ref b67)])) _
    refine XS.bipush X91.here hx rfl (hb hby own_d1_137) ?_
    show Steps p.tables e below (T91.setTop (mkF m 139 #[.val (.long q1), .second, .val (.long q2), .second, .val (.int (1 : Int32)), .val (.ref b67)] [(.int (32 : Int32)), (.long q1), (.int (3 : Int32)), (.ref b67)])) _
    refine XS.lushr X91.here hx rfl (hb hby own_d1_139) rfl ?_
    show Steps p.tables e below (T91.setTop (mkF m 140 #[.val (.long q1), .second, .val (.long q2), .second, .val (.int (1 : Int32)), .val (.ref b67)] [(.long ((q1.toUInt64 >>> ((32 : Int32) &&& 0x3f).toInt64.toUInt64).toInt64)), (.int (3 : Int32)), (.ref b67)])) _
    refine XS.l2i X91.here hx rfl (hb hby own_d1_140) rfl ?_
    show Steps p.tables e below (T91.setTop (mkF m 141 #[.val (.long q1), .second, .val (.long q2), .second, .val (.int (1 : Int32)), .val (.ref b67)] [(.int (((q1.toUInt64 >>> ((32 : Int32) &&& 0x3f).toInt64.toUInt64).toInt64).toInt32)), (.int (3 : Int32)), (.ref b67)])) _
    refine XS.i2b X91.here hx rfl (hb hby own_d1_141) rfl ?_
    show Steps p.tables e below (T91.setTop (mkF m 142 #[.val (.long q1), .second, .val (.long q2), .second, .val (.int (1 : Int32)), .val (.ref b67)] [(.int ((((q1.toUInt64 >>> ((32 : Int32) &&& 0x3f).toInt64.toUInt64).toInt64).toInt32).toInt8.toInt32)), (.int (3 : Int32)), (.ref b67)])) _
    refine st93 _ ?_
    show Steps p.tables e below (T93.setTop (mkF m 143 #[.val (.long q1), .second, .val (.long q2), .second, .val (.int (1 : Int32)), .val (.ref b67)] [])) _
    refine XS.aload X93.here hx rfl (hb hby own_d1_143) rfl rfl ?_
    show Steps p.tables e below (T93.setTop (mkF m 145 #[.val (.long q1), .second, .val (.long q2), .second, .val (.int (1 : Int32)), .val (.ref b67)] [(.ref b67)])) _
    refine XS.iload X93.here hx rfl (hb hby own_d1_145) rfl ?_
    show Steps p.tables e below (T93.setTop (mkF m 147 #[.val (.long q1), .second, .val (.long q2), .second, .val (.int (1 : Int32)), .val (.ref b67)] [(.int (1 : Int32)), (.ref b67)])) _
    refine XS.iconst X93.here hx rfl (hb hby own_d1_147) ?_
    show Steps p.tables e below (T93.setTop (mkF m 148 #[.val (.long q1), .second, .val (.long q2), .second, .val (.int (1 : Int32)), .val (.ref b67)] [(.int (3 : Int32)), (.int (1 : Int32)), (.ref b67)])) _
    refine XS.iadd X93.here hx rfl (hb hby own_d1_148) rfl ?_
    show Steps p.tables e below (T93.setTop (mkF m 149 #[.val (.long q1), .second, .val (.long q2), .second, .val (.int (1 : Int32)), .val (.ref b67)] [(.int (4 : Int32)), (.ref b67)])) _
    refine XS.lloadN X93.here hx rfl (hb hby own_d1_149) rfl ?_
    show Steps p.tables e below (T93.setTop (mkF m 150 #[.val (.long q1), .second, .val (.long q2), .second, .val (.int (1 : Int32)), .val (.ref b67)] [(.long q1), (.int (4 : Int32)), (.ref b67)])) _
    refine XS.bipush X93.here hx rfl (hb hby own_d1_150) ?_
    show Steps p.tables e below (T93.setTop (mkF m 152 #[.val (.long q1), .second, .val (.long q2), .second, .val (.int (1 : Int32)), .val (.ref b67)] [(.int (24 : Int32)), (.long q1), (.int (4 : Int32)), (.ref b67)])) _
    refine XS.lushr X93.here hx rfl (hb hby own_d1_152) rfl ?_
    show Steps p.tables e below (T93.setTop (mkF m 153 #[.val (.long q1), .second, .val (.long q2), .second, .val (.int (1 : Int32)), .val (.ref b67)] [(.long ((q1.toUInt64 >>> ((24 : Int32) &&& 0x3f).toInt64.toUInt64).toInt64)), (.int (4 : Int32)), (.ref b67)])) _
    refine XS.l2i X93.here hx rfl (hb hby own_d1_153) rfl ?_
    show Steps p.tables e below (T93.setTop (mkF m 154 #[.val (.long q1), .second, .val (.long q2), .second, .val (.int (1 : Int32)), .val (.ref b67)] [(.int (((q1.toUInt64 >>> ((24 : Int32) &&& 0x3f).toInt64.toUInt64).toInt64).toInt32)), (.int (4 : Int32)), (.ref b67)])) _
    refine XS.i2b X93.here hx rfl (hb hby own_d1_154) rfl ?_
    show Steps p.tables e below (T93.setTop (mkF m 155 #[.val (.long q1), .second, .val (.long q2), .second, .val (.int (1 : Int32)), .val (.ref b67)] [(.int ((((q1.toUInt64 >>> ((24 : Int32) &&& 0x3f).toInt64.toUInt64).toInt64).toInt32).toInt8.toInt32)), (.int (4 : Int32)), (.ref b67)])) _
    refine st95 _ ?_
    show Steps p.tables e below (T95.setTop (mkF m 156 #[.val (.long q1), .second, .val (.long q2), .second, .val (.int (1 : Int32)), .val (.ref b67)] [])) _
    refine XS.aload X95.here hx rfl (hb hby own_d1_156) rfl rfl ?_
    show Steps p.tables e below (T95.setTop (mkF m 158 #[.val (.long q1), .second, .val (.long q2), .second, .val (.int (1 : Int32)), .val (.ref b67)] [(.ref b67)])) _
    refine XS.iload X95.here hx rfl (hb hby own_d1_158) rfl ?_
    show Steps p.tables e below (T95.setTop (mkF m 160 #[.val (.long q1), .second, .val (.long q2), .second, .val (.int (1 : Int32)), .val (.ref b67)] [(.int (1 : Int32)), (.ref b67)])) _
    refine XS.iconst X95.here hx rfl (hb hby own_d1_160) ?_
    show Steps p.tables e below (T95.setTop (mkF m 161 #[.val (.long q1), .second, .val (.long q2), .second, .val (.int (1 : Int32)), .val (.ref b67)] [(.int (4 : Int32)), (.int (1 : Int32)), (.ref b67)])) _
    refine XS.iadd X95.here hx rfl (hb hby own_d1_161) rfl ?_
    show Steps p.tables e below (T95.setTop (mkF m 162 #[.val (.long q1), .second, .val (.long q2), .second, .val (.int (1 : Int32)), .val (.ref b67)] [(.int (5 : Int32)), (.ref b67)])) _
    refine XS.lloadN X95.here hx rfl (hb hby own_d1_162) rfl ?_
    show Steps p.tables e below (T95.setTop (mkF m 163 #[.val (.long q1), .second, .val (.long q2), .second, .val (.int (1 : Int32)), .val (.ref b67)] [(.long q1), (.int (5 : Int32)), (.ref b67)])) _
    refine XS.bipush X95.here hx rfl (hb hby own_d1_163) ?_
    show Steps p.tables e below (T95.setTop (mkF m 165 #[.val (.long q1), .second, .val (.long q2), .second, .val (.int (1 : Int32)), .val (.ref b67)] [(.int (16 : Int32)), (.long q1), (.int (5 : Int32)), (.ref b67)])) _
    refine XS.lushr X95.here hx rfl (hb hby own_d1_165) rfl ?_
    show Steps p.tables e below (T95.setTop (mkF m 166 #[.val (.long q1), .second, .val (.long q2), .second, .val (.int (1 : Int32)), .val (.ref b67)] [(.long ((q1.toUInt64 >>> ((16 : Int32) &&& 0x3f).toInt64.toUInt64).toInt64)), (.int (5 : Int32)), (.ref b67)])) _
    refine XS.l2i X95.here hx rfl (hb hby own_d1_166) rfl ?_
    show Steps p.tables e below (T95.setTop (mkF m 167 #[.val (.long q1), .second, .val (.long q2), .second, .val (.int (1 : Int32)), .val (.ref b67)] [(.int (((q1.toUInt64 >>> ((16 : Int32) &&& 0x3f).toInt64.toUInt64).toInt64).toInt32)), (.int (5 : Int32)), (.ref b67)])) _
    refine XS.i2b X95.here hx rfl (hb hby own_d1_167) rfl ?_
    show Steps p.tables e below (T95.setTop (mkF m 168 #[.val (.long q1), .second, .val (.long q2), .second, .val (.int (1 : Int32)), .val (.ref b67)] [(.int ((((q1.toUInt64 >>> ((16 : Int32) &&& 0x3f).toInt64.toUInt64).toInt64).toInt32).toInt8.toInt32)), (.int (5 : Int32)), (.ref b67)])) _
    refine st97 _ ?_
    show Steps p.tables e below (T97.setTop (mkF m 169 #[.val (.long q1), .second, .val (.long q2), .second, .val (.int (1 : Int32)), .val (.ref b67)] [])) _
    refine XS.aload X97.here hx rfl (hb hby own_d1_169) rfl rfl ?_
    show Steps p.tables e below (T97.setTop (mkF m 171 #[.val (.long q1), .second, .val (.long q2), .second, .val (.int (1 : Int32)), .val (.ref b67)] [(.ref b67)])) _
    refine XS.iload X97.here hx rfl (hb hby own_d1_171) rfl ?_
    show Steps p.tables e below (T97.setTop (mkF m 173 #[.val (.long q1), .second, .val (.long q2), .second, .val (.int (1 : Int32)), .val (.ref b67)] [(.int (1 : Int32)), (.ref b67)])) _
    refine XS.iconst X97.here hx rfl (hb hby own_d1_173) ?_
    show Steps p.tables e below (T97.setTop (mkF m 174 #[.val (.long q1), .second, .val (.long q2), .second, .val (.int (1 : Int32)), .val (.ref b67)] [(.int (5 : Int32)), (.int (1 : Int32)), (.ref b67)])) _
    refine XS.iadd X97.here hx rfl (hb hby own_d1_174) rfl ?_
    show Steps p.tables e below (T97.setTop (mkF m 175 #[.val (.long q1), .second, .val (.long q2), .second, .val (.int (1 : Int32)), .val (.ref b67)] [(.int (6 : Int32)), (.ref b67)])) _
    refine XS.lloadN X97.here hx rfl (hb hby own_d1_175) rfl ?_
    show Steps p.tables e below (T97.setTop (mkF m 176 #[.val (.long q1), .second, .val (.long q2), .second, .val (.int (1 : Int32)), .val (.ref b67)] [(.long q1), (.int (6 : Int32)), (.ref b67)])) _
    refine XS.bipush X97.here hx rfl (hb hby own_d1_176) ?_
    show Steps p.tables e below (T97.setTop (mkF m 178 #[.val (.long q1), .second, .val (.long q2), .second, .val (.int (1 : Int32)), .val (.ref b67)] [(.int (8 : Int32)), (.long q1), (.int (6 : Int32)), (.ref b67)])) _
    refine XS.lushr X97.here hx rfl (hb hby own_d1_178) rfl ?_
    show Steps p.tables e below (T97.setTop (mkF m 179 #[.val (.long q1), .second, .val (.long q2), .second, .val (.int (1 : Int32)), .val (.ref b67)] [(.long ((q1.toUInt64 >>> ((8 : Int32) &&& 0x3f).toInt64.toUInt64).toInt64)), (.int (6 : Int32)), (.ref b67)])) _
    refine XS.l2i X97.here hx rfl (hb hby own_d1_179) rfl ?_
    show Steps p.tables e below (T97.setTop (mkF m 180 #[.val (.long q1), .second, .val (.long q2), .second, .val (.int (1 : Int32)), .val (.ref b67)] [(.int (((q1.toUInt64 >>> ((8 : Int32) &&& 0x3f).toInt64.toUInt64).toInt64).toInt32)), (.int (6 : Int32)), (.ref b67)])) _
    refine XS.i2b X97.here hx rfl (hb hby own_d1_180) rfl ?_
    show Steps p.tables e below (T97.setTop (mkF m 181 #[.val (.long q1), .second, .val (.long q2), .second, .val (.int (1 : Int32)), .val (.ref b67)] [(.int ((((q1.toUInt64 >>> ((8 : Int32) &&& 0x3f).toInt64.toUInt64).toInt64).toInt32).toInt8.toInt32)), (.int (6 : Int32)), (.ref b67)])) _
    refine st99 _ ?_
    show Steps p.tables e below (T99.setTop (mkF m 182 #[.val (.long q1), .second, .val (.long q2), .second, .val (.int (1 : Int32)), .val (.ref b67)] [])) _
    refine XS.aload X99.here hx rfl (hb hby own_d1_182) rfl rfl ?_
    show Steps p.tables e below (T99.setTop (mkF m 184 #[.val (.long q1), .second, .val (.long q2), .second, .val (.int (1 : Int32)), .val (.ref b67)] [(.ref b67)])) _
    refine XS.iload X99.here hx rfl (hb hby own_d1_184) rfl ?_
    show Steps p.tables e below (T99.setTop (mkF m 186 #[.val (.long q1), .second, .val (.long q2), .second, .val (.int (1 : Int32)), .val (.ref b67)] [(.int (1 : Int32)), (.ref b67)])) _
    refine XS.bipush X99.here hx rfl (hb hby own_d1_186) ?_
    show Steps p.tables e below (T99.setTop (mkF m 188 #[.val (.long q1), .second, .val (.long q2), .second, .val (.int (1 : Int32)), .val (.ref b67)] [(.int (6 : Int32)), (.int (1 : Int32)), (.ref b67)])) _
    refine XS.iadd X99.here hx rfl (hb hby own_d1_188) rfl ?_
    show Steps p.tables e below (T99.setTop (mkF m 189 #[.val (.long q1), .second, .val (.long q2), .second, .val (.int (1 : Int32)), .val (.ref b67)] [(.int (7 : Int32)), (.ref b67)])) _
    refine XS.lloadN X99.here hx rfl (hb hby own_d1_189) rfl ?_
    show Steps p.tables e below (T99.setTop (mkF m 190 #[.val (.long q1), .second, .val (.long q2), .second, .val (.int (1 : Int32)), .val (.ref b67)] [(.long q1), (.int (7 : Int32)), (.ref b67)])) _
    refine XS.l2i X99.here hx rfl (hb hby own_d1_190) rfl ?_
    show Steps p.tables e below (T99.setTop (mkF m 191 #[.val (.long q1), .second, .val (.long q2), .second, .val (.int (1 : Int32)), .val (.ref b67)] [(.int (q1.toInt32)), (.int (7 : Int32)), (.ref b67)])) _
    refine XS.i2b X99.here hx rfl (hb hby own_d1_191) rfl ?_
    show Steps p.tables e below (T99.setTop (mkF m 192 #[.val (.long q1), .second, .val (.long q2), .second, .val (.int (1 : Int32)), .val (.ref b67)] [(.int ((q1.toInt32).toInt8.toInt32)), (.int (7 : Int32)), (.ref b67)])) _
    refine st101 _ ?_
    show Steps p.tables e below (T101.setTop (mkF m 193 #[.val (.long q1), .second, .val (.long q2), .second, .val (.int (1 : Int32)), .val (.ref b67)] [])) _
    refine XS.aload X101.here hx rfl (hb hby own_d1_193) rfl rfl ?_
    show Steps p.tables e below (T101.setTop (mkF m 195 #[.val (.long q1), .second, .val (.long q2), .second, .val (.int (1 : Int32)), .val (.ref b67)] [(.ref b67)])) _
    jvm_step X101.here [X101.here.top, hx, (hb hby own_d1_195), X101.method', Bd.returns, Value.isRef, FieldType.isReference]
    first | (intro acts; rw [hr _ acts rfl rfl rfl]) | rw [hr _ _ rfl rfl rfl]
    exact Steps.refl _
  · show Q1_1 Z q1 q2 h0 n0 _ T101.heap _
    rw [e101]
    exact ⟨b67, k67, rfl, N101, K101, sz_b67, V101⟩
theorem own_ef_rm1_2 (m : MethodId) (q1 : Int64) (q2 : Int64) : entryFrame m #[(.long q1), (.long q2), (.int (2 : Int32))] 6 = mkF m 0 #[.val (.long q1), .second, .val (.long q2), .second, .val (.int (2 : Int32)), .unset] [] := by first | (simp [entryFrame, mkF, argsToLocals, Value.category]; done) | rfl
def Q1_2 (Z : State) (q1 : Int64) (q2 : Int64) (h0 : Heap) (n0 : Nat) (v : Option Value) (h : Heap) (L : List Loc) : Prop := ∃ b : Addr, ∃ k : ClassId, v = some (.ref b) ∧ Fr n0 L ∧ Keep h0 h [] ∧ h0.size ≤ b ∧ Arv Z h b k .byte (10 : Int32) [(.int (own_by0 q2)), (.int (own_by q2 (8 : Int32))), (.int (own_by q1 (48 : Int32))), (.int (own_by q1 (40 : Int32))), (.int (own_by q1 (32 : Int32))), (.int (own_by q1 (24 : Int32))), (.int (own_by q1 (16 : Int32))), (.int (own_by q1 (8 : Int32))), (.int (own_by0 q1)), (.int (own_by q2 (11 : Int32)))] (.int (0 : Int32))
set_option maxRecDepth 65536 in
set_option maxHeartbeats 40000000 in
theorem rm1_2 (l : Launch) (Z : State) (a0 : Array Value) (hw : ∀ d ∈ tables_1, d.before a0 Z = true) (ws : List Jvm.Cond) (q1 : Int64) (q2 : Int64) (h0 : Heap) (n0 : Nat) (Z0 : n0 ≤ h0.size) :
    MetFree l (⟨"com/example/linkbook/linkbook/coding/BchParityOctetPinLaw", "build", "(JJI)[B"⟩ : MethodName) (head1 (Jvm.Cond.code (⟨"com/example/linkbook/linkbook/coding/BchParityOctetPinLaw", "build", "(JJI)[B"⟩ : MethodName) method_2_code 6 (some (.array .byte)) :: ws) ({ frames := 0, cells := 1, slots := 10, locals := 0 } : Room)) (fun a U => a = #[(.long q1), (.long q2), (.int (2 : Int32))] ∧ Z.Warmed39 U.vm ∧ U.heap = h0) (fun _ _ _ _ _ => True) (fun _ U o U' => ∃ v L, o = .returned v ∧ Q1_2 Z q1 q2 h0 n0 v U'.heap L ∧ FrameEnd U o U' L ({ frames := 0, cells := 1, slots := 10, locals := 0 } : Room).cells ({ frames := 0, cells := 1, slots := 10, locals := 0 } : Room).slots) := by
  refine MetFree.of_bodySF (plainFor_of_name own_pn1) hisR ?_
  intro p e s m args below meth c s₁ Bd hml0 hP hK
  obtain ⟨rfl, hZ, hh⟩ := hP
  have hx := Bd.exec
  have hby := Bd.bytes
  have hml : c.maxLocals = 6 := hml0
  have hown : s.vm.findClass "com/example/linkbook/linkbook/coding/BchParityOctetPinLaw" = some m.cls := findClass_of_methodNamed Bd.named
  have hnm := (name_of_methodNamed Bd.named Bd.method).1
  have X0 : Stand p l e ({ frames := 0, cells := 1, slots := 10, locals := 0 } : Room) s m #[(.long q1), (.long q2), (.int (2 : Int32))] below meth c s₁ [] 0 0 := Stand.of_body Bd
  have e0 : s₁.heap = h0 := by rw [← hh, Bd.state]; rfl
  have N0 := Fr.nil n0
  have K0 : Keep h0 h0 [] := Keep.refl h0 _
  have pre0 : ∀ t, Steps p.tables e below (s₁.setTop (mkF m 0 #[.val (.long q1), .second, .val (.long q2), .second, .val (.int (2 : Int32)), .unset] [])) t → Steps p.tables e below (s₁.setTop (entryFrame m #[(.long q1), (.long q2), (.int (2 : Int32))] 6)) t := fun t k => castTop (own_ef_rm1_2 m q1 q2) k
  obtain ⟨T102, h102, k102, X102, e102, E102, A102, st102⟩ := newP X0 hx hZ (hw _ (List.mem_of_getElem? (i := 6) rfl)) e0 (g := (mkF m 2 #[.val (.long q1), .second, .val (.long q2), .second, .val (.int (2 : Int32)), .unset] [(.int (10 : Int32))])) rfl (hb hby own_d1_2) rfl (by decide) (cap := 10) (by decide) (by decide) (by decide) (by decide)
  obtain ⟨b102, g102⟩ : ∃ z, z = h0.size := ⟨_, rfl⟩
  rw [← g102] at A102 st102
  have gg_b102 : n0 ≤ b102 := Nat.le_trans (Nat.le_trans Z0 K0.1) (Nat.le_of_eq g102.symm)
  have sz_b102 : h0.size ≤ b102 := Nat.le_trans K0.1 (Nat.le_of_eq g102.symm)
  have K102 := K0.ext E102
  have V102 : Arv Z h102 b102 k102 .byte (10 : Int32) [(.int (0 : Int32)), (.int (0 : Int32)), (.int (0 : Int32)), (.int (0 : Int32)), (.int (0 : Int32)), (.int (0 : Int32)), (.int (0 : Int32)), (.int (0 : Int32)), (.int (0 : Int32)), (.int (0 : Int32))] (.int (0 : Int32)) := (Arv.new A102 (by decide)).pad (pad_rep [] (.int (0 : Int32)) 10)
  obtain ⟨cl103, Ar103, q103, S103, M103, H103, G103⟩ := id V102
  have hin103 : ¬ ((0 : Int32) < 0 ∨ cl103.slots.size ≤ ((0 : Int32)).toNatClampNeg) := inb_of S103 ⟨by decide, by decide⟩
  obtain ⟨T104, h104, X104, e104, W104, st104⟩ := stB X102 hx hZ e102 Ar103 (j := (0 : Int32)) hin103 (g := (mkF m 12 #[.val (.long q1), .second, .val (.long q2), .second, .val (.int (2 : Int32)), .val (.ref b102)] [(.int ((q2.toInt32).toInt8.toInt32)), (.int (0 : Int32)), (.ref b102)])) rfl rfl (hb hby own_d1_12)
  have V104 : Arv Z h104 b102 k102 .byte (10 : Int32) [(.int (nar .byte ((q2.toInt32).toInt8.toInt32))), (.int (0 : Int32)), (.int (0 : Int32)), (.int (0 : Int32)), (.int (0 : Int32)), (.int (0 : Int32)), (.int (0 : Int32)), (.int (0 : Int32)), (.int (0 : Int32)), (.int (0 : Int32))] (.int (0 : Int32)) := Arv.set Ar103 q103 S103 M103 H103 G103 (fits_nar_byte _) W104 0 rfl (Nat.le_of_ble_eq_true rfl)
  have K104 := K102.wr W104 (Or.inr sz_b102)
  have N104 := Fr.snoc X104 N0 gg_b102
  obtain ⟨cl105, Ar105, q105, S105, M105, H105, G105⟩ := id V104
  have hin105 : ¬ ((1 : Int32) < 0 ∨ cl105.slots.size ≤ ((1 : Int32)).toNatClampNeg) := inb_of S105 ⟨by decide, by decide⟩
  obtain ⟨T106, h106, X106, e106, W106, st106⟩ := stB X104 hx hZ e104 Ar105 (j := (1 : Int32)) hin105 (g := (mkF m 22 #[.val (.long q1), .second, .val (.long q2), .second, .val (.int (2 : Int32)), .val (.ref b102)] [(.int ((((q2.toUInt64 >>> ((8 : Int32) &&& 0x3f).toInt64.toUInt64).toInt64).toInt32).toInt8.toInt32)), (.int (1 : Int32)), (.ref b102)])) rfl rfl (hb hby own_d1_22)
  have V106 : Arv Z h106 b102 k102 .byte (10 : Int32) [(.int (nar .byte ((q2.toInt32).toInt8.toInt32))), (.int (nar .byte ((((q2.toUInt64 >>> ((8 : Int32) &&& 0x3f).toInt64.toUInt64).toInt64).toInt32).toInt8.toInt32))), (.int (0 : Int32)), (.int (0 : Int32)), (.int (0 : Int32)), (.int (0 : Int32)), (.int (0 : Int32)), (.int (0 : Int32)), (.int (0 : Int32)), (.int (0 : Int32))] (.int (0 : Int32)) := Arv.set Ar105 q105 S105 M105 H105 G105 (fits_nar_byte _) W106 1 rfl (Nat.le_of_ble_eq_true rfl)
  have K106 := K104.wr W106 (Or.inr sz_b102)
  have N106 := Fr.snoc X106 N104 gg_b102
  obtain ⟨cl107, Ar107, q107, S107, M107, H107, G107⟩ := id V106
  have hin107 : ¬ ((2 : Int32) < 0 ∨ cl107.slots.size ≤ ((2 : Int32)).toNatClampNeg) := inb_of S107 ⟨by decide, by decide⟩
  obtain ⟨T108, h108, X108, e108, W108, st108⟩ := stB X106 hx hZ e106 Ar107 (j := (2 : Int32)) hin107 (g := (mkF m 32 #[.val (.long q1), .second, .val (.long q2), .second, .val (.int (2 : Int32)), .val (.ref b102)] [(.int ((((q2.toUInt64 >>> ((16 : Int32) &&& 0x3f).toInt64.toUInt64).toInt64).toInt32).toInt8.toInt32)), (.int (2 : Int32)), (.ref b102)])) rfl rfl (hb hby own_d1_32)
  have V108 : Arv Z h108 b102 k102 .byte (10 : Int32) [(.int (nar .byte ((q2.toInt32).toInt8.toInt32))), (.int (nar .byte ((((q2.toUInt64 >>> ((8 : Int32) &&& 0x3f).toInt64.toUInt64).toInt64).toInt32).toInt8.toInt32))), (.int (nar .byte ((((q2.toUInt64 >>> ((16 : Int32) &&& 0x3f).toInt64.toUInt64).toInt64).toInt32).toInt8.toInt32))), (.int (0 : Int32)), (.int (0 : Int32)), (.int (0 : Int32)), (.int (0 : Int32)), (.int (0 : Int32)), (.int (0 : Int32)), (.int (0 : Int32))] (.int (0 : Int32)) := Arv.set Ar107 q107 S107 M107 H107 G107 (fits_nar_byte _) W108 2 rfl (Nat.le_of_ble_eq_true rfl)
  have K108 := K106.wr W108 (Or.inr sz_b102)
  have N108 := Fr.snoc X108 N106 gg_b102
  obtain ⟨cl109, Ar109, q109, S109, M109, H109, G109⟩ := id V108
  have hin109 : ¬ ((3 : Int32) < 0 ∨ cl109.slots.size ≤ ((3 : Int32)).toNatClampNeg) := inb_of S109 ⟨by decide, by decide⟩
  obtain ⟨T110, h110, X110, e110, W110, st110⟩ := stB X108 hx hZ e108 Ar109 (j := (3 : Int32)) hin109 (g := (mkF m 42 #[.val (.long q1), .second, .val (.long q2), .second, .val (.int (2 : Int32)), .val (.ref b102)] [(.int ((((q2.toUInt64 >>> ((24 : Int32) &&& 0x3f).toInt64.toUInt64).toInt64).toInt32).toInt8.toInt32)), (.int (3 : Int32)), (.ref b102)])) rfl rfl (hb hby own_d1_42)
  have V110 : Arv Z h110 b102 k102 .byte (10 : Int32) [(.int (nar .byte ((q2.toInt32).toInt8.toInt32))), (.int (nar .byte ((((q2.toUInt64 >>> ((8 : Int32) &&& 0x3f).toInt64.toUInt64).toInt64).toInt32).toInt8.toInt32))), (.int (nar .byte ((((q2.toUInt64 >>> ((16 : Int32) &&& 0x3f).toInt64.toUInt64).toInt64).toInt32).toInt8.toInt32))), (.int (nar .byte ((((q2.toUInt64 >>> ((24 : Int32) &&& 0x3f).toInt64.toUInt64).toInt64).toInt32).toInt8.toInt32))), (.int (0 : Int32)), (.int (0 : Int32)), (.int (0 : Int32)), (.int (0 : Int32)), (.int (0 : Int32)), (.int (0 : Int32))] (.int (0 : Int32)) := Arv.set Ar109 q109 S109 M109 H109 G109 (fits_nar_byte _) W110 3 rfl (Nat.le_of_ble_eq_true rfl)
  have K110 := K108.wr W110 (Or.inr sz_b102)
  have N110 := Fr.snoc X110 N108 gg_b102
  obtain ⟨cl111, Ar111, q111, S111, M111, H111, G111⟩ := id V110
  have hin111 : ¬ ((4 : Int32) < 0 ∨ cl111.slots.size ≤ ((4 : Int32)).toNatClampNeg) := inb_of S111 ⟨by decide, by decide⟩
  obtain ⟨T112, h112, X112, e112, W112, st112⟩ := stB X110 hx hZ e110 Ar111 (j := (4 : Int32)) hin111 (g := (mkF m 52 #[.val (.long q1), .second, .val (.long q2), .second, .val (.int (2 : Int32)), .val (.ref b102)] [(.int ((((q2.toUInt64 >>> ((32 : Int32) &&& 0x3f).toInt64.toUInt64).toInt64).toInt32).toInt8.toInt32)), (.int (4 : Int32)), (.ref b102)])) rfl rfl (hb hby own_d1_52)
  have V112 : Arv Z h112 b102 k102 .byte (10 : Int32) [(.int (nar .byte ((q2.toInt32).toInt8.toInt32))), (.int (nar .byte ((((q2.toUInt64 >>> ((8 : Int32) &&& 0x3f).toInt64.toUInt64).toInt64).toInt32).toInt8.toInt32))), (.int (nar .byte ((((q2.toUInt64 >>> ((16 : Int32) &&& 0x3f).toInt64.toUInt64).toInt64).toInt32).toInt8.toInt32))), (.int (nar .byte ((((q2.toUInt64 >>> ((24 : Int32) &&& 0x3f).toInt64.toUInt64).toInt64).toInt32).toInt8.toInt32))), (.int (nar .byte ((((q2.toUInt64 >>> ((32 : Int32) &&& 0x3f).toInt64.toUInt64).toInt64).toInt32).toInt8.toInt32))), (.int (0 : Int32)), (.int (0 : Int32)), (.int (0 : Int32)), (.int (0 : Int32)), (.int (0 : Int32))] (.int (0 : Int32)) := Arv.set Ar111 q111 S111 M111 H111 G111 (fits_nar_byte _) W112 4 rfl (Nat.le_of_ble_eq_true rfl)
  have K112 := K110.wr W112 (Or.inr sz_b102)
  have N112 := Fr.snoc X112 N110 gg_b102
  obtain ⟨cl113, Ar113, q113, S113, M113, H113, G113⟩ := id V112
  have hin113 : ¬ ((5 : Int32) < 0 ∨ cl113.slots.size ≤ ((5 : Int32)).toNatClampNeg) := inb_of S113 ⟨by decide, by decide⟩
  obtain ⟨T114, h114, X114, e114, W114, st114⟩ := stB X112 hx hZ e112 Ar113 (j := (5 : Int32)) hin113 (g := (mkF m 62 #[.val (.long q1), .second, .val (.long q2), .second, .val (.int (2 : Int32)), .val (.ref b102)] [(.int ((((q2.toUInt64 >>> ((40 : Int32) &&& 0x3f).toInt64.toUInt64).toInt64).toInt32).toInt8.toInt32)), (.int (5 : Int32)), (.ref b102)])) rfl rfl (hb hby own_d1_62)
  have V114 : Arv Z h114 b102 k102 .byte (10 : Int32) [(.int (nar .byte ((q2.toInt32).toInt8.toInt32))), (.int (nar .byte ((((q2.toUInt64 >>> ((8 : Int32) &&& 0x3f).toInt64.toUInt64).toInt64).toInt32).toInt8.toInt32))), (.int (nar .byte ((((q2.toUInt64 >>> ((16 : Int32) &&& 0x3f).toInt64.toUInt64).toInt64).toInt32).toInt8.toInt32))), (.int (nar .byte ((((q2.toUInt64 >>> ((24 : Int32) &&& 0x3f).toInt64.toUInt64).toInt64).toInt32).toInt8.toInt32))), (.int (nar .byte ((((q2.toUInt64 >>> ((32 : Int32) &&& 0x3f).toInt64.toUInt64).toInt64).toInt32).toInt8.toInt32))), (.int (nar .byte ((((q2.toUInt64 >>> ((40 : Int32) &&& 0x3f).toInt64.toUInt64).toInt64).toInt32).toInt8.toInt32))), (.int (0 : Int32)), (.int (0 : Int32)), (.int (0 : Int32)), (.int (0 : Int32))] (.int (0 : Int32)) := Arv.set Ar113 q113 S113 M113 H113 G113 (fits_nar_byte _) W114 5 rfl (Nat.le_of_ble_eq_true rfl)
  have K114 := K112.wr W114 (Or.inr sz_b102)
  have N114 := Fr.snoc X114 N112 gg_b102
  obtain ⟨cl115, Ar115, q115, S115, M115, H115, G115⟩ := id V114
  have hin115 : ¬ ((6 : Int32) < 0 ∨ cl115.slots.size ≤ ((6 : Int32)).toNatClampNeg) := inb_of S115 ⟨by decide, by decide⟩
  obtain ⟨T116, h116, X116, e116, W116, st116⟩ := stB X114 hx hZ e114 Ar115 (j := (6 : Int32)) hin115 (g := (mkF m 73 #[.val (.long q1), .second, .val (.long q2), .second, .val (.int (2 : Int32)), .val (.ref b102)] [(.int ((((q2.toUInt64 >>> ((48 : Int32) &&& 0x3f).toInt64.toUInt64).toInt64).toInt32).toInt8.toInt32)), (.int (6 : Int32)), (.ref b102)])) rfl rfl (hb hby own_d1_73)
  have V116 : Arv Z h116 b102 k102 .byte (10 : Int32) [(.int (nar .byte ((q2.toInt32).toInt8.toInt32))), (.int (nar .byte ((((q2.toUInt64 >>> ((8 : Int32) &&& 0x3f).toInt64.toUInt64).toInt64).toInt32).toInt8.toInt32))), (.int (nar .byte ((((q2.toUInt64 >>> ((16 : Int32) &&& 0x3f).toInt64.toUInt64).toInt64).toInt32).toInt8.toInt32))), (.int (nar .byte ((((q2.toUInt64 >>> ((24 : Int32) &&& 0x3f).toInt64.toUInt64).toInt64).toInt32).toInt8.toInt32))), (.int (nar .byte ((((q2.toUInt64 >>> ((32 : Int32) &&& 0x3f).toInt64.toUInt64).toInt64).toInt32).toInt8.toInt32))), (.int (nar .byte ((((q2.toUInt64 >>> ((40 : Int32) &&& 0x3f).toInt64.toUInt64).toInt64).toInt32).toInt8.toInt32))), (.int (nar .byte ((((q2.toUInt64 >>> ((48 : Int32) &&& 0x3f).toInt64.toUInt64).toInt64).toInt32).toInt8.toInt32))), (.int (0 : Int32)), (.int (0 : Int32)), (.int (0 : Int32))] (.int (0 : Int32)) := Arv.set Ar115 q115 S115 M115 H115 G115 (fits_nar_byte _) W116 6 rfl (Nat.le_of_ble_eq_true rfl)
  have K116 := K114.wr W116 (Or.inr sz_b102)
  have N116 := Fr.snoc X116 N114 gg_b102
  obtain ⟨cl117, Ar117, q117, S117, M117, H117, G117⟩ := id V116
  have hin117 : ¬ ((7 : Int32) < 0 ∨ cl117.slots.size ≤ ((7 : Int32)).toNatClampNeg) := inb_of S117 ⟨by decide, by decide⟩
  obtain ⟨T118, h118, X118, e118, W118, st118⟩ := stB X116 hx hZ e116 Ar117 (j := (7 : Int32)) hin117 (g := (mkF m 84 #[.val (.long q1), .second, .val (.long q2), .second, .val (.int (2 : Int32)), .val (.ref b102)] [(.int ((((q2.toUInt64 >>> ((56 : Int32) &&& 0x3f).toInt64.toUInt64).toInt64).toInt32).toInt8.toInt32)), (.int (7 : Int32)), (.ref b102)])) rfl rfl (hb hby own_d1_84)
  have V118 : Arv Z h118 b102 k102 .byte (10 : Int32) [(.int (nar .byte ((q2.toInt32).toInt8.toInt32))), (.int (nar .byte ((((q2.toUInt64 >>> ((8 : Int32) &&& 0x3f).toInt64.toUInt64).toInt64).toInt32).toInt8.toInt32))), (.int (nar .byte ((((q2.toUInt64 >>> ((16 : Int32) &&& 0x3f).toInt64.toUInt64).toInt64).toInt32).toInt8.toInt32))), (.int (nar .byte ((((q2.toUInt64 >>> ((24 : Int32) &&& 0x3f).toInt64.toUInt64).toInt64).toInt32).toInt8.toInt32))), (.int (nar .byte ((((q2.toUInt64 >>> ((32 : Int32) &&& 0x3f).toInt64.toUInt64).toInt64).toInt32).toInt8.toInt32))), (.int (nar .byte ((((q2.toUInt64 >>> ((40 : Int32) &&& 0x3f).toInt64.toUInt64).toInt64).toInt32).toInt8.toInt32))), (.int (nar .byte ((((q2.toUInt64 >>> ((48 : Int32) &&& 0x3f).toInt64.toUInt64).toInt64).toInt32).toInt8.toInt32))), (.int (nar .byte ((((q2.toUInt64 >>> ((56 : Int32) &&& 0x3f).toInt64.toUInt64).toInt64).toInt32).toInt8.toInt32))), (.int (0 : Int32)), (.int (0 : Int32))] (.int (0 : Int32)) := Arv.set Ar117 q117 S117 M117 H117 G117 (fits_nar_byte _) W118 7 rfl (Nat.le_of_ble_eq_true rfl)
  have K118 := K116.wr W118 (Or.inr sz_b102)
  have N118 := Fr.snoc X118 N116 gg_b102
  obtain ⟨cl119, Ar119, q119, S119, M119, H119, G119⟩ := id V118
  have hin119 : ¬ ((8 : Int32) < 0 ∨ cl119.slots.size ≤ ((8 : Int32)).toNatClampNeg) := inb_of S119 ⟨by decide, by decide⟩
  obtain ⟨T120, h120, X120, e120, W120, st120⟩ := stB X118 hx hZ e118 Ar119 (j := (8 : Int32)) hin119 (g := (mkF m 94 #[.val (.long q1), .second, .val (.long q2), .second, .val (.int (2 : Int32)), .val (.ref b102)] [(.int ((((q2.toUInt64 >>> ((3 : Int32) &&& 0x3f).toInt64.toUInt64).toInt64).toInt32).toInt8.toInt32)), (.int (8 : Int32)), (.ref b102)])) rfl rfl (hb hby own_d1_94)
  have V120 : Arv Z h120 b102 k102 .byte (10 : Int32) [(.int (nar .byte ((q2.toInt32).toInt8.toInt32))), (.int (nar .byte ((((q2.toUInt64 >>> ((8 : Int32) &&& 0x3f).toInt64.toUInt64).toInt64).toInt32).toInt8.toInt32))), (.int (nar .byte ((((q2.toUInt64 >>> ((16 : Int32) &&& 0x3f).toInt64.toUInt64).toInt64).toInt32).toInt8.toInt32))), (.int (nar .byte ((((q2.toUInt64 >>> ((24 : Int32) &&& 0x3f).toInt64.toUInt64).toInt64).toInt32).toInt8.toInt32))), (.int (nar .byte ((((q2.toUInt64 >>> ((32 : Int32) &&& 0x3f).toInt64.toUInt64).toInt64).toInt32).toInt8.toInt32))), (.int (nar .byte ((((q2.toUInt64 >>> ((40 : Int32) &&& 0x3f).toInt64.toUInt64).toInt64).toInt32).toInt8.toInt32))), (.int (nar .byte ((((q2.toUInt64 >>> ((48 : Int32) &&& 0x3f).toInt64.toUInt64).toInt64).toInt32).toInt8.toInt32))), (.int (nar .byte ((((q2.toUInt64 >>> ((56 : Int32) &&& 0x3f).toInt64.toUInt64).toInt64).toInt32).toInt8.toInt32))), (.int (nar .byte ((((q2.toUInt64 >>> ((3 : Int32) &&& 0x3f).toInt64.toUInt64).toInt64).toInt32).toInt8.toInt32))), (.int (0 : Int32))] (.int (0 : Int32)) := Arv.set Ar119 q119 S119 M119 H119 G119 (fits_nar_byte _) W120 8 rfl (Nat.le_of_ble_eq_true rfl)
  have K120 := K118.wr W120 (Or.inr sz_b102)
  have N120 := Fr.snoc X120 N118 gg_b102
  obtain ⟨cl121, Ar121, q121, S121, M121, H121, G121⟩ := id V120
  have hin121 : ¬ ((9 : Int32) < 0 ∨ cl121.slots.size ≤ ((9 : Int32)).toNatClampNeg) := inb_of S121 ⟨by decide, by decide⟩
  obtain ⟨T122, h122, X122, e122, W122, st122⟩ := stB X120 hx hZ e120 Ar121 (j := (9 : Int32)) hin121 (g := (mkF m 105 #[.val (.long q1), .second, .val (.long q2), .second, .val (.int (2 : Int32)), .val (.ref b102)] [(.int ((((q2.toUInt64 >>> ((11 : Int32) &&& 0x3f).toInt64.toUInt64).toInt64).toInt32).toInt8.toInt32)), (.int (9 : Int32)), (.ref b102)])) rfl rfl (hb hby own_d1_105)
  have V122 : Arv Z h122 b102 k102 .byte (10 : Int32) [(.int (nar .byte ((q2.toInt32).toInt8.toInt32))), (.int (nar .byte ((((q2.toUInt64 >>> ((8 : Int32) &&& 0x3f).toInt64.toUInt64).toInt64).toInt32).toInt8.toInt32))), (.int (nar .byte ((((q2.toUInt64 >>> ((16 : Int32) &&& 0x3f).toInt64.toUInt64).toInt64).toInt32).toInt8.toInt32))), (.int (nar .byte ((((q2.toUInt64 >>> ((24 : Int32) &&& 0x3f).toInt64.toUInt64).toInt64).toInt32).toInt8.toInt32))), (.int (nar .byte ((((q2.toUInt64 >>> ((32 : Int32) &&& 0x3f).toInt64.toUInt64).toInt64).toInt32).toInt8.toInt32))), (.int (nar .byte ((((q2.toUInt64 >>> ((40 : Int32) &&& 0x3f).toInt64.toUInt64).toInt64).toInt32).toInt8.toInt32))), (.int (nar .byte ((((q2.toUInt64 >>> ((48 : Int32) &&& 0x3f).toInt64.toUInt64).toInt64).toInt32).toInt8.toInt32))), (.int (nar .byte ((((q2.toUInt64 >>> ((56 : Int32) &&& 0x3f).toInt64.toUInt64).toInt64).toInt32).toInt8.toInt32))), (.int (nar .byte ((((q2.toUInt64 >>> ((3 : Int32) &&& 0x3f).toInt64.toUInt64).toInt64).toInt32).toInt8.toInt32))), (.int (nar .byte ((((q2.toUInt64 >>> ((11 : Int32) &&& 0x3f).toInt64.toUInt64).toInt64).toInt32).toInt8.toInt32)))] (.int (0 : Int32)) := Arv.set Ar121 q121 S121 M121 H121 G121 (fits_nar_byte _) W122 9 rfl (Nat.le_of_ble_eq_true rfl)
  have K122 := K120.wr W122 (Or.inr sz_b102)
  have N122 := Fr.snoc X122 N120 gg_b102
  obtain ⟨cl123, Ar123, q123, S123, M123, H123, G123⟩ := id V122
  have hin123 : ¬ ((2 : Int32) < 0 ∨ cl123.slots.size ≤ ((2 : Int32)).toNatClampNeg) := inb_of S123 ⟨by decide, by decide⟩
  obtain ⟨T124, h124, X124, e124, W124, st124⟩ := stB X122 hx hZ e122 Ar123 (j := (2 : Int32)) hin123 (g := (mkF m 116 #[.val (.long q1), .second, .val (.long q2), .second, .val (.int (2 : Int32)), .val (.ref b102)] [(.int ((((q1.toUInt64 >>> ((48 : Int32) &&& 0x3f).toInt64.toUInt64).toInt64).toInt32).toInt8.toInt32)), (.int (2 : Int32)), (.ref b102)])) rfl rfl (hb hby own_d1_116)
  have V124 : Arv Z h124 b102 k102 .byte (10 : Int32) [(.int (nar .byte ((q2.toInt32).toInt8.toInt32))), (.int (nar .byte ((((q2.toUInt64 >>> ((8 : Int32) &&& 0x3f).toInt64.toUInt64).toInt64).toInt32).toInt8.toInt32))), (.int (nar .byte ((((q1.toUInt64 >>> ((48 : Int32) &&& 0x3f).toInt64.toUInt64).toInt64).toInt32).toInt8.toInt32))), (.int (nar .byte ((((q2.toUInt64 >>> ((24 : Int32) &&& 0x3f).toInt64.toUInt64).toInt64).toInt32).toInt8.toInt32))), (.int (nar .byte ((((q2.toUInt64 >>> ((32 : Int32) &&& 0x3f).toInt64.toUInt64).toInt64).toInt32).toInt8.toInt32))), (.int (nar .byte ((((q2.toUInt64 >>> ((40 : Int32) &&& 0x3f).toInt64.toUInt64).toInt64).toInt32).toInt8.toInt32))), (.int (nar .byte ((((q2.toUInt64 >>> ((48 : Int32) &&& 0x3f).toInt64.toUInt64).toInt64).toInt32).toInt8.toInt32))), (.int (nar .byte ((((q2.toUInt64 >>> ((56 : Int32) &&& 0x3f).toInt64.toUInt64).toInt64).toInt32).toInt8.toInt32))), (.int (nar .byte ((((q2.toUInt64 >>> ((3 : Int32) &&& 0x3f).toInt64.toUInt64).toInt64).toInt32).toInt8.toInt32))), (.int (nar .byte ((((q2.toUInt64 >>> ((11 : Int32) &&& 0x3f).toInt64.toUInt64).toInt64).toInt32).toInt8.toInt32)))] (.int (0 : Int32)) := Arv.set Ar123 q123 S123 M123 H123 G123 (fits_nar_byte _) W124 2 rfl (Nat.le_of_ble_eq_true rfl)
  have K124 := K122.wr W124 (Or.inr sz_b102)
  have N124 := Fr.snoc X124 N122 gg_b102
  obtain ⟨cl125, Ar125, q125, S125, M125, H125, G125⟩ := id V124
  have hin125 : ¬ ((3 : Int32) < 0 ∨ cl125.slots.size ≤ ((3 : Int32)).toNatClampNeg) := inb_of S125 ⟨by decide, by decide⟩
  obtain ⟨T126, h126, X126, e126, W126, st126⟩ := stB X124 hx hZ e124 Ar125 (j := (3 : Int32)) hin125 (g := (mkF m 129 #[.val (.long q1), .second, .val (.long q2), .second, .val (.int (2 : Int32)), .val (.ref b102)] [(.int ((((q1.toUInt64 >>> ((40 : Int32) &&& 0x3f).toInt64.toUInt64).toInt64).toInt32).toInt8.toInt32)), (.int (3 : Int32)), (.ref b102)])) rfl rfl (hb hby own_d1_129)
  have V126 : Arv Z h126 b102 k102 .byte (10 : Int32) [(.int (nar .byte ((q2.toInt32).toInt8.toInt32))), (.int (nar .byte ((((q2.toUInt64 >>> ((8 : Int32) &&& 0x3f).toInt64.toUInt64).toInt64).toInt32).toInt8.toInt32))), (.int (nar .byte ((((q1.toUInt64 >>> ((48 : Int32) &&& 0x3f).toInt64.toUInt64).toInt64).toInt32).toInt8.toInt32))), (.int (nar .byte ((((q1.toUInt64 >>> ((40 : Int32) &&& 0x3f).toInt64.toUInt64).toInt64).toInt32).toInt8.toInt32))), (.int (nar .byte ((((q2.toUInt64 >>> ((32 : Int32) &&& 0x3f).toInt64.toUInt64).toInt64).toInt32).toInt8.toInt32))), (.int (nar .byte ((((q2.toUInt64 >>> ((40 : Int32) &&& 0x3f).toInt64.toUInt64).toInt64).toInt32).toInt8.toInt32))), (.int (nar .byte ((((q2.toUInt64 >>> ((48 : Int32) &&& 0x3f).toInt64.toUInt64).toInt64).toInt32).toInt8.toInt32))), (.int (nar .byte ((((q2.toUInt64 >>> ((56 : Int32) &&& 0x3f).toInt64.toUInt64).toInt64).toInt32).toInt8.toInt32))), (.int (nar .byte ((((q2.toUInt64 >>> ((3 : Int32) &&& 0x3f).toInt64.toUInt64).toInt64).toInt32).toInt8.toInt32))), (.int (nar .byte ((((q2.toUInt64 >>> ((11 : Int32) &&& 0x3f).toInt64.toUInt64).toInt64).toInt32).toInt8.toInt32)))] (.int (0 : Int32)) := Arv.set Ar125 q125 S125 M125 H125 G125 (fits_nar_byte _) W126 3 rfl (Nat.le_of_ble_eq_true rfl)
  have K126 := K124.wr W126 (Or.inr sz_b102)
  have N126 := Fr.snoc X126 N124 gg_b102
  obtain ⟨cl127, Ar127, q127, S127, M127, H127, G127⟩ := id V126
  have hin127 : ¬ ((4 : Int32) < 0 ∨ cl127.slots.size ≤ ((4 : Int32)).toNatClampNeg) := inb_of S127 ⟨by decide, by decide⟩
  obtain ⟨T128, h128, X128, e128, W128, st128⟩ := stB X126 hx hZ e126 Ar127 (j := (4 : Int32)) hin127 (g := (mkF m 142 #[.val (.long q1), .second, .val (.long q2), .second, .val (.int (2 : Int32)), .val (.ref b102)] [(.int ((((q1.toUInt64 >>> ((32 : Int32) &&& 0x3f).toInt64.toUInt64).toInt64).toInt32).toInt8.toInt32)), (.int (4 : Int32)), (.ref b102)])) rfl rfl (hb hby own_d1_142)
  have V128 : Arv Z h128 b102 k102 .byte (10 : Int32) [(.int (nar .byte ((q2.toInt32).toInt8.toInt32))), (.int (nar .byte ((((q2.toUInt64 >>> ((8 : Int32) &&& 0x3f).toInt64.toUInt64).toInt64).toInt32).toInt8.toInt32))), (.int (nar .byte ((((q1.toUInt64 >>> ((48 : Int32) &&& 0x3f).toInt64.toUInt64).toInt64).toInt32).toInt8.toInt32))), (.int (nar .byte ((((q1.toUInt64 >>> ((40 : Int32) &&& 0x3f).toInt64.toUInt64).toInt64).toInt32).toInt8.toInt32))), (.int (nar .byte ((((q1.toUInt64 >>> ((32 : Int32) &&& 0x3f).toInt64.toUInt64).toInt64).toInt32).toInt8.toInt32))), (.int (nar .byte ((((q2.toUInt64 >>> ((40 : Int32) &&& 0x3f).toInt64.toUInt64).toInt64).toInt32).toInt8.toInt32))), (.int (nar .byte ((((q2.toUInt64 >>> ((48 : Int32) &&& 0x3f).toInt64.toUInt64).toInt64).toInt32).toInt8.toInt32))), (.int (nar .byte ((((q2.toUInt64 >>> ((56 : Int32) &&& 0x3f).toInt64.toUInt64).toInt64).toInt32).toInt8.toInt32))), (.int (nar .byte ((((q2.toUInt64 >>> ((3 : Int32) &&& 0x3f).toInt64.toUInt64).toInt64).toInt32).toInt8.toInt32))), (.int (nar .byte ((((q2.toUInt64 >>> ((11 : Int32) &&& 0x3f).toInt64.toUInt64).toInt64).toInt32).toInt8.toInt32)))] (.int (0 : Int32)) := Arv.set Ar127 q127 S127 M127 H127 G127 (fits_nar_byte _) W128 4 rfl (Nat.le_of_ble_eq_true rfl)
  have K128 := K126.wr W128 (Or.inr sz_b102)
  have N128 := Fr.snoc X128 N126 gg_b102
  obtain ⟨cl129, Ar129, q129, S129, M129, H129, G129⟩ := id V128
  have hin129 : ¬ ((5 : Int32) < 0 ∨ cl129.slots.size ≤ ((5 : Int32)).toNatClampNeg) := inb_of S129 ⟨by decide, by decide⟩
  obtain ⟨T130, h130, X130, e130, W130, st130⟩ := stB X128 hx hZ e128 Ar129 (j := (5 : Int32)) hin129 (g := (mkF m 155 #[.val (.long q1), .second, .val (.long q2), .second, .val (.int (2 : Int32)), .val (.ref b102)] [(.int ((((q1.toUInt64 >>> ((24 : Int32) &&& 0x3f).toInt64.toUInt64).toInt64).toInt32).toInt8.toInt32)), (.int (5 : Int32)), (.ref b102)])) rfl rfl (hb hby own_d1_155)
  have V130 : Arv Z h130 b102 k102 .byte (10 : Int32) [(.int (nar .byte ((q2.toInt32).toInt8.toInt32))), (.int (nar .byte ((((q2.toUInt64 >>> ((8 : Int32) &&& 0x3f).toInt64.toUInt64).toInt64).toInt32).toInt8.toInt32))), (.int (nar .byte ((((q1.toUInt64 >>> ((48 : Int32) &&& 0x3f).toInt64.toUInt64).toInt64).toInt32).toInt8.toInt32))), (.int (nar .byte ((((q1.toUInt64 >>> ((40 : Int32) &&& 0x3f).toInt64.toUInt64).toInt64).toInt32).toInt8.toInt32))), (.int (nar .byte ((((q1.toUInt64 >>> ((32 : Int32) &&& 0x3f).toInt64.toUInt64).toInt64).toInt32).toInt8.toInt32))), (.int (nar .byte ((((q1.toUInt64 >>> ((24 : Int32) &&& 0x3f).toInt64.toUInt64).toInt64).toInt32).toInt8.toInt32))), (.int (nar .byte ((((q2.toUInt64 >>> ((48 : Int32) &&& 0x3f).toInt64.toUInt64).toInt64).toInt32).toInt8.toInt32))), (.int (nar .byte ((((q2.toUInt64 >>> ((56 : Int32) &&& 0x3f).toInt64.toUInt64).toInt64).toInt32).toInt8.toInt32))), (.int (nar .byte ((((q2.toUInt64 >>> ((3 : Int32) &&& 0x3f).toInt64.toUInt64).toInt64).toInt32).toInt8.toInt32))), (.int (nar .byte ((((q2.toUInt64 >>> ((11 : Int32) &&& 0x3f).toInt64.toUInt64).toInt64).toInt32).toInt8.toInt32)))] (.int (0 : Int32)) := Arv.set Ar129 q129 S129 M129 H129 G129 (fits_nar_byte _) W130 5 rfl (Nat.le_of_ble_eq_true rfl)
  have K130 := K128.wr W130 (Or.inr sz_b102)
  have N130 := Fr.snoc X130 N128 gg_b102
  obtain ⟨cl131, Ar131, q131, S131, M131, H131, G131⟩ := id V130
  have hin131 : ¬ ((6 : Int32) < 0 ∨ cl131.slots.size ≤ ((6 : Int32)).toNatClampNeg) := inb_of S131 ⟨by decide, by decide⟩
  obtain ⟨T132, h132, X132, e132, W132, st132⟩ := stB X130 hx hZ e130 Ar131 (j := (6 : Int32)) hin131 (g := (mkF m 168 #[.val (.long q1), .second, .val (.long q2), .second, .val (.int (2 : Int32)), .val (.ref b102)] [(.int ((((q1.toUInt64 >>> ((16 : Int32) &&& 0x3f).toInt64.toUInt64).toInt64).toInt32).toInt8.toInt32)), (.int (6 : Int32)), (.ref b102)])) rfl rfl (hb hby own_d1_168)
  have V132 : Arv Z h132 b102 k102 .byte (10 : Int32) [(.int (nar .byte ((q2.toInt32).toInt8.toInt32))), (.int (nar .byte ((((q2.toUInt64 >>> ((8 : Int32) &&& 0x3f).toInt64.toUInt64).toInt64).toInt32).toInt8.toInt32))), (.int (nar .byte ((((q1.toUInt64 >>> ((48 : Int32) &&& 0x3f).toInt64.toUInt64).toInt64).toInt32).toInt8.toInt32))), (.int (nar .byte ((((q1.toUInt64 >>> ((40 : Int32) &&& 0x3f).toInt64.toUInt64).toInt64).toInt32).toInt8.toInt32))), (.int (nar .byte ((((q1.toUInt64 >>> ((32 : Int32) &&& 0x3f).toInt64.toUInt64).toInt64).toInt32).toInt8.toInt32))), (.int (nar .byte ((((q1.toUInt64 >>> ((24 : Int32) &&& 0x3f).toInt64.toUInt64).toInt64).toInt32).toInt8.toInt32))), (.int (nar .byte ((((q1.toUInt64 >>> ((16 : Int32) &&& 0x3f).toInt64.toUInt64).toInt64).toInt32).toInt8.toInt32))), (.int (nar .byte ((((q2.toUInt64 >>> ((56 : Int32) &&& 0x3f).toInt64.toUInt64).toInt64).toInt32).toInt8.toInt32))), (.int (nar .byte ((((q2.toUInt64 >>> ((3 : Int32) &&& 0x3f).toInt64.toUInt64).toInt64).toInt32).toInt8.toInt32))), (.int (nar .byte ((((q2.toUInt64 >>> ((11 : Int32) &&& 0x3f).toInt64.toUInt64).toInt64).toInt32).toInt8.toInt32)))] (.int (0 : Int32)) := Arv.set Ar131 q131 S131 M131 H131 G131 (fits_nar_byte _) W132 6 rfl (Nat.le_of_ble_eq_true rfl)
  have K132 := K130.wr W132 (Or.inr sz_b102)
  have N132 := Fr.snoc X132 N130 gg_b102
  obtain ⟨cl133, Ar133, q133, S133, M133, H133, G133⟩ := id V132
  have hin133 : ¬ ((7 : Int32) < 0 ∨ cl133.slots.size ≤ ((7 : Int32)).toNatClampNeg) := inb_of S133 ⟨by decide, by decide⟩
  obtain ⟨T134, h134, X134, e134, W134, st134⟩ := stB X132 hx hZ e132 Ar133 (j := (7 : Int32)) hin133 (g := (mkF m 181 #[.val (.long q1), .second, .val (.long q2), .second, .val (.int (2 : Int32)), .val (.ref b102)] [(.int ((((q1.toUInt64 >>> ((8 : Int32) &&& 0x3f).toInt64.toUInt64).toInt64).toInt32).toInt8.toInt32)), (.int (7 : Int32)), (.ref b102)])) rfl rfl (hb hby own_d1_181)
  have V134 : Arv Z h134 b102 k102 .byte (10 : Int32) [(.int (nar .byte ((q2.toInt32).toInt8.toInt32))), (.int (nar .byte ((((q2.toUInt64 >>> ((8 : Int32) &&& 0x3f).toInt64.toUInt64).toInt64).toInt32).toInt8.toInt32))), (.int (nar .byte ((((q1.toUInt64 >>> ((48 : Int32) &&& 0x3f).toInt64.toUInt64).toInt64).toInt32).toInt8.toInt32))), (.int (nar .byte ((((q1.toUInt64 >>> ((40 : Int32) &&& 0x3f).toInt64.toUInt64).toInt64).toInt32).toInt8.toInt32))), (.int (nar .byte ((((q1.toUInt64 >>> ((32 : Int32) &&& 0x3f).toInt64.toUInt64).toInt64).toInt32).toInt8.toInt32))), (.int (nar .byte ((((q1.toUInt64 >>> ((24 : Int32) &&& 0x3f).toInt64.toUInt64).toInt64).toInt32).toInt8.toInt32))), (.int (nar .byte ((((q1.toUInt64 >>> ((16 : Int32) &&& 0x3f).toInt64.toUInt64).toInt64).toInt32).toInt8.toInt32))), (.int (nar .byte ((((q1.toUInt64 >>> ((8 : Int32) &&& 0x3f).toInt64.toUInt64).toInt64).toInt32).toInt8.toInt32))), (.int (nar .byte ((((q2.toUInt64 >>> ((3 : Int32) &&& 0x3f).toInt64.toUInt64).toInt64).toInt32).toInt8.toInt32))), (.int (nar .byte ((((q2.toUInt64 >>> ((11 : Int32) &&& 0x3f).toInt64.toUInt64).toInt64).toInt32).toInt8.toInt32)))] (.int (0 : Int32)) := Arv.set Ar133 q133 S133 M133 H133 G133 (fits_nar_byte _) W134 7 rfl (Nat.le_of_ble_eq_true rfl)
  have K134 := K132.wr W134 (Or.inr sz_b102)
  have N134 := Fr.snoc X134 N132 gg_b102
  obtain ⟨cl135, Ar135, q135, S135, M135, H135, G135⟩ := id V134
  have hin135 : ¬ ((8 : Int32) < 0 ∨ cl135.slots.size ≤ ((8 : Int32)).toNatClampNeg) := inb_of S135 ⟨by decide, by decide⟩
  obtain ⟨T136, h136, X136, e136, W136, st136⟩ := stB X134 hx hZ e134 Ar135 (j := (8 : Int32)) hin135 (g := (mkF m 192 #[.val (.long q1), .second, .val (.long q2), .second, .val (.int (2 : Int32)), .val (.ref b102)] [(.int ((q1.toInt32).toInt8.toInt32)), (.int (8 : Int32)), (.ref b102)])) rfl rfl (hb hby own_d1_192)
  have V136 : Arv Z h136 b102 k102 .byte (10 : Int32) [(.int (nar .byte ((q2.toInt32).toInt8.toInt32))), (.int (nar .byte ((((q2.toUInt64 >>> ((8 : Int32) &&& 0x3f).toInt64.toUInt64).toInt64).toInt32).toInt8.toInt32))), (.int (nar .byte ((((q1.toUInt64 >>> ((48 : Int32) &&& 0x3f).toInt64.toUInt64).toInt64).toInt32).toInt8.toInt32))), (.int (nar .byte ((((q1.toUInt64 >>> ((40 : Int32) &&& 0x3f).toInt64.toUInt64).toInt64).toInt32).toInt8.toInt32))), (.int (nar .byte ((((q1.toUInt64 >>> ((32 : Int32) &&& 0x3f).toInt64.toUInt64).toInt64).toInt32).toInt8.toInt32))), (.int (nar .byte ((((q1.toUInt64 >>> ((24 : Int32) &&& 0x3f).toInt64.toUInt64).toInt64).toInt32).toInt8.toInt32))), (.int (nar .byte ((((q1.toUInt64 >>> ((16 : Int32) &&& 0x3f).toInt64.toUInt64).toInt64).toInt32).toInt8.toInt32))), (.int (nar .byte ((((q1.toUInt64 >>> ((8 : Int32) &&& 0x3f).toInt64.toUInt64).toInt64).toInt32).toInt8.toInt32))), (.int (nar .byte ((q1.toInt32).toInt8.toInt32))), (.int (nar .byte ((((q2.toUInt64 >>> ((11 : Int32) &&& 0x3f).toInt64.toUInt64).toInt64).toInt32).toInt8.toInt32)))] (.int (0 : Int32)) := Arv.set Ar135 q135 S135 M135 H135 G135 (fits_nar_byte _) W136 8 rfl (Nat.le_of_ble_eq_true rfl)
  have K136 := K134.wr W136 (Or.inr sz_b102)
  have N136 := Fr.snoc X136 N134 gg_b102
  obtain ⟨fs, hr, hrun, hended, hW, hsame⟩ := X136.leave (v := some (.ref b102)) (fun h => by rw [Bd.returns] at h; cases h)
  refine ⟨_, _, pre0 _ ?_, hrun, hended, _, _, rfl, ?_, ⟨_, rfl⟩, hW, hsame.mono (by decide) (by decide)⟩
  · show Steps p.tables e below (s₁.setTop (mkF m 0 #[.val (.long q1), .second, .val (.long q2), .second, .val (.int (2 : Int32)), .unset] [])) _
    refine XS.bipush X0.here hx rfl (hb hby own_d1_0) ?_
    show Steps p.tables e below (s₁.setTop (mkF m 2 #[.val (.long q1), .second, .val (.long q2), .second, .val (.int (2 : Int32)), .unset] [(.int (10 : Int32))])) _
    refine st102 _ ?_
    show Steps p.tables e below (T102.setTop (mkF m 4 #[.val (.long q1), .second, .val (.long q2), .second, .val (.int (2 : Int32)), .unset] [(.ref b102)])) _
    refine XS.astore X102.here hx rfl (hb hby own_d1_4) rfl rfl (l' := #[.val (.long q1), .second, .val (.long q2), .second, .val (.int (2 : Int32)), .val (.ref b102)]) rfl ?_
    show Steps p.tables e below (T102.setTop (mkF m 6 #[.val (.long q1), .second, .val (.long q2), .second, .val (.int (2 : Int32)), .val (.ref b102)] [])) _
    refine XS.aload X102.here hx rfl (hb hby own_d1_6) rfl rfl ?_
    show Steps p.tables e below (T102.setTop (mkF m 8 #[.val (.long q1), .second, .val (.long q2), .second, .val (.int (2 : Int32)), .val (.ref b102)] [(.ref b102)])) _
    refine XS.iconst X102.here hx rfl (hb hby own_d1_8) ?_
    show Steps p.tables e below (T102.setTop (mkF m 9 #[.val (.long q1), .second, .val (.long q2), .second, .val (.int (2 : Int32)), .val (.ref b102)] [(.int (0 : Int32)), (.ref b102)])) _
    refine XS.lloadN X102.here hx rfl (hb hby own_d1_9) rfl ?_
    show Steps p.tables e below (T102.setTop (mkF m 10 #[.val (.long q1), .second, .val (.long q2), .second, .val (.int (2 : Int32)), .val (.ref b102)] [(.long q2), (.int (0 : Int32)), (.ref b102)])) _
    refine XS.l2i X102.here hx rfl (hb hby own_d1_10) rfl ?_
    show Steps p.tables e below (T102.setTop (mkF m 11 #[.val (.long q1), .second, .val (.long q2), .second, .val (.int (2 : Int32)), .val (.ref b102)] [(.int (q2.toInt32)), (.int (0 : Int32)), (.ref b102)])) _
    refine XS.i2b X102.here hx rfl (hb hby own_d1_11) rfl ?_
    show Steps p.tables e below (T102.setTop (mkF m 12 #[.val (.long q1), .second, .val (.long q2), .second, .val (.int (2 : Int32)), .val (.ref b102)] [(.int ((q2.toInt32).toInt8.toInt32)), (.int (0 : Int32)), (.ref b102)])) _
    refine st104 _ ?_
    show Steps p.tables e below (T104.setTop (mkF m 13 #[.val (.long q1), .second, .val (.long q2), .second, .val (.int (2 : Int32)), .val (.ref b102)] [])) _
    refine XS.aload X104.here hx rfl (hb hby own_d1_13) rfl rfl ?_
    show Steps p.tables e below (T104.setTop (mkF m 15 #[.val (.long q1), .second, .val (.long q2), .second, .val (.int (2 : Int32)), .val (.ref b102)] [(.ref b102)])) _
    refine XS.iconst X104.here hx rfl (hb hby own_d1_15) ?_
    show Steps p.tables e below (T104.setTop (mkF m 16 #[.val (.long q1), .second, .val (.long q2), .second, .val (.int (2 : Int32)), .val (.ref b102)] [(.int (1 : Int32)), (.ref b102)])) _
    refine XS.lloadN X104.here hx rfl (hb hby own_d1_16) rfl ?_
    show Steps p.tables e below (T104.setTop (mkF m 17 #[.val (.long q1), .second, .val (.long q2), .second, .val (.int (2 : Int32)), .val (.ref b102)] [(.long q2), (.int (1 : Int32)), (.ref b102)])) _
    refine XS.bipush X104.here hx rfl (hb hby own_d1_17) ?_
    show Steps p.tables e below (T104.setTop (mkF m 19 #[.val (.long q1), .second, .val (.long q2), .second, .val (.int (2 : Int32)), .val (.ref b102)] [(.int (8 : Int32)), (.long q2), (.int (1 : Int32)), (.ref b102)])) _
    refine XS.lushr X104.here hx rfl (hb hby own_d1_19) rfl ?_
    show Steps p.tables e below (T104.setTop (mkF m 20 #[.val (.long q1), .second, .val (.long q2), .second, .val (.int (2 : Int32)), .val (.ref b102)] [(.long ((q2.toUInt64 >>> ((8 : Int32) &&& 0x3f).toInt64.toUInt64).toInt64)), (.int (1 : Int32)), (.ref b102)])) _
    refine XS.l2i X104.here hx rfl (hb hby own_d1_20) rfl ?_
    show Steps p.tables e below (T104.setTop (mkF m 21 #[.val (.long q1), .second, .val (.long q2), .second, .val (.int (2 : Int32)), .val (.ref b102)] [(.int (((q2.toUInt64 >>> ((8 : Int32) &&& 0x3f).toInt64.toUInt64).toInt64).toInt32)), (.int (1 : Int32)), (.ref b102)])) _
    refine XS.i2b X104.here hx rfl (hb hby own_d1_21) rfl ?_
    show Steps p.tables e below (T104.setTop (mkF m 22 #[.val (.long q1), .second, .val (.long q2), .second, .val (.int (2 : Int32)), .val (.ref b102)] [(.int ((((q2.toUInt64 >>> ((8 : Int32) &&& 0x3f).toInt64.toUInt64).toInt64).toInt32).toInt8.toInt32)), (.int (1 : Int32)), (.ref b102)])) _
    refine st106 _ ?_
    show Steps p.tables e below (T106.setTop (mkF m 23 #[.val (.long q1), .second, .val (.long q2), .second, .val (.int (2 : Int32)), .val (.ref b102)] [])) _
    refine XS.aload X106.here hx rfl (hb hby own_d1_23) rfl rfl ?_
    show Steps p.tables e below (T106.setTop (mkF m 25 #[.val (.long q1), .second, .val (.long q2), .second, .val (.int (2 : Int32)), .val (.ref b102)] [(.ref b102)])) _
    refine XS.iconst X106.here hx rfl (hb hby own_d1_25) ?_
    show Steps p.tables e below (T106.setTop (mkF m 26 #[.val (.long q1), .second, .val (.long q2), .second, .val (.int (2 : Int32)), .val (.ref b102)] [(.int (2 : Int32)), (.ref b102)])) _
    refine XS.lloadN X106.here hx rfl (hb hby own_d1_26) rfl ?_
    show Steps p.tables e below (T106.setTop (mkF m 27 #[.val (.long q1), .second, .val (.long q2), .second, .val (.int (2 : Int32)), .val (.ref b102)] [(.long q2), (.int (2 : Int32)), (.ref b102)])) _
    refine XS.bipush X106.here hx rfl (hb hby own_d1_27) ?_
    show Steps p.tables e below (T106.setTop (mkF m 29 #[.val (.long q1), .second, .val (.long q2), .second, .val (.int (2 : Int32)), .val (.ref b102)] [(.int (16 : Int32)), (.long q2), (.int (2 : Int32)), (.ref b102)])) _
    refine XS.lushr X106.here hx rfl (hb hby own_d1_29) rfl ?_
    show Steps p.tables e below (T106.setTop (mkF m 30 #[.val (.long q1), .second, .val (.long q2), .second, .val (.int (2 : Int32)), .val (.ref b102)] [(.long ((q2.toUInt64 >>> ((16 : Int32) &&& 0x3f).toInt64.toUInt64).toInt64)), (.int (2 : Int32)), (.ref b102)])) _
    refine XS.l2i X106.here hx rfl (hb hby own_d1_30) rfl ?_
    show Steps p.tables e below (T106.setTop (mkF m 31 #[.val (.long q1), .second, .val (.long q2), .second, .val (.int (2 : Int32)), .val (.ref b102)] [(.int (((q2.toUInt64 >>> ((16 : Int32) &&& 0x3f).toInt64.toUInt64).toInt64).toInt32)), (.int (2 : Int32)), (.ref b102)])) _
    refine XS.i2b X106.here hx rfl (hb hby own_d1_31) rfl ?_
    show Steps p.tables e below (T106.setTop (mkF m 32 #[.val (.long q1), .second, .val (.long q2), .second, .val (.int (2 : Int32)), .val (.ref b102)] [(.int ((((q2.toUInt64 >>> ((16 : Int32) &&& 0x3f).toInt64.toUInt64).toInt64).toInt32).toInt8.toInt32)), (.int (2 : Int32)), (.ref b102)])) _
    refine st108 _ ?_
    show Steps p.tables e below (T108.setTop (mkF m 33 #[.val (.long q1), .second, .val (.long q2), .second, .val (.int (2 : Int32)), .val (.ref b102)] [])) _
    refine XS.aload X108.here hx rfl (hb hby own_d1_33) rfl rfl ?_
    show Steps p.tables e below (T108.setTop (mkF m 35 #[.val (.long q1), .second, .val (.long q2), .second, .val (.int (2 : Int32)), .val (.ref b102)] [(.ref b102)])) _
    refine XS.iconst X108.here hx rfl (hb hby own_d1_35) ?_
    show Steps p.tables e below (T108.setTop (mkF m 36 #[.val (.long q1), .second, .val (.long q2), .second, .val (.int (2 : Int32)), .val (.ref b102)] [(.int (3 : Int32)), (.ref b102)])) _
    refine XS.lloadN X108.here hx rfl (hb hby own_d1_36) rfl ?_
    show Steps p.tables e below (T108.setTop (mkF m 37 #[.val (.long q1), .second, .val (.long q2), .second, .val (.int (2 : Int32)), .val (.ref b102)] [(.long q2), (.int (3 : Int32)), (.ref b102)])) _
    refine XS.bipush X108.here hx rfl (hb hby own_d1_37) ?_
    show Steps p.tables e below (T108.setTop (mkF m 39 #[.val (.long q1), .second, .val (.long q2), .second, .val (.int (2 : Int32)), .val (.ref b102)] [(.int (24 : Int32)), (.long q2), (.int (3 : Int32)), (.ref b102)])) _
    refine XS.lushr X108.here hx rfl (hb hby own_d1_39) rfl ?_
    show Steps p.tables e below (T108.setTop (mkF m 40 #[.val (.long q1), .second, .val (.long q2), .second, .val (.int (2 : Int32)), .val (.ref b102)] [(.long ((q2.toUInt64 >>> ((24 : Int32) &&& 0x3f).toInt64.toUInt64).toInt64)), (.int (3 : Int32)), (.ref b102)])) _
    refine XS.l2i X108.here hx rfl (hb hby own_d1_40) rfl ?_
    show Steps p.tables e below (T108.setTop (mkF m 41 #[.val (.long q1), .second, .val (.long q2), .second, .val (.int (2 : Int32)), .val (.ref b102)] [(.int (((q2.toUInt64 >>> ((24 : Int32) &&& 0x3f).toInt64.toUInt64).toInt64).toInt32)), (.int (3 : Int32)), (.ref b102)])) _
    refine XS.i2b X108.here hx rfl (hb hby own_d1_41) rfl ?_
    show Steps p.tables e below (T108.setTop (mkF m 42 #[.val (.long q1), .second, .val (.long q2), .second, .val (.int (2 : Int32)), .val (.ref b102)] [(.int ((((q2.toUInt64 >>> ((24 : Int32) &&& 0x3f).toInt64.toUInt64).toInt64).toInt32).toInt8.toInt32)), (.int (3 : Int32)), (.ref b102)])) _
    refine st110 _ ?_
    show Steps p.tables e below (T110.setTop (mkF m 43 #[.val (.long q1), .second, .val (.long q2), .second, .val (.int (2 : Int32)), .val (.ref b102)] [])) _
    refine XS.aload X110.here hx rfl (hb hby own_d1_43) rfl rfl ?_
    show Steps p.tables e below (T110.setTop (mkF m 45 #[.val (.long q1), .second, .val (.long q2), .second, .val (.int (2 : Int32)), .val (.ref b102)] [(.ref b102)])) _
    refine XS.iconst X110.here hx rfl (hb hby own_d1_45) ?_
    show Steps p.tables e below (T110.setTop (mkF m 46 #[.val (.long q1), .second, .val (.long q2), .second, .val (.int (2 : Int32)), .val (.ref b102)] [(.int (4 : Int32)), (.ref b102)])) _
    refine XS.lloadN X110.here hx rfl (hb hby own_d1_46) rfl ?_
    show Steps p.tables e below (T110.setTop (mkF m 47 #[.val (.long q1), .second, .val (.long q2), .second, .val (.int (2 : Int32)), .val (.ref b102)] [(.long q2), (.int (4 : Int32)), (.ref b102)])) _
    refine XS.bipush X110.here hx rfl (hb hby own_d1_47) ?_
    show Steps p.tables e below (T110.setTop (mkF m 49 #[.val (.long q1), .second, .val (.long q2), .second, .val (.int (2 : Int32)), .val (.ref b102)] [(.int (32 : Int32)), (.long q2), (.int (4 : Int32)), (.ref b102)])) _
    refine XS.lushr X110.here hx rfl (hb hby own_d1_49) rfl ?_
    show Steps p.tables e below (T110.setTop (mkF m 50 #[.val (.long q1), .second, .val (.long q2), .second, .val (.int (2 : Int32)), .val (.ref b102)] [(.long ((q2.toUInt64 >>> ((32 : Int32) &&& 0x3f).toInt64.toUInt64).toInt64)), (.int (4 : Int32)), (.ref b102)])) _
    refine XS.l2i X110.here hx rfl (hb hby own_d1_50) rfl ?_
    show Steps p.tables e below (T110.setTop (mkF m 51 #[.val (.long q1), .second, .val (.long q2), .second, .val (.int (2 : Int32)), .val (.ref b102)] [(.int (((q2.toUInt64 >>> ((32 : Int32) &&& 0x3f).toInt64.toUInt64).toInt64).toInt32)), (.int (4 : Int32)), (.ref b102)])) _
    refine XS.i2b X110.here hx rfl (hb hby own_d1_51) rfl ?_
    show Steps p.tables e below (T110.setTop (mkF m 52 #[.val (.long q1), .second, .val (.long q2), .second, .val (.int (2 : Int32)), .val (.ref b102)] [(.int ((((q2.toUInt64 >>> ((32 : Int32) &&& 0x3f).toInt64.toUInt64).toInt64).toInt32).toInt8.toInt32)), (.int (4 : Int32)), (.ref b102)])) _
    refine st112 _ ?_
    show Steps p.tables e below (T112.setTop (mkF m 53 #[.val (.long q1), .second, .val (.long q2), .second, .val (.int (2 : Int32)), .val (.ref b102)] [])) _
    refine XS.aload X112.here hx rfl (hb hby own_d1_53) rfl rfl ?_
    show Steps p.tables e below (T112.setTop (mkF m 55 #[.val (.long q1), .second, .val (.long q2), .second, .val (.int (2 : Int32)), .val (.ref b102)] [(.ref b102)])) _
    refine XS.iconst X112.here hx rfl (hb hby own_d1_55) ?_
    show Steps p.tables e below (T112.setTop (mkF m 56 #[.val (.long q1), .second, .val (.long q2), .second, .val (.int (2 : Int32)), .val (.ref b102)] [(.int (5 : Int32)), (.ref b102)])) _
    refine XS.lloadN X112.here hx rfl (hb hby own_d1_56) rfl ?_
    show Steps p.tables e below (T112.setTop (mkF m 57 #[.val (.long q1), .second, .val (.long q2), .second, .val (.int (2 : Int32)), .val (.ref b102)] [(.long q2), (.int (5 : Int32)), (.ref b102)])) _
    refine XS.bipush X112.here hx rfl (hb hby own_d1_57) ?_
    show Steps p.tables e below (T112.setTop (mkF m 59 #[.val (.long q1), .second, .val (.long q2), .second, .val (.int (2 : Int32)), .val (.ref b102)] [(.int (40 : Int32)), (.long q2), (.int (5 : Int32)), (.ref b102)])) _
    refine XS.lushr X112.here hx rfl (hb hby own_d1_59) rfl ?_
    show Steps p.tables e below (T112.setTop (mkF m 60 #[.val (.long q1), .second, .val (.long q2), .second, .val (.int (2 : Int32)), .val (.ref b102)] [(.long ((q2.toUInt64 >>> ((40 : Int32) &&& 0x3f).toInt64.toUInt64).toInt64)), (.int (5 : Int32)), (.ref b102)])) _
    refine XS.l2i X112.here hx rfl (hb hby own_d1_60) rfl ?_
    show Steps p.tables e below (T112.setTop (mkF m 61 #[.val (.long q1), .second, .val (.long q2), .second, .val (.int (2 : Int32)), .val (.ref b102)] [(.int (((q2.toUInt64 >>> ((40 : Int32) &&& 0x3f).toInt64.toUInt64).toInt64).toInt32)), (.int (5 : Int32)), (.ref b102)])) _
    refine XS.i2b X112.here hx rfl (hb hby own_d1_61) rfl ?_
    show Steps p.tables e below (T112.setTop (mkF m 62 #[.val (.long q1), .second, .val (.long q2), .second, .val (.int (2 : Int32)), .val (.ref b102)] [(.int ((((q2.toUInt64 >>> ((40 : Int32) &&& 0x3f).toInt64.toUInt64).toInt64).toInt32).toInt8.toInt32)), (.int (5 : Int32)), (.ref b102)])) _
    refine st114 _ ?_
    show Steps p.tables e below (T114.setTop (mkF m 63 #[.val (.long q1), .second, .val (.long q2), .second, .val (.int (2 : Int32)), .val (.ref b102)] [])) _
    refine XS.aload X114.here hx rfl (hb hby own_d1_63) rfl rfl ?_
    show Steps p.tables e below (T114.setTop (mkF m 65 #[.val (.long q1), .second, .val (.long q2), .second, .val (.int (2 : Int32)), .val (.ref b102)] [(.ref b102)])) _
    refine XS.bipush X114.here hx rfl (hb hby own_d1_65) ?_
    show Steps p.tables e below (T114.setTop (mkF m 67 #[.val (.long q1), .second, .val (.long q2), .second, .val (.int (2 : Int32)), .val (.ref b102)] [(.int (6 : Int32)), (.ref b102)])) _
    refine XS.lloadN X114.here hx rfl (hb hby own_d1_67) rfl ?_
    show Steps p.tables e below (T114.setTop (mkF m 68 #[.val (.long q1), .second, .val (.long q2), .second, .val (.int (2 : Int32)), .val (.ref b102)] [(.long q2), (.int (6 : Int32)), (.ref b102)])) _
    refine XS.bipush X114.here hx rfl (hb hby own_d1_68) ?_
    show Steps p.tables e below (T114.setTop (mkF m 70 #[.val (.long q1), .second, .val (.long q2), .second, .val (.int (2 : Int32)), .val (.ref b102)] [(.int (48 : Int32)), (.long q2), (.int (6 : Int32)), (.ref b102)])) _
    refine XS.lushr X114.here hx rfl (hb hby own_d1_70) rfl ?_
    show Steps p.tables e below (T114.setTop (mkF m 71 #[.val (.long q1), .second, .val (.long q2), .second, .val (.int (2 : Int32)), .val (.ref b102)] [(.long ((q2.toUInt64 >>> ((48 : Int32) &&& 0x3f).toInt64.toUInt64).toInt64)), (.int (6 : Int32)), (.ref b102)])) _
    refine XS.l2i X114.here hx rfl (hb hby own_d1_71) rfl ?_
    show Steps p.tables e below (T114.setTop (mkF m 72 #[.val (.long q1), .second, .val (.long q2), .second, .val (.int (2 : Int32)), .val (.ref b102)] [(.int (((q2.toUInt64 >>> ((48 : Int32) &&& 0x3f).toInt64.toUInt64).toInt64).toInt32)), (.int (6 : Int32)), (.ref b102)])) _
    refine XS.i2b X114.here hx rfl (hb hby own_d1_72) rfl ?_
    show Steps p.tables e below (T114.setTop (mkF m 73 #[.val (.long q1), .second, .val (.long q2), .second, .val (.int (2 : Int32)), .val (.ref b102)] [(.int ((((q2.toUInt64 >>> ((48 : Int32) &&& 0x3f).toInt64.toUInt64).toInt64).toInt32).toInt8.toInt32)), (.int (6 : Int32)), (.ref b102)])) _
    refine st116 _ ?_
    show Steps p.tables e below (T116.setTop (mkF m 74 #[.val (.long q1), .second, .val (.long q2), .second, .val (.int (2 : Int32)), .val (.ref b102)] [])) _
    refine XS.aload X116.here hx rfl (hb hby own_d1_74) rfl rfl ?_
    show Steps p.tables e below (T116.setTop (mkF m 76 #[.val (.long q1), .second, .val (.long q2), .second, .val (.int (2 : Int32)), .val (.ref b102)] [(.ref b102)])) _
    refine XS.bipush X116.here hx rfl (hb hby own_d1_76) ?_
    show Steps p.tables e below (T116.setTop (mkF m 78 #[.val (.long q1), .second, .val (.long q2), .second, .val (.int (2 : Int32)), .val (.ref b102)] [(.int (7 : Int32)), (.ref b102)])) _
    refine XS.lloadN X116.here hx rfl (hb hby own_d1_78) rfl ?_
    show Steps p.tables e below (T116.setTop (mkF m 79 #[.val (.long q1), .second, .val (.long q2), .second, .val (.int (2 : Int32)), .val (.ref b102)] [(.long q2), (.int (7 : Int32)), (.ref b102)])) _
    refine XS.bipush X116.here hx rfl (hb hby own_d1_79) ?_
    show Steps p.tables e below (T116.setTop (mkF m 81 #[.val (.long q1), .second, .val (.long q2), .second, .val (.int (2 : Int32)), .val (.ref b102)] [(.int (56 : Int32)), (.long q2), (.int (7 : Int32)), (.ref b102)])) _
    refine XS.lushr X116.here hx rfl (hb hby own_d1_81) rfl ?_
    show Steps p.tables e below (T116.setTop (mkF m 82 #[.val (.long q1), .second, .val (.long q2), .second, .val (.int (2 : Int32)), .val (.ref b102)] [(.long ((q2.toUInt64 >>> ((56 : Int32) &&& 0x3f).toInt64.toUInt64).toInt64)), (.int (7 : Int32)), (.ref b102)])) _
    refine XS.l2i X116.here hx rfl (hb hby own_d1_82) rfl ?_
    show Steps p.tables e below (T116.setTop (mkF m 83 #[.val (.long q1), .second, .val (.long q2), .second, .val (.int (2 : Int32)), .val (.ref b102)] [(.int (((q2.toUInt64 >>> ((56 : Int32) &&& 0x3f).toInt64.toUInt64).toInt64).toInt32)), (.int (7 : Int32)), (.ref b102)])) _
    refine XS.i2b X116.here hx rfl (hb hby own_d1_83) rfl ?_
    show Steps p.tables e below (T116.setTop (mkF m 84 #[.val (.long q1), .second, .val (.long q2), .second, .val (.int (2 : Int32)), .val (.ref b102)] [(.int ((((q2.toUInt64 >>> ((56 : Int32) &&& 0x3f).toInt64.toUInt64).toInt64).toInt32).toInt8.toInt32)), (.int (7 : Int32)), (.ref b102)])) _
    refine st118 _ ?_
    show Steps p.tables e below (T118.setTop (mkF m 85 #[.val (.long q1), .second, .val (.long q2), .second, .val (.int (2 : Int32)), .val (.ref b102)] [])) _
    refine XS.aload X118.here hx rfl (hb hby own_d1_85) rfl rfl ?_
    show Steps p.tables e below (T118.setTop (mkF m 87 #[.val (.long q1), .second, .val (.long q2), .second, .val (.int (2 : Int32)), .val (.ref b102)] [(.ref b102)])) _
    refine XS.bipush X118.here hx rfl (hb hby own_d1_87) ?_
    show Steps p.tables e below (T118.setTop (mkF m 89 #[.val (.long q1), .second, .val (.long q2), .second, .val (.int (2 : Int32)), .val (.ref b102)] [(.int (8 : Int32)), (.ref b102)])) _
    refine XS.lloadN X118.here hx rfl (hb hby own_d1_89) rfl ?_
    show Steps p.tables e below (T118.setTop (mkF m 90 #[.val (.long q1), .second, .val (.long q2), .second, .val (.int (2 : Int32)), .val (.ref b102)] [(.long q2), (.int (8 : Int32)), (.ref b102)])) _
    refine XS.iconst X118.here hx rfl (hb hby own_d1_90) ?_
    show Steps p.tables e below (T118.setTop (mkF m 91 #[.val (.long q1), .second, .val (.long q2), .second, .val (.int (2 : Int32)), .val (.ref b102)] [(.int (3 : Int32)), (.long q2), (.int (8 : Int32)), (.ref b102)])) _
    refine XS.lushr X118.here hx rfl (hb hby own_d1_91) rfl ?_
    show Steps p.tables e below (T118.setTop (mkF m 92 #[.val (.long q1), .second, .val (.long q2), .second, .val (.int (2 : Int32)), .val (.ref b102)] [(.long ((q2.toUInt64 >>> ((3 : Int32) &&& 0x3f).toInt64.toUInt64).toInt64)), (.int (8 : Int32)), (.ref b102)])) _
    refine XS.l2i X118.here hx rfl (hb hby own_d1_92) rfl ?_
    show Steps p.tables e below (T118.setTop (mkF m 93 #[.val (.long q1), .second, .val (.long q2), .second, .val (.int (2 : Int32)), .val (.ref b102)] [(.int (((q2.toUInt64 >>> ((3 : Int32) &&& 0x3f).toInt64.toUInt64).toInt64).toInt32)), (.int (8 : Int32)), (.ref b102)])) _
    refine XS.i2b X118.here hx rfl (hb hby own_d1_93) rfl ?_
    show Steps p.tables e below (T118.setTop (mkF m 94 #[.val (.long q1), .second, .val (.long q2), .second, .val (.int (2 : Int32)), .val (.ref b102)] [(.int ((((q2.toUInt64 >>> ((3 : Int32) &&& 0x3f).toInt64.toUInt64).toInt64).toInt32).toInt8.toInt32)), (.int (8 : Int32)), (.ref b102)])) _
    refine st120 _ ?_
    show Steps p.tables e below (T120.setTop (mkF m 95 #[.val (.long q1), .second, .val (.long q2), .second, .val (.int (2 : Int32)), .val (.ref b102)] [])) _
    refine XS.aload X120.here hx rfl (hb hby own_d1_95) rfl rfl ?_
    show Steps p.tables e below (T120.setTop (mkF m 97 #[.val (.long q1), .second, .val (.long q2), .second, .val (.int (2 : Int32)), .val (.ref b102)] [(.ref b102)])) _
    refine XS.bipush X120.here hx rfl (hb hby own_d1_97) ?_
    show Steps p.tables e below (T120.setTop (mkF m 99 #[.val (.long q1), .second, .val (.long q2), .second, .val (.int (2 : Int32)), .val (.ref b102)] [(.int (9 : Int32)), (.ref b102)])) _
    refine XS.lloadN X120.here hx rfl (hb hby own_d1_99) rfl ?_
    show Steps p.tables e below (T120.setTop (mkF m 100 #[.val (.long q1), .second, .val (.long q2), .second, .val (.int (2 : Int32)), .val (.ref b102)] [(.long q2), (.int (9 : Int32)), (.ref b102)])) _
    refine XS.bipush X120.here hx rfl (hb hby own_d1_100) ?_
    show Steps p.tables e below (T120.setTop (mkF m 102 #[.val (.long q1), .second, .val (.long q2), .second, .val (.int (2 : Int32)), .val (.ref b102)] [(.int (11 : Int32)), (.long q2), (.int (9 : Int32)), (.ref b102)])) _
    refine XS.lushr X120.here hx rfl (hb hby own_d1_102) rfl ?_
    show Steps p.tables e below (T120.setTop (mkF m 103 #[.val (.long q1), .second, .val (.long q2), .second, .val (.int (2 : Int32)), .val (.ref b102)] [(.long ((q2.toUInt64 >>> ((11 : Int32) &&& 0x3f).toInt64.toUInt64).toInt64)), (.int (9 : Int32)), (.ref b102)])) _
    refine XS.l2i X120.here hx rfl (hb hby own_d1_103) rfl ?_
    show Steps p.tables e below (T120.setTop (mkF m 104 #[.val (.long q1), .second, .val (.long q2), .second, .val (.int (2 : Int32)), .val (.ref b102)] [(.int (((q2.toUInt64 >>> ((11 : Int32) &&& 0x3f).toInt64.toUInt64).toInt64).toInt32)), (.int (9 : Int32)), (.ref b102)])) _
    refine XS.i2b X120.here hx rfl (hb hby own_d1_104) rfl ?_
    show Steps p.tables e below (T120.setTop (mkF m 105 #[.val (.long q1), .second, .val (.long q2), .second, .val (.int (2 : Int32)), .val (.ref b102)] [(.int ((((q2.toUInt64 >>> ((11 : Int32) &&& 0x3f).toInt64.toUInt64).toInt64).toInt32).toInt8.toInt32)), (.int (9 : Int32)), (.ref b102)])) _
    refine st122 _ ?_
    show Steps p.tables e below (T122.setTop (mkF m 106 #[.val (.long q1), .second, .val (.long q2), .second, .val (.int (2 : Int32)), .val (.ref b102)] [])) _
    refine XS.aload X122.here hx rfl (hb hby own_d1_106) rfl rfl ?_
    show Steps p.tables e below (T122.setTop (mkF m 108 #[.val (.long q1), .second, .val (.long q2), .second, .val (.int (2 : Int32)), .val (.ref b102)] [(.ref b102)])) _
    refine XS.iload X122.here hx rfl (hb hby own_d1_108) rfl ?_
    show Steps p.tables e below (T122.setTop (mkF m 110 #[.val (.long q1), .second, .val (.long q2), .second, .val (.int (2 : Int32)), .val (.ref b102)] [(.int (2 : Int32)), (.ref b102)])) _
    refine XS.lloadN X122.here hx rfl (hb hby own_d1_110) rfl ?_
    show Steps p.tables e below (T122.setTop (mkF m 111 #[.val (.long q1), .second, .val (.long q2), .second, .val (.int (2 : Int32)), .val (.ref b102)] [(.long q1), (.int (2 : Int32)), (.ref b102)])) _
    refine XS.bipush X122.here hx rfl (hb hby own_d1_111) ?_
    show Steps p.tables e below (T122.setTop (mkF m 113 #[.val (.long q1), .second, .val (.long q2), .second, .val (.int (2 : Int32)), .val (.ref b102)] [(.int (48 : Int32)), (.long q1), (.int (2 : Int32)), (.ref b102)])) _
    refine XS.lushr X122.here hx rfl (hb hby own_d1_113) rfl ?_
    show Steps p.tables e below (T122.setTop (mkF m 114 #[.val (.long q1), .second, .val (.long q2), .second, .val (.int (2 : Int32)), .val (.ref b102)] [(.long ((q1.toUInt64 >>> ((48 : Int32) &&& 0x3f).toInt64.toUInt64).toInt64)), (.int (2 : Int32)), (.ref b102)])) _
    refine XS.l2i X122.here hx rfl (hb hby own_d1_114) rfl ?_
    show Steps p.tables e below (T122.setTop (mkF m 115 #[.val (.long q1), .second, .val (.long q2), .second, .val (.int (2 : Int32)), .val (.ref b102)] [(.int (((q1.toUInt64 >>> ((48 : Int32) &&& 0x3f).toInt64.toUInt64).toInt64).toInt32)), (.int (2 : Int32)), (.ref b102)])) _
    refine XS.i2b X122.here hx rfl (hb hby own_d1_115) rfl ?_
    show Steps p.tables e below (T122.setTop (mkF m 116 #[.val (.long q1), .second, .val (.long q2), .second, .val (.int (2 : Int32)), .val (.ref b102)] [(.int ((((q1.toUInt64 >>> ((48 : Int32) &&& 0x3f).toInt64.toUInt64).toInt64).toInt32).toInt8.toInt32)), (.int (2 : Int32)), (.ref b102)])) _
    refine st124 _ ?_
    show Steps p.tables e below (T124.setTop (mkF m 117 #[.val (.long q1), .second, .val (.long q2), .second, .val (.int (2 : Int32)), .val (.ref b102)] [])) _
    refine XS.aload X124.here hx rfl (hb hby own_d1_117) rfl rfl ?_
    show Steps p.tables e below (T124.setTop (mkF m 119 #[.val (.long q1), .second, .val (.long q2), .second, .val (.int (2 : Int32)), .val (.ref b102)] [(.ref b102)])) _
    refine XS.iload X124.here hx rfl (hb hby own_d1_119) rfl ?_
    show Steps p.tables e below (T124.setTop (mkF m 121 #[.val (.long q1), .second, .val (.long q2), .second, .val (.int (2 : Int32)), .val (.ref b102)] [(.int (2 : Int32)), (.ref b102)])) _
    refine XS.iconst X124.here hx rfl (hb hby own_d1_121) ?_
    show Steps p.tables e below (T124.setTop (mkF m 122 #[.val (.long q1), .second, .val (.long q2), .second, .val (.int (2 : Int32)), .val (.ref b102)] [(.int (1 : Int32)), (.int (2 : Int32)), (.ref b102)])) _
    refine XS.iadd X124.here hx rfl (hb hby own_d1_122) rfl ?_
    show Steps p.tables e below (T124.setTop (mkF m 123 #[.val (.long q1), .second, .val (.long q2), .second, .val (.int (2 : Int32)), .val (.ref b102)] [(.int (3 : Int32)), (.ref b102)])) _
    refine XS.lloadN X124.here hx rfl (hb hby own_d1_123) rfl ?_
    show Steps p.tables e below (T124.setTop (mkF m 124 #[.val (.long q1), .second, .val (.long q2), .second, .val (.int (2 : Int32)), .val (.ref b102)] [(.long q1), (.int (3 : Int32)), (.ref b102)])) _
    refine XS.bipush X124.here hx rfl (hb hby own_d1_124) ?_
    show Steps p.tables e below (T124.setTop (mkF m 126 #[.val (.long q1), .second, .val (.long q2), .second, .val (.int (2 : Int32)), .val (.ref b102)] [(.int (40 : Int32)), (.long q1), (.int (3 : Int32)), (.ref b102)])) _
    refine XS.lushr X124.here hx rfl (hb hby own_d1_126) rfl ?_
    show Steps p.tables e below (T124.setTop (mkF m 127 #[.val (.long q1), .second, .val (.long q2), .second, .val (.int (2 : Int32)), .val (.ref b102)] [(.long ((q1.toUInt64 >>> ((40 : Int32) &&& 0x3f).toInt64.toUInt64).toInt64)), (.int (3 : Int32)), (.ref b102)])) _
    refine XS.l2i X124.here hx rfl (hb hby own_d1_127) rfl ?_
    show Steps p.tables e below (T124.setTop (mkF m 128 #[.val (.long q1), .second, .val (.long q2), .second, .val (.int (2 : Int32)), .val (.ref b102)] [(.int (((q1.toUInt64 >>> ((40 : Int32) &&& 0x3f).toInt64.toUInt64).toInt64).toInt32)), (.int (3 : Int32)), (.ref b102)])) _
    refine XS.i2b X124.here hx rfl (hb hby own_d1_128) rfl ?_
    show Steps p.tables e below (T124.setTop (mkF m 129 #[.val (.long q1), .second, .val (.long q2), .second, .val (.int (2 : Int32)), .val (.ref b102)] [(.int ((((q1.toUInt64 >>> ((40 : Int32) &&& 0x3f).toInt64.toUInt64).toInt64).toInt32).toInt8.toInt32)), (.int (3 : Int32)), (.ref b102)])) _
    refine st126 _ ?_
    show Steps p.tables e below (T126.setTop (mkF m 130 #[.val (.long q1), .second, .val (.long q2), .second, .val (.int (2 : Int32)), .val (.ref b102)] [])) _
    refine XS.aload X126.here hx rfl (hb hby own_d1_130) rfl rfl ?_
    show Steps p.tables e below (T126.setTop (mkF m 132 #[.val (.long q1), .second, .val (.long q2), .second, .val (.int (2 : Int32)), .val (.ref b102)] [(.ref b102)])) _
    refine XS.iload X126.here hx rfl (hb hby own_d1_132) rfl ?_
    show Steps p.tables e below (T126.setTop (mkF m 134 #[.val (.long q1), .second, .val (.long q2), .second, .val (.int (2 : Int32)), .val (.ref b102)] [(.int (2 : Int32)), (.ref b102)])) _
    refine XS.iconst X126.here hx rfl (hb hby own_d1_134) ?_
    show Steps p.tables e below (T126.setTop (mkF m 135 #[.val (.long q1), .second, .val (.long q2), .second, .val (.int (2 : Int32)), .val (.ref b102)] [(.int (2 : Int32)), (.int (2 : Int32)), (.ref b102)])) _
    refine XS.iadd X126.here hx rfl (hb hby own_d1_135) rfl ?_
    show Steps p.tables e below (T126.setTop (mkF m 136 #[.val (.long q1), .second, .val (.long q2), .second, .val (.int (2 : Int32)), .val (.ref b102)] [(.int (4 : Int32)), (.ref b102)])) _
    refine XS.lloadN X126.here hx rfl (hb hby own_d1_136) rfl ?_
    show Steps p.tables e below (T126.setTop (mkF m 137 #[.val (.long q1), .second, .val (.long q2), .second, .val (.int (2 : Int32)), .val (.ref b102)] [(.long q1), (.int (4 : Int32)), (.ref b102)])) _
    refine XS.bipush X126.here hx rfl (hb hby own_d1_137) ?_
    show Steps p.tables e below (T126.setTop (mkF m 139 #[.val (.long q1), .second, .val (.long q2), .second, .val (.int (2 : Int32)), .val (.ref b102)] [(.int (32 : Int32)), (.long q1), (.int (4 : Int32)), (.ref b102)])) _
    refine XS.lushr X126.here hx rfl (hb hby own_d1_139) rfl ?_
    show Steps p.tables e below (T126.setTop (mkF m 140 #[.val (.long q1), .second, .val (.long q2), .second, .val (.int (2 : Int32)), .val (.ref b102)] [(.long ((q1.toUInt64 >>> ((32 : Int32) &&& 0x3f).toInt64.toUInt64).toInt64)), (.int (4 : Int32)), (.ref b102)])) _
    refine XS.l2i X126.here hx rfl (hb hby own_d1_140) rfl ?_
    show Steps p.tables e below (T126.setTop (mkF m 141 #[.val (.long q1), .second, .val (.long q2), .second, .val (.int (2 : Int32)), .val (.ref b102)] [(.int (((q1.toUInt64 >>> ((32 : Int32) &&& 0x3f).toInt64.toUInt64).toInt64).toInt32)), (.int (4 : Int32)), (.ref b102)])) _
    refine XS.i2b X126.here hx rfl (hb hby own_d1_141) rfl ?_
    show Steps p.tables e below (T126.setTop (mkF m 142 #[.val (.long q1), .second, .val (.long q2), .second, .val (.int (2 : Int32)), .val (.ref b102)] [(.int ((((q1.toUInt64 >>> ((32 : Int32) &&& 0x3f).toInt64.toUInt64).toInt64).toInt32).toInt8.toInt32)), (.int (4 : Int32)), (.ref b102)])) _
    refine st128 _ ?_
    show Steps p.tables e below (T128.setTop (mkF m 143 #[.val (.long q1), .second, .val (.long q2), .second, .val (.int (2 : Int32)), .val (.ref b102)] [])) _
    refine XS.aload X128.here hx rfl (hb hby own_d1_143) rfl rfl ?_
    show Steps p.tables e below (T128.setTop (mkF m 145 #[.val (.long q1), .second, .val (.long q2), .second, .val (.int (2 : Int32)), .val (.ref b102)] [(.ref b102)])) _
    refine XS.iload X128.here hx rfl (hb hby own_d1_145) rfl ?_
    show Steps p.tables e below (T128.setTop (mkF m 147 #[.val (.long q1), .second, .val (.long q2), .second, .val (.int (2 : Int32)), .val (.ref b102)] [(.int (2 : Int32)), (.ref b102)])) _
    refine XS.iconst X128.here hx rfl (hb hby own_d1_147) ?_
    show Steps p.tables e below (T128.setTop (mkF m 148 #[.val (.long q1), .second, .val (.long q2), .second, .val (.int (2 : Int32)), .val (.ref b102)] [(.int (3 : Int32)), (.int (2 : Int32)), (.ref b102)])) _
    refine XS.iadd X128.here hx rfl (hb hby own_d1_148) rfl ?_
    show Steps p.tables e below (T128.setTop (mkF m 149 #[.val (.long q1), .second, .val (.long q2), .second, .val (.int (2 : Int32)), .val (.ref b102)] [(.int (5 : Int32)), (.ref b102)])) _
    refine XS.lloadN X128.here hx rfl (hb hby own_d1_149) rfl ?_
    show Steps p.tables e below (T128.setTop (mkF m 150 #[.val (.long q1), .second, .val (.long q2), .second, .val (.int (2 : Int32)), .val (.ref b102)] [(.long q1), (.int (5 : Int32)), (.ref b102)])) _
    refine XS.bipush X128.here hx rfl (hb hby own_d1_150) ?_
    show Steps p.tables e below (T128.setTop (mkF m 152 #[.val (.long q1), .second, .val (.long q2), .second, .val (.int (2 : Int32)), .val (.ref b102)] [(.int (24 : Int32)), (.long q1), (.int (5 : Int32)), (.ref b102)])) _
    refine XS.lushr X128.here hx rfl (hb hby own_d1_152) rfl ?_
    show Steps p.tables e below (T128.setTop (mkF m 153 #[.val (.long q1), .second, .val (.long q2), .second, .val (.int (2 : Int32)), .val (.ref b102)] [(.long ((q1.toUInt64 >>> ((24 : Int32) &&& 0x3f).toInt64.toUInt64).toInt64)), (.int (5 : Int32)), (.ref b102)])) _
    refine XS.l2i X128.here hx rfl (hb hby own_d1_153) rfl ?_
    show Steps p.tables e below (T128.setTop (mkF m 154 #[.val (.long q1), .second, .val (.long q2), .second, .val (.int (2 : Int32)), .val (.ref b102)] [(.int (((q1.toUInt64 >>> ((24 : Int32) &&& 0x3f).toInt64.toUInt64).toInt64).toInt32)), (.int (5 : Int32)), (.ref b102)])) _
    refine XS.i2b X128.here hx rfl (hb hby own_d1_154) rfl ?_
    show Steps p.tables e below (T128.setTop (mkF m 155 #[.val (.long q1), .second, .val (.long q2), .second, .val (.int (2 : Int32)), .val (.ref b102)] [(.int ((((q1.toUInt64 >>> ((24 : Int32) &&& 0x3f).toInt64.toUInt64).toInt64).toInt32).toInt8.toInt32)), (.int (5 : Int32)), (.ref b102)])) _
    refine st130 _ ?_
    show Steps p.tables e below (T130.setTop (mkF m 156 #[.val (.long q1), .second, .val (.long q2), .second, .val (.int (2 : Int32)), .val (.ref b102)] [])) _
    refine XS.aload X130.here hx rfl (hb hby own_d1_156) rfl rfl ?_
    show Steps p.tables e below (T130.setTop (mkF m 158 #[.val (.long q1), .second, .val (.long q2), .second, .val (.int (2 : Int32)), .val (.ref b102)] [(.ref b102)])) _
    refine XS.iload X130.here hx rfl (hb hby own_d1_158) rfl ?_
    show Steps p.tables e below (T130.setTop (mkF m 160 #[.val (.long q1), .second, .val (.long q2), .second, .val (.int (2 : Int32)), .val (.ref b102)] [(.int (2 : Int32)), (.ref b102)])) _
    refine XS.iconst X130.here hx rfl (hb hby own_d1_160) ?_
    show Steps p.tables e below (T130.setTop (mkF m 161 #[.val (.long q1), .second, .val (.long q2), .second, .val (.int (2 : Int32)), .val (.ref b102)] [(.int (4 : Int32)), (.int (2 : Int32)), (.ref b102)])) _
    refine XS.iadd X130.here hx rfl (hb hby own_d1_161) rfl ?_
    show Steps p.tables e below (T130.setTop (mkF m 162 #[.val (.long q1), .second, .val (.long q2), .second, .val (.int (2 : Int32)), .val (.ref b102)] [(.int (6 : Int32)), (.ref b102)])) _
    refine XS.lloadN X130.here hx rfl (hb hby own_d1_162) rfl ?_
    show Steps p.tables e below (T130.setTop (mkF m 163 #[.val (.long q1), .second, .val (.long q2), .second, .val (.int (2 : Int32)), .val (.ref b102)] [(.long q1), (.int (6 : Int32)), (.ref b102)])) _
    refine XS.bipush X130.here hx rfl (hb hby own_d1_163) ?_
    show Steps p.tables e below (T130.setTop (mkF m 165 #[.val (.long q1), .second, .val (.long q2), .second, .val (.int (2 : Int32)), .val (.ref b102)] [(.int (16 : Int32)), (.long q1), (.int (6 : Int32)), (.ref b102)])) _
    refine XS.lushr X130.here hx rfl (hb hby own_d1_165) rfl ?_
    show Steps p.tables e below (T130.setTop (mkF m 166 #[.val (.long q1), .second, .val (.long q2), .second, .val (.int (2 : Int32)), .val (.ref b102)] [(.long ((q1.toUInt64 >>> ((16 : Int32) &&& 0x3f).toInt64.toUInt64).toInt64)), (.int (6 : Int32)), (.ref b102)])) _
    refine XS.l2i X130.here hx rfl (hb hby own_d1_166) rfl ?_
    show Steps p.tables e below (T130.setTop (mkF m 167 #[.val (.long q1), .second, .val (.long q2), .second, .val (.int (2 : Int32)), .val (.ref b102)] [(.int (((q1.toUInt64 >>> ((16 : Int32) &&& 0x3f).toInt64.toUInt64).toInt64).toInt32)), (.int (6 : Int32)), (.ref b102)])) _
    refine XS.i2b X130.here hx rfl (hb hby own_d1_167) rfl ?_
    show Steps p.tables e below (T130.setTop (mkF m 168 #[.val (.long q1), .second, .val (.long q2), .second, .val (.int (2 : Int32)), .val (.ref b102)] [(.int ((((q1.toUInt64 >>> ((16 : Int32) &&& 0x3f).toInt64.toUInt64).toInt64).toInt32).toInt8.toInt32)), (.int (6 : Int32)), (.ref b102)])) _
    refine st132 _ ?_
    show Steps p.tables e below (T132.setTop (mkF m 169 #[.val (.long q1), .second, .val (.long q2), .second, .val (.int (2 : Int32)), .val (.ref b102)] [])) _
    refine XS.aload X132.here hx rfl (hb hby own_d1_169) rfl rfl ?_
    show Steps p.tables e below (T132.setTop (mkF m 171 #[.val (.long q1), .second, .val (.long q2), .second, .val (.int (2 : Int32)), .val (.ref b102)] [(.ref b102)])) _
    refine XS.iload X132.here hx rfl (hb hby own_d1_171) rfl ?_
    show Steps p.tables e below (T132.setTop (mkF m 173 #[.val (.long q1), .second, .val (.long q2), .second, .val (.int (2 : Int32)), .val (.ref b102)] [(.int (2 : Int32)), (.ref b102)])) _
    refine XS.iconst X132.here hx rfl (hb hby own_d1_173) ?_
    show Steps p.tables e below (T132.setTop (mkF m 174 #[.val (.long q1), .second, .val (.long q2), .second, .val (.int (2 : Int32)), .val (.ref b102)] [(.int (5 : Int32)), (.int (2 : Int32)), (.ref b102)])) _
    refine XS.iadd X132.here hx rfl (hb hby own_d1_174) rfl ?_
    show Steps p.tables e below (T132.setTop (mkF m 175 #[.val (.long q1), .second, .val (.long q2), .second, .val (.int (2 : Int32)), .val (.ref b102)] [(.int (7 : Int32)), (.ref b102)])) _
    refine XS.lloadN X132.here hx rfl (hb hby own_d1_175) rfl ?_
    show Steps p.tables e below (T132.setTop (mkF m 176 #[.val (.long q1), .second, .val (.long q2), .second, .val (.int (2 : Int32)), .val (.ref b102)] [(.long q1), (.int (7 : Int32)), (.ref b102)])) _
    refine XS.bipush X132.here hx rfl (hb hby own_d1_176) ?_
    show Steps p.tables e below (T132.setTop (mkF m 178 #[.val (.long q1), .second, .val (.long q2), .second, .val (.int (2 : Int32)), .val (.ref b102)] [(.int (8 : Int32)), (.long q1), (.int (7 : Int32)), (.ref b102)])) _
    refine XS.lushr X132.here hx rfl (hb hby own_d1_178) rfl ?_
    show Steps p.tables e below (T132.setTop (mkF m 179 #[.val (.long q1), .second, .val (.long q2), .second, .val (.int (2 : Int32)), .val (.ref b102)] [(.long ((q1.toUInt64 >>> ((8 : Int32) &&& 0x3f).toInt64.toUInt64).toInt64)), (.int (7 : Int32)), (.ref b102)])) _
    refine XS.l2i X132.here hx rfl (hb hby own_d1_179) rfl ?_
    show Steps p.tables e below (T132.setTop (mkF m 180 #[.val (.long q1), .second, .val (.long q2), .second, .val (.int (2 : Int32)), .val (.ref b102)] [(.int (((q1.toUInt64 >>> ((8 : Int32) &&& 0x3f).toInt64.toUInt64).toInt64).toInt32)), (.int (7 : Int32)), (.ref b102)])) _
    refine XS.i2b X132.here hx rfl (hb hby own_d1_180) rfl ?_
    show Steps p.tables e below (T132.setTop (mkF m 181 #[.val (.long q1), .second, .val (.long q2), .second, .val (.int (2 : Int32)), .val (.ref b102)] [(.int ((((q1.toUInt64 >>> ((8 : Int32) &&& 0x3f).toInt64.toUInt64).toInt64).toInt32).toInt8.toInt32)), (.int (7 : Int32)), (.ref b102)])) _
    refine st134 _ ?_
    show Steps p.tables e below (T134.setTop (mkF m 182 #[.val (.long q1), .second, .val (.long q2), .second, .val (.int (2 : Int32)), .val (.ref b102)] [])) _
    refine XS.aload X134.here hx rfl (hb hby own_d1_182) rfl rfl ?_
    show Steps p.tables e below (T134.setTop (mkF m 184 #[.val (.long q1), .second, .val (.long q2), .second, .val (.int (2 : Int32)), .val (.ref b102)] [(.ref b102)])) _
    refine XS.iload X134.here hx rfl (hb hby own_d1_184) rfl ?_
    show Steps p.tables e below (T134.setTop (mkF m 186 #[.val (.long q1), .second, .val (.long q2), .second, .val (.int (2 : Int32)), .val (.ref b102)] [(.int (2 : Int32)), (.ref b102)])) _
    refine XS.bipush X134.here hx rfl (hb hby own_d1_186) ?_
    show Steps p.tables e below (T134.setTop (mkF m 188 #[.val (.long q1), .second, .val (.long q2), .second, .val (.int (2 : Int32)), .val (.ref b102)] [(.int (6 : Int32)), (.int (2 : Int32)), (.ref b102)])) _
    refine XS.iadd X134.here hx rfl (hb hby own_d1_188) rfl ?_
    show Steps p.tables e below (T134.setTop (mkF m 189 #[.val (.long q1), .second, .val (.long q2), .second, .val (.int (2 : Int32)), .val (.ref b102)] [(.int (8 : Int32)), (.ref b102)])) _
    refine XS.lloadN X134.here hx rfl (hb hby own_d1_189) rfl ?_
    show Steps p.tables e below (T134.setTop (mkF m 190 #[.val (.long q1), .second, .val (.long q2), .second, .val (.int (2 : Int32)), .val (.ref b102)] [(.long q1), (.int (8 : Int32)), (.ref b102)])) _
    refine XS.l2i X134.here hx rfl (hb hby own_d1_190) rfl ?_
    show Steps p.tables e below (T134.setTop (mkF m 191 #[.val (.long q1), .second, .val (.long q2), .second, .val (.int (2 : Int32)), .val (.ref b102)] [(.int (q1.toInt32)), (.int (8 : Int32)), (.ref b102)])) _
    refine XS.i2b X134.here hx rfl (hb hby own_d1_191) rfl ?_
    show Steps p.tables e below (T134.setTop (mkF m 192 #[.val (.long q1), .second, .val (.long q2), .second, .val (.int (2 : Int32)), .val (.ref b102)] [(.int ((q1.toInt32).toInt8.toInt32)), (.int (8 : Int32)), (.ref b102)])) _
    refine st136 _ ?_
    show Steps p.tables e below (T136.setTop (mkF m 193 #[.val (.long q1), .second, .val (.long q2), .second, .val (.int (2 : Int32)), .val (.ref b102)] [])) _
    refine XS.aload X136.here hx rfl (hb hby own_d1_193) rfl rfl ?_
    show Steps p.tables e below (T136.setTop (mkF m 195 #[.val (.long q1), .second, .val (.long q2), .second, .val (.int (2 : Int32)), .val (.ref b102)] [(.ref b102)])) _
    jvm_step X136.here [X136.here.top, hx, (hb hby own_d1_195), X136.method', Bd.returns, Value.isRef, FieldType.isReference]
    first | (intro acts; rw [hr _ acts rfl rfl rfl]) | rw [hr _ _ rfl rfl rfl]
    exact Steps.refl _
  · show Q1_2 Z q1 q2 h0 n0 _ T136.heap _
    rw [e136]
    exact ⟨b102, k102, rfl, N136, K136, sz_b102, V136⟩
theorem own_ef_rm1_3 (m : MethodId) (q1 : Int64) (q2 : Int64) : entryFrame m #[(.long q1), (.long q2), (.int (3 : Int32))] 6 = mkF m 0 #[.val (.long q1), .second, .val (.long q2), .second, .val (.int (3 : Int32)), .unset] [] := by first | (simp [entryFrame, mkF, argsToLocals, Value.category]; done) | rfl
def Q1_3 (Z : State) (q1 : Int64) (q2 : Int64) (h0 : Heap) (n0 : Nat) (v : Option Value) (h : Heap) (L : List Loc) : Prop := ∃ b : Addr, ∃ k : ClassId, v = some (.ref b) ∧ Fr n0 L ∧ Keep h0 h [] ∧ h0.size ≤ b ∧ Arv Z h b k .byte (10 : Int32) [(.int (own_by0 q2)), (.int (own_by q2 (8 : Int32))), (.int (own_by q2 (16 : Int32))), (.int (own_by q1 (48 : Int32))), (.int (own_by q1 (40 : Int32))), (.int (own_by q1 (32 : Int32))), (.int (own_by q1 (24 : Int32))), (.int (own_by q1 (16 : Int32))), (.int (own_by q1 (8 : Int32))), (.int (own_by0 q1))] (.int (0 : Int32))
set_option maxRecDepth 65536 in
set_option maxHeartbeats 40000000 in
theorem rm1_3 (l : Launch) (Z : State) (a0 : Array Value) (hw : ∀ d ∈ tables_1, d.before a0 Z = true) (ws : List Jvm.Cond) (q1 : Int64) (q2 : Int64) (h0 : Heap) (n0 : Nat) (Z0 : n0 ≤ h0.size) :
    MetFree l (⟨"com/example/linkbook/linkbook/coding/BchParityOctetPinLaw", "build", "(JJI)[B"⟩ : MethodName) (head1 (Jvm.Cond.code (⟨"com/example/linkbook/linkbook/coding/BchParityOctetPinLaw", "build", "(JJI)[B"⟩ : MethodName) method_2_code 6 (some (.array .byte)) :: ws) ({ frames := 0, cells := 1, slots := 10, locals := 0 } : Room)) (fun a U => a = #[(.long q1), (.long q2), (.int (3 : Int32))] ∧ Z.Warmed39 U.vm ∧ U.heap = h0) (fun _ _ _ _ _ => True) (fun _ U o U' => ∃ v L, o = .returned v ∧ Q1_3 Z q1 q2 h0 n0 v U'.heap L ∧ FrameEnd U o U' L ({ frames := 0, cells := 1, slots := 10, locals := 0 } : Room).cells ({ frames := 0, cells := 1, slots := 10, locals := 0 } : Room).slots) := by
  refine MetFree.of_bodySF (plainFor_of_name own_pn1) hisR ?_
  intro p e s m args below meth c s₁ Bd hml0 hP hK
  obtain ⟨rfl, hZ, hh⟩ := hP
  have hx := Bd.exec
  have hby := Bd.bytes
  have hml : c.maxLocals = 6 := hml0
  have hown : s.vm.findClass "com/example/linkbook/linkbook/coding/BchParityOctetPinLaw" = some m.cls := findClass_of_methodNamed Bd.named
  have hnm := (name_of_methodNamed Bd.named Bd.method).1
  have X0 : Stand p l e ({ frames := 0, cells := 1, slots := 10, locals := 0 } : Room) s m #[(.long q1), (.long q2), (.int (3 : Int32))] below meth c s₁ [] 0 0 := Stand.of_body Bd
  have e0 : s₁.heap = h0 := by rw [← hh, Bd.state]; rfl
  have N0 := Fr.nil n0
  have K0 : Keep h0 h0 [] := Keep.refl h0 _
  have pre0 : ∀ t, Steps p.tables e below (s₁.setTop (mkF m 0 #[.val (.long q1), .second, .val (.long q2), .second, .val (.int (3 : Int32)), .unset] [])) t → Steps p.tables e below (s₁.setTop (entryFrame m #[(.long q1), (.long q2), (.int (3 : Int32))] 6)) t := fun t k => castTop (own_ef_rm1_3 m q1 q2) k
  obtain ⟨T137, h137, k137, X137, e137, E137, A137, st137⟩ := newP X0 hx hZ (hw _ (List.mem_of_getElem? (i := 6) rfl)) e0 (g := (mkF m 2 #[.val (.long q1), .second, .val (.long q2), .second, .val (.int (3 : Int32)), .unset] [(.int (10 : Int32))])) rfl (hb hby own_d1_2) rfl (by decide) (cap := 10) (by decide) (by decide) (by decide) (by decide)
  obtain ⟨b137, g137⟩ : ∃ z, z = h0.size := ⟨_, rfl⟩
  rw [← g137] at A137 st137
  have gg_b137 : n0 ≤ b137 := Nat.le_trans (Nat.le_trans Z0 K0.1) (Nat.le_of_eq g137.symm)
  have sz_b137 : h0.size ≤ b137 := Nat.le_trans K0.1 (Nat.le_of_eq g137.symm)
  have K137 := K0.ext E137
  have V137 : Arv Z h137 b137 k137 .byte (10 : Int32) [(.int (0 : Int32)), (.int (0 : Int32)), (.int (0 : Int32)), (.int (0 : Int32)), (.int (0 : Int32)), (.int (0 : Int32)), (.int (0 : Int32)), (.int (0 : Int32)), (.int (0 : Int32)), (.int (0 : Int32))] (.int (0 : Int32)) := (Arv.new A137 (by decide)).pad (pad_rep [] (.int (0 : Int32)) 10)
  obtain ⟨cl138, Ar138, q138, S138, M138, H138, G138⟩ := id V137
  have hin138 : ¬ ((0 : Int32) < 0 ∨ cl138.slots.size ≤ ((0 : Int32)).toNatClampNeg) := inb_of S138 ⟨by decide, by decide⟩
  obtain ⟨T139, h139, X139, e139, W139, st139⟩ := stB X137 hx hZ e137 Ar138 (j := (0 : Int32)) hin138 (g := (mkF m 12 #[.val (.long q1), .second, .val (.long q2), .second, .val (.int (3 : Int32)), .val (.ref b137)] [(.int ((q2.toInt32).toInt8.toInt32)), (.int (0 : Int32)), (.ref b137)])) rfl rfl (hb hby own_d1_12)
  have V139 : Arv Z h139 b137 k137 .byte (10 : Int32) [(.int (nar .byte ((q2.toInt32).toInt8.toInt32))), (.int (0 : Int32)), (.int (0 : Int32)), (.int (0 : Int32)), (.int (0 : Int32)), (.int (0 : Int32)), (.int (0 : Int32)), (.int (0 : Int32)), (.int (0 : Int32)), (.int (0 : Int32))] (.int (0 : Int32)) := Arv.set Ar138 q138 S138 M138 H138 G138 (fits_nar_byte _) W139 0 rfl (Nat.le_of_ble_eq_true rfl)
  have K139 := K137.wr W139 (Or.inr sz_b137)
  have N139 := Fr.snoc X139 N0 gg_b137
  obtain ⟨cl140, Ar140, q140, S140, M140, H140, G140⟩ := id V139
  have hin140 : ¬ ((1 : Int32) < 0 ∨ cl140.slots.size ≤ ((1 : Int32)).toNatClampNeg) := inb_of S140 ⟨by decide, by decide⟩
  obtain ⟨T141, h141, X141, e141, W141, st141⟩ := stB X139 hx hZ e139 Ar140 (j := (1 : Int32)) hin140 (g := (mkF m 22 #[.val (.long q1), .second, .val (.long q2), .second, .val (.int (3 : Int32)), .val (.ref b137)] [(.int ((((q2.toUInt64 >>> ((8 : Int32) &&& 0x3f).toInt64.toUInt64).toInt64).toInt32).toInt8.toInt32)), (.int (1 : Int32)), (.ref b137)])) rfl rfl (hb hby own_d1_22)
  have V141 : Arv Z h141 b137 k137 .byte (10 : Int32) [(.int (nar .byte ((q2.toInt32).toInt8.toInt32))), (.int (nar .byte ((((q2.toUInt64 >>> ((8 : Int32) &&& 0x3f).toInt64.toUInt64).toInt64).toInt32).toInt8.toInt32))), (.int (0 : Int32)), (.int (0 : Int32)), (.int (0 : Int32)), (.int (0 : Int32)), (.int (0 : Int32)), (.int (0 : Int32)), (.int (0 : Int32)), (.int (0 : Int32))] (.int (0 : Int32)) := Arv.set Ar140 q140 S140 M140 H140 G140 (fits_nar_byte _) W141 1 rfl (Nat.le_of_ble_eq_true rfl)
  have K141 := K139.wr W141 (Or.inr sz_b137)
  have N141 := Fr.snoc X141 N139 gg_b137
  obtain ⟨cl142, Ar142, q142, S142, M142, H142, G142⟩ := id V141
  have hin142 : ¬ ((2 : Int32) < 0 ∨ cl142.slots.size ≤ ((2 : Int32)).toNatClampNeg) := inb_of S142 ⟨by decide, by decide⟩
  obtain ⟨T143, h143, X143, e143, W143, st143⟩ := stB X141 hx hZ e141 Ar142 (j := (2 : Int32)) hin142 (g := (mkF m 32 #[.val (.long q1), .second, .val (.long q2), .second, .val (.int (3 : Int32)), .val (.ref b137)] [(.int ((((q2.toUInt64 >>> ((16 : Int32) &&& 0x3f).toInt64.toUInt64).toInt64).toInt32).toInt8.toInt32)), (.int (2 : Int32)), (.ref b137)])) rfl rfl (hb hby own_d1_32)
  have V143 : Arv Z h143 b137 k137 .byte (10 : Int32) [(.int (nar .byte ((q2.toInt32).toInt8.toInt32))), (.int (nar .byte ((((q2.toUInt64 >>> ((8 : Int32) &&& 0x3f).toInt64.toUInt64).toInt64).toInt32).toInt8.toInt32))), (.int (nar .byte ((((q2.toUInt64 >>> ((16 : Int32) &&& 0x3f).toInt64.toUInt64).toInt64).toInt32).toInt8.toInt32))), (.int (0 : Int32)), (.int (0 : Int32)), (.int (0 : Int32)), (.int (0 : Int32)), (.int (0 : Int32)), (.int (0 : Int32)), (.int (0 : Int32))] (.int (0 : Int32)) := Arv.set Ar142 q142 S142 M142 H142 G142 (fits_nar_byte _) W143 2 rfl (Nat.le_of_ble_eq_true rfl)
  have K143 := K141.wr W143 (Or.inr sz_b137)
  have N143 := Fr.snoc X143 N141 gg_b137
  obtain ⟨cl144, Ar144, q144, S144, M144, H144, G144⟩ := id V143
  have hin144 : ¬ ((3 : Int32) < 0 ∨ cl144.slots.size ≤ ((3 : Int32)).toNatClampNeg) := inb_of S144 ⟨by decide, by decide⟩
  obtain ⟨T145, h145, X145, e145, W145, st145⟩ := stB X143 hx hZ e143 Ar144 (j := (3 : Int32)) hin144 (g := (mkF m 42 #[.val (.long q1), .second, .val (.long q2), .second, .val (.int (3 : Int32)), .val (.ref b137)] [(.int ((((q2.toUInt64 >>> ((24 : Int32) &&& 0x3f).toInt64.toUInt64).toInt64).toInt32).toInt8.toInt32)), (.int (3 : Int32)), (.ref b137)])) rfl rfl (hb hby own_d1_42)
  have V145 : Arv Z h145 b137 k137 .byte (10 : Int32) [(.int (nar .byte ((q2.toInt32).toInt8.toInt32))), (.int (nar .byte ((((q2.toUInt64 >>> ((8 : Int32) &&& 0x3f).toInt64.toUInt64).toInt64).toInt32).toInt8.toInt32))), (.int (nar .byte ((((q2.toUInt64 >>> ((16 : Int32) &&& 0x3f).toInt64.toUInt64).toInt64).toInt32).toInt8.toInt32))), (.int (nar .byte ((((q2.toUInt64 >>> ((24 : Int32) &&& 0x3f).toInt64.toUInt64).toInt64).toInt32).toInt8.toInt32))), (.int (0 : Int32)), (.int (0 : Int32)), (.int (0 : Int32)), (.int (0 : Int32)), (.int (0 : Int32)), (.int (0 : Int32))] (.int (0 : Int32)) := Arv.set Ar144 q144 S144 M144 H144 G144 (fits_nar_byte _) W145 3 rfl (Nat.le_of_ble_eq_true rfl)
  have K145 := K143.wr W145 (Or.inr sz_b137)
  have N145 := Fr.snoc X145 N143 gg_b137
  obtain ⟨cl146, Ar146, q146, S146, M146, H146, G146⟩ := id V145
  have hin146 : ¬ ((4 : Int32) < 0 ∨ cl146.slots.size ≤ ((4 : Int32)).toNatClampNeg) := inb_of S146 ⟨by decide, by decide⟩
  obtain ⟨T147, h147, X147, e147, W147, st147⟩ := stB X145 hx hZ e145 Ar146 (j := (4 : Int32)) hin146 (g := (mkF m 52 #[.val (.long q1), .second, .val (.long q2), .second, .val (.int (3 : Int32)), .val (.ref b137)] [(.int ((((q2.toUInt64 >>> ((32 : Int32) &&& 0x3f).toInt64.toUInt64).toInt64).toInt32).toInt8.toInt32)), (.int (4 : Int32)), (.ref b137)])) rfl rfl (hb hby own_d1_52)
  have V147 : Arv Z h147 b137 k137 .byte (10 : Int32) [(.int (nar .byte ((q2.toInt32).toInt8.toInt32))), (.int (nar .byte ((((q2.toUInt64 >>> ((8 : Int32) &&& 0x3f).toInt64.toUInt64).toInt64).toInt32).toInt8.toInt32))), (.int (nar .byte ((((q2.toUInt64 >>> ((16 : Int32) &&& 0x3f).toInt64.toUInt64).toInt64).toInt32).toInt8.toInt32))), (.int (nar .byte ((((q2.toUInt64 >>> ((24 : Int32) &&& 0x3f).toInt64.toUInt64).toInt64).toInt32).toInt8.toInt32))), (.int (nar .byte ((((q2.toUInt64 >>> ((32 : Int32) &&& 0x3f).toInt64.toUInt64).toInt64).toInt32).toInt8.toInt32))), (.int (0 : Int32)), (.int (0 : Int32)), (.int (0 : Int32)), (.int (0 : Int32)), (.int (0 : Int32))] (.int (0 : Int32)) := Arv.set Ar146 q146 S146 M146 H146 G146 (fits_nar_byte _) W147 4 rfl (Nat.le_of_ble_eq_true rfl)
  have K147 := K145.wr W147 (Or.inr sz_b137)
  have N147 := Fr.snoc X147 N145 gg_b137
  obtain ⟨cl148, Ar148, q148, S148, M148, H148, G148⟩ := id V147
  have hin148 : ¬ ((5 : Int32) < 0 ∨ cl148.slots.size ≤ ((5 : Int32)).toNatClampNeg) := inb_of S148 ⟨by decide, by decide⟩
  obtain ⟨T149, h149, X149, e149, W149, st149⟩ := stB X147 hx hZ e147 Ar148 (j := (5 : Int32)) hin148 (g := (mkF m 62 #[.val (.long q1), .second, .val (.long q2), .second, .val (.int (3 : Int32)), .val (.ref b137)] [(.int ((((q2.toUInt64 >>> ((40 : Int32) &&& 0x3f).toInt64.toUInt64).toInt64).toInt32).toInt8.toInt32)), (.int (5 : Int32)), (.ref b137)])) rfl rfl (hb hby own_d1_62)
  have V149 : Arv Z h149 b137 k137 .byte (10 : Int32) [(.int (nar .byte ((q2.toInt32).toInt8.toInt32))), (.int (nar .byte ((((q2.toUInt64 >>> ((8 : Int32) &&& 0x3f).toInt64.toUInt64).toInt64).toInt32).toInt8.toInt32))), (.int (nar .byte ((((q2.toUInt64 >>> ((16 : Int32) &&& 0x3f).toInt64.toUInt64).toInt64).toInt32).toInt8.toInt32))), (.int (nar .byte ((((q2.toUInt64 >>> ((24 : Int32) &&& 0x3f).toInt64.toUInt64).toInt64).toInt32).toInt8.toInt32))), (.int (nar .byte ((((q2.toUInt64 >>> ((32 : Int32) &&& 0x3f).toInt64.toUInt64).toInt64).toInt32).toInt8.toInt32))), (.int (nar .byte ((((q2.toUInt64 >>> ((40 : Int32) &&& 0x3f).toInt64.toUInt64).toInt64).toInt32).toInt8.toInt32))), (.int (0 : Int32)), (.int (0 : Int32)), (.int (0 : Int32)), (.int (0 : Int32))] (.int (0 : Int32)) := Arv.set Ar148 q148 S148 M148 H148 G148 (fits_nar_byte _) W149 5 rfl (Nat.le_of_ble_eq_true rfl)
  have K149 := K147.wr W149 (Or.inr sz_b137)
  have N149 := Fr.snoc X149 N147 gg_b137
  obtain ⟨cl150, Ar150, q150, S150, M150, H150, G150⟩ := id V149
  have hin150 : ¬ ((6 : Int32) < 0 ∨ cl150.slots.size ≤ ((6 : Int32)).toNatClampNeg) := inb_of S150 ⟨by decide, by decide⟩
  obtain ⟨T151, h151, X151, e151, W151, st151⟩ := stB X149 hx hZ e149 Ar150 (j := (6 : Int32)) hin150 (g := (mkF m 73 #[.val (.long q1), .second, .val (.long q2), .second, .val (.int (3 : Int32)), .val (.ref b137)] [(.int ((((q2.toUInt64 >>> ((48 : Int32) &&& 0x3f).toInt64.toUInt64).toInt64).toInt32).toInt8.toInt32)), (.int (6 : Int32)), (.ref b137)])) rfl rfl (hb hby own_d1_73)
  have V151 : Arv Z h151 b137 k137 .byte (10 : Int32) [(.int (nar .byte ((q2.toInt32).toInt8.toInt32))), (.int (nar .byte ((((q2.toUInt64 >>> ((8 : Int32) &&& 0x3f).toInt64.toUInt64).toInt64).toInt32).toInt8.toInt32))), (.int (nar .byte ((((q2.toUInt64 >>> ((16 : Int32) &&& 0x3f).toInt64.toUInt64).toInt64).toInt32).toInt8.toInt32))), (.int (nar .byte ((((q2.toUInt64 >>> ((24 : Int32) &&& 0x3f).toInt64.toUInt64).toInt64).toInt32).toInt8.toInt32))), (.int (nar .byte ((((q2.toUInt64 >>> ((32 : Int32) &&& 0x3f).toInt64.toUInt64).toInt64).toInt32).toInt8.toInt32))), (.int (nar .byte ((((q2.toUInt64 >>> ((40 : Int32) &&& 0x3f).toInt64.toUInt64).toInt64).toInt32).toInt8.toInt32))), (.int (nar .byte ((((q2.toUInt64 >>> ((48 : Int32) &&& 0x3f).toInt64.toUInt64).toInt64).toInt32).toInt8.toInt32))), (.int (0 : Int32)), (.int (0 : Int32)), (.int (0 : Int32))] (.int (0 : Int32)) := Arv.set Ar150 q150 S150 M150 H150 G150 (fits_nar_byte _) W151 6 rfl (Nat.le_of_ble_eq_true rfl)
  have K151 := K149.wr W151 (Or.inr sz_b137)
  have N151 := Fr.snoc X151 N149 gg_b137
  obtain ⟨cl152, Ar152, q152, S152, M152, H152, G152⟩ := id V151
  have hin152 : ¬ ((7 : Int32) < 0 ∨ cl152.slots.size ≤ ((7 : Int32)).toNatClampNeg) := inb_of S152 ⟨by decide, by decide⟩
  obtain ⟨T153, h153, X153, e153, W153, st153⟩ := stB X151 hx hZ e151 Ar152 (j := (7 : Int32)) hin152 (g := (mkF m 84 #[.val (.long q1), .second, .val (.long q2), .second, .val (.int (3 : Int32)), .val (.ref b137)] [(.int ((((q2.toUInt64 >>> ((56 : Int32) &&& 0x3f).toInt64.toUInt64).toInt64).toInt32).toInt8.toInt32)), (.int (7 : Int32)), (.ref b137)])) rfl rfl (hb hby own_d1_84)
  have V153 : Arv Z h153 b137 k137 .byte (10 : Int32) [(.int (nar .byte ((q2.toInt32).toInt8.toInt32))), (.int (nar .byte ((((q2.toUInt64 >>> ((8 : Int32) &&& 0x3f).toInt64.toUInt64).toInt64).toInt32).toInt8.toInt32))), (.int (nar .byte ((((q2.toUInt64 >>> ((16 : Int32) &&& 0x3f).toInt64.toUInt64).toInt64).toInt32).toInt8.toInt32))), (.int (nar .byte ((((q2.toUInt64 >>> ((24 : Int32) &&& 0x3f).toInt64.toUInt64).toInt64).toInt32).toInt8.toInt32))), (.int (nar .byte ((((q2.toUInt64 >>> ((32 : Int32) &&& 0x3f).toInt64.toUInt64).toInt64).toInt32).toInt8.toInt32))), (.int (nar .byte ((((q2.toUInt64 >>> ((40 : Int32) &&& 0x3f).toInt64.toUInt64).toInt64).toInt32).toInt8.toInt32))), (.int (nar .byte ((((q2.toUInt64 >>> ((48 : Int32) &&& 0x3f).toInt64.toUInt64).toInt64).toInt32).toInt8.toInt32))), (.int (nar .byte ((((q2.toUInt64 >>> ((56 : Int32) &&& 0x3f).toInt64.toUInt64).toInt64).toInt32).toInt8.toInt32))), (.int (0 : Int32)), (.int (0 : Int32))] (.int (0 : Int32)) := Arv.set Ar152 q152 S152 M152 H152 G152 (fits_nar_byte _) W153 7 rfl (Nat.le_of_ble_eq_true rfl)
  have K153 := K151.wr W153 (Or.inr sz_b137)
  have N153 := Fr.snoc X153 N151 gg_b137
  obtain ⟨cl154, Ar154, q154, S154, M154, H154, G154⟩ := id V153
  have hin154 : ¬ ((8 : Int32) < 0 ∨ cl154.slots.size ≤ ((8 : Int32)).toNatClampNeg) := inb_of S154 ⟨by decide, by decide⟩
  obtain ⟨T155, h155, X155, e155, W155, st155⟩ := stB X153 hx hZ e153 Ar154 (j := (8 : Int32)) hin154 (g := (mkF m 94 #[.val (.long q1), .second, .val (.long q2), .second, .val (.int (3 : Int32)), .val (.ref b137)] [(.int ((((q2.toUInt64 >>> ((3 : Int32) &&& 0x3f).toInt64.toUInt64).toInt64).toInt32).toInt8.toInt32)), (.int (8 : Int32)), (.ref b137)])) rfl rfl (hb hby own_d1_94)
  have V155 : Arv Z h155 b137 k137 .byte (10 : Int32) [(.int (nar .byte ((q2.toInt32).toInt8.toInt32))), (.int (nar .byte ((((q2.toUInt64 >>> ((8 : Int32) &&& 0x3f).toInt64.toUInt64).toInt64).toInt32).toInt8.toInt32))), (.int (nar .byte ((((q2.toUInt64 >>> ((16 : Int32) &&& 0x3f).toInt64.toUInt64).toInt64).toInt32).toInt8.toInt32))), (.int (nar .byte ((((q2.toUInt64 >>> ((24 : Int32) &&& 0x3f).toInt64.toUInt64).toInt64).toInt32).toInt8.toInt32))), (.int (nar .byte ((((q2.toUInt64 >>> ((32 : Int32) &&& 0x3f).toInt64.toUInt64).toInt64).toInt32).toInt8.toInt32))), (.int (nar .byte ((((q2.toUInt64 >>> ((40 : Int32) &&& 0x3f).toInt64.toUInt64).toInt64).toInt32).toInt8.toInt32))), (.int (nar .byte ((((q2.toUInt64 >>> ((48 : Int32) &&& 0x3f).toInt64.toUInt64).toInt64).toInt32).toInt8.toInt32))), (.int (nar .byte ((((q2.toUInt64 >>> ((56 : Int32) &&& 0x3f).toInt64.toUInt64).toInt64).toInt32).toInt8.toInt32))), (.int (nar .byte ((((q2.toUInt64 >>> ((3 : Int32) &&& 0x3f).toInt64.toUInt64).toInt64).toInt32).toInt8.toInt32))), (.int (0 : Int32))] (.int (0 : Int32)) := Arv.set Ar154 q154 S154 M154 H154 G154 (fits_nar_byte _) W155 8 rfl (Nat.le_of_ble_eq_true rfl)
  have K155 := K153.wr W155 (Or.inr sz_b137)
  have N155 := Fr.snoc X155 N153 gg_b137
  obtain ⟨cl156, Ar156, q156, S156, M156, H156, G156⟩ := id V155
  have hin156 : ¬ ((9 : Int32) < 0 ∨ cl156.slots.size ≤ ((9 : Int32)).toNatClampNeg) := inb_of S156 ⟨by decide, by decide⟩
  obtain ⟨T157, h157, X157, e157, W157, st157⟩ := stB X155 hx hZ e155 Ar156 (j := (9 : Int32)) hin156 (g := (mkF m 105 #[.val (.long q1), .second, .val (.long q2), .second, .val (.int (3 : Int32)), .val (.ref b137)] [(.int ((((q2.toUInt64 >>> ((11 : Int32) &&& 0x3f).toInt64.toUInt64).toInt64).toInt32).toInt8.toInt32)), (.int (9 : Int32)), (.ref b137)])) rfl rfl (hb hby own_d1_105)
  have V157 : Arv Z h157 b137 k137 .byte (10 : Int32) [(.int (nar .byte ((q2.toInt32).toInt8.toInt32))), (.int (nar .byte ((((q2.toUInt64 >>> ((8 : Int32) &&& 0x3f).toInt64.toUInt64).toInt64).toInt32).toInt8.toInt32))), (.int (nar .byte ((((q2.toUInt64 >>> ((16 : Int32) &&& 0x3f).toInt64.toUInt64).toInt64).toInt32).toInt8.toInt32))), (.int (nar .byte ((((q2.toUInt64 >>> ((24 : Int32) &&& 0x3f).toInt64.toUInt64).toInt64).toInt32).toInt8.toInt32))), (.int (nar .byte ((((q2.toUInt64 >>> ((32 : Int32) &&& 0x3f).toInt64.toUInt64).toInt64).toInt32).toInt8.toInt32))), (.int (nar .byte ((((q2.toUInt64 >>> ((40 : Int32) &&& 0x3f).toInt64.toUInt64).toInt64).toInt32).toInt8.toInt32))), (.int (nar .byte ((((q2.toUInt64 >>> ((48 : Int32) &&& 0x3f).toInt64.toUInt64).toInt64).toInt32).toInt8.toInt32))), (.int (nar .byte ((((q2.toUInt64 >>> ((56 : Int32) &&& 0x3f).toInt64.toUInt64).toInt64).toInt32).toInt8.toInt32))), (.int (nar .byte ((((q2.toUInt64 >>> ((3 : Int32) &&& 0x3f).toInt64.toUInt64).toInt64).toInt32).toInt8.toInt32))), (.int (nar .byte ((((q2.toUInt64 >>> ((11 : Int32) &&& 0x3f).toInt64.toUInt64).toInt64).toInt32).toInt8.toInt32)))] (.int (0 : Int32)) := Arv.set Ar156 q156 S156 M156 H156 G156 (fits_nar_byte _) W157 9 rfl (Nat.le_of_ble_eq_true rfl)
  have K157 := K155.wr W157 (Or.inr sz_b137)
  have N157 := Fr.snoc X157 N155 gg_b137
  obtain ⟨cl158, Ar158, q158, S158, M158, H158, G158⟩ := id V157
  have hin158 : ¬ ((3 : Int32) < 0 ∨ cl158.slots.size ≤ ((3 : Int32)).toNatClampNeg) := inb_of S158 ⟨by decide, by decide⟩
  obtain ⟨T159, h159, X159, e159, W159, st159⟩ := stB X157 hx hZ e157 Ar158 (j := (3 : Int32)) hin158 (g := (mkF m 116 #[.val (.long q1), .second, .val (.long q2), .second, .val (.int (3 : Int32)), .val (.ref b137)] [(.int ((((q1.toUInt64 >>> ((48 : Int32) &&& 0x3f).toInt64.toUInt64).toInt64).toInt32).toInt8.toInt32)), (.int (3 : Int32)), (.ref b137)])) rfl rfl (hb hby own_d1_116)
  have V159 : Arv Z h159 b137 k137 .byte (10 : Int32) [(.int (nar .byte ((q2.toInt32).toInt8.toInt32))), (.int (nar .byte ((((q2.toUInt64 >>> ((8 : Int32) &&& 0x3f).toInt64.toUInt64).toInt64).toInt32).toInt8.toInt32))), (.int (nar .byte ((((q2.toUInt64 >>> ((16 : Int32) &&& 0x3f).toInt64.toUInt64).toInt64).toInt32).toInt8.toInt32))), (.int (nar .byte ((((q1.toUInt64 >>> ((48 : Int32) &&& 0x3f).toInt64.toUInt64).toInt64).toInt32).toInt8.toInt32))), (.int (nar .byte ((((q2.toUInt64 >>> ((32 : Int32) &&& 0x3f).toInt64.toUInt64).toInt64).toInt32).toInt8.toInt32))), (.int (nar .byte ((((q2.toUInt64 >>> ((40 : Int32) &&& 0x3f).toInt64.toUInt64).toInt64).toInt32).toInt8.toInt32))), (.int (nar .byte ((((q2.toUInt64 >>> ((48 : Int32) &&& 0x3f).toInt64.toUInt64).toInt64).toInt32).toInt8.toInt32))), (.int (nar .byte ((((q2.toUInt64 >>> ((56 : Int32) &&& 0x3f).toInt64.toUInt64).toInt64).toInt32).toInt8.toInt32))), (.int (nar .byte ((((q2.toUInt64 >>> ((3 : Int32) &&& 0x3f).toInt64.toUInt64).toInt64).toInt32).toInt8.toInt32))), (.int (nar .byte ((((q2.toUInt64 >>> ((11 : Int32) &&& 0x3f).toInt64.toUInt64).toInt64).toInt32).toInt8.toInt32)))] (.int (0 : Int32)) := Arv.set Ar158 q158 S158 M158 H158 G158 (fits_nar_byte _) W159 3 rfl (Nat.le_of_ble_eq_true rfl)
  have K159 := K157.wr W159 (Or.inr sz_b137)
  have N159 := Fr.snoc X159 N157 gg_b137
  obtain ⟨cl160, Ar160, q160, S160, M160, H160, G160⟩ := id V159
  have hin160 : ¬ ((4 : Int32) < 0 ∨ cl160.slots.size ≤ ((4 : Int32)).toNatClampNeg) := inb_of S160 ⟨by decide, by decide⟩
  obtain ⟨T161, h161, X161, e161, W161, st161⟩ := stB X159 hx hZ e159 Ar160 (j := (4 : Int32)) hin160 (g := (mkF m 129 #[.val (.long q1), .second, .val (.long q2), .second, .val (.int (3 : Int32)), .val (.ref b137)] [(.int ((((q1.toUInt64 >>> ((40 : Int32) &&& 0x3f).toInt64.toUInt64).toInt64).toInt32).toInt8.toInt32)), (.int (4 : Int32)), (.ref b137)])) rfl rfl (hb hby own_d1_129)
  have V161 : Arv Z h161 b137 k137 .byte (10 : Int32) [(.int (nar .byte ((q2.toInt32).toInt8.toInt32))), (.int (nar .byte ((((q2.toUInt64 >>> ((8 : Int32) &&& 0x3f).toInt64.toUInt64).toInt64).toInt32).toInt8.toInt32))), (.int (nar .byte ((((q2.toUInt64 >>> ((16 : Int32) &&& 0x3f).toInt64.toUInt64).toInt64).toInt32).toInt8.toInt32))), (.int (nar .byte ((((q1.toUInt64 >>> ((48 : Int32) &&& 0x3f).toInt64.toUInt64).toInt64).toInt32).toInt8.toInt32))), (.int (nar .byte ((((q1.toUInt64 >>> ((40 : Int32) &&& 0x3f).toInt64.toUInt64).toInt64).toInt32).toInt8.toInt32))), (.int (nar .byte ((((q2.toUInt64 >>> ((40 : Int32) &&& 0x3f).toInt64.toUInt64).toInt64).toInt32).toInt8.toInt32))), (.int (nar .byte ((((q2.toUInt64 >>> ((48 : Int32) &&& 0x3f).toInt64.toUInt64).toInt64).toInt32).toInt8.toInt32))), (.int (nar .byte ((((q2.toUInt64 >>> ((56 : Int32) &&& 0x3f).toInt64.toUInt64).toInt64).toInt32).toInt8.toInt32))), (.int (nar .byte ((((q2.toUInt64 >>> ((3 : Int32) &&& 0x3f).toInt64.toUInt64).toInt64).toInt32).toInt8.toInt32))), (.int (nar .byte ((((q2.toUInt64 >>> ((11 : Int32) &&& 0x3f).toInt64.toUInt64).toInt64).toInt32).toInt8.toInt32)))] (.int (0 : Int32)) := Arv.set Ar160 q160 S160 M160 H160 G160 (fits_nar_byte _) W161 4 rfl (Nat.le_of_ble_eq_true rfl)
  have K161 := K159.wr W161 (Or.inr sz_b137)
  have N161 := Fr.snoc X161 N159 gg_b137
  obtain ⟨cl162, Ar162, q162, S162, M162, H162, G162⟩ := id V161
  have hin162 : ¬ ((5 : Int32) < 0 ∨ cl162.slots.size ≤ ((5 : Int32)).toNatClampNeg) := inb_of S162 ⟨by decide, by decide⟩
  obtain ⟨T163, h163, X163, e163, W163, st163⟩ := stB X161 hx hZ e161 Ar162 (j := (5 : Int32)) hin162 (g := (mkF m 142 #[.val (.long q1), .second, .val (.long q2), .second, .val (.int (3 : Int32)), .val (.ref b137)] [(.int ((((q1.toUInt64 >>> ((32 : Int32) &&& 0x3f).toInt64.toUInt64).toInt64).toInt32).toInt8.toInt32)), (.int (5 : Int32)), (.ref b137)])) rfl rfl (hb hby own_d1_142)
  have V163 : Arv Z h163 b137 k137 .byte (10 : Int32) [(.int (nar .byte ((q2.toInt32).toInt8.toInt32))), (.int (nar .byte ((((q2.toUInt64 >>> ((8 : Int32) &&& 0x3f).toInt64.toUInt64).toInt64).toInt32).toInt8.toInt32))), (.int (nar .byte ((((q2.toUInt64 >>> ((16 : Int32) &&& 0x3f).toInt64.toUInt64).toInt64).toInt32).toInt8.toInt32))), (.int (nar .byte ((((q1.toUInt64 >>> ((48 : Int32) &&& 0x3f).toInt64.toUInt64).toInt64).toInt32).toInt8.toInt32))), (.int (nar .byte ((((q1.toUInt64 >>> ((40 : Int32) &&& 0x3f).toInt64.toUInt64).toInt64).toInt32).toInt8.toInt32))), (.int (nar .byte ((((q1.toUInt64 >>> ((32 : Int32) &&& 0x3f).toInt64.toUInt64).toInt64).toInt32).toInt8.toInt32))), (.int (nar .byte ((((q2.toUInt64 >>> ((48 : Int32) &&& 0x3f).toInt64.toUInt64).toInt64).toInt32).toInt8.toInt32))), (.int (nar .byte ((((q2.toUInt64 >>> ((56 : Int32) &&& 0x3f).toInt64.toUInt64).toInt64).toInt32).toInt8.toInt32))), (.int (nar .byte ((((q2.toUInt64 >>> ((3 : Int32) &&& 0x3f).toInt64.toUInt64).toInt64).toInt32).toInt8.toInt32))), (.int (nar .byte ((((q2.toUInt64 >>> ((11 : Int32) &&& 0x3f).toInt64.toUInt64).toInt64).toInt32).toInt8.toInt32)))] (.int (0 : Int32)) := Arv.set Ar162 q162 S162 M162 H162 G162 (fits_nar_byte _) W163 5 rfl (Nat.le_of_ble_eq_true rfl)
  have K163 := K161.wr W163 (Or.inr sz_b137)
  have N163 := Fr.snoc X163 N161 gg_b137
  obtain ⟨cl164, Ar164, q164, S164, M164, H164, G164⟩ := id V163
  have hin164 : ¬ ((6 : Int32) < 0 ∨ cl164.slots.size ≤ ((6 : Int32)).toNatClampNeg) := inb_of S164 ⟨by decide, by decide⟩
  obtain ⟨T165, h165, X165, e165, W165, st165⟩ := stB X163 hx hZ e163 Ar164 (j := (6 : Int32)) hin164 (g := (mkF m 155 #[.val (.long q1), .second, .val (.long q2), .second, .val (.int (3 : Int32)), .val (.ref b137)] [(.int ((((q1.toUInt64 >>> ((24 : Int32) &&& 0x3f).toInt64.toUInt64).toInt64).toInt32).toInt8.toInt32)), (.int (6 : Int32)), (.ref b137)])) rfl rfl (hb hby own_d1_155)
  have V165 : Arv Z h165 b137 k137 .byte (10 : Int32) [(.int (nar .byte ((q2.toInt32).toInt8.toInt32))), (.int (nar .byte ((((q2.toUInt64 >>> ((8 : Int32) &&& 0x3f).toInt64.toUInt64).toInt64).toInt32).toInt8.toInt32))), (.int (nar .byte ((((q2.toUInt64 >>> ((16 : Int32) &&& 0x3f).toInt64.toUInt64).toInt64).toInt32).toInt8.toInt32))), (.int (nar .byte ((((q1.toUInt64 >>> ((48 : Int32) &&& 0x3f).toInt64.toUInt64).toInt64).toInt32).toInt8.toInt32))), (.int (nar .byte ((((q1.toUInt64 >>> ((40 : Int32) &&& 0x3f).toInt64.toUInt64).toInt64).toInt32).toInt8.toInt32))), (.int (nar .byte ((((q1.toUInt64 >>> ((32 : Int32) &&& 0x3f).toInt64.toUInt64).toInt64).toInt32).toInt8.toInt32))), (.int (nar .byte ((((q1.toUInt64 >>> ((24 : Int32) &&& 0x3f).toInt64.toUInt64).toInt64).toInt32).toInt8.toInt32))), (.int (nar .byte ((((q2.toUInt64 >>> ((56 : Int32) &&& 0x3f).toInt64.toUInt64).toInt64).toInt32).toInt8.toInt32))), (.int (nar .byte ((((q2.toUInt64 >>> ((3 : Int32) &&& 0x3f).toInt64.toUInt64).toInt64).toInt32).toInt8.toInt32))), (.int (nar .byte ((((q2.toUInt64 >>> ((11 : Int32) &&& 0x3f).toInt64.toUInt64).toInt64).toInt32).toInt8.toInt32)))] (.int (0 : Int32)) := Arv.set Ar164 q164 S164 M164 H164 G164 (fits_nar_byte _) W165 6 rfl (Nat.le_of_ble_eq_true rfl)
  have K165 := K163.wr W165 (Or.inr sz_b137)
  have N165 := Fr.snoc X165 N163 gg_b137
  obtain ⟨cl166, Ar166, q166, S166, M166, H166, G166⟩ := id V165
  have hin166 : ¬ ((7 : Int32) < 0 ∨ cl166.slots.size ≤ ((7 : Int32)).toNatClampNeg) := inb_of S166 ⟨by decide, by decide⟩
  obtain ⟨T167, h167, X167, e167, W167, st167⟩ := stB X165 hx hZ e165 Ar166 (j := (7 : Int32)) hin166 (g := (mkF m 168 #[.val (.long q1), .second, .val (.long q2), .second, .val (.int (3 : Int32)), .val (.ref b137)] [(.int ((((q1.toUInt64 >>> ((16 : Int32) &&& 0x3f).toInt64.toUInt64).toInt64).toInt32).toInt8.toInt32)), (.int (7 : Int32)), (.ref b137)])) rfl rfl (hb hby own_d1_168)
  have V167 : Arv Z h167 b137 k137 .byte (10 : Int32) [(.int (nar .byte ((q2.toInt32).toInt8.toInt32))), (.int (nar .byte ((((q2.toUInt64 >>> ((8 : Int32) &&& 0x3f).toInt64.toUInt64).toInt64).toInt32).toInt8.toInt32))), (.int (nar .byte ((((q2.toUInt64 >>> ((16 : Int32) &&& 0x3f).toInt64.toUInt64).toInt64).toInt32).toInt8.toInt32))), (.int (nar .byte ((((q1.toUInt64 >>> ((48 : Int32) &&& 0x3f).toInt64.toUInt64).toInt64).toInt32).toInt8.toInt32))), (.int (nar .byte ((((q1.toUInt64 >>> ((40 : Int32) &&& 0x3f).toInt64.toUInt64).toInt64).toInt32).toInt8.toInt32))), (.int (nar .byte ((((q1.toUInt64 >>> ((32 : Int32) &&& 0x3f).toInt64.toUInt64).toInt64).toInt32).toInt8.toInt32))), (.int (nar .byte ((((q1.toUInt64 >>> ((24 : Int32) &&& 0x3f).toInt64.toUInt64).toInt64).toInt32).toInt8.toInt32))), (.int (nar .byte ((((q1.toUInt64 >>> ((16 : Int32) &&& 0x3f).toInt64.toUInt64).toInt64).toInt32).toInt8.toInt32))), (.int (nar .byte ((((q2.toUInt64 >>> ((3 : Int32) &&& 0x3f).toInt64.toUInt64).toInt64).toInt32).toInt8.toInt32))), (.int (nar .byte ((((q2.toUInt64 >>> ((11 : Int32) &&& 0x3f).toInt64.toUInt64).toInt64).toInt32).toInt8.toInt32)))] (.int (0 : Int32)) := Arv.set Ar166 q166 S166 M166 H166 G166 (fits_nar_byte _) W167 7 rfl (Nat.le_of_ble_eq_true rfl)
  have K167 := K165.wr W167 (Or.inr sz_b137)
  have N167 := Fr.snoc X167 N165 gg_b137
  obtain ⟨cl168, Ar168, q168, S168, M168, H168, G168⟩ := id V167
  have hin168 : ¬ ((8 : Int32) < 0 ∨ cl168.slots.size ≤ ((8 : Int32)).toNatClampNeg) := inb_of S168 ⟨by decide, by decide⟩
  obtain ⟨T169, h169, X169, e169, W169, st169⟩ := stB X167 hx hZ e167 Ar168 (j := (8 : Int32)) hin168 (g := (mkF m 181 #[.val (.long q1), .second, .val (.long q2), .second, .val (.int (3 : Int32)), .val (.ref b137)] [(.int ((((q1.toUInt64 >>> ((8 : Int32) &&& 0x3f).toInt64.toUInt64).toInt64).toInt32).toInt8.toInt32)), (.int (8 : Int32)), (.ref b137)])) rfl rfl (hb hby own_d1_181)
  have V169 : Arv Z h169 b137 k137 .byte (10 : Int32) [(.int (nar .byte ((q2.toInt32).toInt8.toInt32))), (.int (nar .byte ((((q2.toUInt64 >>> ((8 : Int32) &&& 0x3f).toInt64.toUInt64).toInt64).toInt32).toInt8.toInt32))), (.int (nar .byte ((((q2.toUInt64 >>> ((16 : Int32) &&& 0x3f).toInt64.toUInt64).toInt64).toInt32).toInt8.toInt32))), (.int (nar .byte ((((q1.toUInt64 >>> ((48 : Int32) &&& 0x3f).toInt64.toUInt64).toInt64).toInt32).toInt8.toInt32))), (.int (nar .byte ((((q1.toUInt64 >>> ((40 : Int32) &&& 0x3f).toInt64.toUInt64).toInt64).toInt32).toInt8.toInt32))), (.int (nar .byte ((((q1.toUInt64 >>> ((32 : Int32) &&& 0x3f).toInt64.toUInt64).toInt64).toInt32).toInt8.toInt32))), (.int (nar .byte ((((q1.toUInt64 >>> ((24 : Int32) &&& 0x3f).toInt64.toUInt64).toInt64).toInt32).toInt8.toInt32))), (.int (nar .byte ((((q1.toUInt64 >>> ((16 : Int32) &&& 0x3f).toInt64.toUInt64).toInt64).toInt32).toInt8.toInt32))), (.int (nar .byte ((((q1.toUInt64 >>> ((8 : Int32) &&& 0x3f).toInt64.toUInt64).toInt64).toInt32).toInt8.toInt32))), (.int (nar .byte ((((q2.toUInt64 >>> ((11 : Int32) &&& 0x3f).toInt64.toUInt64).toInt64).toInt32).toInt8.toInt32)))] (.int (0 : Int32)) := Arv.set Ar168 q168 S168 M168 H168 G168 (fits_nar_byte _) W169 8 rfl (Nat.le_of_ble_eq_true rfl)
  have K169 := K167.wr W169 (Or.inr sz_b137)
  have N169 := Fr.snoc X169 N167 gg_b137
  obtain ⟨cl170, Ar170, q170, S170, M170, H170, G170⟩ := id V169
  have hin170 : ¬ ((9 : Int32) < 0 ∨ cl170.slots.size ≤ ((9 : Int32)).toNatClampNeg) := inb_of S170 ⟨by decide, by decide⟩
  obtain ⟨T171, h171, X171, e171, W171, st171⟩ := stB X169 hx hZ e169 Ar170 (j := (9 : Int32)) hin170 (g := (mkF m 192 #[.val (.long q1), .second, .val (.long q2), .second, .val (.int (3 : Int32)), .val (.ref b137)] [(.int ((q1.toInt32).toInt8.toInt32)), (.int (9 : Int32)), (.ref b137)])) rfl rfl (hb hby own_d1_192)
  have V171 : Arv Z h171 b137 k137 .byte (10 : Int32) [(.int (nar .byte ((q2.toInt32).toInt8.toInt32))), (.int (nar .byte ((((q2.toUInt64 >>> ((8 : Int32) &&& 0x3f).toInt64.toUInt64).toInt64).toInt32).toInt8.toInt32))), (.int (nar .byte ((((q2.toUInt64 >>> ((16 : Int32) &&& 0x3f).toInt64.toUInt64).toInt64).toInt32).toInt8.toInt32))), (.int (nar .byte ((((q1.toUInt64 >>> ((48 : Int32) &&& 0x3f).toInt64.toUInt64).toInt64).toInt32).toInt8.toInt32))), (.int (nar .byte ((((q1.toUInt64 >>> ((40 : Int32) &&& 0x3f).toInt64.toUInt64).toInt64).toInt32).toInt8.toInt32))), (.int (nar .byte ((((q1.toUInt64 >>> ((32 : Int32) &&& 0x3f).toInt64.toUInt64).toInt64).toInt32).toInt8.toInt32))), (.int (nar .byte ((((q1.toUInt64 >>> ((24 : Int32) &&& 0x3f).toInt64.toUInt64).toInt64).toInt32).toInt8.toInt32))), (.int (nar .byte ((((q1.toUInt64 >>> ((16 : Int32) &&& 0x3f).toInt64.toUInt64).toInt64).toInt32).toInt8.toInt32))), (.int (nar .byte ((((q1.toUInt64 >>> ((8 : Int32) &&& 0x3f).toInt64.toUInt64).toInt64).toInt32).toInt8.toInt32))), (.int (nar .byte ((q1.toInt32).toInt8.toInt32)))] (.int (0 : Int32)) := Arv.set Ar170 q170 S170 M170 H170 G170 (fits_nar_byte _) W171 9 rfl (Nat.le_of_ble_eq_true rfl)
  have K171 := K169.wr W171 (Or.inr sz_b137)
  have N171 := Fr.snoc X171 N169 gg_b137
  obtain ⟨fs, hr, hrun, hended, hW, hsame⟩ := X171.leave (v := some (.ref b137)) (fun h => by rw [Bd.returns] at h; cases h)
  refine ⟨_, _, pre0 _ ?_, hrun, hended, _, _, rfl, ?_, ⟨_, rfl⟩, hW, hsame.mono (by decide) (by decide)⟩
  · show Steps p.tables e below (s₁.setTop (mkF m 0 #[.val (.long q1), .second, .val (.long q2), .second, .val (.int (3 : Int32)), .unset] [])) _
    refine XS.bipush X0.here hx rfl (hb hby own_d1_0) ?_
    show Steps p.tables e below (s₁.setTop (mkF m 2 #[.val (.long q1), .second, .val (.long q2), .second, .val (.int (3 : Int32)), .unset] [(.int (10 : Int32))])) _
    refine st137 _ ?_
    show Steps p.tables e below (T137.setTop (mkF m 4 #[.val (.long q1), .second, .val (.long q2), .second, .val (.int (3 : Int32)), .unset] [(.ref b137)])) _
    refine XS.astore X137.here hx rfl (hb hby own_d1_4) rfl rfl (l' := #[.val (.long q1), .second, .val (.long q2), .second, .val (.int (3 : Int32)), .val (.ref b137)]) rfl ?_
    show Steps p.tables e below (T137.setTop (mkF m 6 #[.val (.long q1), .second, .val (.long q2), .second, .val (.int (3 : Int32)), .val (.ref b137)] [])) _
    refine XS.aload X137.here hx rfl (hb hby own_d1_6) rfl rfl ?_
    show Steps p.tables e below (T137.setTop (mkF m 8 #[.val (.long q1), .second, .val (.long q2), .second, .val (.int (3 : Int32)), .val (.ref b137)] [(.ref b137)])) _
    refine XS.iconst X137.here hx rfl (hb hby own_d1_8) ?_
    show Steps p.tables e below (T137.setTop (mkF m 9 #[.val (.long q1), .second, .val (.long q2), .second, .val (.int (3 : Int32)), .val (.ref b137)] [(.int (0 : Int32)), (.ref b137)])) _
    refine XS.lloadN X137.here hx rfl (hb hby own_d1_9) rfl ?_
    show Steps p.tables e below (T137.setTop (mkF m 10 #[.val (.long q1), .second, .val (.long q2), .second, .val (.int (3 : Int32)), .val (.ref b137)] [(.long q2), (.int (0 : Int32)), (.ref b137)])) _
    refine XS.l2i X137.here hx rfl (hb hby own_d1_10) rfl ?_
    show Steps p.tables e below (T137.setTop (mkF m 11 #[.val (.long q1), .second, .val (.long q2), .second, .val (.int (3 : Int32)), .val (.ref b137)] [(.int (q2.toInt32)), (.int (0 : Int32)), (.ref b137)])) _
    refine XS.i2b X137.here hx rfl (hb hby own_d1_11) rfl ?_
    show Steps p.tables e below (T137.setTop (mkF m 12 #[.val (.long q1), .second, .val (.long q2), .second, .val (.int (3 : Int32)), .val (.ref b137)] [(.int ((q2.toInt32).toInt8.toInt32)), (.int (0 : Int32)), (.ref b137)])) _
    refine st139 _ ?_
    show Steps p.tables e below (T139.setTop (mkF m 13 #[.val (.long q1), .second, .val (.long q2), .second, .val (.int (3 : Int32)), .val (.ref b137)] [])) _
    refine XS.aload X139.here hx rfl (hb hby own_d1_13) rfl rfl ?_
    show Steps p.tables e below (T139.setTop (mkF m 15 #[.val (.long q1), .second, .val (.long q2), .second, .val (.int (3 : Int32)), .val (.ref b137)] [(.ref b137)])) _
    refine XS.iconst X139.here hx rfl (hb hby own_d1_15) ?_
    show Steps p.tables e below (T139.setTop (mkF m 16 #[.val (.long q1), .second, .val (.long q2), .second, .val (.int (3 : Int32)), .val (.ref b137)] [(.int (1 : Int32)), (.ref b137)])) _
    refine XS.lloadN X139.here hx rfl (hb hby own_d1_16) rfl ?_
    show Steps p.tables e below (T139.setTop (mkF m 17 #[.val (.long q1), .second, .val (.long q2), .second, .val (.int (3 : Int32)), .val (.ref b137)] [(.long q2), (.int (1 : Int32)), (.ref b137)])) _
    refine XS.bipush X139.here hx rfl (hb hby own_d1_17) ?_
    show Steps p.tables e below (T139.setTop (mkF m 19 #[.val (.long q1), .second, .val (.long q2), .second, .val (.int (3 : Int32)), .val (.ref b137)] [(.int (8 : Int32)), (.long q2), (.int (1 : Int32)), (.ref b137)])) _
    refine XS.lushr X139.here hx rfl (hb hby own_d1_19) rfl ?_
    show Steps p.tables e below (T139.setTop (mkF m 20 #[.val (.long q1), .second, .val (.long q2), .second, .val (.int (3 : Int32)), .val (.ref b137)] [(.long ((q2.toUInt64 >>> ((8 : Int32) &&& 0x3f).toInt64.toUInt64).toInt64)), (.int (1 : Int32)), (.ref b137)])) _
    refine XS.l2i X139.here hx rfl (hb hby own_d1_20) rfl ?_
    show Steps p.tables e below (T139.setTop (mkF m 21 #[.val (.long q1), .second, .val (.long q2), .second, .val (.int (3 : Int32)), .val (.ref b137)] [(.int (((q2.toUInt64 >>> ((8 : Int32) &&& 0x3f).toInt64.toUInt64).toInt64).toInt32)), (.int (1 : Int32)), (.ref b137)])) _
    refine XS.i2b X139.here hx rfl (hb hby own_d1_21) rfl ?_
    show Steps p.tables e below (T139.setTop (mkF m 22 #[.val (.long q1), .second, .val (.long q2), .second, .val (.int (3 : Int32)), .val (.ref b137)] [(.int ((((q2.toUInt64 >>> ((8 : Int32) &&& 0x3f).toInt64.toUInt64).toInt64).toInt32).toInt8.toInt32)), (.int (1 : Int32)), (.ref b137)])) _
    refine st141 _ ?_
    show Steps p.tables e below (T141.setTop (mkF m 23 #[.val (.long q1), .second, .val (.long q2), .second, .val (.int (3 : Int32)), .val (.ref b137)] [])) _
    refine XS.aload X141.here hx rfl (hb hby own_d1_23) rfl rfl ?_
    show Steps p.tables e below (T141.setTop (mkF m 25 #[.val (.long q1), .second, .val (.long q2), .second, .val (.int (3 : Int32)), .val (.ref b137)] [(.ref b137)])) _
    refine XS.iconst X141.here hx rfl (hb hby own_d1_25) ?_
    show Steps p.tables e below (T141.setTop (mkF m 26 #[.val (.long q1), .second, .val (.long q2), .second, .val (.int (3 : Int32)), .val (.ref b137)] [(.int (2 : Int32)), (.ref b137)])) _
    refine XS.lloadN X141.here hx rfl (hb hby own_d1_26) rfl ?_
    show Steps p.tables e below (T141.setTop (mkF m 27 #[.val (.long q1), .second, .val (.long q2), .second, .val (.int (3 : Int32)), .val (.ref b137)] [(.long q2), (.int (2 : Int32)), (.ref b137)])) _
    refine XS.bipush X141.here hx rfl (hb hby own_d1_27) ?_
    show Steps p.tables e below (T141.setTop (mkF m 29 #[.val (.long q1), .second, .val (.long q2), .second, .val (.int (3 : Int32)), .val (.ref b137)] [(.int (16 : Int32)), (.long q2), (.int (2 : Int32)), (.ref b137)])) _
    refine XS.lushr X141.here hx rfl (hb hby own_d1_29) rfl ?_
    show Steps p.tables e below (T141.setTop (mkF m 30 #[.val (.long q1), .second, .val (.long q2), .second, .val (.int (3 : Int32)), .val (.ref b137)] [(.long ((q2.toUInt64 >>> ((16 : Int32) &&& 0x3f).toInt64.toUInt64).toInt64)), (.int (2 : Int32)), (.ref b137)])) _
    refine XS.l2i X141.here hx rfl (hb hby own_d1_30) rfl ?_
    show Steps p.tables e below (T141.setTop (mkF m 31 #[.val (.long q1), .second, .val (.long q2), .second, .val (.int (3 : Int32)), .val (.ref b137)] [(.int (((q2.toUInt64 >>> ((16 : Int32) &&& 0x3f).toInt64.toUInt64).toInt64).toInt32)), (.int (2 : Int32)), (.ref b137)])) _
    refine XS.i2b X141.here hx rfl (hb hby own_d1_31) rfl ?_
    show Steps p.tables e below (T141.setTop (mkF m 32 #[.val (.long q1), .second, .val (.long q2), .second, .val (.int (3 : Int32)), .val (.ref b137)] [(.int ((((q2.toUInt64 >>> ((16 : Int32) &&& 0x3f).toInt64.toUInt64).toInt64).toInt32).toInt8.toInt32)), (.int (2 : Int32)), (.ref b137)])) _
    refine st143 _ ?_
    show Steps p.tables e below (T143.setTop (mkF m 33 #[.val (.long q1), .second, .val (.long q2), .second, .val (.int (3 : Int32)), .val (.ref b137)] [])) _
    refine XS.aload X143.here hx rfl (hb hby own_d1_33) rfl rfl ?_
    show Steps p.tables e below (T143.setTop (mkF m 35 #[.val (.long q1), .second, .val (.long q2), .second, .val (.int (3 : Int32)), .val (.ref b137)] [(.ref b137)])) _
    refine XS.iconst X143.here hx rfl (hb hby own_d1_35) ?_
    show Steps p.tables e below (T143.setTop (mkF m 36 #[.val (.long q1), .second, .val (.long q2), .second, .val (.int (3 : Int32)), .val (.ref b137)] [(.int (3 : Int32)), (.ref b137)])) _
    refine XS.lloadN X143.here hx rfl (hb hby own_d1_36) rfl ?_
    show Steps p.tables e below (T143.setTop (mkF m 37 #[.val (.long q1), .second, .val (.long q2), .second, .val (.int (3 : Int32)), .val (.ref b137)] [(.long q2), (.int (3 : Int32)), (.ref b137)])) _
    refine XS.bipush X143.here hx rfl (hb hby own_d1_37) ?_
    show Steps p.tables e below (T143.setTop (mkF m 39 #[.val (.long q1), .second, .val (.long q2), .second, .val (.int (3 : Int32)), .val (.ref b137)] [(.int (24 : Int32)), (.long q2), (.int (3 : Int32)), (.ref b137)])) _
    refine XS.lushr X143.here hx rfl (hb hby own_d1_39) rfl ?_
    show Steps p.tables e below (T143.setTop (mkF m 40 #[.val (.long q1), .second, .val (.long q2), .second, .val (.int (3 : Int32)), .val (.ref b137)] [(.long ((q2.toUInt64 >>> ((24 : Int32) &&& 0x3f).toInt64.toUInt64).toInt64)), (.int (3 : Int32)), (.ref b137)])) _
    refine XS.l2i X143.here hx rfl (hb hby own_d1_40) rfl ?_
    show Steps p.tables e below (T143.setTop (mkF m 41 #[.val (.long q1), .second, .val (.long q2), .second, .val (.int (3 : Int32)), .val (.ref b137)] [(.int (((q2.toUInt64 >>> ((24 : Int32) &&& 0x3f).toInt64.toUInt64).toInt64).toInt32)), (.int (3 : Int32)), (.ref b137)])) _
    refine XS.i2b X143.here hx rfl (hb hby own_d1_41) rfl ?_
    show Steps p.tables e below (T143.setTop (mkF m 42 #[.val (.long q1), .second, .val (.long q2), .second, .val (.int (3 : Int32)), .val (.ref b137)] [(.int ((((q2.toUInt64 >>> ((24 : Int32) &&& 0x3f).toInt64.toUInt64).toInt64).toInt32).toInt8.toInt32)), (.int (3 : Int32)), (.ref b137)])) _
    refine st145 _ ?_
    show Steps p.tables e below (T145.setTop (mkF m 43 #[.val (.long q1), .second, .val (.long q2), .second, .val (.int (3 : Int32)), .val (.ref b137)] [])) _
    refine XS.aload X145.here hx rfl (hb hby own_d1_43) rfl rfl ?_
    show Steps p.tables e below (T145.setTop (mkF m 45 #[.val (.long q1), .second, .val (.long q2), .second, .val (.int (3 : Int32)), .val (.ref b137)] [(.ref b137)])) _
    refine XS.iconst X145.here hx rfl (hb hby own_d1_45) ?_
    show Steps p.tables e below (T145.setTop (mkF m 46 #[.val (.long q1), .second, .val (.long q2), .second, .val (.int (3 : Int32)), .val (.ref b137)] [(.int (4 : Int32)), (.ref b137)])) _
    refine XS.lloadN X145.here hx rfl (hb hby own_d1_46) rfl ?_
    show Steps p.tables e below (T145.setTop (mkF m 47 #[.val (.long q1), .second, .val (.long q2), .second, .val (.int (3 : Int32)), .val (.ref b137)] [(.long q2), (.int (4 : Int32)), (.ref b137)])) _
    refine XS.bipush X145.here hx rfl (hb hby own_d1_47) ?_
    show Steps p.tables e below (T145.setTop (mkF m 49 #[.val (.long q1), .second, .val (.long q2), .second, .val (.int (3 : Int32)), .val (.ref b137)] [(.int (32 : Int32)), (.long q2), (.int (4 : Int32)), (.ref b137)])) _
    refine XS.lushr X145.here hx rfl (hb hby own_d1_49) rfl ?_
    show Steps p.tables e below (T145.setTop (mkF m 50 #[.val (.long q1), .second, .val (.long q2), .second, .val (.int (3 : Int32)), .val (.ref b137)] [(.long ((q2.toUInt64 >>> ((32 : Int32) &&& 0x3f).toInt64.toUInt64).toInt64)), (.int (4 : Int32)), (.ref b137)])) _
    refine XS.l2i X145.here hx rfl (hb hby own_d1_50) rfl ?_
    show Steps p.tables e below (T145.setTop (mkF m 51 #[.val (.long q1), .second, .val (.long q2), .second, .val (.int (3 : Int32)), .val (.ref b137)] [(.int (((q2.toUInt64 >>> ((32 : Int32) &&& 0x3f).toInt64.toUInt64).toInt64).toInt32)), (.int (4 : Int32)), (.ref b137)])) _
    refine XS.i2b X145.here hx rfl (hb hby own_d1_51) rfl ?_
    show Steps p.tables e below (T145.setTop (mkF m 52 #[.val (.long q1), .second, .val (.long q2), .second, .val (.int (3 : Int32)), .val (.ref b137)] [(.int ((((q2.toUInt64 >>> ((32 : Int32) &&& 0x3f).toInt64.toUInt64).toInt64).toInt32).toInt8.toInt32)), (.int (4 : Int32)), (.ref b137)])) _
    refine st147 _ ?_
    show Steps p.tables e below (T147.setTop (mkF m 53 #[.val (.long q1), .second, .val (.long q2), .second, .val (.int (3 : Int32)), .val (.ref b137)] [])) _
    refine XS.aload X147.here hx rfl (hb hby own_d1_53) rfl rfl ?_
    show Steps p.tables e below (T147.setTop (mkF m 55 #[.val (.long q1), .second, .val (.long q2), .second, .val (.int (3 : Int32)), .val (.ref b137)] [(.ref b137)])) _
    refine XS.iconst X147.here hx rfl (hb hby own_d1_55) ?_
    show Steps p.tables e below (T147.setTop (mkF m 56 #[.val (.long q1), .second, .val (.long q2), .second, .val (.int (3 : Int32)), .val (.ref b137)] [(.int (5 : Int32)), (.ref b137)])) _
    refine XS.lloadN X147.here hx rfl (hb hby own_d1_56) rfl ?_
    show Steps p.tables e below (T147.setTop (mkF m 57 #[.val (.long q1), .second, .val (.long q2), .second, .val (.int (3 : Int32)), .val (.ref b137)] [(.long q2), (.int (5 : Int32)), (.ref b137)])) _
    refine XS.bipush X147.here hx rfl (hb hby own_d1_57) ?_
    show Steps p.tables e below (T147.setTop (mkF m 59 #[.val (.long q1), .second, .val (.long q2), .second, .val (.int (3 : Int32)), .val (.ref b137)] [(.int (40 : Int32)), (.long q2), (.int (5 : Int32)), (.ref b137)])) _
    refine XS.lushr X147.here hx rfl (hb hby own_d1_59) rfl ?_
    show Steps p.tables e below (T147.setTop (mkF m 60 #[.val (.long q1), .second, .val (.long q2), .second, .val (.int (3 : Int32)), .val (.ref b137)] [(.long ((q2.toUInt64 >>> ((40 : Int32) &&& 0x3f).toInt64.toUInt64).toInt64)), (.int (5 : Int32)), (.ref b137)])) _
    refine XS.l2i X147.here hx rfl (hb hby own_d1_60) rfl ?_
    show Steps p.tables e below (T147.setTop (mkF m 61 #[.val (.long q1), .second, .val (.long q2), .second, .val (.int (3 : Int32)), .val (.ref b137)] [(.int (((q2.toUInt64 >>> ((40 : Int32) &&& 0x3f).toInt64.toUInt64).toInt64).toInt32)), (.int (5 : Int32)), (.ref b137)])) _
    refine XS.i2b X147.here hx rfl (hb hby own_d1_61) rfl ?_
    show Steps p.tables e below (T147.setTop (mkF m 62 #[.val (.long q1), .second, .val (.long q2), .second, .val (.int (3 : Int32)), .val (.ref b137)] [(.int ((((q2.toUInt64 >>> ((40 : Int32) &&& 0x3f).toInt64.toUInt64).toInt64).toInt32).toInt8.toInt32)), (.int (5 : Int32)), (.ref b137)])) _
    refine st149 _ ?_
    show Steps p.tables e below (T149.setTop (mkF m 63 #[.val (.long q1), .second, .val (.long q2), .second, .val (.int (3 : Int32)), .val (.ref b137)] [])) _
    refine XS.aload X149.here hx rfl (hb hby own_d1_63) rfl rfl ?_
    show Steps p.tables e below (T149.setTop (mkF m 65 #[.val (.long q1), .second, .val (.long q2), .second, .val (.int (3 : Int32)), .val (.ref b137)] [(.ref b137)])) _
    refine XS.bipush X149.here hx rfl (hb hby own_d1_65) ?_
    show Steps p.tables e below (T149.setTop (mkF m 67 #[.val (.long q1), .second, .val (.long q2), .second, .val (.int (3 : Int32)), .val (.ref b137)] [(.int (6 : Int32)), (.ref b137)])) _
    refine XS.lloadN X149.here hx rfl (hb hby own_d1_67) rfl ?_
    show Steps p.tables e below (T149.setTop (mkF m 68 #[.val (.long q1), .second, .val (.long q2), .second, .val (.int (3 : Int32)), .val (.ref b137)] [(.long q2), (.int (6 : Int32)), (.ref b137)])) _
    refine XS.bipush X149.here hx rfl (hb hby own_d1_68) ?_
    show Steps p.tables e below (T149.setTop (mkF m 70 #[.val (.long q1), .second, .val (.long q2), .second, .val (.int (3 : Int32)), .val (.ref b137)] [(.int (48 : Int32)), (.long q2), (.int (6 : Int32)), (.ref b137)])) _
    refine XS.lushr X149.here hx rfl (hb hby own_d1_70) rfl ?_
    show Steps p.tables e below (T149.setTop (mkF m 71 #[.val (.long q1), .second, .val (.long q2), .second, .val (.int (3 : Int32)), .val (.ref b137)] [(.long ((q2.toUInt64 >>> ((48 : Int32) &&& 0x3f).toInt64.toUInt64).toInt64)), (.int (6 : Int32)), (.ref b137)])) _
    refine XS.l2i X149.here hx rfl (hb hby own_d1_71) rfl ?_
    show Steps p.tables e below (T149.setTop (mkF m 72 #[.val (.long q1), .second, .val (.long q2), .second, .val (.int (3 : Int32)), .val (.ref b137)] [(.int (((q2.toUInt64 >>> ((48 : Int32) &&& 0x3f).toInt64.toUInt64).toInt64).toInt32)), (.int (6 : Int32)), (.ref b137)])) _
    refine XS.i2b X149.here hx rfl (hb hby own_d1_72) rfl ?_
    show Steps p.tables e below (T149.setTop (mkF m 73 #[.val (.long q1), .second, .val (.long q2), .second, .val (.int (3 : Int32)), .val (.ref b137)] [(.int ((((q2.toUInt64 >>> ((48 : Int32) &&& 0x3f).toInt64.toUInt64).toInt64).toInt32).toInt8.toInt32)), (.int (6 : Int32)), (.ref b137)])) _
    refine st151 _ ?_
    show Steps p.tables e below (T151.setTop (mkF m 74 #[.val (.long q1), .second, .val (.long q2), .second, .val (.int (3 : Int32)), .val (.ref b137)] [])) _
    refine XS.aload X151.here hx rfl (hb hby own_d1_74) rfl rfl ?_
    show Steps p.tables e below (T151.setTop (mkF m 76 #[.val (.long q1), .second, .val (.long q2), .second, .val (.int (3 : Int32)), .val (.ref b137)] [(.ref b137)])) _
    refine XS.bipush X151.here hx rfl (hb hby own_d1_76) ?_
    show Steps p.tables e below (T151.setTop (mkF m 78 #[.val (.long q1), .second, .val (.long q2), .second, .val (.int (3 : Int32)), .val (.ref b137)] [(.int (7 : Int32)), (.ref b137)])) _
    refine XS.lloadN X151.here hx rfl (hb hby own_d1_78) rfl ?_
    show Steps p.tables e below (T151.setTop (mkF m 79 #[.val (.long q1), .second, .val (.long q2), .second, .val (.int (3 : Int32)), .val (.ref b137)] [(.long q2), (.int (7 : Int32)), (.ref b137)])) _
    refine XS.bipush X151.here hx rfl (hb hby own_d1_79) ?_
    show Steps p.tables e below (T151.setTop (mkF m 81 #[.val (.long q1), .second, .val (.long q2), .second, .val (.int (3 : Int32)), .val (.ref b137)] [(.int (56 : Int32)), (.long q2), (.int (7 : Int32)), (.ref b137)])) _
    refine XS.lushr X151.here hx rfl (hb hby own_d1_81) rfl ?_
    show Steps p.tables e below (T151.setTop (mkF m 82 #[.val (.long q1), .second, .val (.long q2), .second, .val (.int (3 : Int32)), .val (.ref b137)] [(.long ((q2.toUInt64 >>> ((56 : Int32) &&& 0x3f).toInt64.toUInt64).toInt64)), (.int (7 : Int32)), (.ref b137)])) _
    refine XS.l2i X151.here hx rfl (hb hby own_d1_82) rfl ?_
    show Steps p.tables e below (T151.setTop (mkF m 83 #[.val (.long q1), .second, .val (.long q2), .second, .val (.int (3 : Int32)), .val (.ref b137)] [(.int (((q2.toUInt64 >>> ((56 : Int32) &&& 0x3f).toInt64.toUInt64).toInt64).toInt32)), (.int (7 : Int32)), (.ref b137)])) _
    refine XS.i2b X151.here hx rfl (hb hby own_d1_83) rfl ?_
    show Steps p.tables e below (T151.setTop (mkF m 84 #[.val (.long q1), .second, .val (.long q2), .second, .val (.int (3 : Int32)), .val (.ref b137)] [(.int ((((q2.toUInt64 >>> ((56 : Int32) &&& 0x3f).toInt64.toUInt64).toInt64).toInt32).toInt8.toInt32)), (.int (7 : Int32)), (.ref b137)])) _
    refine st153 _ ?_
    show Steps p.tables e below (T153.setTop (mkF m 85 #[.val (.long q1), .second, .val (.long q2), .second, .val (.int (3 : Int32)), .val (.ref b137)] [])) _
    refine XS.aload X153.here hx rfl (hb hby own_d1_85) rfl rfl ?_
    show Steps p.tables e below (T153.setTop (mkF m 87 #[.val (.long q1), .second, .val (.long q2), .second, .val (.int (3 : Int32)), .val (.ref b137)] [(.ref b137)])) _
    refine XS.bipush X153.here hx rfl (hb hby own_d1_87) ?_
    show Steps p.tables e below (T153.setTop (mkF m 89 #[.val (.long q1), .second, .val (.long q2), .second, .val (.int (3 : Int32)), .val (.ref b137)] [(.int (8 : Int32)), (.ref b137)])) _
    refine XS.lloadN X153.here hx rfl (hb hby own_d1_89) rfl ?_
    show Steps p.tables e below (T153.setTop (mkF m 90 #[.val (.long q1), .second, .val (.long q2), .second, .val (.int (3 : Int32)), .val (.ref b137)] [(.long q2), (.int (8 : Int32)), (.ref b137)])) _
    refine XS.iconst X153.here hx rfl (hb hby own_d1_90) ?_
    show Steps p.tables e below (T153.setTop (mkF m 91 #[.val (.long q1), .second, .val (.long q2), .second, .val (.int (3 : Int32)), .val (.ref b137)] [(.int (3 : Int32)), (.long q2), (.int (8 : Int32)), (.ref b137)])) _
    refine XS.lushr X153.here hx rfl (hb hby own_d1_91) rfl ?_
    show Steps p.tables e below (T153.setTop (mkF m 92 #[.val (.long q1), .second, .val (.long q2), .second, .val (.int (3 : Int32)), .val (.ref b137)] [(.long ((q2.toUInt64 >>> ((3 : Int32) &&& 0x3f).toInt64.toUInt64).toInt64)), (.int (8 : Int32)), (.ref b137)])) _
    refine XS.l2i X153.here hx rfl (hb hby own_d1_92) rfl ?_
    show Steps p.tables e below (T153.setTop (mkF m 93 #[.val (.long q1), .second, .val (.long q2), .second, .val (.int (3 : Int32)), .val (.ref b137)] [(.int (((q2.toUInt64 >>> ((3 : Int32) &&& 0x3f).toInt64.toUInt64).toInt64).toInt32)), (.int (8 : Int32)), (.ref b137)])) _
    refine XS.i2b X153.here hx rfl (hb hby own_d1_93) rfl ?_
    show Steps p.tables e below (T153.setTop (mkF m 94 #[.val (.long q1), .second, .val (.long q2), .second, .val (.int (3 : Int32)), .val (.ref b137)] [(.int ((((q2.toUInt64 >>> ((3 : Int32) &&& 0x3f).toInt64.toUInt64).toInt64).toInt32).toInt8.toInt32)), (.int (8 : Int32)), (.ref b137)])) _
    refine st155 _ ?_
    show Steps p.tables e below (T155.setTop (mkF m 95 #[.val (.long q1), .second, .val (.long q2), .second, .val (.int (3 : Int32)), .val (.ref b137)] [])) _
    refine XS.aload X155.here hx rfl (hb hby own_d1_95) rfl rfl ?_
    show Steps p.tables e below (T155.setTop (mkF m 97 #[.val (.long q1), .second, .val (.long q2), .second, .val (.int (3 : Int32)), .val (.ref b137)] [(.ref b137)])) _
    refine XS.bipush X155.here hx rfl (hb hby own_d1_97) ?_
    show Steps p.tables e below (T155.setTop (mkF m 99 #[.val (.long q1), .second, .val (.long q2), .second, .val (.int (3 : Int32)), .val (.ref b137)] [(.int (9 : Int32)), (.ref b137)])) _
    refine XS.lloadN X155.here hx rfl (hb hby own_d1_99) rfl ?_
    show Steps p.tables e below (T155.setTop (mkF m 100 #[.val (.long q1), .second, .val (.long q2), .second, .val (.int (3 : Int32)), .val (.ref b137)] [(.long q2), (.int (9 : Int32)), (.ref b137)])) _
    refine XS.bipush X155.here hx rfl (hb hby own_d1_100) ?_
    show Steps p.tables e below (T155.setTop (mkF m 102 #[.val (.long q1), .second, .val (.long q2), .second, .val (.int (3 : Int32)), .val (.ref b137)] [(.int (11 : Int32)), (.long q2), (.int (9 : Int32)), (.ref b137)])) _
    refine XS.lushr X155.here hx rfl (hb hby own_d1_102) rfl ?_
    show Steps p.tables e below (T155.setTop (mkF m 103 #[.val (.long q1), .second, .val (.long q2), .second, .val (.int (3 : Int32)), .val (.ref b137)] [(.long ((q2.toUInt64 >>> ((11 : Int32) &&& 0x3f).toInt64.toUInt64).toInt64)), (.int (9 : Int32)), (.ref b137)])) _
    refine XS.l2i X155.here hx rfl (hb hby own_d1_103) rfl ?_
    show Steps p.tables e below (T155.setTop (mkF m 104 #[.val (.long q1), .second, .val (.long q2), .second, .val (.int (3 : Int32)), .val (.ref b137)] [(.int (((q2.toUInt64 >>> ((11 : Int32) &&& 0x3f).toInt64.toUInt64).toInt64).toInt32)), (.int (9 : Int32)), (.ref b137)])) _
    refine XS.i2b X155.here hx rfl (hb hby own_d1_104) rfl ?_
    show Steps p.tables e below (T155.setTop (mkF m 105 #[.val (.long q1), .second, .val (.long q2), .second, .val (.int (3 : Int32)), .val (.ref b137)] [(.int ((((q2.toUInt64 >>> ((11 : Int32) &&& 0x3f).toInt64.toUInt64).toInt64).toInt32).toInt8.toInt32)), (.int (9 : Int32)), (.ref b137)])) _
    refine st157 _ ?_
    show Steps p.tables e below (T157.setTop (mkF m 106 #[.val (.long q1), .second, .val (.long q2), .second, .val (.int (3 : Int32)), .val (.ref b137)] [])) _
    refine XS.aload X157.here hx rfl (hb hby own_d1_106) rfl rfl ?_
    show Steps p.tables e below (T157.setTop (mkF m 108 #[.val (.long q1), .second, .val (.long q2), .second, .val (.int (3 : Int32)), .val (.ref b137)] [(.ref b137)])) _
    refine XS.iload X157.here hx rfl (hb hby own_d1_108) rfl ?_
    show Steps p.tables e below (T157.setTop (mkF m 110 #[.val (.long q1), .second, .val (.long q2), .second, .val (.int (3 : Int32)), .val (.ref b137)] [(.int (3 : Int32)), (.ref b137)])) _
    refine XS.lloadN X157.here hx rfl (hb hby own_d1_110) rfl ?_
    show Steps p.tables e below (T157.setTop (mkF m 111 #[.val (.long q1), .second, .val (.long q2), .second, .val (.int (3 : Int32)), .val (.ref b137)] [(.long q1), (.int (3 : Int32)), (.ref b137)])) _
    refine XS.bipush X157.here hx rfl (hb hby own_d1_111) ?_
    show Steps p.tables e below (T157.setTop (mkF m 113 #[.val (.long q1), .second, .val (.long q2), .second, .val (.int (3 : Int32)), .val (.ref b137)] [(.int (48 : Int32)), (.long q1), (.int (3 : Int32)), (.ref b137)])) _
    refine XS.lushr X157.here hx rfl (hb hby own_d1_113) rfl ?_
    show Steps p.tables e below (T157.setTop (mkF m 114 #[.val (.long q1), .second, .val (.long q2), .second, .val (.int (3 : Int32)), .val (.ref b137)] [(.long ((q1.toUInt64 >>> ((48 : Int32) &&& 0x3f).toInt64.toUInt64).toInt64)), (.int (3 : Int32)), (.ref b137)])) _
    refine XS.l2i X157.here hx rfl (hb hby own_d1_114) rfl ?_
    show Steps p.tables e below (T157.setTop (mkF m 115 #[.val (.long q1), .second, .val (.long q2), .second, .val (.int (3 : Int32)), .val (.ref b137)] [(.int (((q1.toUInt64 >>> ((48 : Int32) &&& 0x3f).toInt64.toUInt64).toInt64).toInt32)), (.int (3 : Int32)), (.ref b137)])) _
    refine XS.i2b X157.here hx rfl (hb hby own_d1_115) rfl ?_
    show Steps p.tables e below (T157.setTop (mkF m 116 #[.val (.long q1), .second, .val (.long q2), .second, .val (.int (3 : Int32)), .val (.ref b137)] [(.int ((((q1.toUInt64 >>> ((48 : Int32) &&& 0x3f).toInt64.toUInt64).toInt64).toInt32).toInt8.toInt32)), (.int (3 : Int32)), (.ref b137)])) _
    refine st159 _ ?_
    show Steps p.tables e below (T159.setTop (mkF m 117 #[.val (.long q1), .second, .val (.long q2), .second, .val (.int (3 : Int32)), .val (.ref b137)] [])) _
    refine XS.aload X159.here hx rfl (hb hby own_d1_117) rfl rfl ?_
    show Steps p.tables e below (T159.setTop (mkF m 119 #[.val (.long q1), .second, .val (.long q2), .second, .val (.int (3 : Int32)), .val (.ref b137)] [(.ref b137)])) _
    refine XS.iload X159.here hx rfl (hb hby own_d1_119) rfl ?_
    show Steps p.tables e below (T159.setTop (mkF m 121 #[.val (.long q1), .second, .val (.long q2), .second, .val (.int (3 : Int32)), .val (.ref b137)] [(.int (3 : Int32)), (.ref b137)])) _
    refine XS.iconst X159.here hx rfl (hb hby own_d1_121) ?_
    show Steps p.tables e below (T159.setTop (mkF m 122 #[.val (.long q1), .second, .val (.long q2), .second, .val (.int (3 : Int32)), .val (.ref b137)] [(.int (1 : Int32)), (.int (3 : Int32)), (.ref b137)])) _
    refine XS.iadd X159.here hx rfl (hb hby own_d1_122) rfl ?_
    show Steps p.tables e below (T159.setTop (mkF m 123 #[.val (.long q1), .second, .val (.long q2), .second, .val (.int (3 : Int32)), .val (.ref b137)] [(.int (4 : Int32)), (.ref b137)])) _
    refine XS.lloadN X159.here hx rfl (hb hby own_d1_123) rfl ?_
    show Steps p.tables e below (T159.setTop (mkF m 124 #[.val (.long q1), .second, .val (.long q2), .second, .val (.int (3 : Int32)), .val (.ref b137)] [(.long q1), (.int (4 : Int32)), (.ref b137)])) _
    refine XS.bipush X159.here hx rfl (hb hby own_d1_124) ?_
    show Steps p.tables e below (T159.setTop (mkF m 126 #[.val (.long q1), .second, .val (.long q2), .second, .val (.int (3 : Int32)), .val (.ref b137)] [(.int (40 : Int32)), (.long q1), (.int (4 : Int32)), (.ref b137)])) _
    refine XS.lushr X159.here hx rfl (hb hby own_d1_126) rfl ?_
    show Steps p.tables e below (T159.setTop (mkF m 127 #[.val (.long q1), .second, .val (.long q2), .second, .val (.int (3 : Int32)), .val (.ref b137)] [(.long ((q1.toUInt64 >>> ((40 : Int32) &&& 0x3f).toInt64.toUInt64).toInt64)), (.int (4 : Int32)), (.ref b137)])) _
    refine XS.l2i X159.here hx rfl (hb hby own_d1_127) rfl ?_
    show Steps p.tables e below (T159.setTop (mkF m 128 #[.val (.long q1), .second, .val (.long q2), .second, .val (.int (3 : Int32)), .val (.ref b137)] [(.int (((q1.toUInt64 >>> ((40 : Int32) &&& 0x3f).toInt64.toUInt64).toInt64).toInt32)), (.int (4 : Int32)), (.ref b137)])) _
    refine XS.i2b X159.here hx rfl (hb hby own_d1_128) rfl ?_
    show Steps p.tables e below (T159.setTop (mkF m 129 #[.val (.long q1), .second, .val (.long q2), .second, .val (.int (3 : Int32)), .val (.ref b137)] [(.int ((((q1.toUInt64 >>> ((40 : Int32) &&& 0x3f).toInt64.toUInt64).toInt64).toInt32).toInt8.toInt32)), (.int (4 : Int32)), (.ref b137)])) _
    refine st161 _ ?_
    show Steps p.tables e below (T161.setTop (mkF m 130 #[.val (.long q1), .second, .val (.long q2), .second, .val (.int (3 : Int32)), .val (.ref b137)] [])) _
    refine XS.aload X161.here hx rfl (hb hby own_d1_130) rfl rfl ?_
    show Steps p.tables e below (T161.setTop (mkF m 132 #[.val (.long q1), .second, .val (.long q2), .second, .val (.int (3 : Int32)), .val (.ref b137)] [(.ref b137)])) _
    refine XS.iload X161.here hx rfl (hb hby own_d1_132) rfl ?_
    show Steps p.tables e below (T161.setTop (mkF m 134 #[.val (.long q1), .second, .val (.long q2), .second, .val (.int (3 : Int32)), .val (.ref b137)] [(.int (3 : Int32)), (.ref b137)])) _
    refine XS.iconst X161.here hx rfl (hb hby own_d1_134) ?_
    show Steps p.tables e below (T161.setTop (mkF m 135 #[.val (.long q1), .second, .val (.long q2), .second, .val (.int (3 : Int32)), .val (.ref b137)] [(.int (2 : Int32)), (.int (3 : Int32)), (.ref b137)])) _
    refine XS.iadd X161.here hx rfl (hb hby own_d1_135) rfl ?_
    show Steps p.tables e below (T161.setTop (mkF m 136 #[.val (.long q1), .second, .val (.long q2), .second, .val (.int (3 : Int32)), .val (.ref b137)] [(.int (5 : Int32)), (.ref b137)])) _
    refine XS.lloadN X161.here hx rfl (hb hby own_d1_136) rfl ?_
    show Steps p.tables e below (T161.setTop (mkF m 137 #[.val (.long q1), .second, .val (.long q2), .second, .val (.int (3 : Int32)), .val (.ref b137)] [(.long q1), (.int (5 : Int32)), (.ref b137)])) _
    refine XS.bipush X161.here hx rfl (hb hby own_d1_137) ?_
    show Steps p.tables e below (T161.setTop (mkF m 139 #[.val (.long q1), .second, .val (.long q2), .second, .val (.int (3 : Int32)), .val (.ref b137)] [(.int (32 : Int32)), (.long q1), (.int (5 : Int32)), (.ref b137)])) _
    refine XS.lushr X161.here hx rfl (hb hby own_d1_139) rfl ?_
    show Steps p.tables e below (T161.setTop (mkF m 140 #[.val (.long q1), .second, .val (.long q2), .second, .val (.int (3 : Int32)), .val (.ref b137)] [(.long ((q1.toUInt64 >>> ((32 : Int32) &&& 0x3f).toInt64.toUInt64).toInt64)), (.int (5 : Int32)), (.ref b137)])) _
    refine XS.l2i X161.here hx rfl (hb hby own_d1_140) rfl ?_
    show Steps p.tables e below (T161.setTop (mkF m 141 #[.val (.long q1), .second, .val (.long q2), .second, .val (.int (3 : Int32)), .val (.ref b137)] [(.int (((q1.toUInt64 >>> ((32 : Int32) &&& 0x3f).toInt64.toUInt64).toInt64).toInt32)), (.int (5 : Int32)), (.ref b137)])) _
    refine XS.i2b X161.here hx rfl (hb hby own_d1_141) rfl ?_
    show Steps p.tables e below (T161.setTop (mkF m 142 #[.val (.long q1), .second, .val (.long q2), .second, .val (.int (3 : Int32)), .val (.ref b137)] [(.int ((((q1.toUInt64 >>> ((32 : Int32) &&& 0x3f).toInt64.toUInt64).toInt64).toInt32).toInt8.toInt32)), (.int (5 : Int32)), (.ref b137)])) _
    refine st163 _ ?_
    show Steps p.tables e below (T163.setTop (mkF m 143 #[.val (.long q1), .second, .val (.long q2), .second, .val (.int (3 : Int32)), .val (.ref b137)] [])) _
    refine XS.aload X163.here hx rfl (hb hby own_d1_143) rfl rfl ?_
    show Steps p.tables e below (T163.setTop (mkF m 145 #[.val (.long q1), .second, .val (.long q2), .second, .val (.int (3 : Int32)), .val (.ref b137)] [(.ref b137)])) _
    refine XS.iload X163.here hx rfl (hb hby own_d1_145) rfl ?_
    show Steps p.tables e below (T163.setTop (mkF m 147 #[.val (.long q1), .second, .val (.long q2), .second, .val (.int (3 : Int32)), .val (.ref b137)] [(.int (3 : Int32)), (.ref b137)])) _
    refine XS.iconst X163.here hx rfl (hb hby own_d1_147) ?_
    show Steps p.tables e below (T163.setTop (mkF m 148 #[.val (.long q1), .second, .val (.long q2), .second, .val (.int (3 : Int32)), .val (.ref b137)] [(.int (3 : Int32)), (.int (3 : Int32)), (.ref b137)])) _
    refine XS.iadd X163.here hx rfl (hb hby own_d1_148) rfl ?_
    show Steps p.tables e below (T163.setTop (mkF m 149 #[.val (.long q1), .second, .val (.long q2), .second, .val (.int (3 : Int32)), .val (.ref b137)] [(.int (6 : Int32)), (.ref b137)])) _
    refine XS.lloadN X163.here hx rfl (hb hby own_d1_149) rfl ?_
    show Steps p.tables e below (T163.setTop (mkF m 150 #[.val (.long q1), .second, .val (.long q2), .second, .val (.int (3 : Int32)), .val (.ref b137)] [(.long q1), (.int (6 : Int32)), (.ref b137)])) _
    refine XS.bipush X163.here hx rfl (hb hby own_d1_150) ?_
    show Steps p.tables e below (T163.setTop (mkF m 152 #[.val (.long q1), .second, .val (.long q2), .second, .val (.int (3 : Int32)), .val (.ref b137)] [(.int (24 : Int32)), (.long q1), (.int (6 : Int32)), (.ref b137)])) _
    refine XS.lushr X163.here hx rfl (hb hby own_d1_152) rfl ?_
    show Steps p.tables e below (T163.setTop (mkF m 153 #[.val (.long q1), .second, .val (.long q2), .second, .val (.int (3 : Int32)), .val (.ref b137)] [(.long ((q1.toUInt64 >>> ((24 : Int32) &&& 0x3f).toInt64.toUInt64).toInt64)), (.int (6 : Int32)), (.ref b137)])) _
    refine XS.l2i X163.here hx rfl (hb hby own_d1_153) rfl ?_
    show Steps p.tables e below (T163.setTop (mkF m 154 #[.val (.long q1), .second, .val (.long q2), .second, .val (.int (3 : Int32)), .val (.ref b137)] [(.int (((q1.toUInt64 >>> ((24 : Int32) &&& 0x3f).toInt64.toUInt64).toInt64).toInt32)), (.int (6 : Int32)), (.ref b137)])) _
    refine XS.i2b X163.here hx rfl (hb hby own_d1_154) rfl ?_
    show Steps p.tables e below (T163.setTop (mkF m 155 #[.val (.long q1), .second, .val (.long q2), .second, .val (.int (3 : Int32)), .val (.ref b137)] [(.int ((((q1.toUInt64 >>> ((24 : Int32) &&& 0x3f).toInt64.toUInt64).toInt64).toInt32).toInt8.toInt32)), (.int (6 : Int32)), (.ref b137)])) _
    refine st165 _ ?_
    show Steps p.tables e below (T165.setTop (mkF m 156 #[.val (.long q1), .second, .val (.long q2), .second, .val (.int (3 : Int32)), .val (.ref b137)] [])) _
    refine XS.aload X165.here hx rfl (hb hby own_d1_156) rfl rfl ?_
    show Steps p.tables e below (T165.setTop (mkF m 158 #[.val (.long q1), .second, .val (.long q2), .second, .val (.int (3 : Int32)), .val (.ref b137)] [(.ref b137)])) _
    refine XS.iload X165.here hx rfl (hb hby own_d1_158) rfl ?_
    show Steps p.tables e below (T165.setTop (mkF m 160 #[.val (.long q1), .second, .val (.long q2), .second, .val (.int (3 : Int32)), .val (.ref b137)] [(.int (3 : Int32)), (.ref b137)])) _
    refine XS.iconst X165.here hx rfl (hb hby own_d1_160) ?_
    show Steps p.tables e below (T165.setTop (mkF m 161 #[.val (.long q1), .second, .val (.long q2), .second, .val (.int (3 : Int32)), .val (.ref b137)] [(.int (4 : Int32)), (.int (3 : Int32)), (.ref b137)])) _
    refine XS.iadd X165.here hx rfl (hb hby own_d1_161) rfl ?_
    show Steps p.tables e below (T165.setTop (mkF m 162 #[.val (.long q1), .second, .val (.long q2), .second, .val (.int (3 : Int32)), .val (.ref b137)] [(.int (7 : Int32)), (.ref b137)])) _
    refine XS.lloadN X165.here hx rfl (hb hby own_d1_162) rfl ?_
    show Steps p.tables e below (T165.setTop (mkF m 163 #[.val (.long q1), .second, .val (.long q2), .second, .val (.int (3 : Int32)), .val (.ref b137)] [(.long q1), (.int (7 : Int32)), (.ref b137)])) _
    refine XS.bipush X165.here hx rfl (hb hby own_d1_163) ?_
    show Steps p.tables e below (T165.setTop (mkF m 165 #[.val (.long q1), .second, .val (.long q2), .second, .val (.int (3 : Int32)), .val (.ref b137)] [(.int (16 : Int32)), (.long q1), (.int (7 : Int32)), (.ref b137)])) _
    refine XS.lushr X165.here hx rfl (hb hby own_d1_165) rfl ?_
    show Steps p.tables e below (T165.setTop (mkF m 166 #[.val (.long q1), .second, .val (.long q2), .second, .val (.int (3 : Int32)), .val (.ref b137)] [(.long ((q1.toUInt64 >>> ((16 : Int32) &&& 0x3f).toInt64.toUInt64).toInt64)), (.int (7 : Int32)), (.ref b137)])) _
    refine XS.l2i X165.here hx rfl (hb hby own_d1_166) rfl ?_
    show Steps p.tables e below (T165.setTop (mkF m 167 #[.val (.long q1), .second, .val (.long q2), .second, .val (.int (3 : Int32)), .val (.ref b137)] [(.int (((q1.toUInt64 >>> ((16 : Int32) &&& 0x3f).toInt64.toUInt64).toInt64).toInt32)), (.int (7 : Int32)), (.ref b137)])) _
    refine XS.i2b X165.here hx rfl (hb hby own_d1_167) rfl ?_
    show Steps p.tables e below (T165.setTop (mkF m 168 #[.val (.long q1), .second, .val (.long q2), .second, .val (.int (3 : Int32)), .val (.ref b137)] [(.int ((((q1.toUInt64 >>> ((16 : Int32) &&& 0x3f).toInt64.toUInt64).toInt64).toInt32).toInt8.toInt32)), (.int (7 : Int32)), (.ref b137)])) _
    refine st167 _ ?_
    show Steps p.tables e below (T167.setTop (mkF m 169 #[.val (.long q1), .second, .val (.long q2), .second, .val (.int (3 : Int32)), .val (.ref b137)] [])) _
    refine XS.aload X167.here hx rfl (hb hby own_d1_169) rfl rfl ?_
    show Steps p.tables e below (T167.setTop (mkF m 171 #[.val (.long q1), .second, .val (.long q2), .second, .val (.int (3 : Int32)), .val (.ref b137)] [(.ref b137)])) _
    refine XS.iload X167.here hx rfl (hb hby own_d1_171) rfl ?_
    show Steps p.tables e below (T167.setTop (mkF m 173 #[.val (.long q1), .second, .val (.long q2), .second, .val (.int (3 : Int32)), .val (.ref b137)] [(.int (3 : Int32)), (.ref b137)])) _
    refine XS.iconst X167.here hx rfl (hb hby own_d1_173) ?_
    show Steps p.tables e below (T167.setTop (mkF m 174 #[.val (.long q1), .second, .val (.long q2), .second, .val (.int (3 : Int32)), .val (.ref b137)] [(.int (5 : Int32)), (.int (3 : Int32)), (.ref b137)])) _
    refine XS.iadd X167.here hx rfl (hb hby own_d1_174) rfl ?_
    show Steps p.tables e below (T167.setTop (mkF m 175 #[.val (.long q1), .second, .val (.long q2), .second, .val (.int (3 : Int32)), .val (.ref b137)] [(.int (8 : Int32)), (.ref b137)])) _
    refine XS.lloadN X167.here hx rfl (hb hby own_d1_175) rfl ?_
    show Steps p.tables e below (T167.setTop (mkF m 176 #[.val (.long q1), .second, .val (.long q2), .second, .val (.int (3 : Int32)), .val (.ref b137)] [(.long q1), (.int (8 : Int32)), (.ref b137)])) _
    refine XS.bipush X167.here hx rfl (hb hby own_d1_176) ?_
    show Steps p.tables e below (T167.setTop (mkF m 178 #[.val (.long q1), .second, .val (.long q2), .second, .val (.int (3 : Int32)), .val (.ref b137)] [(.int (8 : Int32)), (.long q1), (.int (8 : Int32)), (.ref b137)])) _
    refine XS.lushr X167.here hx rfl (hb hby own_d1_178) rfl ?_
    show Steps p.tables e below (T167.setTop (mkF m 179 #[.val (.long q1), .second, .val (.long q2), .second, .val (.int (3 : Int32)), .val (.ref b137)] [(.long ((q1.toUInt64 >>> ((8 : Int32) &&& 0x3f).toInt64.toUInt64).toInt64)), (.int (8 : Int32)), (.ref b137)])) _
    refine XS.l2i X167.here hx rfl (hb hby own_d1_179) rfl ?_
    show Steps p.tables e below (T167.setTop (mkF m 180 #[.val (.long q1), .second, .val (.long q2), .second, .val (.int (3 : Int32)), .val (.ref b137)] [(.int (((q1.toUInt64 >>> ((8 : Int32) &&& 0x3f).toInt64.toUInt64).toInt64).toInt32)), (.int (8 : Int32)), (.ref b137)])) _
    refine XS.i2b X167.here hx rfl (hb hby own_d1_180) rfl ?_
    show Steps p.tables e below (T167.setTop (mkF m 181 #[.val (.long q1), .second, .val (.long q2), .second, .val (.int (3 : Int32)), .val (.ref b137)] [(.int ((((q1.toUInt64 >>> ((8 : Int32) &&& 0x3f).toInt64.toUInt64).toInt64).toInt32).toInt8.toInt32)), (.int (8 : Int32)), (.ref b137)])) _
    refine st169 _ ?_
    show Steps p.tables e below (T169.setTop (mkF m 182 #[.val (.long q1), .second, .val (.long q2), .second, .val (.int (3 : Int32)), .val (.ref b137)] [])) _
    refine XS.aload X169.here hx rfl (hb hby own_d1_182) rfl rfl ?_
    show Steps p.tables e below (T169.setTop (mkF m 184 #[.val (.long q1), .second, .val (.long q2), .second, .val (.int (3 : Int32)), .val (.ref b137)] [(.ref b137)])) _
    refine XS.iload X169.here hx rfl (hb hby own_d1_184) rfl ?_
    show Steps p.tables e below (T169.setTop (mkF m 186 #[.val (.long q1), .second, .val (.long q2), .second, .val (.int (3 : Int32)), .val (.ref b137)] [(.int (3 : Int32)), (.ref b137)])) _
    refine XS.bipush X169.here hx rfl (hb hby own_d1_186) ?_
    show Steps p.tables e below (T169.setTop (mkF m 188 #[.val (.long q1), .second, .val (.long q2), .second, .val (.int (3 : Int32)), .val (.ref b137)] [(.int (6 : Int32)), (.int (3 : Int32)), (.ref b137)])) _
    refine XS.iadd X169.here hx rfl (hb hby own_d1_188) rfl ?_
    show Steps p.tables e below (T169.setTop (mkF m 189 #[.val (.long q1), .second, .val (.long q2), .second, .val (.int (3 : Int32)), .val (.ref b137)] [(.int (9 : Int32)), (.ref b137)])) _
    refine XS.lloadN X169.here hx rfl (hb hby own_d1_189) rfl ?_
    show Steps p.tables e below (T169.setTop (mkF m 190 #[.val (.long q1), .second, .val (.long q2), .second, .val (.int (3 : Int32)), .val (.ref b137)] [(.long q1), (.int (9 : Int32)), (.ref b137)])) _
    refine XS.l2i X169.here hx rfl (hb hby own_d1_190) rfl ?_
    show Steps p.tables e below (T169.setTop (mkF m 191 #[.val (.long q1), .second, .val (.long q2), .second, .val (.int (3 : Int32)), .val (.ref b137)] [(.int (q1.toInt32)), (.int (9 : Int32)), (.ref b137)])) _
    refine XS.i2b X169.here hx rfl (hb hby own_d1_191) rfl ?_
    show Steps p.tables e below (T169.setTop (mkF m 192 #[.val (.long q1), .second, .val (.long q2), .second, .val (.int (3 : Int32)), .val (.ref b137)] [(.int ((q1.toInt32).toInt8.toInt32)), (.int (9 : Int32)), (.ref b137)])) _
    refine st171 _ ?_
    show Steps p.tables e below (T171.setTop (mkF m 193 #[.val (.long q1), .second, .val (.long q2), .second, .val (.int (3 : Int32)), .val (.ref b137)] [])) _
    refine XS.aload X171.here hx rfl (hb hby own_d1_193) rfl rfl ?_
    show Steps p.tables e below (T171.setTop (mkF m 195 #[.val (.long q1), .second, .val (.long q2), .second, .val (.int (3 : Int32)), .val (.ref b137)] [(.ref b137)])) _
    jvm_step X171.here [X171.here.top, hx, (hb hby own_d1_195), X171.method', Bd.returns, Value.isRef, FieldType.isReference]
    first | (intro acts; rw [hr _ acts rfl rfl rfl]) | rw [hr _ _ rfl rfl rfl]
    exact Steps.refl _
  · show Q1_3 Z q1 q2 h0 n0 _ T171.heap _
    rw [e171]
    exact ⟨b137, k137, rfl, N171, K171, sz_b137, V171⟩
theorem own_o (x : Int32) : (x &&& (3 : Int32)) = (0 : Int32) ∨ (x &&& (3 : Int32)) = (1 : Int32) ∨ (x &&& (3 : Int32)) = (2 : Int32) ∨ (x &&& (3 : Int32)) = (3 : Int32) := by
  have h1 := c_mask x 3 2 (by decide) (by decide)
  simp only [← Int32.toInt_inj]
  have e0 : (0 : Int32).toInt = 0 := by decide
  have e1 : (1 : Int32).toInt = 1 := by decide
  have e2 : (2 : Int32).toInt = 2 := by decide
  have e3 : (3 : Int32).toInt = 3 := by decide
  omega
theorem own_t (k : Int32) : ¬ ((k &&& (2147483647 : Int32)) % (56 : Int32)) < (0 : Int32) ∧ ((k &&& (2147483647 : Int32)) % (56 : Int32)) < (56 : Int32) := by
  have h1 := c_mask k 2147483647 31 (by decide) (by decide)
  have h2 := (c_irem (k &&& 2147483647) 56 56 (by decide)).1 (by omega)
  have e0 : (0 : Int32).toInt = 0 := by decide
  have e1 : (56 : Int32).toInt = 56 := by decide
  rw [Int32.lt_iff_toInt_lt, Int32.lt_iff_toInt_lt]
  omega
theorem own_tabT (t : Int32) (h : ¬ t < (0 : Int32) ∧ t < (56 : Int32)) : own_parL (own_e t) = ((((own_tabI.getD t.toNatClampNeg 0) ^^^ (-1 : Int32)) &&& (127 : Int32)) <<< ((1 : Int32) &&& 31)) := by
  obtain ⟨h1, h2⟩ := h
  rw [Int32.lt_iff_toInt_lt] at h1 h2
  have e0 : (0 : Int32).toInt = 0 := by decide
  have e1 : (56 : Int32).toInt = 56 := by decide
  have hn : t.toNatClampNeg < 56 := by simp only [Int32.toNatClampNeg]; omega
  have ht : Int32.ofNat t.toNatClampNeg = t := by
    rw [← Int32.toInt_inj, Int32.toInt_ofNat_of_lt (by omega)]
    simp only [Int32.toNatClampNeg]; omega
  have := own_tab56 ⟨t.toNatClampNeg, hn⟩
  simp only [ht] at this
  exact this
theorem own_getD (l : List Int32) (j : Nat) : (l.map Value.int).getD j (.int (0 : Int32)) = .int (l.getD j 0) := by
  simp only [List.getD_eq_getElem?_getD, List.getElem?_map]
  cases l[j]? <;> rfl
def own_tl (i : Nat) : List Value := (own_tabI.take i).map Value.int ++ List.replicate (56 - i) (.int (0 : Int32))
set_option maxRecDepth 65536 in
theorem own_len : ∀ i : Fin 57, (own_tl i.1).length = 56 := by decide +kernel
set_option maxRecDepth 65536 in
theorem own_set : ∀ i : Fin 56, (own_tl i.1).set i.1 (.int (own_tabI.getD i.1 0)) = own_tl (i.1 + 1) := by decide +kernel
set_option maxRecDepth 65536 in
theorem own_tl0 : [] ++ List.replicate 56 (.int (0 : Int32)) = own_tl 0 := by decide +kernel
set_option maxRecDepth 65536 in
theorem own_tl56 : own_tl 56 = own_tabI.map Value.int := by decide +kernel
theorem own_getT (j : Nat) : (own_tl 56).getD j (.int (0 : Int32)) = .int (own_tabI.getD j 0) := by rw [own_tl56]; exact own_getD _ _
theorem own_cast {Z : State} {h : Heap} {a : Addr} {k : ClassId} {ty : FieldType} {z : Int32} {vs vs' : List Value} {d : Value} (e : vs = vs') (F : Arv Z h a k ty z vs d) : Arv Z h a k ty z vs' d := e ▸ F
def own_T (k : Int32) : Int32 := ((k &&& (2147483647 : Int32)) % (56 : Int32))
theorem own_pd0 : parseMethodDescriptor "(JJI)[B" = some ⟨[.long, .long, .int], some (.array .byte)⟩ := by decide +kernel
theorem own_pd1 : parseMethodDescriptor "([BI)I" = some ⟨[(.array .byte), .int], some .int⟩ := by decide +kernel
theorem own_ef_rm0 (m : MethodId) (q0 : Int64) (q2 : Int64) (p4 : Int32) (p5 : Int32) : entryFrame m #[(.long q0), (.long q2), (.int p4), (.int p5)] maxLocals = mkF m 0 #[.val (.long q0), .second, .val (.long q2), .second, .val (.int p4), .val (.int p5), .unset, .unset, .unset, .unset, .unset, .unset, .unset, .unset, .unset, .unset, .unset, .unset] [] := by first | (simp [entryFrame, mkF, argsToLocals, Value.category, maxLocals]; done) | rfl
def Q0 (Z : State) (q0 : Int64) (q2 : Int64) (p4 : Int32) (p5 : Int32) (h0 : Heap) (n0 : Nat) (v : Option Value) (h : Heap) (L : List Loc) : Prop := v = some (.int (1 : Int32)) ∧ Fr n0 L
set_option maxRecDepth 65536 in
set_option maxHeartbeats 40000000 in
theorem rm0 (l : Launch) (Z : State) (a0 : Array Value) (hw : ∀ d ∈ tables_1, d.before a0 Z = true) (ws : List Jvm.Cond) (q0 : Int64) (q2 : Int64) (p4 : Int32) (p5 : Int32) (h0 : Heap) (n0 : Nat) (Z0 : n0 ≤ h0.size) :
    MetFree l x (head1 (Jvm.Cond.code x code maxLocals ret :: ws) room_1) (fun a U => a = #[(.long q0), (.long q2), (.int p4), (.int p5)] ∧ Z.Warmed39 U.vm ∧ U.heap = h0) (fun _ _ _ _ _ => True) (fun _ U o U' => ∃ v L, o = .returned v ∧ Q0 Z q0 q2 p4 p5 h0 n0 v U'.heap L ∧ FrameEnd U o U' L room_1.cells room_1.slots) := by
  refine MetFree.of_bodySF (plainFor_of_name own_pn1) hisR ?_
  intro p e s m args below meth c s₁ Bd hml0 hP hK
  obtain ⟨rfl, hZ, hh⟩ := hP
  have hx := Bd.exec
  have hby := Bd.bytes
  have hml : c.maxLocals = 18 := hml0
  have hown : s.vm.findClass "com/example/linkbook/linkbook/coding/BchParityOctetPinLaw" = some m.cls := findClass_of_methodNamed Bd.named
  have hnm := (name_of_methodNamed Bd.named Bd.method).1
  have X0 : Stand p l e room_1 s m #[(.long q0), (.long q2), (.int p4), (.int p5)] below meth c s₁ [] 0 0 := Stand.of_body Bd
  have e0 : s₁.heap = h0 := by rw [← hh, Bd.state]; rfl
  have N0 := Fr.nil n0
  have K0 : Keep h0 h0 [] := Keep.refl h0 _
  have pre0 : ∀ t, Steps p.tables e below (s₁.setTop (mkF m 0 #[.val (.long q0), .second, .val (.long q2), .second, .val (.int p4), .val (.int p5), .unset, .unset, .unset, .unset, .unset, .unset, .unset, .unset, .unset, .unset, .unset, .unset] [])) t → Steps p.tables e below (s₁.setTop (entryFrame m #[(.long q0), (.long q2), (.int p4), (.int p5)] maxLocals)) t := fun t k => castTop (own_ef_rm0 m q0 q2 p4 p5) k
  obtain ⟨T172, h172, k172, X172, e172, E172, A172, st172⟩ := newP X0 hx hZ (hw _ (List.mem_of_getElem? (i := 0) rfl)) e0 (g := (mkF m 2 #[.val (.long q0), .second, .val (.long q2), .second, .val (.int p4), .val (.int p5), .unset, .unset, .unset, .unset, .unset, .unset, .unset, .unset, .unset, .unset, .unset, .unset] [(.int (56 : Int32))])) rfl (hb hby at_2) rfl (by decide) (cap := 56) (by decide) (by decide) (by decide) (by decide)
  obtain ⟨b172, g172⟩ : ∃ z, z = h0.size := ⟨_, rfl⟩
  rw [← g172] at A172 st172
  have gg_b172 : n0 ≤ b172 := Nat.le_trans (Nat.le_trans Z0 K0.1) (Nat.le_of_eq g172.symm)
  have sz_b172 : h0.size ≤ b172 := Nat.le_trans K0.1 (Nat.le_of_eq g172.symm)
  have K172 := K0.ext E172
  have V172 : Arv Z h172 b172 k172 .int (56 : Int32) (own_tl 0) (.int (0 : Int32)) := own_cast own_tl0 <| (Arv.new A172 (by decide)).pad (pad_rep [] (.int (0 : Int32)) 56)
  obtain ⟨cl173, Ar173, q173, S173, M173, H173, G173⟩ := id V172
  have hin173 : ¬ ((0 : Int32) < 0 ∨ cl173.slots.size ≤ ((0 : Int32)).toNatClampNeg) := inb_of S173 ⟨by decide, by decide⟩
  obtain ⟨T174, h174, X174, e174, W174, st174⟩ := stI X172 hx hZ e172 Ar173 (j := (0 : Int32)) hin173 (g := (mkF m 8 #[.val (.long q0), .second, .val (.long q2), .second, .val (.int p4), .val (.int p5), .unset, .unset, .unset, .unset, .unset, .unset, .unset, .unset, .unset, .unset, .unset, .unset] [(.int (98 : Int32)), (.int (0 : Int32)), (.ref b172), (.ref b172)])) rfl rfl (hb hby at_8)
  have V174 : Arv Z h174 b172 k172 .int (56 : Int32) (own_tl 1) (.int (0 : Int32)) := own_cast (own_set ⟨0, by decide⟩) <| Arv.set Ar173 q173 S173 M173 H173 G173 rfl W174 0 rfl (Nat.lt_of_lt_of_eq (by decide : 0 < 56) (own_len ⟨0, by decide⟩).symm)
  have K174 := K172.wr W174 (Or.inr sz_b172)
  have N174 := Fr.snoc X174 N0 gg_b172
  have pre175 : ∀ t, Steps p.tables e below (T174.setTop (mkF m 9 #[.val (.long q0), .second, .val (.long q2), .second, .val (.int p4), .val (.int p5), .unset, .unset, .unset, .unset, .unset, .unset, .unset, .unset, .unset, .unset, .unset, .unset] [(.ref b172)])) t → Steps p.tables e below (s₁.setTop (entryFrame m #[(.long q0), (.long q2), (.int p4), (.int p5)] maxLocals)) t := fun t k => by
    refine pre0 _ ?_
    show Steps p.tables e below (s₁.setTop (mkF m 0 #[.val (.long q0), .second, .val (.long q2), .second, .val (.int p4), .val (.int p5), .unset, .unset, .unset, .unset, .unset, .unset, .unset, .unset, .unset, .unset, .unset, .unset] [])) _
    refine XS.bipush X0.here hx rfl (hb hby at_0) ?_
    show Steps p.tables e below (s₁.setTop (mkF m 2 #[.val (.long q0), .second, .val (.long q2), .second, .val (.int p4), .val (.int p5), .unset, .unset, .unset, .unset, .unset, .unset, .unset, .unset, .unset, .unset, .unset, .unset] [(.int (56 : Int32))])) _
    refine st172 _ ?_
    show Steps p.tables e below (T172.setTop (mkF m 4 #[.val (.long q0), .second, .val (.long q2), .second, .val (.int p4), .val (.int p5), .unset, .unset, .unset, .unset, .unset, .unset, .unset, .unset, .unset, .unset, .unset, .unset] [(.ref b172)])) _
    refine XS.dup X172.here hx rfl (hb hby at_4) rfl rfl ?_
    show Steps p.tables e below (T172.setTop (mkF m 5 #[.val (.long q0), .second, .val (.long q2), .second, .val (.int p4), .val (.int p5), .unset, .unset, .unset, .unset, .unset, .unset, .unset, .unset, .unset, .unset, .unset, .unset] [(.ref b172), (.ref b172)])) _
    refine XS.iconst X172.here hx rfl (hb hby at_5) ?_
    show Steps p.tables e below (T172.setTop (mkF m 6 #[.val (.long q0), .second, .val (.long q2), .second, .val (.int p4), .val (.int p5), .unset, .unset, .unset, .unset, .unset, .unset, .unset, .unset, .unset, .unset, .unset, .unset] [(.int (0 : Int32)), (.ref b172), (.ref b172)])) _
    refine XS.bipush X172.here hx rfl (hb hby at_6) ?_
    show Steps p.tables e below (T172.setTop (mkF m 8 #[.val (.long q0), .second, .val (.long q2), .second, .val (.int p4), .val (.int p5), .unset, .unset, .unset, .unset, .unset, .unset, .unset, .unset, .unset, .unset, .unset, .unset] [(.int (98 : Int32)), (.int (0 : Int32)), (.ref b172), (.ref b172)])) _
    refine st174 _ ?_
    exact k
  obtain ⟨LL174, XX174, NN174⟩ : ∃ LL, Stand p l e room_1 s m #[(.long q0), (.long q2), (.int p4), (.int p5)] below meth c T174 LL 1 56 ∧ Fr n0 LL := ⟨_, X174, N174⟩
  clear cl173 Ar173 q173 S173 M173 H173 G173 hin173 W174 st174 X172 e172 V172 K172 E172 A172 st172 T172 h172 X174 N174
  obtain ⟨cl176, Ar176, q176, S176, M176, H176, G176⟩ := id V174
  have hin176 : ¬ ((1 : Int32) < 0 ∨ cl176.slots.size ≤ ((1 : Int32)).toNatClampNeg) := inb_of S176 ⟨by decide, by decide⟩
  obtain ⟨T177, h177, X177, e177, W177, st177⟩ := stI XX174 hx hZ e174 Ar176 (j := (1 : Int32)) hin176 (g := (mkF m 13 #[.val (.long q0), .second, .val (.long q2), .second, .val (.int p4), .val (.int p5), .unset, .unset, .unset, .unset, .unset, .unset, .unset, .unset, .unset, .unset, .unset, .unset] [(.int (49 : Int32)), (.int (1 : Int32)), (.ref b172), (.ref b172)])) rfl rfl (hb hby at_13)
  have V177 : Arv Z h177 b172 k172 .int (56 : Int32) (own_tl 2) (.int (0 : Int32)) := own_cast (own_set ⟨1, by decide⟩) <| Arv.set Ar176 q176 S176 M176 H176 G176 rfl W177 1 rfl (Nat.lt_of_lt_of_eq (by decide : 1 < 56) (own_len ⟨1, by decide⟩).symm)
  have K177 := K174.wr W177 (Or.inr sz_b172)
  have N177 := Fr.snoc X177 NN174 gg_b172
  have pre178 : ∀ t, Steps p.tables e below (T177.setTop (mkF m 14 #[.val (.long q0), .second, .val (.long q2), .second, .val (.int p4), .val (.int p5), .unset, .unset, .unset, .unset, .unset, .unset, .unset, .unset, .unset, .unset, .unset, .unset] [(.ref b172)])) t → Steps p.tables e below (s₁.setTop (entryFrame m #[(.long q0), (.long q2), (.int p4), (.int p5)] maxLocals)) t := fun t k => by
    refine pre175 _ ?_
    show Steps p.tables e below (T174.setTop (mkF m 9 #[.val (.long q0), .second, .val (.long q2), .second, .val (.int p4), .val (.int p5), .unset, .unset, .unset, .unset, .unset, .unset, .unset, .unset, .unset, .unset, .unset, .unset] [(.ref b172)])) _
    refine XS.dup XX174.here hx rfl (hb hby at_9) rfl rfl ?_
    show Steps p.tables e below (T174.setTop (mkF m 10 #[.val (.long q0), .second, .val (.long q2), .second, .val (.int p4), .val (.int p5), .unset, .unset, .unset, .unset, .unset, .unset, .unset, .unset, .unset, .unset, .unset, .unset] [(.ref b172), (.ref b172)])) _
    refine XS.iconst XX174.here hx rfl (hb hby at_10) ?_
    show Steps p.tables e below (T174.setTop (mkF m 11 #[.val (.long q0), .second, .val (.long q2), .second, .val (.int p4), .val (.int p5), .unset, .unset, .unset, .unset, .unset, .unset, .unset, .unset, .unset, .unset, .unset, .unset] [(.int (1 : Int32)), (.ref b172), (.ref b172)])) _
    refine XS.bipush XX174.here hx rfl (hb hby at_11) ?_
    show Steps p.tables e below (T174.setTop (mkF m 13 #[.val (.long q0), .second, .val (.long q2), .second, .val (.int p4), .val (.int p5), .unset, .unset, .unset, .unset, .unset, .unset, .unset, .unset, .unset, .unset, .unset, .unset] [(.int (49 : Int32)), (.int (1 : Int32)), (.ref b172), (.ref b172)])) _
    refine st177 _ ?_
    exact k
  obtain ⟨LL177, XX177, NN177⟩ : ∃ LL, Stand p l e room_1 s m #[(.long q0), (.long q2), (.int p4), (.int p5)] below meth c T177 LL 1 56 ∧ Fr n0 LL := ⟨_, X177, N177⟩
  clear cl176 Ar176 q176 S176 M176 H176 G176 hin176 W177 st177 XX174 NN174 LL174 e174 V174 K174 T174 h174 pre175 X177 N177
  obtain ⟨cl179, Ar179, q179, S179, M179, H179, G179⟩ := id V177
  have hin179 : ¬ ((2 : Int32) < 0 ∨ cl179.slots.size ≤ ((2 : Int32)).toNatClampNeg) := inb_of S179 ⟨by decide, by decide⟩
  obtain ⟨T180, h180, X180, e180, W180, st180⟩ := stI XX177 hx hZ e177 Ar179 (j := (2 : Int32)) hin179 (g := (mkF m 18 #[.val (.long q0), .second, .val (.long q2), .second, .val (.int p4), .val (.int p5), .unset, .unset, .unset, .unset, .unset, .unset, .unset, .unset, .unset, .unset, .unset, .unset] [(.int (122 : Int32)), (.int (2 : Int32)), (.ref b172), (.ref b172)])) rfl rfl (hb hby at_18)
  have V180 : Arv Z h180 b172 k172 .int (56 : Int32) (own_tl 3) (.int (0 : Int32)) := own_cast (own_set ⟨2, by decide⟩) <| Arv.set Ar179 q179 S179 M179 H179 G179 rfl W180 2 rfl (Nat.lt_of_lt_of_eq (by decide : 2 < 56) (own_len ⟨2, by decide⟩).symm)
  have K180 := K177.wr W180 (Or.inr sz_b172)
  have N180 := Fr.snoc X180 NN177 gg_b172
  have pre181 : ∀ t, Steps p.tables e below (T180.setTop (mkF m 19 #[.val (.long q0), .second, .val (.long q2), .second, .val (.int p4), .val (.int p5), .unset, .unset, .unset, .unset, .unset, .unset, .unset, .unset, .unset, .unset, .unset, .unset] [(.ref b172)])) t → Steps p.tables e below (s₁.setTop (entryFrame m #[(.long q0), (.long q2), (.int p4), (.int p5)] maxLocals)) t := fun t k => by
    refine pre178 _ ?_
    show Steps p.tables e below (T177.setTop (mkF m 14 #[.val (.long q0), .second, .val (.long q2), .second, .val (.int p4), .val (.int p5), .unset, .unset, .unset, .unset, .unset, .unset, .unset, .unset, .unset, .unset, .unset, .unset] [(.ref b172)])) _
    refine XS.dup XX177.here hx rfl (hb hby at_14) rfl rfl ?_
    show Steps p.tables e below (T177.setTop (mkF m 15 #[.val (.long q0), .second, .val (.long q2), .second, .val (.int p4), .val (.int p5), .unset, .unset, .unset, .unset, .unset, .unset, .unset, .unset, .unset, .unset, .unset, .unset] [(.ref b172), (.ref b172)])) _
    refine XS.iconst XX177.here hx rfl (hb hby at_15) ?_
    show Steps p.tables e below (T177.setTop (mkF m 16 #[.val (.long q0), .second, .val (.long q2), .second, .val (.int p4), .val (.int p5), .unset, .unset, .unset, .unset, .unset, .unset, .unset, .unset, .unset, .unset, .unset, .unset] [(.int (2 : Int32)), (.ref b172), (.ref b172)])) _
    refine XS.bipush XX177.here hx rfl (hb hby at_16) ?_
    show Steps p.tables e below (T177.setTop (mkF m 18 #[.val (.long q0), .second, .val (.long q2), .second, .val (.int p4), .val (.int p5), .unset, .unset, .unset, .unset, .unset, .unset, .unset, .unset, .unset, .unset, .unset, .unset] [(.int (122 : Int32)), (.int (2 : Int32)), (.ref b172), (.ref b172)])) _
    refine st180 _ ?_
    exact k
  obtain ⟨LL180, XX180, NN180⟩ : ∃ LL, Stand p l e room_1 s m #[(.long q0), (.long q2), (.int p4), (.int p5)] below meth c T180 LL 1 56 ∧ Fr n0 LL := ⟨_, X180, N180⟩
  clear cl179 Ar179 q179 S179 M179 H179 G179 hin179 W180 st180 XX177 NN177 LL177 e177 V177 K177 T177 h177 pre178 X180 N180
  obtain ⟨cl182, Ar182, q182, S182, M182, H182, G182⟩ := id V180
  have hin182 : ¬ ((3 : Int32) < 0 ∨ cl182.slots.size ≤ ((3 : Int32)).toNatClampNeg) := inb_of S182 ⟨by decide, by decide⟩
  obtain ⟨T183, h183, X183, e183, W183, st183⟩ := stI XX180 hx hZ e180 Ar182 (j := (3 : Int32)) hin182 (g := (mkF m 23 #[.val (.long q0), .second, .val (.long q2), .second, .val (.int p4), .val (.int p5), .unset, .unset, .unset, .unset, .unset, .unset, .unset, .unset, .unset, .unset, .unset, .unset] [(.int (61 : Int32)), (.int (3 : Int32)), (.ref b172), (.ref b172)])) rfl rfl (hb hby at_23)
  have V183 : Arv Z h183 b172 k172 .int (56 : Int32) (own_tl 4) (.int (0 : Int32)) := own_cast (own_set ⟨3, by decide⟩) <| Arv.set Ar182 q182 S182 M182 H182 G182 rfl W183 3 rfl (Nat.lt_of_lt_of_eq (by decide : 3 < 56) (own_len ⟨3, by decide⟩).symm)
  have K183 := K180.wr W183 (Or.inr sz_b172)
  have N183 := Fr.snoc X183 NN180 gg_b172
  have pre184 : ∀ t, Steps p.tables e below (T183.setTop (mkF m 24 #[.val (.long q0), .second, .val (.long q2), .second, .val (.int p4), .val (.int p5), .unset, .unset, .unset, .unset, .unset, .unset, .unset, .unset, .unset, .unset, .unset, .unset] [(.ref b172)])) t → Steps p.tables e below (s₁.setTop (entryFrame m #[(.long q0), (.long q2), (.int p4), (.int p5)] maxLocals)) t := fun t k => by
    refine pre181 _ ?_
    show Steps p.tables e below (T180.setTop (mkF m 19 #[.val (.long q0), .second, .val (.long q2), .second, .val (.int p4), .val (.int p5), .unset, .unset, .unset, .unset, .unset, .unset, .unset, .unset, .unset, .unset, .unset, .unset] [(.ref b172)])) _
    refine XS.dup XX180.here hx rfl (hb hby at_19) rfl rfl ?_
    show Steps p.tables e below (T180.setTop (mkF m 20 #[.val (.long q0), .second, .val (.long q2), .second, .val (.int p4), .val (.int p5), .unset, .unset, .unset, .unset, .unset, .unset, .unset, .unset, .unset, .unset, .unset, .unset] [(.ref b172), (.ref b172)])) _
    refine XS.iconst XX180.here hx rfl (hb hby at_20) ?_
    show Steps p.tables e below (T180.setTop (mkF m 21 #[.val (.long q0), .second, .val (.long q2), .second, .val (.int p4), .val (.int p5), .unset, .unset, .unset, .unset, .unset, .unset, .unset, .unset, .unset, .unset, .unset, .unset] [(.int (3 : Int32)), (.ref b172), (.ref b172)])) _
    refine XS.bipush XX180.here hx rfl (hb hby at_21) ?_
    show Steps p.tables e below (T180.setTop (mkF m 23 #[.val (.long q0), .second, .val (.long q2), .second, .val (.int p4), .val (.int p5), .unset, .unset, .unset, .unset, .unset, .unset, .unset, .unset, .unset, .unset, .unset, .unset] [(.int (61 : Int32)), (.int (3 : Int32)), (.ref b172), (.ref b172)])) _
    refine st183 _ ?_
    exact k
  obtain ⟨LL183, XX183, NN183⟩ : ∃ LL, Stand p l e room_1 s m #[(.long q0), (.long q2), (.int p4), (.int p5)] below meth c T183 LL 1 56 ∧ Fr n0 LL := ⟨_, X183, N183⟩
  clear cl182 Ar182 q182 S182 M182 H182 G182 hin182 W183 st183 XX180 NN180 LL180 e180 V180 K180 T180 h180 pre181 X183 N183
  obtain ⟨cl185, Ar185, q185, S185, M185, H185, G185⟩ := id V183
  have hin185 : ¬ ((4 : Int32) < 0 ∨ cl185.slots.size ≤ ((4 : Int32)).toNatClampNeg) := inb_of S185 ⟨by decide, by decide⟩
  obtain ⟨T186, h186, X186, e186, W186, st186⟩ := stI XX183 hx hZ e183 Ar185 (j := (4 : Int32)) hin185 (g := (mkF m 28 #[.val (.long q0), .second, .val (.long q2), .second, .val (.int p4), .val (.int p5), .unset, .unset, .unset, .unset, .unset, .unset, .unset, .unset, .unset, .unset, .unset, .unset] [(.int (124 : Int32)), (.int (4 : Int32)), (.ref b172), (.ref b172)])) rfl rfl (hb hby at_28)
  have V186 : Arv Z h186 b172 k172 .int (56 : Int32) (own_tl 5) (.int (0 : Int32)) := own_cast (own_set ⟨4, by decide⟩) <| Arv.set Ar185 q185 S185 M185 H185 G185 rfl W186 4 rfl (Nat.lt_of_lt_of_eq (by decide : 4 < 56) (own_len ⟨4, by decide⟩).symm)
  have K186 := K183.wr W186 (Or.inr sz_b172)
  have N186 := Fr.snoc X186 NN183 gg_b172
  have pre187 : ∀ t, Steps p.tables e below (T186.setTop (mkF m 29 #[.val (.long q0), .second, .val (.long q2), .second, .val (.int p4), .val (.int p5), .unset, .unset, .unset, .unset, .unset, .unset, .unset, .unset, .unset, .unset, .unset, .unset] [(.ref b172)])) t → Steps p.tables e below (s₁.setTop (entryFrame m #[(.long q0), (.long q2), (.int p4), (.int p5)] maxLocals)) t := fun t k => by
    refine pre184 _ ?_
    show Steps p.tables e below (T183.setTop (mkF m 24 #[.val (.long q0), .second, .val (.long q2), .second, .val (.int p4), .val (.int p5), .unset, .unset, .unset, .unset, .unset, .unset, .unset, .unset, .unset, .unset, .unset, .unset] [(.ref b172)])) _
    refine XS.dup XX183.here hx rfl (hb hby at_24) rfl rfl ?_
    show Steps p.tables e below (T183.setTop (mkF m 25 #[.val (.long q0), .second, .val (.long q2), .second, .val (.int p4), .val (.int p5), .unset, .unset, .unset, .unset, .unset, .unset, .unset, .unset, .unset, .unset, .unset, .unset] [(.ref b172), (.ref b172)])) _
    refine XS.iconst XX183.here hx rfl (hb hby at_25) ?_
    show Steps p.tables e below (T183.setTop (mkF m 26 #[.val (.long q0), .second, .val (.long q2), .second, .val (.int p4), .val (.int p5), .unset, .unset, .unset, .unset, .unset, .unset, .unset, .unset, .unset, .unset, .unset, .unset] [(.int (4 : Int32)), (.ref b172), (.ref b172)])) _
    refine XS.bipush XX183.here hx rfl (hb hby at_26) ?_
    show Steps p.tables e below (T183.setTop (mkF m 28 #[.val (.long q0), .second, .val (.long q2), .second, .val (.int p4), .val (.int p5), .unset, .unset, .unset, .unset, .unset, .unset, .unset, .unset, .unset, .unset, .unset, .unset] [(.int (124 : Int32)), (.int (4 : Int32)), (.ref b172), (.ref b172)])) _
    refine st186 _ ?_
    exact k
  obtain ⟨LL186, XX186, NN186⟩ : ∃ LL, Stand p l e room_1 s m #[(.long q0), (.long q2), (.int p4), (.int p5)] below meth c T186 LL 1 56 ∧ Fr n0 LL := ⟨_, X186, N186⟩
  clear cl185 Ar185 q185 S185 M185 H185 G185 hin185 W186 st186 XX183 NN183 LL183 e183 V183 K183 T183 h183 pre184 X186 N186
  obtain ⟨cl188, Ar188, q188, S188, M188, H188, G188⟩ := id V186
  have hin188 : ¬ ((5 : Int32) < 0 ∨ cl188.slots.size ≤ ((5 : Int32)).toNatClampNeg) := inb_of S188 ⟨by decide, by decide⟩
  obtain ⟨T189, h189, X189, e189, W189, st189⟩ := stI XX186 hx hZ e186 Ar188 (j := (5 : Int32)) hin188 (g := (mkF m 33 #[.val (.long q0), .second, .val (.long q2), .second, .val (.int p4), .val (.int p5), .unset, .unset, .unset, .unset, .unset, .unset, .unset, .unset, .unset, .unset, .unset, .unset] [(.int (62 : Int32)), (.int (5 : Int32)), (.ref b172), (.ref b172)])) rfl rfl (hb hby at_33)
  have V189 : Arv Z h189 b172 k172 .int (56 : Int32) (own_tl 6) (.int (0 : Int32)) := own_cast (own_set ⟨5, by decide⟩) <| Arv.set Ar188 q188 S188 M188 H188 G188 rfl W189 5 rfl (Nat.lt_of_lt_of_eq (by decide : 5 < 56) (own_len ⟨5, by decide⟩).symm)
  have K189 := K186.wr W189 (Or.inr sz_b172)
  have N189 := Fr.snoc X189 NN186 gg_b172
  have pre190 : ∀ t, Steps p.tables e below (T189.setTop (mkF m 34 #[.val (.long q0), .second, .val (.long q2), .second, .val (.int p4), .val (.int p5), .unset, .unset, .unset, .unset, .unset, .unset, .unset, .unset, .unset, .unset, .unset, .unset] [(.ref b172)])) t → Steps p.tables e below (s₁.setTop (entryFrame m #[(.long q0), (.long q2), (.int p4), (.int p5)] maxLocals)) t := fun t k => by
    refine pre187 _ ?_
    show Steps p.tables e below (T186.setTop (mkF m 29 #[.val (.long q0), .second, .val (.long q2), .second, .val (.int p4), .val (.int p5), .unset, .unset, .unset, .unset, .unset, .unset, .unset, .unset, .unset, .unset, .unset, .unset] [(.ref b172)])) _
    refine XS.dup XX186.here hx rfl (hb hby at_29) rfl rfl ?_
    show Steps p.tables e below (T186.setTop (mkF m 30 #[.val (.long q0), .second, .val (.long q2), .second, .val (.int p4), .val (.int p5), .unset, .unset, .unset, .unset, .unset, .unset, .unset, .unset, .unset, .unset, .unset, .unset] [(.ref b172), (.ref b172)])) _
    refine XS.iconst XX186.here hx rfl (hb hby at_30) ?_
    show Steps p.tables e below (T186.setTop (mkF m 31 #[.val (.long q0), .second, .val (.long q2), .second, .val (.int p4), .val (.int p5), .unset, .unset, .unset, .unset, .unset, .unset, .unset, .unset, .unset, .unset, .unset, .unset] [(.int (5 : Int32)), (.ref b172), (.ref b172)])) _
    refine XS.bipush XX186.here hx rfl (hb hby at_31) ?_
    show Steps p.tables e below (T186.setTop (mkF m 33 #[.val (.long q0), .second, .val (.long q2), .second, .val (.int p4), .val (.int p5), .unset, .unset, .unset, .unset, .unset, .unset, .unset, .unset, .unset, .unset, .unset, .unset] [(.int (62 : Int32)), (.int (5 : Int32)), (.ref b172), (.ref b172)])) _
    refine st189 _ ?_
    exact k
  obtain ⟨LL189, XX189, NN189⟩ : ∃ LL, Stand p l e room_1 s m #[(.long q0), (.long q2), (.int p4), (.int p5)] below meth c T189 LL 1 56 ∧ Fr n0 LL := ⟨_, X189, N189⟩
  clear cl188 Ar188 q188 S188 M188 H188 G188 hin188 W189 st189 XX186 NN186 LL186 e186 V186 K186 T186 h186 pre187 X189 N189
  obtain ⟨cl191, Ar191, q191, S191, M191, H191, G191⟩ := id V189
  have hin191 : ¬ ((6 : Int32) < 0 ∨ cl191.slots.size ≤ ((6 : Int32)).toNatClampNeg) := inb_of S191 ⟨by decide, by decide⟩
  obtain ⟨T192, h192, X192, e192, W192, st192⟩ := stI XX189 hx hZ e189 Ar191 (j := (6 : Int32)) hin191 (g := (mkF m 39 #[.val (.long q0), .second, .val (.long q2), .second, .val (.int p4), .val (.int p5), .unset, .unset, .unset, .unset, .unset, .unset, .unset, .unset, .unset, .unset, .unset, .unset] [(.int (31 : Int32)), (.int (6 : Int32)), (.ref b172), (.ref b172)])) rfl rfl (hb hby at_39)
  have V192 : Arv Z h192 b172 k172 .int (56 : Int32) (own_tl 7) (.int (0 : Int32)) := own_cast (own_set ⟨6, by decide⟩) <| Arv.set Ar191 q191 S191 M191 H191 G191 rfl W192 6 rfl (Nat.lt_of_lt_of_eq (by decide : 6 < 56) (own_len ⟨6, by decide⟩).symm)
  have K192 := K189.wr W192 (Or.inr sz_b172)
  have N192 := Fr.snoc X192 NN189 gg_b172
  have pre193 : ∀ t, Steps p.tables e below (T192.setTop (mkF m 40 #[.val (.long q0), .second, .val (.long q2), .second, .val (.int p4), .val (.int p5), .unset, .unset, .unset, .unset, .unset, .unset, .unset, .unset, .unset, .unset, .unset, .unset] [(.ref b172)])) t → Steps p.tables e below (s₁.setTop (entryFrame m #[(.long q0), (.long q2), (.int p4), (.int p5)] maxLocals)) t := fun t k => by
    refine pre190 _ ?_
    show Steps p.tables e below (T189.setTop (mkF m 34 #[.val (.long q0), .second, .val (.long q2), .second, .val (.int p4), .val (.int p5), .unset, .unset, .unset, .unset, .unset, .unset, .unset, .unset, .unset, .unset, .unset, .unset] [(.ref b172)])) _
    refine XS.dup XX189.here hx rfl (hb hby at_34) rfl rfl ?_
    show Steps p.tables e below (T189.setTop (mkF m 35 #[.val (.long q0), .second, .val (.long q2), .second, .val (.int p4), .val (.int p5), .unset, .unset, .unset, .unset, .unset, .unset, .unset, .unset, .unset, .unset, .unset, .unset] [(.ref b172), (.ref b172)])) _
    refine XS.bipush XX189.here hx rfl (hb hby at_35) ?_
    show Steps p.tables e below (T189.setTop (mkF m 37 #[.val (.long q0), .second, .val (.long q2), .second, .val (.int p4), .val (.int p5), .unset, .unset, .unset, .unset, .unset, .unset, .unset, .unset, .unset, .unset, .unset, .unset] [(.int (6 : Int32)), (.ref b172), (.ref b172)])) _
    refine XS.bipush XX189.here hx rfl (hb hby at_37) ?_
    show Steps p.tables e below (T189.setTop (mkF m 39 #[.val (.long q0), .second, .val (.long q2), .second, .val (.int p4), .val (.int p5), .unset, .unset, .unset, .unset, .unset, .unset, .unset, .unset, .unset, .unset, .unset, .unset] [(.int (31 : Int32)), (.int (6 : Int32)), (.ref b172), (.ref b172)])) _
    refine st192 _ ?_
    exact k
  obtain ⟨LL192, XX192, NN192⟩ : ∃ LL, Stand p l e room_1 s m #[(.long q0), (.long q2), (.int p4), (.int p5)] below meth c T192 LL 1 56 ∧ Fr n0 LL := ⟨_, X192, N192⟩
  clear cl191 Ar191 q191 S191 M191 H191 G191 hin191 W192 st192 XX189 NN189 LL189 e189 V189 K189 T189 h189 pre190 X192 N192
  obtain ⟨cl194, Ar194, q194, S194, M194, H194, G194⟩ := id V192
  have hin194 : ¬ ((7 : Int32) < 0 ∨ cl194.slots.size ≤ ((7 : Int32)).toNatClampNeg) := inb_of S194 ⟨by decide, by decide⟩
  obtain ⟨T195, h195, X195, e195, W195, st195⟩ := stI XX192 hx hZ e192 Ar194 (j := (7 : Int32)) hin194 (g := (mkF m 45 #[.val (.long q0), .second, .val (.long q2), .second, .val (.int p4), .val (.int p5), .unset, .unset, .unset, .unset, .unset, .unset, .unset, .unset, .unset, .unset, .unset, .unset] [(.int (109 : Int32)), (.int (7 : Int32)), (.ref b172), (.ref b172)])) rfl rfl (hb hby at_45)
  have V195 : Arv Z h195 b172 k172 .int (56 : Int32) (own_tl 8) (.int (0 : Int32)) := own_cast (own_set ⟨7, by decide⟩) <| Arv.set Ar194 q194 S194 M194 H194 G194 rfl W195 7 rfl (Nat.lt_of_lt_of_eq (by decide : 7 < 56) (own_len ⟨7, by decide⟩).symm)
  have K195 := K192.wr W195 (Or.inr sz_b172)
  have N195 := Fr.snoc X195 NN192 gg_b172
  have pre196 : ∀ t, Steps p.tables e below (T195.setTop (mkF m 46 #[.val (.long q0), .second, .val (.long q2), .second, .val (.int p4), .val (.int p5), .unset, .unset, .unset, .unset, .unset, .unset, .unset, .unset, .unset, .unset, .unset, .unset] [(.ref b172)])) t → Steps p.tables e below (s₁.setTop (entryFrame m #[(.long q0), (.long q2), (.int p4), (.int p5)] maxLocals)) t := fun t k => by
    refine pre193 _ ?_
    show Steps p.tables e below (T192.setTop (mkF m 40 #[.val (.long q0), .second, .val (.long q2), .second, .val (.int p4), .val (.int p5), .unset, .unset, .unset, .unset, .unset, .unset, .unset, .unset, .unset, .unset, .unset, .unset] [(.ref b172)])) _
    refine XS.dup XX192.here hx rfl (hb hby at_40) rfl rfl ?_
    show Steps p.tables e below (T192.setTop (mkF m 41 #[.val (.long q0), .second, .val (.long q2), .second, .val (.int p4), .val (.int p5), .unset, .unset, .unset, .unset, .unset, .unset, .unset, .unset, .unset, .unset, .unset, .unset] [(.ref b172), (.ref b172)])) _
    refine XS.bipush XX192.here hx rfl (hb hby at_41) ?_
    show Steps p.tables e below (T192.setTop (mkF m 43 #[.val (.long q0), .second, .val (.long q2), .second, .val (.int p4), .val (.int p5), .unset, .unset, .unset, .unset, .unset, .unset, .unset, .unset, .unset, .unset, .unset, .unset] [(.int (7 : Int32)), (.ref b172), (.ref b172)])) _
    refine XS.bipush XX192.here hx rfl (hb hby at_43) ?_
    show Steps p.tables e below (T192.setTop (mkF m 45 #[.val (.long q0), .second, .val (.long q2), .second, .val (.int p4), .val (.int p5), .unset, .unset, .unset, .unset, .unset, .unset, .unset, .unset, .unset, .unset, .unset, .unset] [(.int (109 : Int32)), (.int (7 : Int32)), (.ref b172), (.ref b172)])) _
    refine st195 _ ?_
    exact k
  obtain ⟨LL195, XX195, NN195⟩ : ∃ LL, Stand p l e room_1 s m #[(.long q0), (.long q2), (.int p4), (.int p5)] below meth c T195 LL 1 56 ∧ Fr n0 LL := ⟨_, X195, N195⟩
  clear cl194 Ar194 q194 S194 M194 H194 G194 hin194 W195 st195 XX192 NN192 LL192 e192 V192 K192 T192 h192 pre193 X195 N195
  obtain ⟨cl197, Ar197, q197, S197, M197, H197, G197⟩ := id V195
  have hin197 : ¬ ((8 : Int32) < 0 ∨ cl197.slots.size ≤ ((8 : Int32)).toNatClampNeg) := inb_of S197 ⟨by decide, by decide⟩
  obtain ⟨T198, h198, X198, e198, W198, st198⟩ := stI XX195 hx hZ e195 Ar197 (j := (8 : Int32)) hin197 (g := (mkF m 51 #[.val (.long q0), .second, .val (.long q2), .second, .val (.int p4), .val (.int p5), .unset, .unset, .unset, .unset, .unset, .unset, .unset, .unset, .unset, .unset, .unset, .unset] [(.int (84 : Int32)), (.int (8 : Int32)), (.ref b172), (.ref b172)])) rfl rfl (hb hby at_51)
  have V198 : Arv Z h198 b172 k172 .int (56 : Int32) (own_tl 9) (.int (0 : Int32)) := own_cast (own_set ⟨8, by decide⟩) <| Arv.set Ar197 q197 S197 M197 H197 G197 rfl W198 8 rfl (Nat.lt_of_lt_of_eq (by decide : 8 < 56) (own_len ⟨8, by decide⟩).symm)
  have K198 := K195.wr W198 (Or.inr sz_b172)
  have N198 := Fr.snoc X198 NN195 gg_b172
  have pre199 : ∀ t, Steps p.tables e below (T198.setTop (mkF m 52 #[.val (.long q0), .second, .val (.long q2), .second, .val (.int p4), .val (.int p5), .unset, .unset, .unset, .unset, .unset, .unset, .unset, .unset, .unset, .unset, .unset, .unset] [(.ref b172)])) t → Steps p.tables e below (s₁.setTop (entryFrame m #[(.long q0), (.long q2), (.int p4), (.int p5)] maxLocals)) t := fun t k => by
    refine pre196 _ ?_
    show Steps p.tables e below (T195.setTop (mkF m 46 #[.val (.long q0), .second, .val (.long q2), .second, .val (.int p4), .val (.int p5), .unset, .unset, .unset, .unset, .unset, .unset, .unset, .unset, .unset, .unset, .unset, .unset] [(.ref b172)])) _
    refine XS.dup XX195.here hx rfl (hb hby at_46) rfl rfl ?_
    show Steps p.tables e below (T195.setTop (mkF m 47 #[.val (.long q0), .second, .val (.long q2), .second, .val (.int p4), .val (.int p5), .unset, .unset, .unset, .unset, .unset, .unset, .unset, .unset, .unset, .unset, .unset, .unset] [(.ref b172), (.ref b172)])) _
    refine XS.bipush XX195.here hx rfl (hb hby at_47) ?_
    show Steps p.tables e below (T195.setTop (mkF m 49 #[.val (.long q0), .second, .val (.long q2), .second, .val (.int p4), .val (.int p5), .unset, .unset, .unset, .unset, .unset, .unset, .unset, .unset, .unset, .unset, .unset, .unset] [(.int (8 : Int32)), (.ref b172), (.ref b172)])) _
    refine XS.bipush XX195.here hx rfl (hb hby at_49) ?_
    show Steps p.tables e below (T195.setTop (mkF m 51 #[.val (.long q0), .second, .val (.long q2), .second, .val (.int p4), .val (.int p5), .unset, .unset, .unset, .unset, .unset, .unset, .unset, .unset, .unset, .unset, .unset, .unset] [(.int (84 : Int32)), (.int (8 : Int32)), (.ref b172), (.ref b172)])) _
    refine st198 _ ?_
    exact k
  obtain ⟨LL198, XX198, NN198⟩ : ∃ LL, Stand p l e room_1 s m #[(.long q0), (.long q2), (.int p4), (.int p5)] below meth c T198 LL 1 56 ∧ Fr n0 LL := ⟨_, X198, N198⟩
  clear cl197 Ar197 q197 S197 M197 H197 G197 hin197 W198 st198 XX195 NN195 LL195 e195 V195 K195 T195 h195 pre196 X198 N198
  obtain ⟨cl200, Ar200, q200, S200, M200, H200, G200⟩ := id V198
  have hin200 : ¬ ((9 : Int32) < 0 ∨ cl200.slots.size ≤ ((9 : Int32)).toNatClampNeg) := inb_of S200 ⟨by decide, by decide⟩
  obtain ⟨T201, h201, X201, e201, W201, st201⟩ := stI XX198 hx hZ e198 Ar200 (j := (9 : Int32)) hin200 (g := (mkF m 57 #[.val (.long q0), .second, .val (.long q2), .second, .val (.int p4), .val (.int p5), .unset, .unset, .unset, .unset, .unset, .unset, .unset, .unset, .unset, .unset, .unset, .unset] [(.int (42 : Int32)), (.int (9 : Int32)), (.ref b172), (.ref b172)])) rfl rfl (hb hby at_57)
  have V201 : Arv Z h201 b172 k172 .int (56 : Int32) (own_tl 10) (.int (0 : Int32)) := own_cast (own_set ⟨9, by decide⟩) <| Arv.set Ar200 q200 S200 M200 H200 G200 rfl W201 9 rfl (Nat.lt_of_lt_of_eq (by decide : 9 < 56) (own_len ⟨9, by decide⟩).symm)
  have K201 := K198.wr W201 (Or.inr sz_b172)
  have N201 := Fr.snoc X201 NN198 gg_b172
  have pre202 : ∀ t, Steps p.tables e below (T201.setTop (mkF m 58 #[.val (.long q0), .second, .val (.long q2), .second, .val (.int p4), .val (.int p5), .unset, .unset, .unset, .unset, .unset, .unset, .unset, .unset, .unset, .unset, .unset, .unset] [(.ref b172)])) t → Steps p.tables e below (s₁.setTop (entryFrame m #[(.long q0), (.long q2), (.int p4), (.int p5)] maxLocals)) t := fun t k => by
    refine pre199 _ ?_
    show Steps p.tables e below (T198.setTop (mkF m 52 #[.val (.long q0), .second, .val (.long q2), .second, .val (.int p4), .val (.int p5), .unset, .unset, .unset, .unset, .unset, .unset, .unset, .unset, .unset, .unset, .unset, .unset] [(.ref b172)])) _
    refine XS.dup XX198.here hx rfl (hb hby at_52) rfl rfl ?_
    show Steps p.tables e below (T198.setTop (mkF m 53 #[.val (.long q0), .second, .val (.long q2), .second, .val (.int p4), .val (.int p5), .unset, .unset, .unset, .unset, .unset, .unset, .unset, .unset, .unset, .unset, .unset, .unset] [(.ref b172), (.ref b172)])) _
    refine XS.bipush XX198.here hx rfl (hb hby at_53) ?_
    show Steps p.tables e below (T198.setTop (mkF m 55 #[.val (.long q0), .second, .val (.long q2), .second, .val (.int p4), .val (.int p5), .unset, .unset, .unset, .unset, .unset, .unset, .unset, .unset, .unset, .unset, .unset, .unset] [(.int (9 : Int32)), (.ref b172), (.ref b172)])) _
    refine XS.bipush XX198.here hx rfl (hb hby at_55) ?_
    show Steps p.tables e below (T198.setTop (mkF m 57 #[.val (.long q0), .second, .val (.long q2), .second, .val (.int p4), .val (.int p5), .unset, .unset, .unset, .unset, .unset, .unset, .unset, .unset, .unset, .unset, .unset, .unset] [(.int (42 : Int32)), (.int (9 : Int32)), (.ref b172), (.ref b172)])) _
    refine st201 _ ?_
    exact k
  obtain ⟨LL201, XX201, NN201⟩ : ∃ LL, Stand p l e room_1 s m #[(.long q0), (.long q2), (.int p4), (.int p5)] below meth c T201 LL 1 56 ∧ Fr n0 LL := ⟨_, X201, N201⟩
  clear cl200 Ar200 q200 S200 M200 H200 G200 hin200 W201 st201 XX198 NN198 LL198 e198 V198 K198 T198 h198 pre199 X201 N201
  obtain ⟨cl203, Ar203, q203, S203, M203, H203, G203⟩ := id V201
  have hin203 : ¬ ((10 : Int32) < 0 ∨ cl203.slots.size ≤ ((10 : Int32)).toNatClampNeg) := inb_of S203 ⟨by decide, by decide⟩
  obtain ⟨T204, h204, X204, e204, W204, st204⟩ := stI XX201 hx hZ e201 Ar203 (j := (10 : Int32)) hin203 (g := (mkF m 63 #[.val (.long q0), .second, .val (.long q2), .second, .val (.int p4), .val (.int p5), .unset, .unset, .unset, .unset, .unset, .unset, .unset, .unset, .unset, .unset, .unset, .unset] [(.int (21 : Int32)), (.int (10 : Int32)), (.ref b172), (.ref b172)])) rfl rfl (hb hby at_63)
  have V204 : Arv Z h204 b172 k172 .int (56 : Int32) (own_tl 11) (.int (0 : Int32)) := own_cast (own_set ⟨10, by decide⟩) <| Arv.set Ar203 q203 S203 M203 H203 G203 rfl W204 10 rfl (Nat.lt_of_lt_of_eq (by decide : 10 < 56) (own_len ⟨10, by decide⟩).symm)
  have K204 := K201.wr W204 (Or.inr sz_b172)
  have N204 := Fr.snoc X204 NN201 gg_b172
  have pre205 : ∀ t, Steps p.tables e below (T204.setTop (mkF m 64 #[.val (.long q0), .second, .val (.long q2), .second, .val (.int p4), .val (.int p5), .unset, .unset, .unset, .unset, .unset, .unset, .unset, .unset, .unset, .unset, .unset, .unset] [(.ref b172)])) t → Steps p.tables e below (s₁.setTop (entryFrame m #[(.long q0), (.long q2), (.int p4), (.int p5)] maxLocals)) t := fun t k => by
    refine pre202 _ ?_
    show Steps p.tables e below (T201.setTop (mkF m 58 #[.val (.long q0), .second, .val (.long q2), .second, .val (.int p4), .val (.int p5), .unset, .unset, .unset, .unset, .unset, .unset, .unset, .unset, .unset, .unset, .unset, .unset] [(.ref b172)])) _
    refine XS.dup XX201.here hx rfl (hb hby at_58) rfl rfl ?_
    show Steps p.tables e below (T201.setTop (mkF m 59 #[.val (.long q0), .second, .val (.long q2), .second, .val (.int p4), .val (.int p5), .unset, .unset, .unset, .unset, .unset, .unset, .unset, .unset, .unset, .unset, .unset, .unset] [(.ref b172), (.ref b172)])) _
    refine XS.bipush XX201.here hx rfl (hb hby at_59) ?_
    show Steps p.tables e below (T201.setTop (mkF m 61 #[.val (.long q0), .second, .val (.long q2), .second, .val (.int p4), .val (.int p5), .unset, .unset, .unset, .unset, .unset, .unset, .unset, .unset, .unset, .unset, .unset, .unset] [(.int (10 : Int32)), (.ref b172), (.ref b172)])) _
    refine XS.bipush XX201.here hx rfl (hb hby at_61) ?_
    show Steps p.tables e below (T201.setTop (mkF m 63 #[.val (.long q0), .second, .val (.long q2), .second, .val (.int p4), .val (.int p5), .unset, .unset, .unset, .unset, .unset, .unset, .unset, .unset, .unset, .unset, .unset, .unset] [(.int (21 : Int32)), (.int (10 : Int32)), (.ref b172), (.ref b172)])) _
    refine st204 _ ?_
    exact k
  obtain ⟨LL204, XX204, NN204⟩ : ∃ LL, Stand p l e room_1 s m #[(.long q0), (.long q2), (.int p4), (.int p5)] below meth c T204 LL 1 56 ∧ Fr n0 LL := ⟨_, X204, N204⟩
  clear cl203 Ar203 q203 S203 M203 H203 G203 hin203 W204 st204 XX201 NN201 LL201 e201 V201 K201 T201 h201 pre202 X204 N204
  obtain ⟨cl206, Ar206, q206, S206, M206, H206, G206⟩ := id V204
  have hin206 : ¬ ((11 : Int32) < 0 ∨ cl206.slots.size ≤ ((11 : Int32)).toNatClampNeg) := inb_of S206 ⟨by decide, by decide⟩
  obtain ⟨T207, h207, X207, e207, W207, st207⟩ := stI XX204 hx hZ e204 Ar206 (j := (11 : Int32)) hin206 (g := (mkF m 69 #[.val (.long q0), .second, .val (.long q2), .second, .val (.int p4), .val (.int p5), .unset, .unset, .unset, .unset, .unset, .unset, .unset, .unset, .unset, .unset, .unset, .unset] [(.int (104 : Int32)), (.int (11 : Int32)), (.ref b172), (.ref b172)])) rfl rfl (hb hby at_69)
  have V207 : Arv Z h207 b172 k172 .int (56 : Int32) (own_tl 12) (.int (0 : Int32)) := own_cast (own_set ⟨11, by decide⟩) <| Arv.set Ar206 q206 S206 M206 H206 G206 rfl W207 11 rfl (Nat.lt_of_lt_of_eq (by decide : 11 < 56) (own_len ⟨11, by decide⟩).symm)
  have K207 := K204.wr W207 (Or.inr sz_b172)
  have N207 := Fr.snoc X207 NN204 gg_b172
  have pre208 : ∀ t, Steps p.tables e below (T207.setTop (mkF m 70 #[.val (.long q0), .second, .val (.long q2), .second, .val (.int p4), .val (.int p5), .unset, .unset, .unset, .unset, .unset, .unset, .unset, .unset, .unset, .unset, .unset, .unset] [(.ref b172)])) t → Steps p.tables e below (s₁.setTop (entryFrame m #[(.long q0), (.long q2), (.int p4), (.int p5)] maxLocals)) t := fun t k => by
    refine pre205 _ ?_
    show Steps p.tables e below (T204.setTop (mkF m 64 #[.val (.long q0), .second, .val (.long q2), .second, .val (.int p4), .val (.int p5), .unset, .unset, .unset, .unset, .unset, .unset, .unset, .unset, .unset, .unset, .unset, .unset] [(.ref b172)])) _
    refine XS.dup XX204.here hx rfl (hb hby at_64) rfl rfl ?_
    show Steps p.tables e below (T204.setTop (mkF m 65 #[.val (.long q0), .second, .val (.long q2), .second, .val (.int p4), .val (.int p5), .unset, .unset, .unset, .unset, .unset, .unset, .unset, .unset, .unset, .unset, .unset, .unset] [(.ref b172), (.ref b172)])) _
    refine XS.bipush XX204.here hx rfl (hb hby at_65) ?_
    show Steps p.tables e below (T204.setTop (mkF m 67 #[.val (.long q0), .second, .val (.long q2), .second, .val (.int p4), .val (.int p5), .unset, .unset, .unset, .unset, .unset, .unset, .unset, .unset, .unset, .unset, .unset, .unset] [(.int (11 : Int32)), (.ref b172), (.ref b172)])) _
    refine XS.bipush XX204.here hx rfl (hb hby at_67) ?_
    show Steps p.tables e below (T204.setTop (mkF m 69 #[.val (.long q0), .second, .val (.long q2), .second, .val (.int p4), .val (.int p5), .unset, .unset, .unset, .unset, .unset, .unset, .unset, .unset, .unset, .unset, .unset, .unset] [(.int (104 : Int32)), (.int (11 : Int32)), (.ref b172), (.ref b172)])) _
    refine st207 _ ?_
    exact k
  obtain ⟨LL207, XX207, NN207⟩ : ∃ LL, Stand p l e room_1 s m #[(.long q0), (.long q2), (.int p4), (.int p5)] below meth c T207 LL 1 56 ∧ Fr n0 LL := ⟨_, X207, N207⟩
  clear cl206 Ar206 q206 S206 M206 H206 G206 hin206 W207 st207 XX204 NN204 LL204 e204 V204 K204 T204 h204 pre205 X207 N207
  obtain ⟨cl209, Ar209, q209, S209, M209, H209, G209⟩ := id V207
  have hin209 : ¬ ((12 : Int32) < 0 ∨ cl209.slots.size ≤ ((12 : Int32)).toNatClampNeg) := inb_of S209 ⟨by decide, by decide⟩
  obtain ⟨T210, h210, X210, e210, W210, st210⟩ := stI XX207 hx hZ e207 Ar209 (j := (12 : Int32)) hin209 (g := (mkF m 75 #[.val (.long q0), .second, .val (.long q2), .second, .val (.int p4), .val (.int p5), .unset, .unset, .unset, .unset, .unset, .unset, .unset, .unset, .unset, .unset, .unset, .unset] [(.int (52 : Int32)), (.int (12 : Int32)), (.ref b172), (.ref b172)])) rfl rfl (hb hby at_75)
  have V210 : Arv Z h210 b172 k172 .int (56 : Int32) (own_tl 13) (.int (0 : Int32)) := own_cast (own_set ⟨12, by decide⟩) <| Arv.set Ar209 q209 S209 M209 H209 G209 rfl W210 12 rfl (Nat.lt_of_lt_of_eq (by decide : 12 < 56) (own_len ⟨12, by decide⟩).symm)
  have K210 := K207.wr W210 (Or.inr sz_b172)
  have N210 := Fr.snoc X210 NN207 gg_b172
  have pre211 : ∀ t, Steps p.tables e below (T210.setTop (mkF m 76 #[.val (.long q0), .second, .val (.long q2), .second, .val (.int p4), .val (.int p5), .unset, .unset, .unset, .unset, .unset, .unset, .unset, .unset, .unset, .unset, .unset, .unset] [(.ref b172)])) t → Steps p.tables e below (s₁.setTop (entryFrame m #[(.long q0), (.long q2), (.int p4), (.int p5)] maxLocals)) t := fun t k => by
    refine pre208 _ ?_
    show Steps p.tables e below (T207.setTop (mkF m 70 #[.val (.long q0), .second, .val (.long q2), .second, .val (.int p4), .val (.int p5), .unset, .unset, .unset, .unset, .unset, .unset, .unset, .unset, .unset, .unset, .unset, .unset] [(.ref b172)])) _
    refine XS.dup XX207.here hx rfl (hb hby at_70) rfl rfl ?_
    show Steps p.tables e below (T207.setTop (mkF m 71 #[.val (.long q0), .second, .val (.long q2), .second, .val (.int p4), .val (.int p5), .unset, .unset, .unset, .unset, .unset, .unset, .unset, .unset, .unset, .unset, .unset, .unset] [(.ref b172), (.ref b172)])) _
    refine XS.bipush XX207.here hx rfl (hb hby at_71) ?_
    show Steps p.tables e below (T207.setTop (mkF m 73 #[.val (.long q0), .second, .val (.long q2), .second, .val (.int p4), .val (.int p5), .unset, .unset, .unset, .unset, .unset, .unset, .unset, .unset, .unset, .unset, .unset, .unset] [(.int (12 : Int32)), (.ref b172), (.ref b172)])) _
    refine XS.bipush XX207.here hx rfl (hb hby at_73) ?_
    show Steps p.tables e below (T207.setTop (mkF m 75 #[.val (.long q0), .second, .val (.long q2), .second, .val (.int p4), .val (.int p5), .unset, .unset, .unset, .unset, .unset, .unset, .unset, .unset, .unset, .unset, .unset, .unset] [(.int (52 : Int32)), (.int (12 : Int32)), (.ref b172), (.ref b172)])) _
    refine st210 _ ?_
    exact k
  obtain ⟨LL210, XX210, NN210⟩ : ∃ LL, Stand p l e room_1 s m #[(.long q0), (.long q2), (.int p4), (.int p5)] below meth c T210 LL 1 56 ∧ Fr n0 LL := ⟨_, X210, N210⟩
  clear cl209 Ar209 q209 S209 M209 H209 G209 hin209 W210 st210 XX207 NN207 LL207 e207 V207 K207 T207 h207 pre208 X210 N210
  obtain ⟨cl212, Ar212, q212, S212, M212, H212, G212⟩ := id V210
  have hin212 : ¬ ((13 : Int32) < 0 ∨ cl212.slots.size ≤ ((13 : Int32)).toNatClampNeg) := inb_of S212 ⟨by decide, by decide⟩
  obtain ⟨T213, h213, X213, e213, W213, st213⟩ := stI XX210 hx hZ e210 Ar212 (j := (13 : Int32)) hin212 (g := (mkF m 81 #[.val (.long q0), .second, .val (.long q2), .second, .val (.int p4), .val (.int p5), .unset, .unset, .unset, .unset, .unset, .unset, .unset, .unset, .unset, .unset, .unset, .unset] [(.int (26 : Int32)), (.int (13 : Int32)), (.ref b172), (.ref b172)])) rfl rfl (hb hby at_81)
  have V213 : Arv Z h213 b172 k172 .int (56 : Int32) (own_tl 14) (.int (0 : Int32)) := own_cast (own_set ⟨13, by decide⟩) <| Arv.set Ar212 q212 S212 M212 H212 G212 rfl W213 13 rfl (Nat.lt_of_lt_of_eq (by decide : 13 < 56) (own_len ⟨13, by decide⟩).symm)
  have K213 := K210.wr W213 (Or.inr sz_b172)
  have N213 := Fr.snoc X213 NN210 gg_b172
  have pre214 : ∀ t, Steps p.tables e below (T213.setTop (mkF m 82 #[.val (.long q0), .second, .val (.long q2), .second, .val (.int p4), .val (.int p5), .unset, .unset, .unset, .unset, .unset, .unset, .unset, .unset, .unset, .unset, .unset, .unset] [(.ref b172)])) t → Steps p.tables e below (s₁.setTop (entryFrame m #[(.long q0), (.long q2), (.int p4), (.int p5)] maxLocals)) t := fun t k => by
    refine pre211 _ ?_
    show Steps p.tables e below (T210.setTop (mkF m 76 #[.val (.long q0), .second, .val (.long q2), .second, .val (.int p4), .val (.int p5), .unset, .unset, .unset, .unset, .unset, .unset, .unset, .unset, .unset, .unset, .unset, .unset] [(.ref b172)])) _
    refine XS.dup XX210.here hx rfl (hb hby at_76) rfl rfl ?_
    show Steps p.tables e below (T210.setTop (mkF m 77 #[.val (.long q0), .second, .val (.long q2), .second, .val (.int p4), .val (.int p5), .unset, .unset, .unset, .unset, .unset, .unset, .unset, .unset, .unset, .unset, .unset, .unset] [(.ref b172), (.ref b172)])) _
    refine XS.bipush XX210.here hx rfl (hb hby at_77) ?_
    show Steps p.tables e below (T210.setTop (mkF m 79 #[.val (.long q0), .second, .val (.long q2), .second, .val (.int p4), .val (.int p5), .unset, .unset, .unset, .unset, .unset, .unset, .unset, .unset, .unset, .unset, .unset, .unset] [(.int (13 : Int32)), (.ref b172), (.ref b172)])) _
    refine XS.bipush XX210.here hx rfl (hb hby at_79) ?_
    show Steps p.tables e below (T210.setTop (mkF m 81 #[.val (.long q0), .second, .val (.long q2), .second, .val (.int p4), .val (.int p5), .unset, .unset, .unset, .unset, .unset, .unset, .unset, .unset, .unset, .unset, .unset, .unset] [(.int (26 : Int32)), (.int (13 : Int32)), (.ref b172), (.ref b172)])) _
    refine st213 _ ?_
    exact k
  obtain ⟨LL213, XX213, NN213⟩ : ∃ LL, Stand p l e room_1 s m #[(.long q0), (.long q2), (.int p4), (.int p5)] below meth c T213 LL 1 56 ∧ Fr n0 LL := ⟨_, X213, N213⟩
  clear cl212 Ar212 q212 S212 M212 H212 G212 hin212 W213 st213 XX210 NN210 LL210 e210 V210 K210 T210 h210 pre211 X213 N213
  obtain ⟨cl215, Ar215, q215, S215, M215, H215, G215⟩ := id V213
  have hin215 : ¬ ((14 : Int32) < 0 ∨ cl215.slots.size ≤ ((14 : Int32)).toNatClampNeg) := inb_of S215 ⟨by decide, by decide⟩
  obtain ⟨T216, h216, X216, e216, W216, st216⟩ := stI XX213 hx hZ e213 Ar215 (j := (14 : Int32)) hin215 (g := (mkF m 87 #[.val (.long q0), .second, .val (.long q2), .second, .val (.int p4), .val (.int p5), .unset, .unset, .unset, .unset, .unset, .unset, .unset, .unset, .unset, .unset, .unset, .unset] [(.int (13 : Int32)), (.int (14 : Int32)), (.ref b172), (.ref b172)])) rfl rfl (hb hby at_87)
  have V216 : Arv Z h216 b172 k172 .int (56 : Int32) (own_tl 15) (.int (0 : Int32)) := own_cast (own_set ⟨14, by decide⟩) <| Arv.set Ar215 q215 S215 M215 H215 G215 rfl W216 14 rfl (Nat.lt_of_lt_of_eq (by decide : 14 < 56) (own_len ⟨14, by decide⟩).symm)
  have K216 := K213.wr W216 (Or.inr sz_b172)
  have N216 := Fr.snoc X216 NN213 gg_b172
  have pre217 : ∀ t, Steps p.tables e below (T216.setTop (mkF m 88 #[.val (.long q0), .second, .val (.long q2), .second, .val (.int p4), .val (.int p5), .unset, .unset, .unset, .unset, .unset, .unset, .unset, .unset, .unset, .unset, .unset, .unset] [(.ref b172)])) t → Steps p.tables e below (s₁.setTop (entryFrame m #[(.long q0), (.long q2), (.int p4), (.int p5)] maxLocals)) t := fun t k => by
    refine pre214 _ ?_
    show Steps p.tables e below (T213.setTop (mkF m 82 #[.val (.long q0), .second, .val (.long q2), .second, .val (.int p4), .val (.int p5), .unset, .unset, .unset, .unset, .unset, .unset, .unset, .unset, .unset, .unset, .unset, .unset] [(.ref b172)])) _
    refine XS.dup XX213.here hx rfl (hb hby at_82) rfl rfl ?_
    show Steps p.tables e below (T213.setTop (mkF m 83 #[.val (.long q0), .second, .val (.long q2), .second, .val (.int p4), .val (.int p5), .unset, .unset, .unset, .unset, .unset, .unset, .unset, .unset, .unset, .unset, .unset, .unset] [(.ref b172), (.ref b172)])) _
    refine XS.bipush XX213.here hx rfl (hb hby at_83) ?_
    show Steps p.tables e below (T213.setTop (mkF m 85 #[.val (.long q0), .second, .val (.long q2), .second, .val (.int p4), .val (.int p5), .unset, .unset, .unset, .unset, .unset, .unset, .unset, .unset, .unset, .unset, .unset, .unset] [(.int (14 : Int32)), (.ref b172), (.ref b172)])) _
    refine XS.bipush XX213.here hx rfl (hb hby at_85) ?_
    show Steps p.tables e below (T213.setTop (mkF m 87 #[.val (.long q0), .second, .val (.long q2), .second, .val (.int p4), .val (.int p5), .unset, .unset, .unset, .unset, .unset, .unset, .unset, .unset, .unset, .unset, .unset, .unset] [(.int (13 : Int32)), (.int (14 : Int32)), (.ref b172), (.ref b172)])) _
    refine st216 _ ?_
    exact k
  obtain ⟨LL216, XX216, NN216⟩ : ∃ LL, Stand p l e room_1 s m #[(.long q0), (.long q2), (.int p4), (.int p5)] below meth c T216 LL 1 56 ∧ Fr n0 LL := ⟨_, X216, N216⟩
  clear cl215 Ar215 q215 S215 M215 H215 G215 hin215 W216 st216 XX213 NN213 LL213 e213 V213 K213 T213 h213 pre214 X216 N216
  obtain ⟨cl218, Ar218, q218, S218, M218, H218, G218⟩ := id V216
  have hin218 : ¬ ((15 : Int32) < 0 ∨ cl218.slots.size ≤ ((15 : Int32)).toNatClampNeg) := inb_of S218 ⟨by decide, by decide⟩
  obtain ⟨T219, h219, X219, e219, W219, st219⟩ := stI XX216 hx hZ e216 Ar218 (j := (15 : Int32)) hin218 (g := (mkF m 93 #[.val (.long q0), .second, .val (.long q2), .second, .val (.int p4), .val (.int p5), .unset, .unset, .unset, .unset, .unset, .unset, .unset, .unset, .unset, .unset, .unset, .unset] [(.int (100 : Int32)), (.int (15 : Int32)), (.ref b172), (.ref b172)])) rfl rfl (hb hby at_93)
  have V219 : Arv Z h219 b172 k172 .int (56 : Int32) (own_tl 16) (.int (0 : Int32)) := own_cast (own_set ⟨15, by decide⟩) <| Arv.set Ar218 q218 S218 M218 H218 G218 rfl W219 15 rfl (Nat.lt_of_lt_of_eq (by decide : 15 < 56) (own_len ⟨15, by decide⟩).symm)
  have K219 := K216.wr W219 (Or.inr sz_b172)
  have N219 := Fr.snoc X219 NN216 gg_b172
  have pre220 : ∀ t, Steps p.tables e below (T219.setTop (mkF m 94 #[.val (.long q0), .second, .val (.long q2), .second, .val (.int p4), .val (.int p5), .unset, .unset, .unset, .unset, .unset, .unset, .unset, .unset, .unset, .unset, .unset, .unset] [(.ref b172)])) t → Steps p.tables e below (s₁.setTop (entryFrame m #[(.long q0), (.long q2), (.int p4), (.int p5)] maxLocals)) t := fun t k => by
    refine pre217 _ ?_
    show Steps p.tables e below (T216.setTop (mkF m 88 #[.val (.long q0), .second, .val (.long q2), .second, .val (.int p4), .val (.int p5), .unset, .unset, .unset, .unset, .unset, .unset, .unset, .unset, .unset, .unset, .unset, .unset] [(.ref b172)])) _
    refine XS.dup XX216.here hx rfl (hb hby at_88) rfl rfl ?_
    show Steps p.tables e below (T216.setTop (mkF m 89 #[.val (.long q0), .second, .val (.long q2), .second, .val (.int p4), .val (.int p5), .unset, .unset, .unset, .unset, .unset, .unset, .unset, .unset, .unset, .unset, .unset, .unset] [(.ref b172), (.ref b172)])) _
    refine XS.bipush XX216.here hx rfl (hb hby at_89) ?_
    show Steps p.tables e below (T216.setTop (mkF m 91 #[.val (.long q0), .second, .val (.long q2), .second, .val (.int p4), .val (.int p5), .unset, .unset, .unset, .unset, .unset, .unset, .unset, .unset, .unset, .unset, .unset, .unset] [(.int (15 : Int32)), (.ref b172), (.ref b172)])) _
    refine XS.bipush XX216.here hx rfl (hb hby at_91) ?_
    show Steps p.tables e below (T216.setTop (mkF m 93 #[.val (.long q0), .second, .val (.long q2), .second, .val (.int p4), .val (.int p5), .unset, .unset, .unset, .unset, .unset, .unset, .unset, .unset, .unset, .unset, .unset, .unset] [(.int (100 : Int32)), (.int (15 : Int32)), (.ref b172), (.ref b172)])) _
    refine st219 _ ?_
    exact k
  obtain ⟨LL219, XX219, NN219⟩ : ∃ LL, Stand p l e room_1 s m #[(.long q0), (.long q2), (.int p4), (.int p5)] below meth c T219 LL 1 56 ∧ Fr n0 LL := ⟨_, X219, N219⟩
  clear cl218 Ar218 q218 S218 M218 H218 G218 hin218 W219 st219 XX216 NN216 LL216 e216 V216 K216 T216 h216 pre217 X219 N219
  obtain ⟨cl221, Ar221, q221, S221, M221, H221, G221⟩ := id V219
  have hin221 : ¬ ((16 : Int32) < 0 ∨ cl221.slots.size ≤ ((16 : Int32)).toNatClampNeg) := inb_of S221 ⟨by decide, by decide⟩
  obtain ⟨T222, h222, X222, e222, W222, st222⟩ := stI XX219 hx hZ e219 Ar221 (j := (16 : Int32)) hin221 (g := (mkF m 99 #[.val (.long q0), .second, .val (.long q2), .second, .val (.int p4), .val (.int p5), .unset, .unset, .unset, .unset, .unset, .unset, .unset, .unset, .unset, .unset, .unset, .unset] [(.int (50 : Int32)), (.int (16 : Int32)), (.ref b172), (.ref b172)])) rfl rfl (hb hby at_99)
  have V222 : Arv Z h222 b172 k172 .int (56 : Int32) (own_tl 17) (.int (0 : Int32)) := own_cast (own_set ⟨16, by decide⟩) <| Arv.set Ar221 q221 S221 M221 H221 G221 rfl W222 16 rfl (Nat.lt_of_lt_of_eq (by decide : 16 < 56) (own_len ⟨16, by decide⟩).symm)
  have K222 := K219.wr W222 (Or.inr sz_b172)
  have N222 := Fr.snoc X222 NN219 gg_b172
  have pre223 : ∀ t, Steps p.tables e below (T222.setTop (mkF m 100 #[.val (.long q0), .second, .val (.long q2), .second, .val (.int p4), .val (.int p5), .unset, .unset, .unset, .unset, .unset, .unset, .unset, .unset, .unset, .unset, .unset, .unset] [(.ref b172)])) t → Steps p.tables e below (s₁.setTop (entryFrame m #[(.long q0), (.long q2), (.int p4), (.int p5)] maxLocals)) t := fun t k => by
    refine pre220 _ ?_
    show Steps p.tables e below (T219.setTop (mkF m 94 #[.val (.long q0), .second, .val (.long q2), .second, .val (.int p4), .val (.int p5), .unset, .unset, .unset, .unset, .unset, .unset, .unset, .unset, .unset, .unset, .unset, .unset] [(.ref b172)])) _
    refine XS.dup XX219.here hx rfl (hb hby at_94) rfl rfl ?_
    show Steps p.tables e below (T219.setTop (mkF m 95 #[.val (.long q0), .second, .val (.long q2), .second, .val (.int p4), .val (.int p5), .unset, .unset, .unset, .unset, .unset, .unset, .unset, .unset, .unset, .unset, .unset, .unset] [(.ref b172), (.ref b172)])) _
    refine XS.bipush XX219.here hx rfl (hb hby at_95) ?_
    show Steps p.tables e below (T219.setTop (mkF m 97 #[.val (.long q0), .second, .val (.long q2), .second, .val (.int p4), .val (.int p5), .unset, .unset, .unset, .unset, .unset, .unset, .unset, .unset, .unset, .unset, .unset, .unset] [(.int (16 : Int32)), (.ref b172), (.ref b172)])) _
    refine XS.bipush XX219.here hx rfl (hb hby at_97) ?_
    show Steps p.tables e below (T219.setTop (mkF m 99 #[.val (.long q0), .second, .val (.long q2), .second, .val (.int p4), .val (.int p5), .unset, .unset, .unset, .unset, .unset, .unset, .unset, .unset, .unset, .unset, .unset, .unset] [(.int (50 : Int32)), (.int (16 : Int32)), (.ref b172), (.ref b172)])) _
    refine st222 _ ?_
    exact k
  obtain ⟨LL222, XX222, NN222⟩ : ∃ LL, Stand p l e room_1 s m #[(.long q0), (.long q2), (.int p4), (.int p5)] below meth c T222 LL 1 56 ∧ Fr n0 LL := ⟨_, X222, N222⟩
  clear cl221 Ar221 q221 S221 M221 H221 G221 hin221 W222 st222 XX219 NN219 LL219 e219 V219 K219 T219 h219 pre220 X222 N222
  obtain ⟨cl224, Ar224, q224, S224, M224, H224, G224⟩ := id V222
  have hin224 : ¬ ((17 : Int32) < 0 ∨ cl224.slots.size ≤ ((17 : Int32)).toNatClampNeg) := inb_of S224 ⟨by decide, by decide⟩
  obtain ⟨T225, h225, X225, e225, W225, st225⟩ := stI XX222 hx hZ e222 Ar224 (j := (17 : Int32)) hin224 (g := (mkF m 105 #[.val (.long q0), .second, .val (.long q2), .second, .val (.int p4), .val (.int p5), .unset, .unset, .unset, .unset, .unset, .unset, .unset, .unset, .unset, .unset, .unset, .unset] [(.int (25 : Int32)), (.int (17 : Int32)), (.ref b172), (.ref b172)])) rfl rfl (hb hby at_105)
  have V225 : Arv Z h225 b172 k172 .int (56 : Int32) (own_tl 18) (.int (0 : Int32)) := own_cast (own_set ⟨17, by decide⟩) <| Arv.set Ar224 q224 S224 M224 H224 G224 rfl W225 17 rfl (Nat.lt_of_lt_of_eq (by decide : 17 < 56) (own_len ⟨17, by decide⟩).symm)
  have K225 := K222.wr W225 (Or.inr sz_b172)
  have N225 := Fr.snoc X225 NN222 gg_b172
  have pre226 : ∀ t, Steps p.tables e below (T225.setTop (mkF m 106 #[.val (.long q0), .second, .val (.long q2), .second, .val (.int p4), .val (.int p5), .unset, .unset, .unset, .unset, .unset, .unset, .unset, .unset, .unset, .unset, .unset, .unset] [(.ref b172)])) t → Steps p.tables e below (s₁.setTop (entryFrame m #[(.long q0), (.long q2), (.int p4), (.int p5)] maxLocals)) t := fun t k => by
    refine pre223 _ ?_
    show Steps p.tables e below (T222.setTop (mkF m 100 #[.val (.long q0), .second, .val (.long q2), .second, .val (.int p4), .val (.int p5), .unset, .unset, .unset, .unset, .unset, .unset, .unset, .unset, .unset, .unset, .unset, .unset] [(.ref b172)])) _
    refine XS.dup XX222.here hx rfl (hb hby at_100) rfl rfl ?_
    show Steps p.tables e below (T222.setTop (mkF m 101 #[.val (.long q0), .second, .val (.long q2), .second, .val (.int p4), .val (.int p5), .unset, .unset, .unset, .unset, .unset, .unset, .unset, .unset, .unset, .unset, .unset, .unset] [(.ref b172), (.ref b172)])) _
    refine XS.bipush XX222.here hx rfl (hb hby at_101) ?_
    show Steps p.tables e below (T222.setTop (mkF m 103 #[.val (.long q0), .second, .val (.long q2), .second, .val (.int p4), .val (.int p5), .unset, .unset, .unset, .unset, .unset, .unset, .unset, .unset, .unset, .unset, .unset, .unset] [(.int (17 : Int32)), (.ref b172), (.ref b172)])) _
    refine XS.bipush XX222.here hx rfl (hb hby at_103) ?_
    show Steps p.tables e below (T222.setTop (mkF m 105 #[.val (.long q0), .second, .val (.long q2), .second, .val (.int p4), .val (.int p5), .unset, .unset, .unset, .unset, .unset, .unset, .unset, .unset, .unset, .unset, .unset, .unset] [(.int (25 : Int32)), (.int (17 : Int32)), (.ref b172), (.ref b172)])) _
    refine st225 _ ?_
    exact k
  obtain ⟨LL225, XX225, NN225⟩ : ∃ LL, Stand p l e room_1 s m #[(.long q0), (.long q2), (.int p4), (.int p5)] below meth c T225 LL 1 56 ∧ Fr n0 LL := ⟨_, X225, N225⟩
  clear cl224 Ar224 q224 S224 M224 H224 G224 hin224 W225 st225 XX222 NN222 LL222 e222 V222 K222 T222 h222 pre223 X225 N225
  obtain ⟨cl227, Ar227, q227, S227, M227, H227, G227⟩ := id V225
  have hin227 : ¬ ((18 : Int32) < 0 ∨ cl227.slots.size ≤ ((18 : Int32)).toNatClampNeg) := inb_of S227 ⟨by decide, by decide⟩
  obtain ⟨T228, h228, X228, e228, W228, st228⟩ := stI XX225 hx hZ e225 Ar227 (j := (18 : Int32)) hin227 (g := (mkF m 111 #[.val (.long q0), .second, .val (.long q2), .second, .val (.int p4), .val (.int p5), .unset, .unset, .unset, .unset, .unset, .unset, .unset, .unset, .unset, .unset, .unset, .unset] [(.int (110 : Int32)), (.int (18 : Int32)), (.ref b172), (.ref b172)])) rfl rfl (hb hby at_111)
  have V228 : Arv Z h228 b172 k172 .int (56 : Int32) (own_tl 19) (.int (0 : Int32)) := own_cast (own_set ⟨18, by decide⟩) <| Arv.set Ar227 q227 S227 M227 H227 G227 rfl W228 18 rfl (Nat.lt_of_lt_of_eq (by decide : 18 < 56) (own_len ⟨18, by decide⟩).symm)
  have K228 := K225.wr W228 (Or.inr sz_b172)
  have N228 := Fr.snoc X228 NN225 gg_b172
  have pre229 : ∀ t, Steps p.tables e below (T228.setTop (mkF m 112 #[.val (.long q0), .second, .val (.long q2), .second, .val (.int p4), .val (.int p5), .unset, .unset, .unset, .unset, .unset, .unset, .unset, .unset, .unset, .unset, .unset, .unset] [(.ref b172)])) t → Steps p.tables e below (s₁.setTop (entryFrame m #[(.long q0), (.long q2), (.int p4), (.int p5)] maxLocals)) t := fun t k => by
    refine pre226 _ ?_
    show Steps p.tables e below (T225.setTop (mkF m 106 #[.val (.long q0), .second, .val (.long q2), .second, .val (.int p4), .val (.int p5), .unset, .unset, .unset, .unset, .unset, .unset, .unset, .unset, .unset, .unset, .unset, .unset] [(.ref b172)])) _
    refine XS.dup XX225.here hx rfl (hb hby at_106) rfl rfl ?_
    show Steps p.tables e below (T225.setTop (mkF m 107 #[.val (.long q0), .second, .val (.long q2), .second, .val (.int p4), .val (.int p5), .unset, .unset, .unset, .unset, .unset, .unset, .unset, .unset, .unset, .unset, .unset, .unset] [(.ref b172), (.ref b172)])) _
    refine XS.bipush XX225.here hx rfl (hb hby at_107) ?_
    show Steps p.tables e below (T225.setTop (mkF m 109 #[.val (.long q0), .second, .val (.long q2), .second, .val (.int p4), .val (.int p5), .unset, .unset, .unset, .unset, .unset, .unset, .unset, .unset, .unset, .unset, .unset, .unset] [(.int (18 : Int32)), (.ref b172), (.ref b172)])) _
    refine XS.bipush XX225.here hx rfl (hb hby at_109) ?_
    show Steps p.tables e below (T225.setTop (mkF m 111 #[.val (.long q0), .second, .val (.long q2), .second, .val (.int p4), .val (.int p5), .unset, .unset, .unset, .unset, .unset, .unset, .unset, .unset, .unset, .unset, .unset, .unset] [(.int (110 : Int32)), (.int (18 : Int32)), (.ref b172), (.ref b172)])) _
    refine st228 _ ?_
    exact k
  obtain ⟨LL228, XX228, NN228⟩ : ∃ LL, Stand p l e room_1 s m #[(.long q0), (.long q2), (.int p4), (.int p5)] below meth c T228 LL 1 56 ∧ Fr n0 LL := ⟨_, X228, N228⟩
  clear cl227 Ar227 q227 S227 M227 H227 G227 hin227 W228 st228 XX225 NN225 LL225 e225 V225 K225 T225 h225 pre226 X228 N228
  obtain ⟨cl230, Ar230, q230, S230, M230, H230, G230⟩ := id V228
  have hin230 : ¬ ((19 : Int32) < 0 ∨ cl230.slots.size ≤ ((19 : Int32)).toNatClampNeg) := inb_of S230 ⟨by decide, by decide⟩
  obtain ⟨T231, h231, X231, e231, W231, st231⟩ := stI XX228 hx hZ e228 Ar230 (j := (19 : Int32)) hin230 (g := (mkF m 117 #[.val (.long q0), .second, .val (.long q2), .second, .val (.int p4), .val (.int p5), .unset, .unset, .unset, .unset, .unset, .unset, .unset, .unset, .unset, .unset, .unset, .unset] [(.int (55 : Int32)), (.int (19 : Int32)), (.ref b172), (.ref b172)])) rfl rfl (hb hby at_117)
  have V231 : Arv Z h231 b172 k172 .int (56 : Int32) (own_tl 20) (.int (0 : Int32)) := own_cast (own_set ⟨19, by decide⟩) <| Arv.set Ar230 q230 S230 M230 H230 G230 rfl W231 19 rfl (Nat.lt_of_lt_of_eq (by decide : 19 < 56) (own_len ⟨19, by decide⟩).symm)
  have K231 := K228.wr W231 (Or.inr sz_b172)
  have N231 := Fr.snoc X231 NN228 gg_b172
  have pre232 : ∀ t, Steps p.tables e below (T231.setTop (mkF m 118 #[.val (.long q0), .second, .val (.long q2), .second, .val (.int p4), .val (.int p5), .unset, .unset, .unset, .unset, .unset, .unset, .unset, .unset, .unset, .unset, .unset, .unset] [(.ref b172)])) t → Steps p.tables e below (s₁.setTop (entryFrame m #[(.long q0), (.long q2), (.int p4), (.int p5)] maxLocals)) t := fun t k => by
    refine pre229 _ ?_
    show Steps p.tables e below (T228.setTop (mkF m 112 #[.val (.long q0), .second, .val (.long q2), .second, .val (.int p4), .val (.int p5), .unset, .unset, .unset, .unset, .unset, .unset, .unset, .unset, .unset, .unset, .unset, .unset] [(.ref b172)])) _
    refine XS.dup XX228.here hx rfl (hb hby at_112) rfl rfl ?_
    show Steps p.tables e below (T228.setTop (mkF m 113 #[.val (.long q0), .second, .val (.long q2), .second, .val (.int p4), .val (.int p5), .unset, .unset, .unset, .unset, .unset, .unset, .unset, .unset, .unset, .unset, .unset, .unset] [(.ref b172), (.ref b172)])) _
    refine XS.bipush XX228.here hx rfl (hb hby at_113) ?_
    show Steps p.tables e below (T228.setTop (mkF m 115 #[.val (.long q0), .second, .val (.long q2), .second, .val (.int p4), .val (.int p5), .unset, .unset, .unset, .unset, .unset, .unset, .unset, .unset, .unset, .unset, .unset, .unset] [(.int (19 : Int32)), (.ref b172), (.ref b172)])) _
    refine XS.bipush XX228.here hx rfl (hb hby at_115) ?_
    show Steps p.tables e below (T228.setTop (mkF m 117 #[.val (.long q0), .second, .val (.long q2), .second, .val (.int p4), .val (.int p5), .unset, .unset, .unset, .unset, .unset, .unset, .unset, .unset, .unset, .unset, .unset, .unset] [(.int (55 : Int32)), (.int (19 : Int32)), (.ref b172), (.ref b172)])) _
    refine st231 _ ?_
    exact k
  obtain ⟨LL231, XX231, NN231⟩ : ∃ LL, Stand p l e room_1 s m #[(.long q0), (.long q2), (.int p4), (.int p5)] below meth c T231 LL 1 56 ∧ Fr n0 LL := ⟨_, X231, N231⟩
  clear cl230 Ar230 q230 S230 M230 H230 G230 hin230 W231 st231 XX228 NN228 LL228 e228 V228 K228 T228 h228 pre229 X231 N231
  obtain ⟨cl233, Ar233, q233, S233, M233, H233, G233⟩ := id V231
  have hin233 : ¬ ((20 : Int32) < 0 ∨ cl233.slots.size ≤ ((20 : Int32)).toNatClampNeg) := inb_of S233 ⟨by decide, by decide⟩
  obtain ⟨T234, h234, X234, e234, W234, st234⟩ := stI XX231 hx hZ e231 Ar233 (j := (20 : Int32)) hin233 (g := (mkF m 123 #[.val (.long q0), .second, .val (.long q2), .second, .val (.int p4), .val (.int p5), .unset, .unset, .unset, .unset, .unset, .unset, .unset, .unset, .unset, .unset, .unset, .unset] [(.int (121 : Int32)), (.int (20 : Int32)), (.ref b172), (.ref b172)])) rfl rfl (hb hby at_123)
  have V234 : Arv Z h234 b172 k172 .int (56 : Int32) (own_tl 21) (.int (0 : Int32)) := own_cast (own_set ⟨20, by decide⟩) <| Arv.set Ar233 q233 S233 M233 H233 G233 rfl W234 20 rfl (Nat.lt_of_lt_of_eq (by decide : 20 < 56) (own_len ⟨20, by decide⟩).symm)
  have K234 := K231.wr W234 (Or.inr sz_b172)
  have N234 := Fr.snoc X234 NN231 gg_b172
  have pre235 : ∀ t, Steps p.tables e below (T234.setTop (mkF m 124 #[.val (.long q0), .second, .val (.long q2), .second, .val (.int p4), .val (.int p5), .unset, .unset, .unset, .unset, .unset, .unset, .unset, .unset, .unset, .unset, .unset, .unset] [(.ref b172)])) t → Steps p.tables e below (s₁.setTop (entryFrame m #[(.long q0), (.long q2), (.int p4), (.int p5)] maxLocals)) t := fun t k => by
    refine pre232 _ ?_
    show Steps p.tables e below (T231.setTop (mkF m 118 #[.val (.long q0), .second, .val (.long q2), .second, .val (.int p4), .val (.int p5), .unset, .unset, .unset, .unset, .unset, .unset, .unset, .unset, .unset, .unset, .unset, .unset] [(.ref b172)])) _
    refine XS.dup XX231.here hx rfl (hb hby at_118) rfl rfl ?_
    show Steps p.tables e below (T231.setTop (mkF m 119 #[.val (.long q0), .second, .val (.long q2), .second, .val (.int p4), .val (.int p5), .unset, .unset, .unset, .unset, .unset, .unset, .unset, .unset, .unset, .unset, .unset, .unset] [(.ref b172), (.ref b172)])) _
    refine XS.bipush XX231.here hx rfl (hb hby at_119) ?_
    show Steps p.tables e below (T231.setTop (mkF m 121 #[.val (.long q0), .second, .val (.long q2), .second, .val (.int p4), .val (.int p5), .unset, .unset, .unset, .unset, .unset, .unset, .unset, .unset, .unset, .unset, .unset, .unset] [(.int (20 : Int32)), (.ref b172), (.ref b172)])) _
    refine XS.bipush XX231.here hx rfl (hb hby at_121) ?_
    show Steps p.tables e below (T231.setTop (mkF m 123 #[.val (.long q0), .second, .val (.long q2), .second, .val (.int p4), .val (.int p5), .unset, .unset, .unset, .unset, .unset, .unset, .unset, .unset, .unset, .unset, .unset, .unset] [(.int (121 : Int32)), (.int (20 : Int32)), (.ref b172), (.ref b172)])) _
    refine st234 _ ?_
    exact k
  obtain ⟨LL234, XX234, NN234⟩ : ∃ LL, Stand p l e room_1 s m #[(.long q0), (.long q2), (.int p4), (.int p5)] below meth c T234 LL 1 56 ∧ Fr n0 LL := ⟨_, X234, N234⟩
  clear cl233 Ar233 q233 S233 M233 H233 G233 hin233 W234 st234 XX231 NN231 LL231 e231 V231 K231 T231 h231 pre232 X234 N234
  obtain ⟨cl236, Ar236, q236, S236, M236, H236, G236⟩ := id V234
  have hin236 : ¬ ((21 : Int32) < 0 ∨ cl236.slots.size ≤ ((21 : Int32)).toNatClampNeg) := inb_of S236 ⟨by decide, by decide⟩
  obtain ⟨T237, h237, X237, e237, W237, st237⟩ := stI XX234 hx hZ e234 Ar236 (j := (21 : Int32)) hin236 (g := (mkF m 129 #[.val (.long q0), .second, .val (.long q2), .second, .val (.int p4), .val (.int p5), .unset, .unset, .unset, .unset, .unset, .unset, .unset, .unset, .unset, .unset, .unset, .unset] [(.int (94 : Int32)), (.int (21 : Int32)), (.ref b172), (.ref b172)])) rfl rfl (hb hby at_129)
  have V237 : Arv Z h237 b172 k172 .int (56 : Int32) (own_tl 22) (.int (0 : Int32)) := own_cast (own_set ⟨21, by decide⟩) <| Arv.set Ar236 q236 S236 M236 H236 G236 rfl W237 21 rfl (Nat.lt_of_lt_of_eq (by decide : 21 < 56) (own_len ⟨21, by decide⟩).symm)
  have K237 := K234.wr W237 (Or.inr sz_b172)
  have N237 := Fr.snoc X237 NN234 gg_b172
  have pre238 : ∀ t, Steps p.tables e below (T237.setTop (mkF m 130 #[.val (.long q0), .second, .val (.long q2), .second, .val (.int p4), .val (.int p5), .unset, .unset, .unset, .unset, .unset, .unset, .unset, .unset, .unset, .unset, .unset, .unset] [(.ref b172)])) t → Steps p.tables e below (s₁.setTop (entryFrame m #[(.long q0), (.long q2), (.int p4), (.int p5)] maxLocals)) t := fun t k => by
    refine pre235 _ ?_
    show Steps p.tables e below (T234.setTop (mkF m 124 #[.val (.long q0), .second, .val (.long q2), .second, .val (.int p4), .val (.int p5), .unset, .unset, .unset, .unset, .unset, .unset, .unset, .unset, .unset, .unset, .unset, .unset] [(.ref b172)])) _
    refine XS.dup XX234.here hx rfl (hb hby at_124) rfl rfl ?_
    show Steps p.tables e below (T234.setTop (mkF m 125 #[.val (.long q0), .second, .val (.long q2), .second, .val (.int p4), .val (.int p5), .unset, .unset, .unset, .unset, .unset, .unset, .unset, .unset, .unset, .unset, .unset, .unset] [(.ref b172), (.ref b172)])) _
    refine XS.bipush XX234.here hx rfl (hb hby at_125) ?_
    show Steps p.tables e below (T234.setTop (mkF m 127 #[.val (.long q0), .second, .val (.long q2), .second, .val (.int p4), .val (.int p5), .unset, .unset, .unset, .unset, .unset, .unset, .unset, .unset, .unset, .unset, .unset, .unset] [(.int (21 : Int32)), (.ref b172), (.ref b172)])) _
    refine XS.bipush XX234.here hx rfl (hb hby at_127) ?_
    show Steps p.tables e below (T234.setTop (mkF m 129 #[.val (.long q0), .second, .val (.long q2), .second, .val (.int p4), .val (.int p5), .unset, .unset, .unset, .unset, .unset, .unset, .unset, .unset, .unset, .unset, .unset, .unset] [(.int (94 : Int32)), (.int (21 : Int32)), (.ref b172), (.ref b172)])) _
    refine st237 _ ?_
    exact k
  obtain ⟨LL237, XX237, NN237⟩ : ∃ LL, Stand p l e room_1 s m #[(.long q0), (.long q2), (.int p4), (.int p5)] below meth c T237 LL 1 56 ∧ Fr n0 LL := ⟨_, X237, N237⟩
  clear cl236 Ar236 q236 S236 M236 H236 G236 hin236 W237 st237 XX234 NN234 LL234 e234 V234 K234 T234 h234 pre235 X237 N237
  obtain ⟨cl239, Ar239, q239, S239, M239, H239, G239⟩ := id V237
  have hin239 : ¬ ((22 : Int32) < 0 ∨ cl239.slots.size ≤ ((22 : Int32)).toNatClampNeg) := inb_of S239 ⟨by decide, by decide⟩
  obtain ⟨T240, h240, X240, e240, W240, st240⟩ := stI XX237 hx hZ e237 Ar239 (j := (22 : Int32)) hin239 (g := (mkF m 135 #[.val (.long q0), .second, .val (.long q2), .second, .val (.int p4), .val (.int p5), .unset, .unset, .unset, .unset, .unset, .unset, .unset, .unset, .unset, .unset, .unset, .unset] [(.int (47 : Int32)), (.int (22 : Int32)), (.ref b172), (.ref b172)])) rfl rfl (hb hby at_135)
  have V240 : Arv Z h240 b172 k172 .int (56 : Int32) (own_tl 23) (.int (0 : Int32)) := own_cast (own_set ⟨22, by decide⟩) <| Arv.set Ar239 q239 S239 M239 H239 G239 rfl W240 22 rfl (Nat.lt_of_lt_of_eq (by decide : 22 < 56) (own_len ⟨22, by decide⟩).symm)
  have K240 := K237.wr W240 (Or.inr sz_b172)
  have N240 := Fr.snoc X240 NN237 gg_b172
  have pre241 : ∀ t, Steps p.tables e below (T240.setTop (mkF m 136 #[.val (.long q0), .second, .val (.long q2), .second, .val (.int p4), .val (.int p5), .unset, .unset, .unset, .unset, .unset, .unset, .unset, .unset, .unset, .unset, .unset, .unset] [(.ref b172)])) t → Steps p.tables e below (s₁.setTop (entryFrame m #[(.long q0), (.long q2), (.int p4), (.int p5)] maxLocals)) t := fun t k => by
    refine pre238 _ ?_
    show Steps p.tables e below (T237.setTop (mkF m 130 #[.val (.long q0), .second, .val (.long q2), .second, .val (.int p4), .val (.int p5), .unset, .unset, .unset, .unset, .unset, .unset, .unset, .unset, .unset, .unset, .unset, .unset] [(.ref b172)])) _
    refine XS.dup XX237.here hx rfl (hb hby at_130) rfl rfl ?_
    show Steps p.tables e below (T237.setTop (mkF m 131 #[.val (.long q0), .second, .val (.long q2), .second, .val (.int p4), .val (.int p5), .unset, .unset, .unset, .unset, .unset, .unset, .unset, .unset, .unset, .unset, .unset, .unset] [(.ref b172), (.ref b172)])) _
    refine XS.bipush XX237.here hx rfl (hb hby at_131) ?_
    show Steps p.tables e below (T237.setTop (mkF m 133 #[.val (.long q0), .second, .val (.long q2), .second, .val (.int p4), .val (.int p5), .unset, .unset, .unset, .unset, .unset, .unset, .unset, .unset, .unset, .unset, .unset, .unset] [(.int (22 : Int32)), (.ref b172), (.ref b172)])) _
    refine XS.bipush XX237.here hx rfl (hb hby at_133) ?_
    show Steps p.tables e below (T237.setTop (mkF m 135 #[.val (.long q0), .second, .val (.long q2), .second, .val (.int p4), .val (.int p5), .unset, .unset, .unset, .unset, .unset, .unset, .unset, .unset, .unset, .unset, .unset, .unset] [(.int (47 : Int32)), (.int (22 : Int32)), (.ref b172), (.ref b172)])) _
    refine st240 _ ?_
    exact k
  obtain ⟨LL240, XX240, NN240⟩ : ∃ LL, Stand p l e room_1 s m #[(.long q0), (.long q2), (.int p4), (.int p5)] below meth c T240 LL 1 56 ∧ Fr n0 LL := ⟨_, X240, N240⟩
  clear cl239 Ar239 q239 S239 M239 H239 G239 hin239 W240 st240 XX237 NN237 LL237 e237 V237 K237 T237 h237 pre238 X240 N240
  obtain ⟨cl242, Ar242, q242, S242, M242, H242, G242⟩ := id V240
  have hin242 : ¬ ((23 : Int32) < 0 ∨ cl242.slots.size ≤ ((23 : Int32)).toNatClampNeg) := inb_of S242 ⟨by decide, by decide⟩
  obtain ⟨T243, h243, X243, e243, W243, st243⟩ := stI XX240 hx hZ e240 Ar242 (j := (23 : Int32)) hin242 (g := (mkF m 141 #[.val (.long q0), .second, .val (.long q2), .second, .val (.int p4), .val (.int p5), .unset, .unset, .unset, .unset, .unset, .unset, .unset, .unset, .unset, .unset, .unset, .unset] [(.int (117 : Int32)), (.int (23 : Int32)), (.ref b172), (.ref b172)])) rfl rfl (hb hby at_141)
  have V243 : Arv Z h243 b172 k172 .int (56 : Int32) (own_tl 24) (.int (0 : Int32)) := own_cast (own_set ⟨23, by decide⟩) <| Arv.set Ar242 q242 S242 M242 H242 G242 rfl W243 23 rfl (Nat.lt_of_lt_of_eq (by decide : 23 < 56) (own_len ⟨23, by decide⟩).symm)
  have K243 := K240.wr W243 (Or.inr sz_b172)
  have N243 := Fr.snoc X243 NN240 gg_b172
  have pre244 : ∀ t, Steps p.tables e below (T243.setTop (mkF m 142 #[.val (.long q0), .second, .val (.long q2), .second, .val (.int p4), .val (.int p5), .unset, .unset, .unset, .unset, .unset, .unset, .unset, .unset, .unset, .unset, .unset, .unset] [(.ref b172)])) t → Steps p.tables e below (s₁.setTop (entryFrame m #[(.long q0), (.long q2), (.int p4), (.int p5)] maxLocals)) t := fun t k => by
    refine pre241 _ ?_
    show Steps p.tables e below (T240.setTop (mkF m 136 #[.val (.long q0), .second, .val (.long q2), .second, .val (.int p4), .val (.int p5), .unset, .unset, .unset, .unset, .unset, .unset, .unset, .unset, .unset, .unset, .unset, .unset] [(.ref b172)])) _
    refine XS.dup XX240.here hx rfl (hb hby at_136) rfl rfl ?_
    show Steps p.tables e below (T240.setTop (mkF m 137 #[.val (.long q0), .second, .val (.long q2), .second, .val (.int p4), .val (.int p5), .unset, .unset, .unset, .unset, .unset, .unset, .unset, .unset, .unset, .unset, .unset, .unset] [(.ref b172), (.ref b172)])) _
    refine XS.bipush XX240.here hx rfl (hb hby at_137) ?_
    show Steps p.tables e below (T240.setTop (mkF m 139 #[.val (.long q0), .second, .val (.long q2), .second, .val (.int p4), .val (.int p5), .unset, .unset, .unset, .unset, .unset, .unset, .unset, .unset, .unset, .unset, .unset, .unset] [(.int (23 : Int32)), (.ref b172), (.ref b172)])) _
    refine XS.bipush XX240.here hx rfl (hb hby at_139) ?_
    show Steps p.tables e below (T240.setTop (mkF m 141 #[.val (.long q0), .second, .val (.long q2), .second, .val (.int p4), .val (.int p5), .unset, .unset, .unset, .unset, .unset, .unset, .unset, .unset, .unset, .unset, .unset, .unset] [(.int (117 : Int32)), (.int (23 : Int32)), (.ref b172), (.ref b172)])) _
    refine st243 _ ?_
    exact k
  obtain ⟨LL243, XX243, NN243⟩ : ∃ LL, Stand p l e room_1 s m #[(.long q0), (.long q2), (.int p4), (.int p5)] below meth c T243 LL 1 56 ∧ Fr n0 LL := ⟨_, X243, N243⟩
  clear cl242 Ar242 q242 S242 M242 H242 G242 hin242 W243 st243 XX240 NN240 LL240 e240 V240 K240 T240 h240 pre241 X243 N243
  obtain ⟨cl245, Ar245, q245, S245, M245, H245, G245⟩ := id V243
  have hin245 : ¬ ((24 : Int32) < 0 ∨ cl245.slots.size ≤ ((24 : Int32)).toNatClampNeg) := inb_of S245 ⟨by decide, by decide⟩
  obtain ⟨T246, h246, X246, e246, W246, st246⟩ := stI XX243 hx hZ e243 Ar245 (j := (24 : Int32)) hin245 (g := (mkF m 147 #[.val (.long q0), .second, .val (.long q2), .second, .val (.int p4), .val (.int p5), .unset, .unset, .unset, .unset, .unset, .unset, .unset, .unset, .unset, .unset, .unset, .unset] [(.int (88 : Int32)), (.int (24 : Int32)), (.ref b172), (.ref b172)])) rfl rfl (hb hby at_147)
  have V246 : Arv Z h246 b172 k172 .int (56 : Int32) (own_tl 25) (.int (0 : Int32)) := own_cast (own_set ⟨24, by decide⟩) <| Arv.set Ar245 q245 S245 M245 H245 G245 rfl W246 24 rfl (Nat.lt_of_lt_of_eq (by decide : 24 < 56) (own_len ⟨24, by decide⟩).symm)
  have K246 := K243.wr W246 (Or.inr sz_b172)
  have N246 := Fr.snoc X246 NN243 gg_b172
  have pre247 : ∀ t, Steps p.tables e below (T246.setTop (mkF m 148 #[.val (.long q0), .second, .val (.long q2), .second, .val (.int p4), .val (.int p5), .unset, .unset, .unset, .unset, .unset, .unset, .unset, .unset, .unset, .unset, .unset, .unset] [(.ref b172)])) t → Steps p.tables e below (s₁.setTop (entryFrame m #[(.long q0), (.long q2), (.int p4), (.int p5)] maxLocals)) t := fun t k => by
    refine pre244 _ ?_
    show Steps p.tables e below (T243.setTop (mkF m 142 #[.val (.long q0), .second, .val (.long q2), .second, .val (.int p4), .val (.int p5), .unset, .unset, .unset, .unset, .unset, .unset, .unset, .unset, .unset, .unset, .unset, .unset] [(.ref b172)])) _
    refine XS.dup XX243.here hx rfl (hb hby at_142) rfl rfl ?_
    show Steps p.tables e below (T243.setTop (mkF m 143 #[.val (.long q0), .second, .val (.long q2), .second, .val (.int p4), .val (.int p5), .unset, .unset, .unset, .unset, .unset, .unset, .unset, .unset, .unset, .unset, .unset, .unset] [(.ref b172), (.ref b172)])) _
    refine XS.bipush XX243.here hx rfl (hb hby at_143) ?_
    show Steps p.tables e below (T243.setTop (mkF m 145 #[.val (.long q0), .second, .val (.long q2), .second, .val (.int p4), .val (.int p5), .unset, .unset, .unset, .unset, .unset, .unset, .unset, .unset, .unset, .unset, .unset, .unset] [(.int (24 : Int32)), (.ref b172), (.ref b172)])) _
    refine XS.bipush XX243.here hx rfl (hb hby at_145) ?_
    show Steps p.tables e below (T243.setTop (mkF m 147 #[.val (.long q0), .second, .val (.long q2), .second, .val (.int p4), .val (.int p5), .unset, .unset, .unset, .unset, .unset, .unset, .unset, .unset, .unset, .unset, .unset, .unset] [(.int (88 : Int32)), (.int (24 : Int32)), (.ref b172), (.ref b172)])) _
    refine st246 _ ?_
    exact k
  obtain ⟨LL246, XX246, NN246⟩ : ∃ LL, Stand p l e room_1 s m #[(.long q0), (.long q2), (.int p4), (.int p5)] below meth c T246 LL 1 56 ∧ Fr n0 LL := ⟨_, X246, N246⟩
  clear cl245 Ar245 q245 S245 M245 H245 G245 hin245 W246 st246 XX243 NN243 LL243 e243 V243 K243 T243 h243 pre244 X246 N246
  obtain ⟨cl248, Ar248, q248, S248, M248, H248, G248⟩ := id V246
  have hin248 : ¬ ((25 : Int32) < 0 ∨ cl248.slots.size ≤ ((25 : Int32)).toNatClampNeg) := inb_of S248 ⟨by decide, by decide⟩
  obtain ⟨T249, h249, X249, e249, W249, st249⟩ := stI XX246 hx hZ e246 Ar248 (j := (25 : Int32)) hin248 (g := (mkF m 153 #[.val (.long q0), .second, .val (.long q2), .second, .val (.int p4), .val (.int p5), .unset, .unset, .unset, .unset, .unset, .unset, .unset, .unset, .unset, .unset, .unset, .unset] [(.int (44 : Int32)), (.int (25 : Int32)), (.ref b172), (.ref b172)])) rfl rfl (hb hby at_153)
  have V249 : Arv Z h249 b172 k172 .int (56 : Int32) (own_tl 26) (.int (0 : Int32)) := own_cast (own_set ⟨25, by decide⟩) <| Arv.set Ar248 q248 S248 M248 H248 G248 rfl W249 25 rfl (Nat.lt_of_lt_of_eq (by decide : 25 < 56) (own_len ⟨25, by decide⟩).symm)
  have K249 := K246.wr W249 (Or.inr sz_b172)
  have N249 := Fr.snoc X249 NN246 gg_b172
  have pre250 : ∀ t, Steps p.tables e below (T249.setTop (mkF m 154 #[.val (.long q0), .second, .val (.long q2), .second, .val (.int p4), .val (.int p5), .unset, .unset, .unset, .unset, .unset, .unset, .unset, .unset, .unset, .unset, .unset, .unset] [(.ref b172)])) t → Steps p.tables e below (s₁.setTop (entryFrame m #[(.long q0), (.long q2), (.int p4), (.int p5)] maxLocals)) t := fun t k => by
    refine pre247 _ ?_
    show Steps p.tables e below (T246.setTop (mkF m 148 #[.val (.long q0), .second, .val (.long q2), .second, .val (.int p4), .val (.int p5), .unset, .unset, .unset, .unset, .unset, .unset, .unset, .unset, .unset, .unset, .unset, .unset] [(.ref b172)])) _
    refine XS.dup XX246.here hx rfl (hb hby at_148) rfl rfl ?_
    show Steps p.tables e below (T246.setTop (mkF m 149 #[.val (.long q0), .second, .val (.long q2), .second, .val (.int p4), .val (.int p5), .unset, .unset, .unset, .unset, .unset, .unset, .unset, .unset, .unset, .unset, .unset, .unset] [(.ref b172), (.ref b172)])) _
    refine XS.bipush XX246.here hx rfl (hb hby at_149) ?_
    show Steps p.tables e below (T246.setTop (mkF m 151 #[.val (.long q0), .second, .val (.long q2), .second, .val (.int p4), .val (.int p5), .unset, .unset, .unset, .unset, .unset, .unset, .unset, .unset, .unset, .unset, .unset, .unset] [(.int (25 : Int32)), (.ref b172), (.ref b172)])) _
    refine XS.bipush XX246.here hx rfl (hb hby at_151) ?_
    show Steps p.tables e below (T246.setTop (mkF m 153 #[.val (.long q0), .second, .val (.long q2), .second, .val (.int p4), .val (.int p5), .unset, .unset, .unset, .unset, .unset, .unset, .unset, .unset, .unset, .unset, .unset, .unset] [(.int (44 : Int32)), (.int (25 : Int32)), (.ref b172), (.ref b172)])) _
    refine st249 _ ?_
    exact k
  obtain ⟨LL249, XX249, NN249⟩ : ∃ LL, Stand p l e room_1 s m #[(.long q0), (.long q2), (.int p4), (.int p5)] below meth c T249 LL 1 56 ∧ Fr n0 LL := ⟨_, X249, N249⟩
  clear cl248 Ar248 q248 S248 M248 H248 G248 hin248 W249 st249 XX246 NN246 LL246 e246 V246 K246 T246 h246 pre247 X249 N249
  obtain ⟨cl251, Ar251, q251, S251, M251, H251, G251⟩ := id V249
  have hin251 : ¬ ((26 : Int32) < 0 ∨ cl251.slots.size ≤ ((26 : Int32)).toNatClampNeg) := inb_of S251 ⟨by decide, by decide⟩
  obtain ⟨T252, h252, X252, e252, W252, st252⟩ := stI XX249 hx hZ e249 Ar251 (j := (26 : Int32)) hin251 (g := (mkF m 159 #[.val (.long q0), .second, .val (.long q2), .second, .val (.int p4), .val (.int p5), .unset, .unset, .unset, .unset, .unset, .unset, .unset, .unset, .unset, .unset, .unset, .unset] [(.int (22 : Int32)), (.int (26 : Int32)), (.ref b172), (.ref b172)])) rfl rfl (hb hby at_159)
  have V252 : Arv Z h252 b172 k172 .int (56 : Int32) (own_tl 27) (.int (0 : Int32)) := own_cast (own_set ⟨26, by decide⟩) <| Arv.set Ar251 q251 S251 M251 H251 G251 rfl W252 26 rfl (Nat.lt_of_lt_of_eq (by decide : 26 < 56) (own_len ⟨26, by decide⟩).symm)
  have K252 := K249.wr W252 (Or.inr sz_b172)
  have N252 := Fr.snoc X252 NN249 gg_b172
  have pre253 : ∀ t, Steps p.tables e below (T252.setTop (mkF m 160 #[.val (.long q0), .second, .val (.long q2), .second, .val (.int p4), .val (.int p5), .unset, .unset, .unset, .unset, .unset, .unset, .unset, .unset, .unset, .unset, .unset, .unset] [(.ref b172)])) t → Steps p.tables e below (s₁.setTop (entryFrame m #[(.long q0), (.long q2), (.int p4), (.int p5)] maxLocals)) t := fun t k => by
    refine pre250 _ ?_
    show Steps p.tables e below (T249.setTop (mkF m 154 #[.val (.long q0), .second, .val (.long q2), .second, .val (.int p4), .val (.int p5), .unset, .unset, .unset, .unset, .unset, .unset, .unset, .unset, .unset, .unset, .unset, .unset] [(.ref b172)])) _
    refine XS.dup XX249.here hx rfl (hb hby at_154) rfl rfl ?_
    show Steps p.tables e below (T249.setTop (mkF m 155 #[.val (.long q0), .second, .val (.long q2), .second, .val (.int p4), .val (.int p5), .unset, .unset, .unset, .unset, .unset, .unset, .unset, .unset, .unset, .unset, .unset, .unset] [(.ref b172), (.ref b172)])) _
    refine XS.bipush XX249.here hx rfl (hb hby at_155) ?_
    show Steps p.tables e below (T249.setTop (mkF m 157 #[.val (.long q0), .second, .val (.long q2), .second, .val (.int p4), .val (.int p5), .unset, .unset, .unset, .unset, .unset, .unset, .unset, .unset, .unset, .unset, .unset, .unset] [(.int (26 : Int32)), (.ref b172), (.ref b172)])) _
    refine XS.bipush XX249.here hx rfl (hb hby at_157) ?_
    show Steps p.tables e below (T249.setTop (mkF m 159 #[.val (.long q0), .second, .val (.long q2), .second, .val (.int p4), .val (.int p5), .unset, .unset, .unset, .unset, .unset, .unset, .unset, .unset, .unset, .unset, .unset, .unset] [(.int (22 : Int32)), (.int (26 : Int32)), (.ref b172), (.ref b172)])) _
    refine st252 _ ?_
    exact k
  obtain ⟨LL252, XX252, NN252⟩ : ∃ LL, Stand p l e room_1 s m #[(.long q0), (.long q2), (.int p4), (.int p5)] below meth c T252 LL 1 56 ∧ Fr n0 LL := ⟨_, X252, N252⟩
  clear cl251 Ar251 q251 S251 M251 H251 G251 hin251 W252 st252 XX249 NN249 LL249 e249 V249 K249 T249 h249 pre250 X252 N252
  obtain ⟨cl254, Ar254, q254, S254, M254, H254, G254⟩ := id V252
  have hin254 : ¬ ((27 : Int32) < 0 ∨ cl254.slots.size ≤ ((27 : Int32)).toNatClampNeg) := inb_of S254 ⟨by decide, by decide⟩
  obtain ⟨T255, h255, X255, e255, W255, st255⟩ := stI XX252 hx hZ e252 Ar254 (j := (27 : Int32)) hin254 (g := (mkF m 165 #[.val (.long q0), .second, .val (.long q2), .second, .val (.int p4), .val (.int p5), .unset, .unset, .unset, .unset, .unset, .unset, .unset, .unset, .unset, .unset, .unset, .unset] [(.int (11 : Int32)), (.int (27 : Int32)), (.ref b172), (.ref b172)])) rfl rfl (hb hby at_165)
  have V255 : Arv Z h255 b172 k172 .int (56 : Int32) (own_tl 28) (.int (0 : Int32)) := own_cast (own_set ⟨27, by decide⟩) <| Arv.set Ar254 q254 S254 M254 H254 G254 rfl W255 27 rfl (Nat.lt_of_lt_of_eq (by decide : 27 < 56) (own_len ⟨27, by decide⟩).symm)
  have K255 := K252.wr W255 (Or.inr sz_b172)
  have N255 := Fr.snoc X255 NN252 gg_b172
  have pre256 : ∀ t, Steps p.tables e below (T255.setTop (mkF m 166 #[.val (.long q0), .second, .val (.long q2), .second, .val (.int p4), .val (.int p5), .unset, .unset, .unset, .unset, .unset, .unset, .unset, .unset, .unset, .unset, .unset, .unset] [(.ref b172)])) t → Steps p.tables e below (s₁.setTop (entryFrame m #[(.long q0), (.long q2), (.int p4), (.int p5)] maxLocals)) t := fun t k => by
    refine pre253 _ ?_
    show Steps p.tables e below (T252.setTop (mkF m 160 #[.val (.long q0), .second, .val (.long q2), .second, .val (.int p4), .val (.int p5), .unset, .unset, .unset, .unset, .unset, .unset, .unset, .unset, .unset, .unset, .unset, .unset] [(.ref b172)])) _
    refine XS.dup XX252.here hx rfl (hb hby at_160) rfl rfl ?_
    show Steps p.tables e below (T252.setTop (mkF m 161 #[.val (.long q0), .second, .val (.long q2), .second, .val (.int p4), .val (.int p5), .unset, .unset, .unset, .unset, .unset, .unset, .unset, .unset, .unset, .unset, .unset, .unset] [(.ref b172), (.ref b172)])) _
    refine XS.bipush XX252.here hx rfl (hb hby at_161) ?_
    show Steps p.tables e below (T252.setTop (mkF m 163 #[.val (.long q0), .second, .val (.long q2), .second, .val (.int p4), .val (.int p5), .unset, .unset, .unset, .unset, .unset, .unset, .unset, .unset, .unset, .unset, .unset, .unset] [(.int (27 : Int32)), (.ref b172), (.ref b172)])) _
    refine XS.bipush XX252.here hx rfl (hb hby at_163) ?_
    show Steps p.tables e below (T252.setTop (mkF m 165 #[.val (.long q0), .second, .val (.long q2), .second, .val (.int p4), .val (.int p5), .unset, .unset, .unset, .unset, .unset, .unset, .unset, .unset, .unset, .unset, .unset, .unset] [(.int (11 : Int32)), (.int (27 : Int32)), (.ref b172), (.ref b172)])) _
    refine st255 _ ?_
    exact k
  obtain ⟨LL255, XX255, NN255⟩ : ∃ LL, Stand p l e room_1 s m #[(.long q0), (.long q2), (.int p4), (.int p5)] below meth c T255 LL 1 56 ∧ Fr n0 LL := ⟨_, X255, N255⟩
  clear cl254 Ar254 q254 S254 M254 H254 G254 hin254 W255 st255 XX252 NN252 LL252 e252 V252 K252 T252 h252 pre253 X255 N255
  obtain ⟨cl257, Ar257, q257, S257, M257, H257, G257⟩ := id V255
  have hin257 : ¬ ((28 : Int32) < 0 ∨ cl257.slots.size ≤ ((28 : Int32)).toNatClampNeg) := inb_of S257 ⟨by decide, by decide⟩
  obtain ⟨T258, h258, X258, e258, W258, st258⟩ := stI XX255 hx hZ e255 Ar257 (j := (28 : Int32)) hin257 (g := (mkF m 171 #[.val (.long q0), .second, .val (.long q2), .second, .val (.int p4), .val (.int p5), .unset, .unset, .unset, .unset, .unset, .unset, .unset, .unset, .unset, .unset, .unset, .unset] [(.int (103 : Int32)), (.int (28 : Int32)), (.ref b172), (.ref b172)])) rfl rfl (hb hby at_171)
  have V258 : Arv Z h258 b172 k172 .int (56 : Int32) (own_tl 29) (.int (0 : Int32)) := own_cast (own_set ⟨28, by decide⟩) <| Arv.set Ar257 q257 S257 M257 H257 G257 rfl W258 28 rfl (Nat.lt_of_lt_of_eq (by decide : 28 < 56) (own_len ⟨28, by decide⟩).symm)
  have K258 := K255.wr W258 (Or.inr sz_b172)
  have N258 := Fr.snoc X258 NN255 gg_b172
  have pre259 : ∀ t, Steps p.tables e below (T258.setTop (mkF m 172 #[.val (.long q0), .second, .val (.long q2), .second, .val (.int p4), .val (.int p5), .unset, .unset, .unset, .unset, .unset, .unset, .unset, .unset, .unset, .unset, .unset, .unset] [(.ref b172)])) t → Steps p.tables e below (s₁.setTop (entryFrame m #[(.long q0), (.long q2), (.int p4), (.int p5)] maxLocals)) t := fun t k => by
    refine pre256 _ ?_
    show Steps p.tables e below (T255.setTop (mkF m 166 #[.val (.long q0), .second, .val (.long q2), .second, .val (.int p4), .val (.int p5), .unset, .unset, .unset, .unset, .unset, .unset, .unset, .unset, .unset, .unset, .unset, .unset] [(.ref b172)])) _
    refine XS.dup XX255.here hx rfl (hb hby at_166) rfl rfl ?_
    show Steps p.tables e below (T255.setTop (mkF m 167 #[.val (.long q0), .second, .val (.long q2), .second, .val (.int p4), .val (.int p5), .unset, .unset, .unset, .unset, .unset, .unset, .unset, .unset, .unset, .unset, .unset, .unset] [(.ref b172), (.ref b172)])) _
    refine XS.bipush XX255.here hx rfl (hb hby at_167) ?_
    show Steps p.tables e below (T255.setTop (mkF m 169 #[.val (.long q0), .second, .val (.long q2), .second, .val (.int p4), .val (.int p5), .unset, .unset, .unset, .unset, .unset, .unset, .unset, .unset, .unset, .unset, .unset, .unset] [(.int (28 : Int32)), (.ref b172), (.ref b172)])) _
    refine XS.bipush XX255.here hx rfl (hb hby at_169) ?_
    show Steps p.tables e below (T255.setTop (mkF m 171 #[.val (.long q0), .second, .val (.long q2), .second, .val (.int p4), .val (.int p5), .unset, .unset, .unset, .unset, .unset, .unset, .unset, .unset, .unset, .unset, .unset, .unset] [(.int (103 : Int32)), (.int (28 : Int32)), (.ref b172), (.ref b172)])) _
    refine st258 _ ?_
    exact k
  obtain ⟨LL258, XX258, NN258⟩ : ∃ LL, Stand p l e room_1 s m #[(.long q0), (.long q2), (.int p4), (.int p5)] below meth c T258 LL 1 56 ∧ Fr n0 LL := ⟨_, X258, N258⟩
  clear cl257 Ar257 q257 S257 M257 H257 G257 hin257 W258 st258 XX255 NN255 LL255 e255 V255 K255 T255 h255 pre256 X258 N258
  obtain ⟨cl260, Ar260, q260, S260, M260, H260, G260⟩ := id V258
  have hin260 : ¬ ((29 : Int32) < 0 ∨ cl260.slots.size ≤ ((29 : Int32)).toNatClampNeg) := inb_of S260 ⟨by decide, by decide⟩
  obtain ⟨T261, h261, X261, e261, W261, st261⟩ := stI XX258 hx hZ e258 Ar260 (j := (29 : Int32)) hin260 (g := (mkF m 177 #[.val (.long q0), .second, .val (.long q2), .second, .val (.int p4), .val (.int p5), .unset, .unset, .unset, .unset, .unset, .unset, .unset, .unset, .unset, .unset, .unset, .unset] [(.int (81 : Int32)), (.int (29 : Int32)), (.ref b172), (.ref b172)])) rfl rfl (hb hby at_177)
  have V261 : Arv Z h261 b172 k172 .int (56 : Int32) (own_tl 30) (.int (0 : Int32)) := own_cast (own_set ⟨29, by decide⟩) <| Arv.set Ar260 q260 S260 M260 H260 G260 rfl W261 29 rfl (Nat.lt_of_lt_of_eq (by decide : 29 < 56) (own_len ⟨29, by decide⟩).symm)
  have K261 := K258.wr W261 (Or.inr sz_b172)
  have N261 := Fr.snoc X261 NN258 gg_b172
  have pre262 : ∀ t, Steps p.tables e below (T261.setTop (mkF m 178 #[.val (.long q0), .second, .val (.long q2), .second, .val (.int p4), .val (.int p5), .unset, .unset, .unset, .unset, .unset, .unset, .unset, .unset, .unset, .unset, .unset, .unset] [(.ref b172)])) t → Steps p.tables e below (s₁.setTop (entryFrame m #[(.long q0), (.long q2), (.int p4), (.int p5)] maxLocals)) t := fun t k => by
    refine pre259 _ ?_
    show Steps p.tables e below (T258.setTop (mkF m 172 #[.val (.long q0), .second, .val (.long q2), .second, .val (.int p4), .val (.int p5), .unset, .unset, .unset, .unset, .unset, .unset, .unset, .unset, .unset, .unset, .unset, .unset] [(.ref b172)])) _
    refine XS.dup XX258.here hx rfl (hb hby at_172) rfl rfl ?_
    show Steps p.tables e below (T258.setTop (mkF m 173 #[.val (.long q0), .second, .val (.long q2), .second, .val (.int p4), .val (.int p5), .unset, .unset, .unset, .unset, .unset, .unset, .unset, .unset, .unset, .unset, .unset, .unset] [(.ref b172), (.ref b172)])) _
    refine XS.bipush XX258.here hx rfl (hb hby at_173) ?_
    show Steps p.tables e below (T258.setTop (mkF m 175 #[.val (.long q0), .second, .val (.long q2), .second, .val (.int p4), .val (.int p5), .unset, .unset, .unset, .unset, .unset, .unset, .unset, .unset, .unset, .unset, .unset, .unset] [(.int (29 : Int32)), (.ref b172), (.ref b172)])) _
    refine XS.bipush XX258.here hx rfl (hb hby at_175) ?_
    show Steps p.tables e below (T258.setTop (mkF m 177 #[.val (.long q0), .second, .val (.long q2), .second, .val (.int p4), .val (.int p5), .unset, .unset, .unset, .unset, .unset, .unset, .unset, .unset, .unset, .unset, .unset, .unset] [(.int (81 : Int32)), (.int (29 : Int32)), (.ref b172), (.ref b172)])) _
    refine st261 _ ?_
    exact k
  obtain ⟨LL261, XX261, NN261⟩ : ∃ LL, Stand p l e room_1 s m #[(.long q0), (.long q2), (.int p4), (.int p5)] below meth c T261 LL 1 56 ∧ Fr n0 LL := ⟨_, X261, N261⟩
  clear cl260 Ar260 q260 S260 M260 H260 G260 hin260 W261 st261 XX258 NN258 LL258 e258 V258 K258 T258 h258 pre259 X261 N261
  obtain ⟨cl263, Ar263, q263, S263, M263, H263, G263⟩ := id V261
  have hin263 : ¬ ((30 : Int32) < 0 ∨ cl263.slots.size ≤ ((30 : Int32)).toNatClampNeg) := inb_of S263 ⟨by decide, by decide⟩
  obtain ⟨T264, h264, X264, e264, W264, st264⟩ := stI XX261 hx hZ e261 Ar263 (j := (30 : Int32)) hin263 (g := (mkF m 183 #[.val (.long q0), .second, .val (.long q2), .second, .val (.int p4), .val (.int p5), .unset, .unset, .unset, .unset, .unset, .unset, .unset, .unset, .unset, .unset, .unset, .unset] [(.int (74 : Int32)), (.int (30 : Int32)), (.ref b172), (.ref b172)])) rfl rfl (hb hby at_183)
  have V264 : Arv Z h264 b172 k172 .int (56 : Int32) (own_tl 31) (.int (0 : Int32)) := own_cast (own_set ⟨30, by decide⟩) <| Arv.set Ar263 q263 S263 M263 H263 G263 rfl W264 30 rfl (Nat.lt_of_lt_of_eq (by decide : 30 < 56) (own_len ⟨30, by decide⟩).symm)
  have K264 := K261.wr W264 (Or.inr sz_b172)
  have N264 := Fr.snoc X264 NN261 gg_b172
  have pre265 : ∀ t, Steps p.tables e below (T264.setTop (mkF m 184 #[.val (.long q0), .second, .val (.long q2), .second, .val (.int p4), .val (.int p5), .unset, .unset, .unset, .unset, .unset, .unset, .unset, .unset, .unset, .unset, .unset, .unset] [(.ref b172)])) t → Steps p.tables e below (s₁.setTop (entryFrame m #[(.long q0), (.long q2), (.int p4), (.int p5)] maxLocals)) t := fun t k => by
    refine pre262 _ ?_
    show Steps p.tables e below (T261.setTop (mkF m 178 #[.val (.long q0), .second, .val (.long q2), .second, .val (.int p4), .val (.int p5), .unset, .unset, .unset, .unset, .unset, .unset, .unset, .unset, .unset, .unset, .unset, .unset] [(.ref b172)])) _
    refine XS.dup XX261.here hx rfl (hb hby at_178) rfl rfl ?_
    show Steps p.tables e below (T261.setTop (mkF m 179 #[.val (.long q0), .second, .val (.long q2), .second, .val (.int p4), .val (.int p5), .unset, .unset, .unset, .unset, .unset, .unset, .unset, .unset, .unset, .unset, .unset, .unset] [(.ref b172), (.ref b172)])) _
    refine XS.bipush XX261.here hx rfl (hb hby at_179) ?_
    show Steps p.tables e below (T261.setTop (mkF m 181 #[.val (.long q0), .second, .val (.long q2), .second, .val (.int p4), .val (.int p5), .unset, .unset, .unset, .unset, .unset, .unset, .unset, .unset, .unset, .unset, .unset, .unset] [(.int (30 : Int32)), (.ref b172), (.ref b172)])) _
    refine XS.bipush XX261.here hx rfl (hb hby at_181) ?_
    show Steps p.tables e below (T261.setTop (mkF m 183 #[.val (.long q0), .second, .val (.long q2), .second, .val (.int p4), .val (.int p5), .unset, .unset, .unset, .unset, .unset, .unset, .unset, .unset, .unset, .unset, .unset, .unset] [(.int (74 : Int32)), (.int (30 : Int32)), (.ref b172), (.ref b172)])) _
    refine st264 _ ?_
    exact k
  obtain ⟨LL264, XX264, NN264⟩ : ∃ LL, Stand p l e room_1 s m #[(.long q0), (.long q2), (.int p4), (.int p5)] below meth c T264 LL 1 56 ∧ Fr n0 LL := ⟨_, X264, N264⟩
  clear cl263 Ar263 q263 S263 M263 H263 G263 hin263 W264 st264 XX261 NN261 LL261 e261 V261 K261 T261 h261 pre262 X264 N264
  obtain ⟨cl266, Ar266, q266, S266, M266, H266, G266⟩ := id V264
  have hin266 : ¬ ((31 : Int32) < 0 ∨ cl266.slots.size ≤ ((31 : Int32)).toNatClampNeg) := inb_of S266 ⟨by decide, by decide⟩
  obtain ⟨T267, h267, X267, e267, W267, st267⟩ := stI XX264 hx hZ e264 Ar266 (j := (31 : Int32)) hin266 (g := (mkF m 189 #[.val (.long q0), .second, .val (.long q2), .second, .val (.int p4), .val (.int p5), .unset, .unset, .unset, .unset, .unset, .unset, .unset, .unset, .unset, .unset, .unset, .unset] [(.int (37 : Int32)), (.int (31 : Int32)), (.ref b172), (.ref b172)])) rfl rfl (hb hby at_189)
  have V267 : Arv Z h267 b172 k172 .int (56 : Int32) (own_tl 32) (.int (0 : Int32)) := own_cast (own_set ⟨31, by decide⟩) <| Arv.set Ar266 q266 S266 M266 H266 G266 rfl W267 31 rfl (Nat.lt_of_lt_of_eq (by decide : 31 < 56) (own_len ⟨31, by decide⟩).symm)
  have K267 := K264.wr W267 (Or.inr sz_b172)
  have N267 := Fr.snoc X267 NN264 gg_b172
  have pre268 : ∀ t, Steps p.tables e below (T267.setTop (mkF m 190 #[.val (.long q0), .second, .val (.long q2), .second, .val (.int p4), .val (.int p5), .unset, .unset, .unset, .unset, .unset, .unset, .unset, .unset, .unset, .unset, .unset, .unset] [(.ref b172)])) t → Steps p.tables e below (s₁.setTop (entryFrame m #[(.long q0), (.long q2), (.int p4), (.int p5)] maxLocals)) t := fun t k => by
    refine pre265 _ ?_
    show Steps p.tables e below (T264.setTop (mkF m 184 #[.val (.long q0), .second, .val (.long q2), .second, .val (.int p4), .val (.int p5), .unset, .unset, .unset, .unset, .unset, .unset, .unset, .unset, .unset, .unset, .unset, .unset] [(.ref b172)])) _
    refine XS.dup XX264.here hx rfl (hb hby at_184) rfl rfl ?_
    show Steps p.tables e below (T264.setTop (mkF m 185 #[.val (.long q0), .second, .val (.long q2), .second, .val (.int p4), .val (.int p5), .unset, .unset, .unset, .unset, .unset, .unset, .unset, .unset, .unset, .unset, .unset, .unset] [(.ref b172), (.ref b172)])) _
    refine XS.bipush XX264.here hx rfl (hb hby at_185) ?_
    show Steps p.tables e below (T264.setTop (mkF m 187 #[.val (.long q0), .second, .val (.long q2), .second, .val (.int p4), .val (.int p5), .unset, .unset, .unset, .unset, .unset, .unset, .unset, .unset, .unset, .unset, .unset, .unset] [(.int (31 : Int32)), (.ref b172), (.ref b172)])) _
    refine XS.bipush XX264.here hx rfl (hb hby at_187) ?_
    show Steps p.tables e below (T264.setTop (mkF m 189 #[.val (.long q0), .second, .val (.long q2), .second, .val (.int p4), .val (.int p5), .unset, .unset, .unset, .unset, .unset, .unset, .unset, .unset, .unset, .unset, .unset, .unset] [(.int (37 : Int32)), (.int (31 : Int32)), (.ref b172), (.ref b172)])) _
    refine st267 _ ?_
    exact k
  obtain ⟨LL267, XX267, NN267⟩ : ∃ LL, Stand p l e room_1 s m #[(.long q0), (.long q2), (.int p4), (.int p5)] below meth c T267 LL 1 56 ∧ Fr n0 LL := ⟨_, X267, N267⟩
  clear cl266 Ar266 q266 S266 M266 H266 G266 hin266 W267 st267 XX264 NN264 LL264 e264 V264 K264 T264 h264 pre265 X267 N267
  obtain ⟨cl269, Ar269, q269, S269, M269, H269, G269⟩ := id V267
  have hin269 : ¬ ((32 : Int32) < 0 ∨ cl269.slots.size ≤ ((32 : Int32)).toNatClampNeg) := inb_of S269 ⟨by decide, by decide⟩
  obtain ⟨T270, h270, X270, e270, W270, st270⟩ := stI XX267 hx hZ e267 Ar269 (j := (32 : Int32)) hin269 (g := (mkF m 195 #[.val (.long q0), .second, .val (.long q2), .second, .val (.int p4), .val (.int p5), .unset, .unset, .unset, .unset, .unset, .unset, .unset, .unset, .unset, .unset, .unset, .unset] [(.int (112 : Int32)), (.int (32 : Int32)), (.ref b172), (.ref b172)])) rfl rfl (hb hby at_195)
  have V270 : Arv Z h270 b172 k172 .int (56 : Int32) (own_tl 33) (.int (0 : Int32)) := own_cast (own_set ⟨32, by decide⟩) <| Arv.set Ar269 q269 S269 M269 H269 G269 rfl W270 32 rfl (Nat.lt_of_lt_of_eq (by decide : 32 < 56) (own_len ⟨32, by decide⟩).symm)
  have K270 := K267.wr W270 (Or.inr sz_b172)
  have N270 := Fr.snoc X270 NN267 gg_b172
  have pre271 : ∀ t, Steps p.tables e below (T270.setTop (mkF m 196 #[.val (.long q0), .second, .val (.long q2), .second, .val (.int p4), .val (.int p5), .unset, .unset, .unset, .unset, .unset, .unset, .unset, .unset, .unset, .unset, .unset, .unset] [(.ref b172)])) t → Steps p.tables e below (s₁.setTop (entryFrame m #[(.long q0), (.long q2), (.int p4), (.int p5)] maxLocals)) t := fun t k => by
    refine pre268 _ ?_
    show Steps p.tables e below (T267.setTop (mkF m 190 #[.val (.long q0), .second, .val (.long q2), .second, .val (.int p4), .val (.int p5), .unset, .unset, .unset, .unset, .unset, .unset, .unset, .unset, .unset, .unset, .unset, .unset] [(.ref b172)])) _
    refine XS.dup XX267.here hx rfl (hb hby at_190) rfl rfl ?_
    show Steps p.tables e below (T267.setTop (mkF m 191 #[.val (.long q0), .second, .val (.long q2), .second, .val (.int p4), .val (.int p5), .unset, .unset, .unset, .unset, .unset, .unset, .unset, .unset, .unset, .unset, .unset, .unset] [(.ref b172), (.ref b172)])) _
    refine XS.bipush XX267.here hx rfl (hb hby at_191) ?_
    show Steps p.tables e below (T267.setTop (mkF m 193 #[.val (.long q0), .second, .val (.long q2), .second, .val (.int p4), .val (.int p5), .unset, .unset, .unset, .unset, .unset, .unset, .unset, .unset, .unset, .unset, .unset, .unset] [(.int (32 : Int32)), (.ref b172), (.ref b172)])) _
    refine XS.bipush XX267.here hx rfl (hb hby at_193) ?_
    show Steps p.tables e below (T267.setTop (mkF m 195 #[.val (.long q0), .second, .val (.long q2), .second, .val (.int p4), .val (.int p5), .unset, .unset, .unset, .unset, .unset, .unset, .unset, .unset, .unset, .unset, .unset, .unset] [(.int (112 : Int32)), (.int (32 : Int32)), (.ref b172), (.ref b172)])) _
    refine st270 _ ?_
    exact k
  obtain ⟨LL270, XX270, NN270⟩ : ∃ LL, Stand p l e room_1 s m #[(.long q0), (.long q2), (.int p4), (.int p5)] below meth c T270 LL 1 56 ∧ Fr n0 LL := ⟨_, X270, N270⟩
  clear cl269 Ar269 q269 S269 M269 H269 G269 hin269 W270 st270 XX267 NN267 LL267 e267 V267 K267 T267 h267 pre268 X270 N270
  obtain ⟨cl272, Ar272, q272, S272, M272, H272, G272⟩ := id V270
  have hin272 : ¬ ((33 : Int32) < 0 ∨ cl272.slots.size ≤ ((33 : Int32)).toNatClampNeg) := inb_of S272 ⟨by decide, by decide⟩
  obtain ⟨T273, h273, X273, e273, W273, st273⟩ := stI XX270 hx hZ e270 Ar272 (j := (33 : Int32)) hin272 (g := (mkF m 201 #[.val (.long q0), .second, .val (.long q2), .second, .val (.int p4), .val (.int p5), .unset, .unset, .unset, .unset, .unset, .unset, .unset, .unset, .unset, .unset, .unset, .unset] [(.int (56 : Int32)), (.int (33 : Int32)), (.ref b172), (.ref b172)])) rfl rfl (hb hby at_201)
  have V273 : Arv Z h273 b172 k172 .int (56 : Int32) (own_tl 34) (.int (0 : Int32)) := own_cast (own_set ⟨33, by decide⟩) <| Arv.set Ar272 q272 S272 M272 H272 G272 rfl W273 33 rfl (Nat.lt_of_lt_of_eq (by decide : 33 < 56) (own_len ⟨33, by decide⟩).symm)
  have K273 := K270.wr W273 (Or.inr sz_b172)
  have N273 := Fr.snoc X273 NN270 gg_b172
  have pre274 : ∀ t, Steps p.tables e below (T273.setTop (mkF m 202 #[.val (.long q0), .second, .val (.long q2), .second, .val (.int p4), .val (.int p5), .unset, .unset, .unset, .unset, .unset, .unset, .unset, .unset, .unset, .unset, .unset, .unset] [(.ref b172)])) t → Steps p.tables e below (s₁.setTop (entryFrame m #[(.long q0), (.long q2), (.int p4), (.int p5)] maxLocals)) t := fun t k => by
    refine pre271 _ ?_
    show Steps p.tables e below (T270.setTop (mkF m 196 #[.val (.long q0), .second, .val (.long q2), .second, .val (.int p4), .val (.int p5), .unset, .unset, .unset, .unset, .unset, .unset, .unset, .unset, .unset, .unset, .unset, .unset] [(.ref b172)])) _
    refine XS.dup XX270.here hx rfl (hb hby at_196) rfl rfl ?_
    show Steps p.tables e below (T270.setTop (mkF m 197 #[.val (.long q0), .second, .val (.long q2), .second, .val (.int p4), .val (.int p5), .unset, .unset, .unset, .unset, .unset, .unset, .unset, .unset, .unset, .unset, .unset, .unset] [(.ref b172), (.ref b172)])) _
    refine XS.bipush XX270.here hx rfl (hb hby at_197) ?_
    show Steps p.tables e below (T270.setTop (mkF m 199 #[.val (.long q0), .second, .val (.long q2), .second, .val (.int p4), .val (.int p5), .unset, .unset, .unset, .unset, .unset, .unset, .unset, .unset, .unset, .unset, .unset, .unset] [(.int (33 : Int32)), (.ref b172), (.ref b172)])) _
    refine XS.bipush XX270.here hx rfl (hb hby at_199) ?_
    show Steps p.tables e below (T270.setTop (mkF m 201 #[.val (.long q0), .second, .val (.long q2), .second, .val (.int p4), .val (.int p5), .unset, .unset, .unset, .unset, .unset, .unset, .unset, .unset, .unset, .unset, .unset, .unset] [(.int (56 : Int32)), (.int (33 : Int32)), (.ref b172), (.ref b172)])) _
    refine st273 _ ?_
    exact k
  obtain ⟨LL273, XX273, NN273⟩ : ∃ LL, Stand p l e room_1 s m #[(.long q0), (.long q2), (.int p4), (.int p5)] below meth c T273 LL 1 56 ∧ Fr n0 LL := ⟨_, X273, N273⟩
  clear cl272 Ar272 q272 S272 M272 H272 G272 hin272 W273 st273 XX270 NN270 LL270 e270 V270 K270 T270 h270 pre271 X273 N273
  obtain ⟨cl275, Ar275, q275, S275, M275, H275, G275⟩ := id V273
  have hin275 : ¬ ((34 : Int32) < 0 ∨ cl275.slots.size ≤ ((34 : Int32)).toNatClampNeg) := inb_of S275 ⟨by decide, by decide⟩
  obtain ⟨T276, h276, X276, e276, W276, st276⟩ := stI XX273 hx hZ e273 Ar275 (j := (34 : Int32)) hin275 (g := (mkF m 207 #[.val (.long q0), .second, .val (.long q2), .second, .val (.int p4), .val (.int p5), .unset, .unset, .unset, .unset, .unset, .unset, .unset, .unset, .unset, .unset, .unset, .unset] [(.int (28 : Int32)), (.int (34 : Int32)), (.ref b172), (.ref b172)])) rfl rfl (hb hby at_207)
  have V276 : Arv Z h276 b172 k172 .int (56 : Int32) (own_tl 35) (.int (0 : Int32)) := own_cast (own_set ⟨34, by decide⟩) <| Arv.set Ar275 q275 S275 M275 H275 G275 rfl W276 34 rfl (Nat.lt_of_lt_of_eq (by decide : 34 < 56) (own_len ⟨34, by decide⟩).symm)
  have K276 := K273.wr W276 (Or.inr sz_b172)
  have N276 := Fr.snoc X276 NN273 gg_b172
  have pre277 : ∀ t, Steps p.tables e below (T276.setTop (mkF m 208 #[.val (.long q0), .second, .val (.long q2), .second, .val (.int p4), .val (.int p5), .unset, .unset, .unset, .unset, .unset, .unset, .unset, .unset, .unset, .unset, .unset, .unset] [(.ref b172)])) t → Steps p.tables e below (s₁.setTop (entryFrame m #[(.long q0), (.long q2), (.int p4), (.int p5)] maxLocals)) t := fun t k => by
    refine pre274 _ ?_
    show Steps p.tables e below (T273.setTop (mkF m 202 #[.val (.long q0), .second, .val (.long q2), .second, .val (.int p4), .val (.int p5), .unset, .unset, .unset, .unset, .unset, .unset, .unset, .unset, .unset, .unset, .unset, .unset] [(.ref b172)])) _
    refine XS.dup XX273.here hx rfl (hb hby at_202) rfl rfl ?_
    show Steps p.tables e below (T273.setTop (mkF m 203 #[.val (.long q0), .second, .val (.long q2), .second, .val (.int p4), .val (.int p5), .unset, .unset, .unset, .unset, .unset, .unset, .unset, .unset, .unset, .unset, .unset, .unset] [(.ref b172), (.ref b172)])) _
    refine XS.bipush XX273.here hx rfl (hb hby at_203) ?_
    show Steps p.tables e below (T273.setTop (mkF m 205 #[.val (.long q0), .second, .val (.long q2), .second, .val (.int p4), .val (.int p5), .unset, .unset, .unset, .unset, .unset, .unset, .unset, .unset, .unset, .unset, .unset, .unset] [(.int (34 : Int32)), (.ref b172), (.ref b172)])) _
    refine XS.bipush XX273.here hx rfl (hb hby at_205) ?_
    show Steps p.tables e below (T273.setTop (mkF m 207 #[.val (.long q0), .second, .val (.long q2), .second, .val (.int p4), .val (.int p5), .unset, .unset, .unset, .unset, .unset, .unset, .unset, .unset, .unset, .unset, .unset, .unset] [(.int (28 : Int32)), (.int (34 : Int32)), (.ref b172), (.ref b172)])) _
    refine st276 _ ?_
    exact k
  obtain ⟨LL276, XX276, NN276⟩ : ∃ LL, Stand p l e room_1 s m #[(.long q0), (.long q2), (.int p4), (.int p5)] below meth c T276 LL 1 56 ∧ Fr n0 LL := ⟨_, X276, N276⟩
  clear cl275 Ar275 q275 S275 M275 H275 G275 hin275 W276 st276 XX273 NN273 LL273 e273 V273 K273 T273 h273 pre274 X276 N276
  obtain ⟨cl278, Ar278, q278, S278, M278, H278, G278⟩ := id V276
  have hin278 : ¬ ((35 : Int32) < 0 ∨ cl278.slots.size ≤ ((35 : Int32)).toNatClampNeg) := inb_of S278 ⟨by decide, by decide⟩
  obtain ⟨T279, h279, X279, e279, W279, st279⟩ := stI XX276 hx hZ e276 Ar278 (j := (35 : Int32)) hin278 (g := (mkF m 213 #[.val (.long q0), .second, .val (.long q2), .second, .val (.int p4), .val (.int p5), .unset, .unset, .unset, .unset, .unset, .unset, .unset, .unset, .unset, .unset, .unset, .unset] [(.int (14 : Int32)), (.int (35 : Int32)), (.ref b172), (.ref b172)])) rfl rfl (hb hby at_213)
  have V279 : Arv Z h279 b172 k172 .int (56 : Int32) (own_tl 36) (.int (0 : Int32)) := own_cast (own_set ⟨35, by decide⟩) <| Arv.set Ar278 q278 S278 M278 H278 G278 rfl W279 35 rfl (Nat.lt_of_lt_of_eq (by decide : 35 < 56) (own_len ⟨35, by decide⟩).symm)
  have K279 := K276.wr W279 (Or.inr sz_b172)
  have N279 := Fr.snoc X279 NN276 gg_b172
  have pre280 : ∀ t, Steps p.tables e below (T279.setTop (mkF m 214 #[.val (.long q0), .second, .val (.long q2), .second, .val (.int p4), .val (.int p5), .unset, .unset, .unset, .unset, .unset, .unset, .unset, .unset, .unset, .unset, .unset, .unset] [(.ref b172)])) t → Steps p.tables e below (s₁.setTop (entryFrame m #[(.long q0), (.long q2), (.int p4), (.int p5)] maxLocals)) t := fun t k => by
    refine pre277 _ ?_
    show Steps p.tables e below (T276.setTop (mkF m 208 #[.val (.long q0), .second, .val (.long q2), .second, .val (.int p4), .val (.int p5), .unset, .unset, .unset, .unset, .unset, .unset, .unset, .unset, .unset, .unset, .unset, .unset] [(.ref b172)])) _
    refine XS.dup XX276.here hx rfl (hb hby at_208) rfl rfl ?_
    show Steps p.tables e below (T276.setTop (mkF m 209 #[.val (.long q0), .second, .val (.long q2), .second, .val (.int p4), .val (.int p5), .unset, .unset, .unset, .unset, .unset, .unset, .unset, .unset, .unset, .unset, .unset, .unset] [(.ref b172), (.ref b172)])) _
    refine XS.bipush XX276.here hx rfl (hb hby at_209) ?_
    show Steps p.tables e below (T276.setTop (mkF m 211 #[.val (.long q0), .second, .val (.long q2), .second, .val (.int p4), .val (.int p5), .unset, .unset, .unset, .unset, .unset, .unset, .unset, .unset, .unset, .unset, .unset, .unset] [(.int (35 : Int32)), (.ref b172), (.ref b172)])) _
    refine XS.bipush XX276.here hx rfl (hb hby at_211) ?_
    show Steps p.tables e below (T276.setTop (mkF m 213 #[.val (.long q0), .second, .val (.long q2), .second, .val (.int p4), .val (.int p5), .unset, .unset, .unset, .unset, .unset, .unset, .unset, .unset, .unset, .unset, .unset, .unset] [(.int (14 : Int32)), (.int (35 : Int32)), (.ref b172), (.ref b172)])) _
    refine st279 _ ?_
    exact k
  obtain ⟨LL279, XX279, NN279⟩ : ∃ LL, Stand p l e room_1 s m #[(.long q0), (.long q2), (.int p4), (.int p5)] below meth c T279 LL 1 56 ∧ Fr n0 LL := ⟨_, X279, N279⟩
  clear cl278 Ar278 q278 S278 M278 H278 G278 hin278 W279 st279 XX276 NN276 LL276 e276 V276 K276 T276 h276 pre277 X279 N279
  obtain ⟨cl281, Ar281, q281, S281, M281, H281, G281⟩ := id V279
  have hin281 : ¬ ((36 : Int32) < 0 ∨ cl281.slots.size ≤ ((36 : Int32)).toNatClampNeg) := inb_of S281 ⟨by decide, by decide⟩
  obtain ⟨T282, h282, X282, e282, W282, st282⟩ := stI XX279 hx hZ e279 Ar281 (j := (36 : Int32)) hin281 (g := (mkF m 219 #[.val (.long q0), .second, .val (.long q2), .second, .val (.int p4), .val (.int p5), .unset, .unset, .unset, .unset, .unset, .unset, .unset, .unset, .unset, .unset, .unset, .unset] [(.int (7 : Int32)), (.int (36 : Int32)), (.ref b172), (.ref b172)])) rfl rfl (hb hby at_219)
  have V282 : Arv Z h282 b172 k172 .int (56 : Int32) (own_tl 37) (.int (0 : Int32)) := own_cast (own_set ⟨36, by decide⟩) <| Arv.set Ar281 q281 S281 M281 H281 G281 rfl W282 36 rfl (Nat.lt_of_lt_of_eq (by decide : 36 < 56) (own_len ⟨36, by decide⟩).symm)
  have K282 := K279.wr W282 (Or.inr sz_b172)
  have N282 := Fr.snoc X282 NN279 gg_b172
  have pre283 : ∀ t, Steps p.tables e below (T282.setTop (mkF m 220 #[.val (.long q0), .second, .val (.long q2), .second, .val (.int p4), .val (.int p5), .unset, .unset, .unset, .unset, .unset, .unset, .unset, .unset, .unset, .unset, .unset, .unset] [(.ref b172)])) t → Steps p.tables e below (s₁.setTop (entryFrame m #[(.long q0), (.long q2), (.int p4), (.int p5)] maxLocals)) t := fun t k => by
    refine pre280 _ ?_
    show Steps p.tables e below (T279.setTop (mkF m 214 #[.val (.long q0), .second, .val (.long q2), .second, .val (.int p4), .val (.int p5), .unset, .unset, .unset, .unset, .unset, .unset, .unset, .unset, .unset, .unset, .unset, .unset] [(.ref b172)])) _
    refine XS.dup XX279.here hx rfl (hb hby at_214) rfl rfl ?_
    show Steps p.tables e below (T279.setTop (mkF m 215 #[.val (.long q0), .second, .val (.long q2), .second, .val (.int p4), .val (.int p5), .unset, .unset, .unset, .unset, .unset, .unset, .unset, .unset, .unset, .unset, .unset, .unset] [(.ref b172), (.ref b172)])) _
    refine XS.bipush XX279.here hx rfl (hb hby at_215) ?_
    show Steps p.tables e below (T279.setTop (mkF m 217 #[.val (.long q0), .second, .val (.long q2), .second, .val (.int p4), .val (.int p5), .unset, .unset, .unset, .unset, .unset, .unset, .unset, .unset, .unset, .unset, .unset, .unset] [(.int (36 : Int32)), (.ref b172), (.ref b172)])) _
    refine XS.bipush XX279.here hx rfl (hb hby at_217) ?_
    show Steps p.tables e below (T279.setTop (mkF m 219 #[.val (.long q0), .second, .val (.long q2), .second, .val (.int p4), .val (.int p5), .unset, .unset, .unset, .unset, .unset, .unset, .unset, .unset, .unset, .unset, .unset, .unset] [(.int (7 : Int32)), (.int (36 : Int32)), (.ref b172), (.ref b172)])) _
    refine st282 _ ?_
    exact k
  obtain ⟨LL282, XX282, NN282⟩ : ∃ LL, Stand p l e room_1 s m #[(.long q0), (.long q2), (.int p4), (.int p5)] below meth c T282 LL 1 56 ∧ Fr n0 LL := ⟨_, X282, N282⟩
  clear cl281 Ar281 q281 S281 M281 H281 G281 hin281 W282 st282 XX279 NN279 LL279 e279 V279 K279 T279 h279 pre280 X282 N282
  obtain ⟨cl284, Ar284, q284, S284, M284, H284, G284⟩ := id V282
  have hin284 : ¬ ((37 : Int32) < 0 ∨ cl284.slots.size ≤ ((37 : Int32)).toNatClampNeg) := inb_of S284 ⟨by decide, by decide⟩
  obtain ⟨T285, h285, X285, e285, W285, st285⟩ := stI XX282 hx hZ e282 Ar284 (j := (37 : Int32)) hin284 (g := (mkF m 225 #[.val (.long q0), .second, .val (.long q2), .second, .val (.int p4), .val (.int p5), .unset, .unset, .unset, .unset, .unset, .unset, .unset, .unset, .unset, .unset, .unset, .unset] [(.int (97 : Int32)), (.int (37 : Int32)), (.ref b172), (.ref b172)])) rfl rfl (hb hby at_225)
  have V285 : Arv Z h285 b172 k172 .int (56 : Int32) (own_tl 38) (.int (0 : Int32)) := own_cast (own_set ⟨37, by decide⟩) <| Arv.set Ar284 q284 S284 M284 H284 G284 rfl W285 37 rfl (Nat.lt_of_lt_of_eq (by decide : 37 < 56) (own_len ⟨37, by decide⟩).symm)
  have K285 := K282.wr W285 (Or.inr sz_b172)
  have N285 := Fr.snoc X285 NN282 gg_b172
  have pre286 : ∀ t, Steps p.tables e below (T285.setTop (mkF m 226 #[.val (.long q0), .second, .val (.long q2), .second, .val (.int p4), .val (.int p5), .unset, .unset, .unset, .unset, .unset, .unset, .unset, .unset, .unset, .unset, .unset, .unset] [(.ref b172)])) t → Steps p.tables e below (s₁.setTop (entryFrame m #[(.long q0), (.long q2), (.int p4), (.int p5)] maxLocals)) t := fun t k => by
    refine pre283 _ ?_
    show Steps p.tables e below (T282.setTop (mkF m 220 #[.val (.long q0), .second, .val (.long q2), .second, .val (.int p4), .val (.int p5), .unset, .unset, .unset, .unset, .unset, .unset, .unset, .unset, .unset, .unset, .unset, .unset] [(.ref b172)])) _
    refine XS.dup XX282.here hx rfl (hb hby at_220) rfl rfl ?_
    show Steps p.tables e below (T282.setTop (mkF m 221 #[.val (.long q0), .second, .val (.long q2), .second, .val (.int p4), .val (.int p5), .unset, .unset, .unset, .unset, .unset, .unset, .unset, .unset, .unset, .unset, .unset, .unset] [(.ref b172), (.ref b172)])) _
    refine XS.bipush XX282.here hx rfl (hb hby at_221) ?_
    show Steps p.tables e below (T282.setTop (mkF m 223 #[.val (.long q0), .second, .val (.long q2), .second, .val (.int p4), .val (.int p5), .unset, .unset, .unset, .unset, .unset, .unset, .unset, .unset, .unset, .unset, .unset, .unset] [(.int (37 : Int32)), (.ref b172), (.ref b172)])) _
    refine XS.bipush XX282.here hx rfl (hb hby at_223) ?_
    show Steps p.tables e below (T282.setTop (mkF m 225 #[.val (.long q0), .second, .val (.long q2), .second, .val (.int p4), .val (.int p5), .unset, .unset, .unset, .unset, .unset, .unset, .unset, .unset, .unset, .unset, .unset, .unset] [(.int (97 : Int32)), (.int (37 : Int32)), (.ref b172), (.ref b172)])) _
    refine st285 _ ?_
    exact k
  obtain ⟨LL285, XX285, NN285⟩ : ∃ LL, Stand p l e room_1 s m #[(.long q0), (.long q2), (.int p4), (.int p5)] below meth c T285 LL 1 56 ∧ Fr n0 LL := ⟨_, X285, N285⟩
  clear cl284 Ar284 q284 S284 M284 H284 G284 hin284 W285 st285 XX282 NN282 LL282 e282 V282 K282 T282 h282 pre283 X285 N285
  obtain ⟨cl287, Ar287, q287, S287, M287, H287, G287⟩ := id V285
  have hin287 : ¬ ((38 : Int32) < 0 ∨ cl287.slots.size ≤ ((38 : Int32)).toNatClampNeg) := inb_of S287 ⟨by decide, by decide⟩
  obtain ⟨T288, h288, X288, e288, W288, st288⟩ := stI XX285 hx hZ e285 Ar287 (j := (38 : Int32)) hin287 (g := (mkF m 231 #[.val (.long q0), .second, .val (.long q2), .second, .val (.int p4), .val (.int p5), .unset, .unset, .unset, .unset, .unset, .unset, .unset, .unset, .unset, .unset, .unset, .unset] [(.int (82 : Int32)), (.int (38 : Int32)), (.ref b172), (.ref b172)])) rfl rfl (hb hby at_231)
  have V288 : Arv Z h288 b172 k172 .int (56 : Int32) (own_tl 39) (.int (0 : Int32)) := own_cast (own_set ⟨38, by decide⟩) <| Arv.set Ar287 q287 S287 M287 H287 G287 rfl W288 38 rfl (Nat.lt_of_lt_of_eq (by decide : 38 < 56) (own_len ⟨38, by decide⟩).symm)
  have K288 := K285.wr W288 (Or.inr sz_b172)
  have N288 := Fr.snoc X288 NN285 gg_b172
  have pre289 : ∀ t, Steps p.tables e below (T288.setTop (mkF m 232 #[.val (.long q0), .second, .val (.long q2), .second, .val (.int p4), .val (.int p5), .unset, .unset, .unset, .unset, .unset, .unset, .unset, .unset, .unset, .unset, .unset, .unset] [(.ref b172)])) t → Steps p.tables e below (s₁.setTop (entryFrame m #[(.long q0), (.long q2), (.int p4), (.int p5)] maxLocals)) t := fun t k => by
    refine pre286 _ ?_
    show Steps p.tables e below (T285.setTop (mkF m 226 #[.val (.long q0), .second, .val (.long q2), .second, .val (.int p4), .val (.int p5), .unset, .unset, .unset, .unset, .unset, .unset, .unset, .unset, .unset, .unset, .unset, .unset] [(.ref b172)])) _
    refine XS.dup XX285.here hx rfl (hb hby at_226) rfl rfl ?_
    show Steps p.tables e below (T285.setTop (mkF m 227 #[.val (.long q0), .second, .val (.long q2), .second, .val (.int p4), .val (.int p5), .unset, .unset, .unset, .unset, .unset, .unset, .unset, .unset, .unset, .unset, .unset, .unset] [(.ref b172), (.ref b172)])) _
    refine XS.bipush XX285.here hx rfl (hb hby at_227) ?_
    show Steps p.tables e below (T285.setTop (mkF m 229 #[.val (.long q0), .second, .val (.long q2), .second, .val (.int p4), .val (.int p5), .unset, .unset, .unset, .unset, .unset, .unset, .unset, .unset, .unset, .unset, .unset, .unset] [(.int (38 : Int32)), (.ref b172), (.ref b172)])) _
    refine XS.bipush XX285.here hx rfl (hb hby at_229) ?_
    show Steps p.tables e below (T285.setTop (mkF m 231 #[.val (.long q0), .second, .val (.long q2), .second, .val (.int p4), .val (.int p5), .unset, .unset, .unset, .unset, .unset, .unset, .unset, .unset, .unset, .unset, .unset, .unset] [(.int (82 : Int32)), (.int (38 : Int32)), (.ref b172), (.ref b172)])) _
    refine st288 _ ?_
    exact k
  obtain ⟨LL288, XX288, NN288⟩ : ∃ LL, Stand p l e room_1 s m #[(.long q0), (.long q2), (.int p4), (.int p5)] below meth c T288 LL 1 56 ∧ Fr n0 LL := ⟨_, X288, N288⟩
  clear cl287 Ar287 q287 S287 M287 H287 G287 hin287 W288 st288 XX285 NN285 LL285 e285 V285 K285 T285 h285 pre286 X288 N288
  obtain ⟨cl290, Ar290, q290, S290, M290, H290, G290⟩ := id V288
  have hin290 : ¬ ((39 : Int32) < 0 ∨ cl290.slots.size ≤ ((39 : Int32)).toNatClampNeg) := inb_of S290 ⟨by decide, by decide⟩
  obtain ⟨T291, h291, X291, e291, W291, st291⟩ := stI XX288 hx hZ e288 Ar290 (j := (39 : Int32)) hin290 (g := (mkF m 237 #[.val (.long q0), .second, .val (.long q2), .second, .val (.int p4), .val (.int p5), .unset, .unset, .unset, .unset, .unset, .unset, .unset, .unset, .unset, .unset, .unset, .unset] [(.int (41 : Int32)), (.int (39 : Int32)), (.ref b172), (.ref b172)])) rfl rfl (hb hby at_237)
  have V291 : Arv Z h291 b172 k172 .int (56 : Int32) (own_tl 40) (.int (0 : Int32)) := own_cast (own_set ⟨39, by decide⟩) <| Arv.set Ar290 q290 S290 M290 H290 G290 rfl W291 39 rfl (Nat.lt_of_lt_of_eq (by decide : 39 < 56) (own_len ⟨39, by decide⟩).symm)
  have K291 := K288.wr W291 (Or.inr sz_b172)
  have N291 := Fr.snoc X291 NN288 gg_b172
  have pre292 : ∀ t, Steps p.tables e below (T291.setTop (mkF m 238 #[.val (.long q0), .second, .val (.long q2), .second, .val (.int p4), .val (.int p5), .unset, .unset, .unset, .unset, .unset, .unset, .unset, .unset, .unset, .unset, .unset, .unset] [(.ref b172)])) t → Steps p.tables e below (s₁.setTop (entryFrame m #[(.long q0), (.long q2), (.int p4), (.int p5)] maxLocals)) t := fun t k => by
    refine pre289 _ ?_
    show Steps p.tables e below (T288.setTop (mkF m 232 #[.val (.long q0), .second, .val (.long q2), .second, .val (.int p4), .val (.int p5), .unset, .unset, .unset, .unset, .unset, .unset, .unset, .unset, .unset, .unset, .unset, .unset] [(.ref b172)])) _
    refine XS.dup XX288.here hx rfl (hb hby at_232) rfl rfl ?_
    show Steps p.tables e below (T288.setTop (mkF m 233 #[.val (.long q0), .second, .val (.long q2), .second, .val (.int p4), .val (.int p5), .unset, .unset, .unset, .unset, .unset, .unset, .unset, .unset, .unset, .unset, .unset, .unset] [(.ref b172), (.ref b172)])) _
    refine XS.bipush XX288.here hx rfl (hb hby at_233) ?_
    show Steps p.tables e below (T288.setTop (mkF m 235 #[.val (.long q0), .second, .val (.long q2), .second, .val (.int p4), .val (.int p5), .unset, .unset, .unset, .unset, .unset, .unset, .unset, .unset, .unset, .unset, .unset, .unset] [(.int (39 : Int32)), (.ref b172), (.ref b172)])) _
    refine XS.bipush XX288.here hx rfl (hb hby at_235) ?_
    show Steps p.tables e below (T288.setTop (mkF m 237 #[.val (.long q0), .second, .val (.long q2), .second, .val (.int p4), .val (.int p5), .unset, .unset, .unset, .unset, .unset, .unset, .unset, .unset, .unset, .unset, .unset, .unset] [(.int (41 : Int32)), (.int (39 : Int32)), (.ref b172), (.ref b172)])) _
    refine st291 _ ?_
    exact k
  obtain ⟨LL291, XX291, NN291⟩ : ∃ LL, Stand p l e room_1 s m #[(.long q0), (.long q2), (.int p4), (.int p5)] below meth c T291 LL 1 56 ∧ Fr n0 LL := ⟨_, X291, N291⟩
  clear cl290 Ar290 q290 S290 M290 H290 G290 hin290 W291 st291 XX288 NN288 LL288 e288 V288 K288 T288 h288 pre289 X291 N291
  obtain ⟨cl293, Ar293, q293, S293, M293, H293, G293⟩ := id V291
  have hin293 : ¬ ((40 : Int32) < 0 ∨ cl293.slots.size ≤ ((40 : Int32)).toNatClampNeg) := inb_of S293 ⟨by decide, by decide⟩
  obtain ⟨T294, h294, X294, e294, W294, st294⟩ := stI XX291 hx hZ e291 Ar293 (j := (40 : Int32)) hin293 (g := (mkF m 243 #[.val (.long q0), .second, .val (.long q2), .second, .val (.int p4), .val (.int p5), .unset, .unset, .unset, .unset, .unset, .unset, .unset, .unset, .unset, .unset, .unset, .unset] [(.int (118 : Int32)), (.int (40 : Int32)), (.ref b172), (.ref b172)])) rfl rfl (hb hby at_243)
  have V294 : Arv Z h294 b172 k172 .int (56 : Int32) (own_tl 41) (.int (0 : Int32)) := own_cast (own_set ⟨40, by decide⟩) <| Arv.set Ar293 q293 S293 M293 H293 G293 rfl W294 40 rfl (Nat.lt_of_lt_of_eq (by decide : 40 < 56) (own_len ⟨40, by decide⟩).symm)
  have K294 := K291.wr W294 (Or.inr sz_b172)
  have N294 := Fr.snoc X294 NN291 gg_b172
  have pre295 : ∀ t, Steps p.tables e below (T294.setTop (mkF m 244 #[.val (.long q0), .second, .val (.long q2), .second, .val (.int p4), .val (.int p5), .unset, .unset, .unset, .unset, .unset, .unset, .unset, .unset, .unset, .unset, .unset, .unset] [(.ref b172)])) t → Steps p.tables e below (s₁.setTop (entryFrame m #[(.long q0), (.long q2), (.int p4), (.int p5)] maxLocals)) t := fun t k => by
    refine pre292 _ ?_
    show Steps p.tables e below (T291.setTop (mkF m 238 #[.val (.long q0), .second, .val (.long q2), .second, .val (.int p4), .val (.int p5), .unset, .unset, .unset, .unset, .unset, .unset, .unset, .unset, .unset, .unset, .unset, .unset] [(.ref b172)])) _
    refine XS.dup XX291.here hx rfl (hb hby at_238) rfl rfl ?_
    show Steps p.tables e below (T291.setTop (mkF m 239 #[.val (.long q0), .second, .val (.long q2), .second, .val (.int p4), .val (.int p5), .unset, .unset, .unset, .unset, .unset, .unset, .unset, .unset, .unset, .unset, .unset, .unset] [(.ref b172), (.ref b172)])) _
    refine XS.bipush XX291.here hx rfl (hb hby at_239) ?_
    show Steps p.tables e below (T291.setTop (mkF m 241 #[.val (.long q0), .second, .val (.long q2), .second, .val (.int p4), .val (.int p5), .unset, .unset, .unset, .unset, .unset, .unset, .unset, .unset, .unset, .unset, .unset, .unset] [(.int (40 : Int32)), (.ref b172), (.ref b172)])) _
    refine XS.bipush XX291.here hx rfl (hb hby at_241) ?_
    show Steps p.tables e below (T291.setTop (mkF m 243 #[.val (.long q0), .second, .val (.long q2), .second, .val (.int p4), .val (.int p5), .unset, .unset, .unset, .unset, .unset, .unset, .unset, .unset, .unset, .unset, .unset, .unset] [(.int (118 : Int32)), (.int (40 : Int32)), (.ref b172), (.ref b172)])) _
    refine st294 _ ?_
    exact k
  obtain ⟨LL294, XX294, NN294⟩ : ∃ LL, Stand p l e room_1 s m #[(.long q0), (.long q2), (.int p4), (.int p5)] below meth c T294 LL 1 56 ∧ Fr n0 LL := ⟨_, X294, N294⟩
  clear cl293 Ar293 q293 S293 M293 H293 G293 hin293 W294 st294 XX291 NN291 LL291 e291 V291 K291 T291 h291 pre292 X294 N294
  obtain ⟨cl296, Ar296, q296, S296, M296, H296, G296⟩ := id V294
  have hin296 : ¬ ((41 : Int32) < 0 ∨ cl296.slots.size ≤ ((41 : Int32)).toNatClampNeg) := inb_of S296 ⟨by decide, by decide⟩
  obtain ⟨T297, h297, X297, e297, W297, st297⟩ := stI XX294 hx hZ e294 Ar296 (j := (41 : Int32)) hin296 (g := (mkF m 249 #[.val (.long q0), .second, .val (.long q2), .second, .val (.int p4), .val (.int p5), .unset, .unset, .unset, .unset, .unset, .unset, .unset, .unset, .unset, .unset, .unset, .unset] [(.int (59 : Int32)), (.int (41 : Int32)), (.ref b172), (.ref b172)])) rfl rfl (hb hby at_249)
  have V297 : Arv Z h297 b172 k172 .int (56 : Int32) (own_tl 42) (.int (0 : Int32)) := own_cast (own_set ⟨41, by decide⟩) <| Arv.set Ar296 q296 S296 M296 H296 G296 rfl W297 41 rfl (Nat.lt_of_lt_of_eq (by decide : 41 < 56) (own_len ⟨41, by decide⟩).symm)
  have K297 := K294.wr W297 (Or.inr sz_b172)
  have N297 := Fr.snoc X297 NN294 gg_b172
  have pre298 : ∀ t, Steps p.tables e below (T297.setTop (mkF m 250 #[.val (.long q0), .second, .val (.long q2), .second, .val (.int p4), .val (.int p5), .unset, .unset, .unset, .unset, .unset, .unset, .unset, .unset, .unset, .unset, .unset, .unset] [(.ref b172)])) t → Steps p.tables e below (s₁.setTop (entryFrame m #[(.long q0), (.long q2), (.int p4), (.int p5)] maxLocals)) t := fun t k => by
    refine pre295 _ ?_
    show Steps p.tables e below (T294.setTop (mkF m 244 #[.val (.long q0), .second, .val (.long q2), .second, .val (.int p4), .val (.int p5), .unset, .unset, .unset, .unset, .unset, .unset, .unset, .unset, .unset, .unset, .unset, .unset] [(.ref b172)])) _
    refine XS.dup XX294.here hx rfl (hb hby at_244) rfl rfl ?_
    show Steps p.tables e below (T294.setTop (mkF m 245 #[.val (.long q0), .second, .val (.long q2), .second, .val (.int p4), .val (.int p5), .unset, .unset, .unset, .unset, .unset, .unset, .unset, .unset, .unset, .unset, .unset, .unset] [(.ref b172), (.ref b172)])) _
    refine XS.bipush XX294.here hx rfl (hb hby at_245) ?_
    show Steps p.tables e below (T294.setTop (mkF m 247 #[.val (.long q0), .second, .val (.long q2), .second, .val (.int p4), .val (.int p5), .unset, .unset, .unset, .unset, .unset, .unset, .unset, .unset, .unset, .unset, .unset, .unset] [(.int (41 : Int32)), (.ref b172), (.ref b172)])) _
    refine XS.bipush XX294.here hx rfl (hb hby at_247) ?_
    show Steps p.tables e below (T294.setTop (mkF m 249 #[.val (.long q0), .second, .val (.long q2), .second, .val (.int p4), .val (.int p5), .unset, .unset, .unset, .unset, .unset, .unset, .unset, .unset, .unset, .unset, .unset, .unset] [(.int (59 : Int32)), (.int (41 : Int32)), (.ref b172), (.ref b172)])) _
    refine st297 _ ?_
    exact k
  obtain ⟨LL297, XX297, NN297⟩ : ∃ LL, Stand p l e room_1 s m #[(.long q0), (.long q2), (.int p4), (.int p5)] below meth c T297 LL 1 56 ∧ Fr n0 LL := ⟨_, X297, N297⟩
  clear cl296 Ar296 q296 S296 M296 H296 G296 hin296 W297 st297 XX294 NN294 LL294 e294 V294 K294 T294 h294 pre295 X297 N297
  obtain ⟨cl299, Ar299, q299, S299, M299, H299, G299⟩ := id V297
  have hin299 : ¬ ((42 : Int32) < 0 ∨ cl299.slots.size ≤ ((42 : Int32)).toNatClampNeg) := inb_of S299 ⟨by decide, by decide⟩
  obtain ⟨T300, h300, X300, e300, W300, st300⟩ := stI XX297 hx hZ e297 Ar299 (j := (42 : Int32)) hin299 (g := (mkF m 255 #[.val (.long q0), .second, .val (.long q2), .second, .val (.int p4), .val (.int p5), .unset, .unset, .unset, .unset, .unset, .unset, .unset, .unset, .unset, .unset, .unset, .unset] [(.int (127 : Int32)), (.int (42 : Int32)), (.ref b172), (.ref b172)])) rfl rfl (hb hby at_255)
  have V300 : Arv Z h300 b172 k172 .int (56 : Int32) (own_tl 43) (.int (0 : Int32)) := own_cast (own_set ⟨42, by decide⟩) <| Arv.set Ar299 q299 S299 M299 H299 G299 rfl W300 42 rfl (Nat.lt_of_lt_of_eq (by decide : 42 < 56) (own_len ⟨42, by decide⟩).symm)
  have K300 := K297.wr W300 (Or.inr sz_b172)
  have N300 := Fr.snoc X300 NN297 gg_b172
  have pre301 : ∀ t, Steps p.tables e below (T300.setTop (mkF m 256 #[.val (.long q0), .second, .val (.long q2), .second, .val (.int p4), .val (.int p5), .unset, .unset, .unset, .unset, .unset, .unset, .unset, .unset, .unset, .unset, .unset, .unset] [(.ref b172)])) t → Steps p.tables e below (s₁.setTop (entryFrame m #[(.long q0), (.long q2), (.int p4), (.int p5)] maxLocals)) t := fun t k => by
    refine pre298 _ ?_
    show Steps p.tables e below (T297.setTop (mkF m 250 #[.val (.long q0), .second, .val (.long q2), .second, .val (.int p4), .val (.int p5), .unset, .unset, .unset, .unset, .unset, .unset, .unset, .unset, .unset, .unset, .unset, .unset] [(.ref b172)])) _
    refine XS.dup XX297.here hx rfl (hb hby at_250) rfl rfl ?_
    show Steps p.tables e below (T297.setTop (mkF m 251 #[.val (.long q0), .second, .val (.long q2), .second, .val (.int p4), .val (.int p5), .unset, .unset, .unset, .unset, .unset, .unset, .unset, .unset, .unset, .unset, .unset, .unset] [(.ref b172), (.ref b172)])) _
    refine XS.bipush XX297.here hx rfl (hb hby at_251) ?_
    show Steps p.tables e below (T297.setTop (mkF m 253 #[.val (.long q0), .second, .val (.long q2), .second, .val (.int p4), .val (.int p5), .unset, .unset, .unset, .unset, .unset, .unset, .unset, .unset, .unset, .unset, .unset, .unset] [(.int (42 : Int32)), (.ref b172), (.ref b172)])) _
    refine XS.bipush XX297.here hx rfl (hb hby at_253) ?_
    show Steps p.tables e below (T297.setTop (mkF m 255 #[.val (.long q0), .second, .val (.long q2), .second, .val (.int p4), .val (.int p5), .unset, .unset, .unset, .unset, .unset, .unset, .unset, .unset, .unset, .unset, .unset, .unset] [(.int (127 : Int32)), (.int (42 : Int32)), (.ref b172), (.ref b172)])) _
    refine st300 _ ?_
    exact k
  obtain ⟨LL300, XX300, NN300⟩ : ∃ LL, Stand p l e room_1 s m #[(.long q0), (.long q2), (.int p4), (.int p5)] below meth c T300 LL 1 56 ∧ Fr n0 LL := ⟨_, X300, N300⟩
  clear cl299 Ar299 q299 S299 M299 H299 G299 hin299 W300 st300 XX297 NN297 LL297 e297 V297 K297 T297 h297 pre298 X300 N300
  obtain ⟨cl302, Ar302, q302, S302, M302, H302, G302⟩ := id V300
  have hin302 : ¬ ((43 : Int32) < 0 ∨ cl302.slots.size ≤ ((43 : Int32)).toNatClampNeg) := inb_of S302 ⟨by decide, by decide⟩
  obtain ⟨T303, h303, X303, e303, W303, st303⟩ := stI XX300 hx hZ e300 Ar302 (j := (43 : Int32)) hin302 (g := (mkF m 261 #[.val (.long q0), .second, .val (.long q2), .second, .val (.int p4), .val (.int p5), .unset, .unset, .unset, .unset, .unset, .unset, .unset, .unset, .unset, .unset, .unset, .unset] [(.int (93 : Int32)), (.int (43 : Int32)), (.ref b172), (.ref b172)])) rfl rfl (hb hby at_261)
  have V303 : Arv Z h303 b172 k172 .int (56 : Int32) (own_tl 44) (.int (0 : Int32)) := own_cast (own_set ⟨43, by decide⟩) <| Arv.set Ar302 q302 S302 M302 H302 G302 rfl W303 43 rfl (Nat.lt_of_lt_of_eq (by decide : 43 < 56) (own_len ⟨43, by decide⟩).symm)
  have K303 := K300.wr W303 (Or.inr sz_b172)
  have N303 := Fr.snoc X303 NN300 gg_b172
  have pre304 : ∀ t, Steps p.tables e below (T303.setTop (mkF m 262 #[.val (.long q0), .second, .val (.long q2), .second, .val (.int p4), .val (.int p5), .unset, .unset, .unset, .unset, .unset, .unset, .unset, .unset, .unset, .unset, .unset, .unset] [(.ref b172)])) t → Steps p.tables e below (s₁.setTop (entryFrame m #[(.long q0), (.long q2), (.int p4), (.int p5)] maxLocals)) t := fun t k => by
    refine pre301 _ ?_
    show Steps p.tables e below (T300.setTop (mkF m 256 #[.val (.long q0), .second, .val (.long q2), .second, .val (.int p4), .val (.int p5), .unset, .unset, .unset, .unset, .unset, .unset, .unset, .unset, .unset, .unset, .unset, .unset] [(.ref b172)])) _
    refine XS.dup XX300.here hx rfl (hb hby at_256) rfl rfl ?_
    show Steps p.tables e below (T300.setTop (mkF m 257 #[.val (.long q0), .second, .val (.long q2), .second, .val (.int p4), .val (.int p5), .unset, .unset, .unset, .unset, .unset, .unset, .unset, .unset, .unset, .unset, .unset, .unset] [(.ref b172), (.ref b172)])) _
    refine XS.bipush XX300.here hx rfl (hb hby at_257) ?_
    show Steps p.tables e below (T300.setTop (mkF m 259 #[.val (.long q0), .second, .val (.long q2), .second, .val (.int p4), .val (.int p5), .unset, .unset, .unset, .unset, .unset, .unset, .unset, .unset, .unset, .unset, .unset, .unset] [(.int (43 : Int32)), (.ref b172), (.ref b172)])) _
    refine XS.bipush XX300.here hx rfl (hb hby at_259) ?_
    show Steps p.tables e below (T300.setTop (mkF m 261 #[.val (.long q0), .second, .val (.long q2), .second, .val (.int p4), .val (.int p5), .unset, .unset, .unset, .unset, .unset, .unset, .unset, .unset, .unset, .unset, .unset, .unset] [(.int (93 : Int32)), (.int (43 : Int32)), (.ref b172), (.ref b172)])) _
    refine st303 _ ?_
    exact k
  obtain ⟨LL303, XX303, NN303⟩ : ∃ LL, Stand p l e room_1 s m #[(.long q0), (.long q2), (.int p4), (.int p5)] below meth c T303 LL 1 56 ∧ Fr n0 LL := ⟨_, X303, N303⟩
  clear cl302 Ar302 q302 S302 M302 H302 G302 hin302 W303 st303 XX300 NN300 LL300 e300 V300 K300 T300 h300 pre301 X303 N303
  obtain ⟨cl305, Ar305, q305, S305, M305, H305, G305⟩ := id V303
  have hin305 : ¬ ((44 : Int32) < 0 ∨ cl305.slots.size ≤ ((44 : Int32)).toNatClampNeg) := inb_of S305 ⟨by decide, by decide⟩
  obtain ⟨T306, h306, X306, e306, W306, st306⟩ := stI XX303 hx hZ e303 Ar305 (j := (44 : Int32)) hin305 (g := (mkF m 267 #[.val (.long q0), .second, .val (.long q2), .second, .val (.int p4), .val (.int p5), .unset, .unset, .unset, .unset, .unset, .unset, .unset, .unset, .unset, .unset, .unset, .unset] [(.int (76 : Int32)), (.int (44 : Int32)), (.ref b172), (.ref b172)])) rfl rfl (hb hby at_267)
  have V306 : Arv Z h306 b172 k172 .int (56 : Int32) (own_tl 45) (.int (0 : Int32)) := own_cast (own_set ⟨44, by decide⟩) <| Arv.set Ar305 q305 S305 M305 H305 G305 rfl W306 44 rfl (Nat.lt_of_lt_of_eq (by decide : 44 < 56) (own_len ⟨44, by decide⟩).symm)
  have K306 := K303.wr W306 (Or.inr sz_b172)
  have N306 := Fr.snoc X306 NN303 gg_b172
  have pre307 : ∀ t, Steps p.tables e below (T306.setTop (mkF m 268 #[.val (.long q0), .second, .val (.long q2), .second, .val (.int p4), .val (.int p5), .unset, .unset, .unset, .unset, .unset, .unset, .unset, .unset, .unset, .unset, .unset, .unset] [(.ref b172)])) t → Steps p.tables e below (s₁.setTop (entryFrame m #[(.long q0), (.long q2), (.int p4), (.int p5)] maxLocals)) t := fun t k => by
    refine pre304 _ ?_
    show Steps p.tables e below (T303.setTop (mkF m 262 #[.val (.long q0), .second, .val (.long q2), .second, .val (.int p4), .val (.int p5), .unset, .unset, .unset, .unset, .unset, .unset, .unset, .unset, .unset, .unset, .unset, .unset] [(.ref b172)])) _
    refine XS.dup XX303.here hx rfl (hb hby at_262) rfl rfl ?_
    show Steps p.tables e below (T303.setTop (mkF m 263 #[.val (.long q0), .second, .val (.long q2), .second, .val (.int p4), .val (.int p5), .unset, .unset, .unset, .unset, .unset, .unset, .unset, .unset, .unset, .unset, .unset, .unset] [(.ref b172), (.ref b172)])) _
    refine XS.bipush XX303.here hx rfl (hb hby at_263) ?_
    show Steps p.tables e below (T303.setTop (mkF m 265 #[.val (.long q0), .second, .val (.long q2), .second, .val (.int p4), .val (.int p5), .unset, .unset, .unset, .unset, .unset, .unset, .unset, .unset, .unset, .unset, .unset, .unset] [(.int (44 : Int32)), (.ref b172), (.ref b172)])) _
    refine XS.bipush XX303.here hx rfl (hb hby at_265) ?_
    show Steps p.tables e below (T303.setTop (mkF m 267 #[.val (.long q0), .second, .val (.long q2), .second, .val (.int p4), .val (.int p5), .unset, .unset, .unset, .unset, .unset, .unset, .unset, .unset, .unset, .unset, .unset, .unset] [(.int (76 : Int32)), (.int (44 : Int32)), (.ref b172), (.ref b172)])) _
    refine st306 _ ?_
    exact k
  obtain ⟨LL306, XX306, NN306⟩ : ∃ LL, Stand p l e room_1 s m #[(.long q0), (.long q2), (.int p4), (.int p5)] below meth c T306 LL 1 56 ∧ Fr n0 LL := ⟨_, X306, N306⟩
  clear cl305 Ar305 q305 S305 M305 H305 G305 hin305 W306 st306 XX303 NN303 LL303 e303 V303 K303 T303 h303 pre304 X306 N306
  obtain ⟨cl308, Ar308, q308, S308, M308, H308, G308⟩ := id V306
  have hin308 : ¬ ((45 : Int32) < 0 ∨ cl308.slots.size ≤ ((45 : Int32)).toNatClampNeg) := inb_of S308 ⟨by decide, by decide⟩
  obtain ⟨T309, h309, X309, e309, W309, st309⟩ := stI XX306 hx hZ e306 Ar308 (j := (45 : Int32)) hin308 (g := (mkF m 273 #[.val (.long q0), .second, .val (.long q2), .second, .val (.int p4), .val (.int p5), .unset, .unset, .unset, .unset, .unset, .unset, .unset, .unset, .unset, .unset, .unset, .unset] [(.int (38 : Int32)), (.int (45 : Int32)), (.ref b172), (.ref b172)])) rfl rfl (hb hby at_273)
  have V309 : Arv Z h309 b172 k172 .int (56 : Int32) (own_tl 46) (.int (0 : Int32)) := own_cast (own_set ⟨45, by decide⟩) <| Arv.set Ar308 q308 S308 M308 H308 G308 rfl W309 45 rfl (Nat.lt_of_lt_of_eq (by decide : 45 < 56) (own_len ⟨45, by decide⟩).symm)
  have K309 := K306.wr W309 (Or.inr sz_b172)
  have N309 := Fr.snoc X309 NN306 gg_b172
  have pre310 : ∀ t, Steps p.tables e below (T309.setTop (mkF m 274 #[.val (.long q0), .second, .val (.long q2), .second, .val (.int p4), .val (.int p5), .unset, .unset, .unset, .unset, .unset, .unset, .unset, .unset, .unset, .unset, .unset, .unset] [(.ref b172)])) t → Steps p.tables e below (s₁.setTop (entryFrame m #[(.long q0), (.long q2), (.int p4), (.int p5)] maxLocals)) t := fun t k => by
    refine pre307 _ ?_
    show Steps p.tables e below (T306.setTop (mkF m 268 #[.val (.long q0), .second, .val (.long q2), .second, .val (.int p4), .val (.int p5), .unset, .unset, .unset, .unset, .unset, .unset, .unset, .unset, .unset, .unset, .unset, .unset] [(.ref b172)])) _
    refine XS.dup XX306.here hx rfl (hb hby at_268) rfl rfl ?_
    show Steps p.tables e below (T306.setTop (mkF m 269 #[.val (.long q0), .second, .val (.long q2), .second, .val (.int p4), .val (.int p5), .unset, .unset, .unset, .unset, .unset, .unset, .unset, .unset, .unset, .unset, .unset, .unset] [(.ref b172), (.ref b172)])) _
    refine XS.bipush XX306.here hx rfl (hb hby at_269) ?_
    show Steps p.tables e below (T306.setTop (mkF m 271 #[.val (.long q0), .second, .val (.long q2), .second, .val (.int p4), .val (.int p5), .unset, .unset, .unset, .unset, .unset, .unset, .unset, .unset, .unset, .unset, .unset, .unset] [(.int (45 : Int32)), (.ref b172), (.ref b172)])) _
    refine XS.bipush XX306.here hx rfl (hb hby at_271) ?_
    show Steps p.tables e below (T306.setTop (mkF m 273 #[.val (.long q0), .second, .val (.long q2), .second, .val (.int p4), .val (.int p5), .unset, .unset, .unset, .unset, .unset, .unset, .unset, .unset, .unset, .unset, .unset, .unset] [(.int (38 : Int32)), (.int (45 : Int32)), (.ref b172), (.ref b172)])) _
    refine st309 _ ?_
    exact k
  obtain ⟨LL309, XX309, NN309⟩ : ∃ LL, Stand p l e room_1 s m #[(.long q0), (.long q2), (.int p4), (.int p5)] below meth c T309 LL 1 56 ∧ Fr n0 LL := ⟨_, X309, N309⟩
  clear cl308 Ar308 q308 S308 M308 H308 G308 hin308 W309 st309 XX306 NN306 LL306 e306 V306 K306 T306 h306 pre307 X309 N309
  obtain ⟨cl311, Ar311, q311, S311, M311, H311, G311⟩ := id V309
  have hin311 : ¬ ((46 : Int32) < 0 ∨ cl311.slots.size ≤ ((46 : Int32)).toNatClampNeg) := inb_of S311 ⟨by decide, by decide⟩
  obtain ⟨T312, h312, X312, e312, W312, st312⟩ := stI XX309 hx hZ e309 Ar311 (j := (46 : Int32)) hin311 (g := (mkF m 279 #[.val (.long q0), .second, .val (.long q2), .second, .val (.int p4), .val (.int p5), .unset, .unset, .unset, .unset, .unset, .unset, .unset, .unset, .unset, .unset, .unset, .unset] [(.int (19 : Int32)), (.int (46 : Int32)), (.ref b172), (.ref b172)])) rfl rfl (hb hby at_279)
  have V312 : Arv Z h312 b172 k172 .int (56 : Int32) (own_tl 47) (.int (0 : Int32)) := own_cast (own_set ⟨46, by decide⟩) <| Arv.set Ar311 q311 S311 M311 H311 G311 rfl W312 46 rfl (Nat.lt_of_lt_of_eq (by decide : 46 < 56) (own_len ⟨46, by decide⟩).symm)
  have K312 := K309.wr W312 (Or.inr sz_b172)
  have N312 := Fr.snoc X312 NN309 gg_b172
  have pre313 : ∀ t, Steps p.tables e below (T312.setTop (mkF m 280 #[.val (.long q0), .second, .val (.long q2), .second, .val (.int p4), .val (.int p5), .unset, .unset, .unset, .unset, .unset, .unset, .unset, .unset, .unset, .unset, .unset, .unset] [(.ref b172)])) t → Steps p.tables e below (s₁.setTop (entryFrame m #[(.long q0), (.long q2), (.int p4), (.int p5)] maxLocals)) t := fun t k => by
    refine pre310 _ ?_
    show Steps p.tables e below (T309.setTop (mkF m 274 #[.val (.long q0), .second, .val (.long q2), .second, .val (.int p4), .val (.int p5), .unset, .unset, .unset, .unset, .unset, .unset, .unset, .unset, .unset, .unset, .unset, .unset] [(.ref b172)])) _
    refine XS.dup XX309.here hx rfl (hb hby at_274) rfl rfl ?_
    show Steps p.tables e below (T309.setTop (mkF m 275 #[.val (.long q0), .second, .val (.long q2), .second, .val (.int p4), .val (.int p5), .unset, .unset, .unset, .unset, .unset, .unset, .unset, .unset, .unset, .unset, .unset, .unset] [(.ref b172), (.ref b172)])) _
    refine XS.bipush XX309.here hx rfl (hb hby at_275) ?_
    show Steps p.tables e below (T309.setTop (mkF m 277 #[.val (.long q0), .second, .val (.long q2), .second, .val (.int p4), .val (.int p5), .unset, .unset, .unset, .unset, .unset, .unset, .unset, .unset, .unset, .unset, .unset, .unset] [(.int (46 : Int32)), (.ref b172), (.ref b172)])) _
    refine XS.bipush XX309.here hx rfl (hb hby at_277) ?_
    show Steps p.tables e below (T309.setTop (mkF m 279 #[.val (.long q0), .second, .val (.long q2), .second, .val (.int p4), .val (.int p5), .unset, .unset, .unset, .unset, .unset, .unset, .unset, .unset, .unset, .unset, .unset, .unset] [(.int (19 : Int32)), (.int (46 : Int32)), (.ref b172), (.ref b172)])) _
    refine st312 _ ?_
    exact k
  obtain ⟨LL312, XX312, NN312⟩ : ∃ LL, Stand p l e room_1 s m #[(.long q0), (.long q2), (.int p4), (.int p5)] below meth c T312 LL 1 56 ∧ Fr n0 LL := ⟨_, X312, N312⟩
  clear cl311 Ar311 q311 S311 M311 H311 G311 hin311 W312 st312 XX309 NN309 LL309 e309 V309 K309 T309 h309 pre310 X312 N312
  obtain ⟨cl314, Ar314, q314, S314, M314, H314, G314⟩ := id V312
  have hin314 : ¬ ((47 : Int32) < 0 ∨ cl314.slots.size ≤ ((47 : Int32)).toNatClampNeg) := inb_of S314 ⟨by decide, by decide⟩
  obtain ⟨T315, h315, X315, e315, W315, st315⟩ := stI XX312 hx hZ e312 Ar314 (j := (47 : Int32)) hin314 (g := (mkF m 285 #[.val (.long q0), .second, .val (.long q2), .second, .val (.int p4), .val (.int p5), .unset, .unset, .unset, .unset, .unset, .unset, .unset, .unset, .unset, .unset, .unset, .unset] [(.int (107 : Int32)), (.int (47 : Int32)), (.ref b172), (.ref b172)])) rfl rfl (hb hby at_285)
  have V315 : Arv Z h315 b172 k172 .int (56 : Int32) (own_tl 48) (.int (0 : Int32)) := own_cast (own_set ⟨47, by decide⟩) <| Arv.set Ar314 q314 S314 M314 H314 G314 rfl W315 47 rfl (Nat.lt_of_lt_of_eq (by decide : 47 < 56) (own_len ⟨47, by decide⟩).symm)
  have K315 := K312.wr W315 (Or.inr sz_b172)
  have N315 := Fr.snoc X315 NN312 gg_b172
  have pre316 : ∀ t, Steps p.tables e below (T315.setTop (mkF m 286 #[.val (.long q0), .second, .val (.long q2), .second, .val (.int p4), .val (.int p5), .unset, .unset, .unset, .unset, .unset, .unset, .unset, .unset, .unset, .unset, .unset, .unset] [(.ref b172)])) t → Steps p.tables e below (s₁.setTop (entryFrame m #[(.long q0), (.long q2), (.int p4), (.int p5)] maxLocals)) t := fun t k => by
    refine pre313 _ ?_
    show Steps p.tables e below (T312.setTop (mkF m 280 #[.val (.long q0), .second, .val (.long q2), .second, .val (.int p4), .val (.int p5), .unset, .unset, .unset, .unset, .unset, .unset, .unset, .unset, .unset, .unset, .unset, .unset] [(.ref b172)])) _
    refine XS.dup XX312.here hx rfl (hb hby at_280) rfl rfl ?_
    show Steps p.tables e below (T312.setTop (mkF m 281 #[.val (.long q0), .second, .val (.long q2), .second, .val (.int p4), .val (.int p5), .unset, .unset, .unset, .unset, .unset, .unset, .unset, .unset, .unset, .unset, .unset, .unset] [(.ref b172), (.ref b172)])) _
    refine XS.bipush XX312.here hx rfl (hb hby at_281) ?_
    show Steps p.tables e below (T312.setTop (mkF m 283 #[.val (.long q0), .second, .val (.long q2), .second, .val (.int p4), .val (.int p5), .unset, .unset, .unset, .unset, .unset, .unset, .unset, .unset, .unset, .unset, .unset, .unset] [(.int (47 : Int32)), (.ref b172), (.ref b172)])) _
    refine XS.bipush XX312.here hx rfl (hb hby at_283) ?_
    show Steps p.tables e below (T312.setTop (mkF m 285 #[.val (.long q0), .second, .val (.long q2), .second, .val (.int p4), .val (.int p5), .unset, .unset, .unset, .unset, .unset, .unset, .unset, .unset, .unset, .unset, .unset, .unset] [(.int (107 : Int32)), (.int (47 : Int32)), (.ref b172), (.ref b172)])) _
    refine st315 _ ?_
    exact k
  obtain ⟨LL315, XX315, NN315⟩ : ∃ LL, Stand p l e room_1 s m #[(.long q0), (.long q2), (.int p4), (.int p5)] below meth c T315 LL 1 56 ∧ Fr n0 LL := ⟨_, X315, N315⟩
  clear cl314 Ar314 q314 S314 M314 H314 G314 hin314 W315 st315 XX312 NN312 LL312 e312 V312 K312 T312 h312 pre313 X315 N315
  obtain ⟨cl317, Ar317, q317, S317, M317, H317, G317⟩ := id V315
  have hin317 : ¬ ((48 : Int32) < 0 ∨ cl317.slots.size ≤ ((48 : Int32)).toNatClampNeg) := inb_of S317 ⟨by decide, by decide⟩
  obtain ⟨T318, h318, X318, e318, W318, st318⟩ := stI XX315 hx hZ e315 Ar317 (j := (48 : Int32)) hin317 (g := (mkF m 291 #[.val (.long q0), .second, .val (.long q2), .second, .val (.int p4), .val (.int p5), .unset, .unset, .unset, .unset, .unset, .unset, .unset, .unset, .unset, .unset, .unset, .unset] [(.int (87 : Int32)), (.int (48 : Int32)), (.ref b172), (.ref b172)])) rfl rfl (hb hby at_291)
  have V318 : Arv Z h318 b172 k172 .int (56 : Int32) (own_tl 49) (.int (0 : Int32)) := own_cast (own_set ⟨48, by decide⟩) <| Arv.set Ar317 q317 S317 M317 H317 G317 rfl W318 48 rfl (Nat.lt_of_lt_of_eq (by decide : 48 < 56) (own_len ⟨48, by decide⟩).symm)
  have K318 := K315.wr W318 (Or.inr sz_b172)
  have N318 := Fr.snoc X318 NN315 gg_b172
  have pre319 : ∀ t, Steps p.tables e below (T318.setTop (mkF m 292 #[.val (.long q0), .second, .val (.long q2), .second, .val (.int p4), .val (.int p5), .unset, .unset, .unset, .unset, .unset, .unset, .unset, .unset, .unset, .unset, .unset, .unset] [(.ref b172)])) t → Steps p.tables e below (s₁.setTop (entryFrame m #[(.long q0), (.long q2), (.int p4), (.int p5)] maxLocals)) t := fun t k => by
    refine pre316 _ ?_
    show Steps p.tables e below (T315.setTop (mkF m 286 #[.val (.long q0), .second, .val (.long q2), .second, .val (.int p4), .val (.int p5), .unset, .unset, .unset, .unset, .unset, .unset, .unset, .unset, .unset, .unset, .unset, .unset] [(.ref b172)])) _
    refine XS.dup XX315.here hx rfl (hb hby at_286) rfl rfl ?_
    show Steps p.tables e below (T315.setTop (mkF m 287 #[.val (.long q0), .second, .val (.long q2), .second, .val (.int p4), .val (.int p5), .unset, .unset, .unset, .unset, .unset, .unset, .unset, .unset, .unset, .unset, .unset, .unset] [(.ref b172), (.ref b172)])) _
    refine XS.bipush XX315.here hx rfl (hb hby at_287) ?_
    show Steps p.tables e below (T315.setTop (mkF m 289 #[.val (.long q0), .second, .val (.long q2), .second, .val (.int p4), .val (.int p5), .unset, .unset, .unset, .unset, .unset, .unset, .unset, .unset, .unset, .unset, .unset, .unset] [(.int (48 : Int32)), (.ref b172), (.ref b172)])) _
    refine XS.bipush XX315.here hx rfl (hb hby at_289) ?_
    show Steps p.tables e below (T315.setTop (mkF m 291 #[.val (.long q0), .second, .val (.long q2), .second, .val (.int p4), .val (.int p5), .unset, .unset, .unset, .unset, .unset, .unset, .unset, .unset, .unset, .unset, .unset, .unset] [(.int (87 : Int32)), (.int (48 : Int32)), (.ref b172), (.ref b172)])) _
    refine st318 _ ?_
    exact k
  obtain ⟨LL318, XX318, NN318⟩ : ∃ LL, Stand p l e room_1 s m #[(.long q0), (.long q2), (.int p4), (.int p5)] below meth c T318 LL 1 56 ∧ Fr n0 LL := ⟨_, X318, N318⟩
  clear cl317 Ar317 q317 S317 M317 H317 G317 hin317 W318 st318 XX315 NN315 LL315 e315 V315 K315 T315 h315 pre316 X318 N318
  obtain ⟨cl320, Ar320, q320, S320, M320, H320, G320⟩ := id V318
  have hin320 : ¬ ((49 : Int32) < 0 ∨ cl320.slots.size ≤ ((49 : Int32)).toNatClampNeg) := inb_of S320 ⟨by decide, by decide⟩
  obtain ⟨T321, h321, X321, e321, W321, st321⟩ := stI XX318 hx hZ e318 Ar320 (j := (49 : Int32)) hin320 (g := (mkF m 297 #[.val (.long q0), .second, .val (.long q2), .second, .val (.int p4), .val (.int p5), .unset, .unset, .unset, .unset, .unset, .unset, .unset, .unset, .unset, .unset, .unset, .unset] [(.int (73 : Int32)), (.int (49 : Int32)), (.ref b172), (.ref b172)])) rfl rfl (hb hby at_297)
  have V321 : Arv Z h321 b172 k172 .int (56 : Int32) (own_tl 50) (.int (0 : Int32)) := own_cast (own_set ⟨49, by decide⟩) <| Arv.set Ar320 q320 S320 M320 H320 G320 rfl W321 49 rfl (Nat.lt_of_lt_of_eq (by decide : 49 < 56) (own_len ⟨49, by decide⟩).symm)
  have K321 := K318.wr W321 (Or.inr sz_b172)
  have N321 := Fr.snoc X321 NN318 gg_b172
  have pre322 : ∀ t, Steps p.tables e below (T321.setTop (mkF m 298 #[.val (.long q0), .second, .val (.long q2), .second, .val (.int p4), .val (.int p5), .unset, .unset, .unset, .unset, .unset, .unset, .unset, .unset, .unset, .unset, .unset, .unset] [(.ref b172)])) t → Steps p.tables e below (s₁.setTop (entryFrame m #[(.long q0), (.long q2), (.int p4), (.int p5)] maxLocals)) t := fun t k => by
    refine pre319 _ ?_
    show Steps p.tables e below (T318.setTop (mkF m 292 #[.val (.long q0), .second, .val (.long q2), .second, .val (.int p4), .val (.int p5), .unset, .unset, .unset, .unset, .unset, .unset, .unset, .unset, .unset, .unset, .unset, .unset] [(.ref b172)])) _
    refine XS.dup XX318.here hx rfl (hb hby at_292) rfl rfl ?_
    show Steps p.tables e below (T318.setTop (mkF m 293 #[.val (.long q0), .second, .val (.long q2), .second, .val (.int p4), .val (.int p5), .unset, .unset, .unset, .unset, .unset, .unset, .unset, .unset, .unset, .unset, .unset, .unset] [(.ref b172), (.ref b172)])) _
    refine XS.bipush XX318.here hx rfl (hb hby at_293) ?_
    show Steps p.tables e below (T318.setTop (mkF m 295 #[.val (.long q0), .second, .val (.long q2), .second, .val (.int p4), .val (.int p5), .unset, .unset, .unset, .unset, .unset, .unset, .unset, .unset, .unset, .unset, .unset, .unset] [(.int (49 : Int32)), (.ref b172), (.ref b172)])) _
    refine XS.bipush XX318.here hx rfl (hb hby at_295) ?_
    show Steps p.tables e below (T318.setTop (mkF m 297 #[.val (.long q0), .second, .val (.long q2), .second, .val (.int p4), .val (.int p5), .unset, .unset, .unset, .unset, .unset, .unset, .unset, .unset, .unset, .unset, .unset, .unset] [(.int (73 : Int32)), (.int (49 : Int32)), (.ref b172), (.ref b172)])) _
    refine st321 _ ?_
    exact k
  obtain ⟨LL321, XX321, NN321⟩ : ∃ LL, Stand p l e room_1 s m #[(.long q0), (.long q2), (.int p4), (.int p5)] below meth c T321 LL 1 56 ∧ Fr n0 LL := ⟨_, X321, N321⟩
  clear cl320 Ar320 q320 S320 M320 H320 G320 hin320 W321 st321 XX318 NN318 LL318 e318 V318 K318 T318 h318 pre319 X321 N321
  obtain ⟨cl323, Ar323, q323, S323, M323, H323, G323⟩ := id V321
  have hin323 : ¬ ((50 : Int32) < 0 ∨ cl323.slots.size ≤ ((50 : Int32)).toNatClampNeg) := inb_of S323 ⟨by decide, by decide⟩
  obtain ⟨T324, h324, X324, e324, W324, st324⟩ := stI XX321 hx hZ e321 Ar323 (j := (50 : Int32)) hin323 (g := (mkF m 303 #[.val (.long q0), .second, .val (.long q2), .second, .val (.int p4), .val (.int p5), .unset, .unset, .unset, .unset, .unset, .unset, .unset, .unset, .unset, .unset, .unset, .unset] [(.int (70 : Int32)), (.int (50 : Int32)), (.ref b172), (.ref b172)])) rfl rfl (hb hby at_303)
  have V324 : Arv Z h324 b172 k172 .int (56 : Int32) (own_tl 51) (.int (0 : Int32)) := own_cast (own_set ⟨50, by decide⟩) <| Arv.set Ar323 q323 S323 M323 H323 G323 rfl W324 50 rfl (Nat.lt_of_lt_of_eq (by decide : 50 < 56) (own_len ⟨50, by decide⟩).symm)
  have K324 := K321.wr W324 (Or.inr sz_b172)
  have N324 := Fr.snoc X324 NN321 gg_b172
  have pre325 : ∀ t, Steps p.tables e below (T324.setTop (mkF m 304 #[.val (.long q0), .second, .val (.long q2), .second, .val (.int p4), .val (.int p5), .unset, .unset, .unset, .unset, .unset, .unset, .unset, .unset, .unset, .unset, .unset, .unset] [(.ref b172)])) t → Steps p.tables e below (s₁.setTop (entryFrame m #[(.long q0), (.long q2), (.int p4), (.int p5)] maxLocals)) t := fun t k => by
    refine pre322 _ ?_
    show Steps p.tables e below (T321.setTop (mkF m 298 #[.val (.long q0), .second, .val (.long q2), .second, .val (.int p4), .val (.int p5), .unset, .unset, .unset, .unset, .unset, .unset, .unset, .unset, .unset, .unset, .unset, .unset] [(.ref b172)])) _
    refine XS.dup XX321.here hx rfl (hb hby at_298) rfl rfl ?_
    show Steps p.tables e below (T321.setTop (mkF m 299 #[.val (.long q0), .second, .val (.long q2), .second, .val (.int p4), .val (.int p5), .unset, .unset, .unset, .unset, .unset, .unset, .unset, .unset, .unset, .unset, .unset, .unset] [(.ref b172), (.ref b172)])) _
    refine XS.bipush XX321.here hx rfl (hb hby at_299) ?_
    show Steps p.tables e below (T321.setTop (mkF m 301 #[.val (.long q0), .second, .val (.long q2), .second, .val (.int p4), .val (.int p5), .unset, .unset, .unset, .unset, .unset, .unset, .unset, .unset, .unset, .unset, .unset, .unset] [(.int (50 : Int32)), (.ref b172), (.ref b172)])) _
    refine XS.bipush XX321.here hx rfl (hb hby at_301) ?_
    show Steps p.tables e below (T321.setTop (mkF m 303 #[.val (.long q0), .second, .val (.long q2), .second, .val (.int p4), .val (.int p5), .unset, .unset, .unset, .unset, .unset, .unset, .unset, .unset, .unset, .unset, .unset, .unset] [(.int (70 : Int32)), (.int (50 : Int32)), (.ref b172), (.ref b172)])) _
    refine st324 _ ?_
    exact k
  obtain ⟨LL324, XX324, NN324⟩ : ∃ LL, Stand p l e room_1 s m #[(.long q0), (.long q2), (.int p4), (.int p5)] below meth c T324 LL 1 56 ∧ Fr n0 LL := ⟨_, X324, N324⟩
  clear cl323 Ar323 q323 S323 M323 H323 G323 hin323 W324 st324 XX321 NN321 LL321 e321 V321 K321 T321 h321 pre322 X324 N324
  obtain ⟨cl326, Ar326, q326, S326, M326, H326, G326⟩ := id V324
  have hin326 : ¬ ((51 : Int32) < 0 ∨ cl326.slots.size ≤ ((51 : Int32)).toNatClampNeg) := inb_of S326 ⟨by decide, by decide⟩
  obtain ⟨T327, h327, X327, e327, W327, st327⟩ := stI XX324 hx hZ e324 Ar326 (j := (51 : Int32)) hin326 (g := (mkF m 309 #[.val (.long q0), .second, .val (.long q2), .second, .val (.int p4), .val (.int p5), .unset, .unset, .unset, .unset, .unset, .unset, .unset, .unset, .unset, .unset, .unset, .unset] [(.int (35 : Int32)), (.int (51 : Int32)), (.ref b172), (.ref b172)])) rfl rfl (hb hby at_309)
  have V327 : Arv Z h327 b172 k172 .int (56 : Int32) (own_tl 52) (.int (0 : Int32)) := own_cast (own_set ⟨51, by decide⟩) <| Arv.set Ar326 q326 S326 M326 H326 G326 rfl W327 51 rfl (Nat.lt_of_lt_of_eq (by decide : 51 < 56) (own_len ⟨51, by decide⟩).symm)
  have K327 := K324.wr W327 (Or.inr sz_b172)
  have N327 := Fr.snoc X327 NN324 gg_b172
  have pre328 : ∀ t, Steps p.tables e below (T327.setTop (mkF m 310 #[.val (.long q0), .second, .val (.long q2), .second, .val (.int p4), .val (.int p5), .unset, .unset, .unset, .unset, .unset, .unset, .unset, .unset, .unset, .unset, .unset, .unset] [(.ref b172)])) t → Steps p.tables e below (s₁.setTop (entryFrame m #[(.long q0), (.long q2), (.int p4), (.int p5)] maxLocals)) t := fun t k => by
    refine pre325 _ ?_
    show Steps p.tables e below (T324.setTop (mkF m 304 #[.val (.long q0), .second, .val (.long q2), .second, .val (.int p4), .val (.int p5), .unset, .unset, .unset, .unset, .unset, .unset, .unset, .unset, .unset, .unset, .unset, .unset] [(.ref b172)])) _
    refine XS.dup XX324.here hx rfl (hb hby at_304) rfl rfl ?_
    show Steps p.tables e below (T324.setTop (mkF m 305 #[.val (.long q0), .second, .val (.long q2), .second, .val (.int p4), .val (.int p5), .unset, .unset, .unset, .unset, .unset, .unset, .unset, .unset, .unset, .unset, .unset, .unset] [(.ref b172), (.ref b172)])) _
    refine XS.bipush XX324.here hx rfl (hb hby at_305) ?_
    show Steps p.tables e below (T324.setTop (mkF m 307 #[.val (.long q0), .second, .val (.long q2), .second, .val (.int p4), .val (.int p5), .unset, .unset, .unset, .unset, .unset, .unset, .unset, .unset, .unset, .unset, .unset, .unset] [(.int (51 : Int32)), (.ref b172), (.ref b172)])) _
    refine XS.bipush XX324.here hx rfl (hb hby at_307) ?_
    show Steps p.tables e below (T324.setTop (mkF m 309 #[.val (.long q0), .second, .val (.long q2), .second, .val (.int p4), .val (.int p5), .unset, .unset, .unset, .unset, .unset, .unset, .unset, .unset, .unset, .unset, .unset, .unset] [(.int (35 : Int32)), (.int (51 : Int32)), (.ref b172), (.ref b172)])) _
    refine st327 _ ?_
    exact k
  obtain ⟨LL327, XX327, NN327⟩ : ∃ LL, Stand p l e room_1 s m #[(.long q0), (.long q2), (.int p4), (.int p5)] below meth c T327 LL 1 56 ∧ Fr n0 LL := ⟨_, X327, N327⟩
  clear cl326 Ar326 q326 S326 M326 H326 G326 hin326 W327 st327 XX324 NN324 LL324 e324 V324 K324 T324 h324 pre325 X327 N327
  obtain ⟨cl329, Ar329, q329, S329, M329, H329, G329⟩ := id V327
  have hin329 : ¬ ((52 : Int32) < 0 ∨ cl329.slots.size ≤ ((52 : Int32)).toNatClampNeg) := inb_of S329 ⟨by decide, by decide⟩
  obtain ⟨T330, h330, X330, e330, W330, st330⟩ := stI XX327 hx hZ e327 Ar329 (j := (52 : Int32)) hin329 (g := (mkF m 315 #[.val (.long q0), .second, .val (.long q2), .second, .val (.int p4), .val (.int p5), .unset, .unset, .unset, .unset, .unset, .unset, .unset, .unset, .unset, .unset, .unset, .unset] [(.int (115 : Int32)), (.int (52 : Int32)), (.ref b172), (.ref b172)])) rfl rfl (hb hby at_315)
  have V330 : Arv Z h330 b172 k172 .int (56 : Int32) (own_tl 53) (.int (0 : Int32)) := own_cast (own_set ⟨52, by decide⟩) <| Arv.set Ar329 q329 S329 M329 H329 G329 rfl W330 52 rfl (Nat.lt_of_lt_of_eq (by decide : 52 < 56) (own_len ⟨52, by decide⟩).symm)
  have K330 := K327.wr W330 (Or.inr sz_b172)
  have N330 := Fr.snoc X330 NN327 gg_b172
  have pre331 : ∀ t, Steps p.tables e below (T330.setTop (mkF m 316 #[.val (.long q0), .second, .val (.long q2), .second, .val (.int p4), .val (.int p5), .unset, .unset, .unset, .unset, .unset, .unset, .unset, .unset, .unset, .unset, .unset, .unset] [(.ref b172)])) t → Steps p.tables e below (s₁.setTop (entryFrame m #[(.long q0), (.long q2), (.int p4), (.int p5)] maxLocals)) t := fun t k => by
    refine pre328 _ ?_
    show Steps p.tables e below (T327.setTop (mkF m 310 #[.val (.long q0), .second, .val (.long q2), .second, .val (.int p4), .val (.int p5), .unset, .unset, .unset, .unset, .unset, .unset, .unset, .unset, .unset, .unset, .unset, .unset] [(.ref b172)])) _
    refine XS.dup XX327.here hx rfl (hb hby at_310) rfl rfl ?_
    show Steps p.tables e below (T327.setTop (mkF m 311 #[.val (.long q0), .second, .val (.long q2), .second, .val (.int p4), .val (.int p5), .unset, .unset, .unset, .unset, .unset, .unset, .unset, .unset, .unset, .unset, .unset, .unset] [(.ref b172), (.ref b172)])) _
    refine XS.bipush XX327.here hx rfl (hb hby at_311) ?_
    show Steps p.tables e below (T327.setTop (mkF m 313 #[.val (.long q0), .second, .val (.long q2), .second, .val (.int p4), .val (.int p5), .unset, .unset, .unset, .unset, .unset, .unset, .unset, .unset, .unset, .unset, .unset, .unset] [(.int (52 : Int32)), (.ref b172), (.ref b172)])) _
    refine XS.bipush XX327.here hx rfl (hb hby at_313) ?_
    show Steps p.tables e below (T327.setTop (mkF m 315 #[.val (.long q0), .second, .val (.long q2), .second, .val (.int p4), .val (.int p5), .unset, .unset, .unset, .unset, .unset, .unset, .unset, .unset, .unset, .unset, .unset, .unset] [(.int (115 : Int32)), (.int (52 : Int32)), (.ref b172), (.ref b172)])) _
    refine st330 _ ?_
    exact k
  obtain ⟨LL330, XX330, NN330⟩ : ∃ LL, Stand p l e room_1 s m #[(.long q0), (.long q2), (.int p4), (.int p5)] below meth c T330 LL 1 56 ∧ Fr n0 LL := ⟨_, X330, N330⟩
  clear cl329 Ar329 q329 S329 M329 H329 G329 hin329 W330 st330 XX327 NN327 LL327 e327 V327 K327 T327 h327 pre328 X330 N330
  obtain ⟨cl332, Ar332, q332, S332, M332, H332, G332⟩ := id V330
  have hin332 : ¬ ((53 : Int32) < 0 ∨ cl332.slots.size ≤ ((53 : Int32)).toNatClampNeg) := inb_of S332 ⟨by decide, by decide⟩
  obtain ⟨T333, h333, X333, e333, W333, st333⟩ := stI XX330 hx hZ e330 Ar332 (j := (53 : Int32)) hin332 (g := (mkF m 321 #[.val (.long q0), .second, .val (.long q2), .second, .val (.int p4), .val (.int p5), .unset, .unset, .unset, .unset, .unset, .unset, .unset, .unset, .unset, .unset, .unset, .unset] [(.int (91 : Int32)), (.int (53 : Int32)), (.ref b172), (.ref b172)])) rfl rfl (hb hby at_321)
  have V333 : Arv Z h333 b172 k172 .int (56 : Int32) (own_tl 54) (.int (0 : Int32)) := own_cast (own_set ⟨53, by decide⟩) <| Arv.set Ar332 q332 S332 M332 H332 G332 rfl W333 53 rfl (Nat.lt_of_lt_of_eq (by decide : 53 < 56) (own_len ⟨53, by decide⟩).symm)
  have K333 := K330.wr W333 (Or.inr sz_b172)
  have N333 := Fr.snoc X333 NN330 gg_b172
  have pre334 : ∀ t, Steps p.tables e below (T333.setTop (mkF m 322 #[.val (.long q0), .second, .val (.long q2), .second, .val (.int p4), .val (.int p5), .unset, .unset, .unset, .unset, .unset, .unset, .unset, .unset, .unset, .unset, .unset, .unset] [(.ref b172)])) t → Steps p.tables e below (s₁.setTop (entryFrame m #[(.long q0), (.long q2), (.int p4), (.int p5)] maxLocals)) t := fun t k => by
    refine pre331 _ ?_
    show Steps p.tables e below (T330.setTop (mkF m 316 #[.val (.long q0), .second, .val (.long q2), .second, .val (.int p4), .val (.int p5), .unset, .unset, .unset, .unset, .unset, .unset, .unset, .unset, .unset, .unset, .unset, .unset] [(.ref b172)])) _
    refine XS.dup XX330.here hx rfl (hb hby at_316) rfl rfl ?_
    show Steps p.tables e below (T330.setTop (mkF m 317 #[.val (.long q0), .second, .val (.long q2), .second, .val (.int p4), .val (.int p5), .unset, .unset, .unset, .unset, .unset, .unset, .unset, .unset, .unset, .unset, .unset, .unset] [(.ref b172), (.ref b172)])) _
    refine XS.bipush XX330.here hx rfl (hb hby at_317) ?_
    show Steps p.tables e below (T330.setTop (mkF m 319 #[.val (.long q0), .second, .val (.long q2), .second, .val (.int p4), .val (.int p5), .unset, .unset, .unset, .unset, .unset, .unset, .unset, .unset, .unset, .unset, .unset, .unset] [(.int (53 : Int32)), (.ref b172), (.ref b172)])) _
    refine XS.bipush XX330.here hx rfl (hb hby at_319) ?_
    show Steps p.tables e below (T330.setTop (mkF m 321 #[.val (.long q0), .second, .val (.long q2), .second, .val (.int p4), .val (.int p5), .unset, .unset, .unset, .unset, .unset, .unset, .unset, .unset, .unset, .unset, .unset, .unset] [(.int (91 : Int32)), (.int (53 : Int32)), (.ref b172), (.ref b172)])) _
    refine st333 _ ?_
    exact k
  obtain ⟨LL333, XX333, NN333⟩ : ∃ LL, Stand p l e room_1 s m #[(.long q0), (.long q2), (.int p4), (.int p5)] below meth c T333 LL 1 56 ∧ Fr n0 LL := ⟨_, X333, N333⟩
  clear cl332 Ar332 q332 S332 M332 H332 G332 hin332 W333 st333 XX330 NN330 LL330 e330 V330 K330 T330 h330 pre331 X333 N333
  obtain ⟨cl335, Ar335, q335, S335, M335, H335, G335⟩ := id V333
  have hin335 : ¬ ((54 : Int32) < 0 ∨ cl335.slots.size ≤ ((54 : Int32)).toNatClampNeg) := inb_of S335 ⟨by decide, by decide⟩
  obtain ⟨T336, h336, X336, e336, W336, st336⟩ := stI XX333 hx hZ e333 Ar335 (j := (54 : Int32)) hin335 (g := (mkF m 327 #[.val (.long q0), .second, .val (.long q2), .second, .val (.int p4), .val (.int p5), .unset, .unset, .unset, .unset, .unset, .unset, .unset, .unset, .unset, .unset, .unset, .unset] [(.int (79 : Int32)), (.int (54 : Int32)), (.ref b172), (.ref b172)])) rfl rfl (hb hby at_327)
  have V336 : Arv Z h336 b172 k172 .int (56 : Int32) (own_tl 55) (.int (0 : Int32)) := own_cast (own_set ⟨54, by decide⟩) <| Arv.set Ar335 q335 S335 M335 H335 G335 rfl W336 54 rfl (Nat.lt_of_lt_of_eq (by decide : 54 < 56) (own_len ⟨54, by decide⟩).symm)
  have K336 := K333.wr W336 (Or.inr sz_b172)
  have N336 := Fr.snoc X336 NN333 gg_b172
  have pre337 : ∀ t, Steps p.tables e below (T336.setTop (mkF m 328 #[.val (.long q0), .second, .val (.long q2), .second, .val (.int p4), .val (.int p5), .unset, .unset, .unset, .unset, .unset, .unset, .unset, .unset, .unset, .unset, .unset, .unset] [(.ref b172)])) t → Steps p.tables e below (s₁.setTop (entryFrame m #[(.long q0), (.long q2), (.int p4), (.int p5)] maxLocals)) t := fun t k => by
    refine pre334 _ ?_
    show Steps p.tables e below (T333.setTop (mkF m 322 #[.val (.long q0), .second, .val (.long q2), .second, .val (.int p4), .val (.int p5), .unset, .unset, .unset, .unset, .unset, .unset, .unset, .unset, .unset, .unset, .unset, .unset] [(.ref b172)])) _
    refine XS.dup XX333.here hx rfl (hb hby at_322) rfl rfl ?_
    show Steps p.tables e below (T333.setTop (mkF m 323 #[.val (.long q0), .second, .val (.long q2), .second, .val (.int p4), .val (.int p5), .unset, .unset, .unset, .unset, .unset, .unset, .unset, .unset, .unset, .unset, .unset, .unset] [(.ref b172), (.ref b172)])) _
    refine XS.bipush XX333.here hx rfl (hb hby at_323) ?_
    show Steps p.tables e below (T333.setTop (mkF m 325 #[.val (.long q0), .second, .val (.long q2), .second, .val (.int p4), .val (.int p5), .unset, .unset, .unset, .unset, .unset, .unset, .unset, .unset, .unset, .unset, .unset, .unset] [(.int (54 : Int32)), (.ref b172), (.ref b172)])) _
    refine XS.bipush XX333.here hx rfl (hb hby at_325) ?_
    show Steps p.tables e below (T333.setTop (mkF m 327 #[.val (.long q0), .second, .val (.long q2), .second, .val (.int p4), .val (.int p5), .unset, .unset, .unset, .unset, .unset, .unset, .unset, .unset, .unset, .unset, .unset, .unset] [(.int (79 : Int32)), (.int (54 : Int32)), (.ref b172), (.ref b172)])) _
    refine st336 _ ?_
    exact k
  obtain ⟨LL336, XX336, NN336⟩ : ∃ LL, Stand p l e room_1 s m #[(.long q0), (.long q2), (.int p4), (.int p5)] below meth c T336 LL 1 56 ∧ Fr n0 LL := ⟨_, X336, N336⟩
  clear cl335 Ar335 q335 S335 M335 H335 G335 hin335 W336 st336 XX333 NN333 LL333 e333 V333 K333 T333 h333 pre334 X336 N336
  obtain ⟨cl338, Ar338, q338, S338, M338, H338, G338⟩ := id V336
  have hin338 : ¬ ((55 : Int32) < 0 ∨ cl338.slots.size ≤ ((55 : Int32)).toNatClampNeg) := inb_of S338 ⟨by decide, by decide⟩
  obtain ⟨T339, h339, X339, e339, W339, st339⟩ := stI XX336 hx hZ e336 Ar338 (j := (55 : Int32)) hin338 (g := (mkF m 333 #[.val (.long q0), .second, .val (.long q2), .second, .val (.int p4), .val (.int p5), .unset, .unset, .unset, .unset, .unset, .unset, .unset, .unset, .unset, .unset, .unset, .unset] [(.int (69 : Int32)), (.int (55 : Int32)), (.ref b172), (.ref b172)])) rfl rfl (hb hby at_333)
  have V339 : Arv Z h339 b172 k172 .int (56 : Int32) (own_tl 56) (.int (0 : Int32)) := own_cast (own_set ⟨55, by decide⟩) <| Arv.set Ar338 q338 S338 M338 H338 G338 rfl W339 55 rfl (Nat.lt_of_lt_of_eq (by decide : 55 < 56) (own_len ⟨55, by decide⟩).symm)
  have K339 := K336.wr W339 (Or.inr sz_b172)
  have N339 := Fr.snoc X339 NN336 gg_b172
  have pre340 : ∀ t, Steps p.tables e below (T339.setTop (mkF m 334 #[.val (.long q0), .second, .val (.long q2), .second, .val (.int p4), .val (.int p5), .unset, .unset, .unset, .unset, .unset, .unset, .unset, .unset, .unset, .unset, .unset, .unset] [(.ref b172)])) t → Steps p.tables e below (s₁.setTop (entryFrame m #[(.long q0), (.long q2), (.int p4), (.int p5)] maxLocals)) t := fun t k => by
    refine pre337 _ ?_
    show Steps p.tables e below (T336.setTop (mkF m 328 #[.val (.long q0), .second, .val (.long q2), .second, .val (.int p4), .val (.int p5), .unset, .unset, .unset, .unset, .unset, .unset, .unset, .unset, .unset, .unset, .unset, .unset] [(.ref b172)])) _
    refine XS.dup XX336.here hx rfl (hb hby at_328) rfl rfl ?_
    show Steps p.tables e below (T336.setTop (mkF m 329 #[.val (.long q0), .second, .val (.long q2), .second, .val (.int p4), .val (.int p5), .unset, .unset, .unset, .unset, .unset, .unset, .unset, .unset, .unset, .unset, .unset, .unset] [(.ref b172), (.ref b172)])) _
    refine XS.bipush XX336.here hx rfl (hb hby at_329) ?_
    show Steps p.tables e below (T336.setTop (mkF m 331 #[.val (.long q0), .second, .val (.long q2), .second, .val (.int p4), .val (.int p5), .unset, .unset, .unset, .unset, .unset, .unset, .unset, .unset, .unset, .unset, .unset, .unset] [(.int (55 : Int32)), (.ref b172), (.ref b172)])) _
    refine XS.bipush XX336.here hx rfl (hb hby at_331) ?_
    show Steps p.tables e below (T336.setTop (mkF m 333 #[.val (.long q0), .second, .val (.long q2), .second, .val (.int p4), .val (.int p5), .unset, .unset, .unset, .unset, .unset, .unset, .unset, .unset, .unset, .unset, .unset, .unset] [(.int (69 : Int32)), (.int (55 : Int32)), (.ref b172), (.ref b172)])) _
    refine st339 _ ?_
    exact k
  obtain ⟨LL339, XX339, NN339⟩ : ∃ LL, Stand p l e room_1 s m #[(.long q0), (.long q2), (.int p4), (.int p5)] below meth c T339 LL 1 56 ∧ Fr n0 LL := ⟨_, X339, N339⟩
  clear cl338 Ar338 q338 S338 M338 H338 G338 hin338 W339 st339 XX336 NN336 LL336 e336 V336 K336 T336 h336 pre337 X339 N339
  have pre341 : ∀ t, Steps p.tables e below (T339.setTop (mkF m 352 #[.val (.long q0), .second, .val (.long q2), .second, .val (.int p4), .val (.int p5), .val (.ref b172), .val (.int (own_T p4)), .val (.int (p5 &&& (3 : Int32))), .unset, .unset, .unset, .unset, .unset, .unset, .unset, .unset, .unset] [])) t → Steps p.tables e below (s₁.setTop (entryFrame m #[(.long q0), (.long q2), (.int p4), (.int p5)] maxLocals)) t := fun t k => by
    refine pre340 _ ?_
    show Steps p.tables e below (T339.setTop (mkF m 334 #[.val (.long q0), .second, .val (.long q2), .second, .val (.int p4), .val (.int p5), .unset, .unset, .unset, .unset, .unset, .unset, .unset, .unset, .unset, .unset, .unset, .unset] [(.ref b172)])) _
    refine XS.astore XX339.here hx rfl (hb hby at_334) rfl rfl (l' := #[.val (.long q0), .second, .val (.long q2), .second, .val (.int p4), .val (.int p5), .val (.ref b172), .unset, .unset, .unset, .unset, .unset, .unset, .unset, .unset, .unset, .unset, .unset]) rfl ?_
    show Steps p.tables e below (T339.setTop (mkF m 336 #[.val (.long q0), .second, .val (.long q2), .second, .val (.int p4), .val (.int p5), .val (.ref b172), .unset, .unset, .unset, .unset, .unset, .unset, .unset, .unset, .unset, .unset, .unset] [])) _
    refine XS.iload XX339.here hx rfl (hb hby at_336) rfl ?_
    show Steps p.tables e below (T339.setTop (mkF m 338 #[.val (.long q0), .second, .val (.long q2), .second, .val (.int p4), .val (.int p5), .val (.ref b172), .unset, .unset, .unset, .unset, .unset, .unset, .unset, .unset, .unset, .unset, .unset] [(.int p4)])) _
    refine XX339.ldcInt hx hown (mvT hZ (hw _ (List.mem_of_getElem? (i := 1) rfl))) (g := (mkF m 338 #[.val (.long q0), .second, .val (.long q2), .second, .val (.int p4), .val (.int p5), .val (.ref b172), .unset, .unset, .unset, .unset, .unset, .unset, .unset, .unset, .unset, .unset, .unset] [(.int p4)])) rfl (hb hby at_338) _ ?_
    show Steps p.tables e below (T339.setTop (mkF m 340 #[.val (.long q0), .second, .val (.long q2), .second, .val (.int p4), .val (.int p5), .val (.ref b172), .unset, .unset, .unset, .unset, .unset, .unset, .unset, .unset, .unset, .unset, .unset] [(.int (2147483647 : Int32)), (.int p4)])) _
    refine XS.iand XX339.here hx rfl (hb hby at_340) rfl ?_
    show Steps p.tables e below (T339.setTop (mkF m 341 #[.val (.long q0), .second, .val (.long q2), .second, .val (.int p4), .val (.int p5), .val (.ref b172), .unset, .unset, .unset, .unset, .unset, .unset, .unset, .unset, .unset, .unset, .unset] [(.int (p4 &&& (2147483647 : Int32)))])) _
    refine XS.bipush XX339.here hx rfl (hb hby at_341) ?_
    show Steps p.tables e below (T339.setTop (mkF m 343 #[.val (.long q0), .second, .val (.long q2), .second, .val (.int p4), .val (.int p5), .val (.ref b172), .unset, .unset, .unset, .unset, .unset, .unset, .unset, .unset, .unset, .unset, .unset] [(.int (56 : Int32)), (.int (p4 &&& (2147483647 : Int32)))])) _
    refine iremM (g := (mkF m 343 #[.val (.long q0), .second, .val (.long q2), .second, .val (.int p4), .val (.int p5), .val (.ref b172), .unset, .unset, .unset, .unset, .unset, .unset, .unset, .unset, .unset, .unset, .unset] [(.int (56 : Int32)), (.int (p4 &&& (2147483647 : Int32)))])) XX339 hx rfl (hb hby at_343) rfl (by decide) ?_
    show Steps p.tables e below (T339.setTop (mkF m 344 #[.val (.long q0), .second, .val (.long q2), .second, .val (.int p4), .val (.int p5), .val (.ref b172), .unset, .unset, .unset, .unset, .unset, .unset, .unset, .unset, .unset, .unset, .unset] [(.int ((p4 &&& (2147483647 : Int32)) % (56 : Int32)))])) _
    refine XS.istore XX339.here hx rfl (hb hby at_344) rfl (l' := #[.val (.long q0), .second, .val (.long q2), .second, .val (.int p4), .val (.int p5), .val (.ref b172), .val (.int ((p4 &&& (2147483647 : Int32)) % (56 : Int32))), .unset, .unset, .unset, .unset, .unset, .unset, .unset, .unset, .unset, .unset]) rfl ?_
    show Steps p.tables e below (T339.setTop (mkF m 346 #[.val (.long q0), .second, .val (.long q2), .second, .val (.int p4), .val (.int p5), .val (.ref b172), .val (.int (own_T p4)), .unset, .unset, .unset, .unset, .unset, .unset, .unset, .unset, .unset, .unset] [])) _
    refine XS.iload XX339.here hx rfl (hb hby at_346) rfl ?_
    show Steps p.tables e below (T339.setTop (mkF m 348 #[.val (.long q0), .second, .val (.long q2), .second, .val (.int p4), .val (.int p5), .val (.ref b172), .val (.int (own_T p4)), .unset, .unset, .unset, .unset, .unset, .unset, .unset, .unset, .unset, .unset] [(.int p5)])) _
    refine XS.iconst XX339.here hx rfl (hb hby at_348) ?_
    show Steps p.tables e below (T339.setTop (mkF m 349 #[.val (.long q0), .second, .val (.long q2), .second, .val (.int p4), .val (.int p5), .val (.ref b172), .val (.int (own_T p4)), .unset, .unset, .unset, .unset, .unset, .unset, .unset, .unset, .unset, .unset] [(.int (3 : Int32)), (.int p5)])) _
    refine XS.iand XX339.here hx rfl (hb hby at_349) rfl ?_
    show Steps p.tables e below (T339.setTop (mkF m 350 #[.val (.long q0), .second, .val (.long q2), .second, .val (.int p4), .val (.int p5), .val (.ref b172), .val (.int (own_T p4)), .unset, .unset, .unset, .unset, .unset, .unset, .unset, .unset, .unset, .unset] [(.int (p5 &&& (3 : Int32)))])) _
    refine XS.istore XX339.here hx rfl (hb hby at_350) rfl (l' := #[.val (.long q0), .second, .val (.long q2), .second, .val (.int p4), .val (.int p5), .val (.ref b172), .val (.int (own_T p4)), .val (.int (p5 &&& (3 : Int32))), .unset, .unset, .unset, .unset, .unset, .unset, .unset, .unset, .unset]) rfl ?_
    exact k
  rcases own_o p5 with hk | hk | hk | hk
  · obtain ⟨_, _, ⟨T342, L342, k342, n342⟩, -, X342, ⟨Lc342, hQ342, l342, y342, z342⟩, st342⟩ := Jvm.LawKit.callS XX339 hx (y := (⟨"com/example/linkbook/linkbook/coding/BchParityOctetPinLaw", "build", "(JJI)[B"⟩ : MethodName)) hown (mvT hZ (hw _ (List.mem_of_getElem? (i := 2) rfl))) (mvT hZ (hw _ (List.mem_of_getElem? (i := 3) rfl))) (mvT hZ (hw _ (List.mem_of_getElem? (i := 4) rfl))) (mvT hZ (hw _ (List.mem_of_getElem? (i := 5) rfl))) (by decide) (backOf (W := 0) (rm1_0 l Z a0 hw [] q0 q2 h339 n0 (Nat.le_trans Z0 K339.1) ) hZ (hw _ (List.mem_of_getElem? (i := 5) rfl)) (hw _ (List.mem_of_getElem? (i := 4) rfl)) (by decide) (by decide)) (g := (mkF m 365 #[.val (.long q0), .second, .val (.long q2), .second, .val (.int p4), .val (.int p5), .val (.ref b172), .val (.int (own_T p4)), .val (.int (0 : Int32)), .val (.long (own_e (own_T p4))), .second, .unset, .unset, .unset, .unset, .unset, .unset, .unset] [(.int (0 : Int32)), (.long q2), (.long q0)])) rfl (by rw [hml]; rfl) (argsL := [(.long q0), (.long q2), (.int (0 : Int32))]) (rest := []) (lenOf own_pd0 rfl) rfl (by show 2 * 0 + _ ≤ _; exact Nat.le_of_eq rfl) (hb hby at_365) (fun _ _ => ⟨rfl, e339, (by decide : 1 + 1 ≤ _), (by decide : 56 + 10 ≤ _)⟩)
    dsimp only [Pt.U, Pt.locs, Pt.cells, Pt.slots] at X342 l342 y342 z342 st342 hQ342
    subst l342 y342 z342
    obtain ⟨b_342, k_342, rfl, N342q, i342_4, i342_5, i342_6⟩ := hQ342
    have N342 := Fr.app NN339 N342q
    have ne_b172_b_342 : b172 ≠ b_342 := Nat.ne_of_lt (Nat.lt_of_lt_of_le V339.lt i342_5)
    have gg_b_342 : n0 ≤ b_342 := Nat.le_trans (Nat.le_trans Z0 K339.1) i342_5
    have sz_b_342 : h0.size ≤ b_342 := Nat.le_trans K339.1 i342_5
    have K342 := K339.trans i342_4 all0
    obtain ⟨_, _, ⟨T343, L343, k343, n343⟩, -, X343, ⟨Lc343, hQ343, l343, y343, z343⟩, st343⟩ := Jvm.LawKit.callS X342 hx (y := (⟨"com/example/linkbook/linkbook/coding/BchParityOctetPinLaw", "build", "(JJI)[B"⟩ : MethodName)) hown (mvT hZ (hw _ (List.mem_of_getElem? (i := 2) rfl))) (mvT hZ (hw _ (List.mem_of_getElem? (i := 3) rfl))) (mvT hZ (hw _ (List.mem_of_getElem? (i := 4) rfl))) (mvT hZ (hw _ (List.mem_of_getElem? (i := 5) rfl))) (by decide) (backOf (W := 0) (rm1_0 l Z a0 hw [] (own_e (own_T p4)) (q2 ^^^ (-1 : Int64)) T342.heap n0 (Nat.le_trans Z0 K342.1) ) hZ (hw _ (List.mem_of_getElem? (i := 5) rfl)) (hw _ (List.mem_of_getElem? (i := 4) rfl)) (by decide) (by decide)) (g := (mkF m 379 #[.val (.long q0), .second, .val (.long q2), .second, .val (.int p4), .val (.int p5), .val (.ref b172), .val (.int (own_T p4)), .val (.int (0 : Int32)), .val (.long (own_e (own_T p4))), .second, .val (.ref b_342), .unset, .unset, .unset, .unset, .unset, .unset] [(.int (0 : Int32)), (.long (q2 ^^^ (-1 : Int64))), (.long (own_e (own_T p4)))])) rfl (by rw [hml]; rfl) (argsL := [(.long (own_e (own_T p4))), (.long (q2 ^^^ (-1 : Int64))), (.int (0 : Int32))]) (rest := []) (lenOf own_pd0 rfl) rfl (by show 2 * 0 + _ ≤ _; exact Nat.le_of_eq rfl) (hb hby at_379) (fun _ _ => ⟨rfl, rfl, (by decide : 2 + 1 ≤ _), (by decide : 66 + 10 ≤ _)⟩)
    dsimp only [Pt.U, Pt.locs, Pt.cells, Pt.slots] at X343 l343 y343 z343 st343 hQ343
    subst l343 y343 z343
    obtain ⟨b_343, k_343, rfl, N343q, i343_4, i343_5, i343_6⟩ := hQ343
    have N343 := Fr.app N342 N343q
    have Q344 := (V339.keep i342_4 nin0)
    have ne_b172_b_343 : b172 ≠ b_343 := Nat.ne_of_lt (Nat.lt_of_lt_of_le Q344.lt i343_5)
    have ne_b_342_b_343 : b_342 ≠ b_343 := Nat.ne_of_lt (Nat.lt_of_lt_of_le i342_6.lt i343_5)
    have gg_b_343 : n0 ≤ b_343 := Nat.le_trans (Nat.le_trans Z0 K342.1) i343_5
    have sz_b_343 : h0.size ≤ b_343 := Nat.le_trans K342.1 i343_5
    have K343 := K342.trans i343_4 all0
    obtain ⟨_, _, ⟨T345, L345, k345, n345⟩, -, X345, ⟨Lc345, hQ345, l345, y345, z345⟩, st345⟩ := Jvm.LawKit.callS X343 hx (y := (⟨"com/example/linkbook/linkbook/coding/BchParityOctetPinLaw", "build", "(JJI)[B"⟩ : MethodName)) hown (mvT hZ (hw _ (List.mem_of_getElem? (i := 2) rfl))) (mvT hZ (hw _ (List.mem_of_getElem? (i := 3) rfl))) (mvT hZ (hw _ (List.mem_of_getElem? (i := 4) rfl))) (mvT hZ (hw _ (List.mem_of_getElem? (i := 5) rfl))) (by decide) (backOf (W := 0) (rm1_0 l Z a0 hw [] (q0 ^^^ (own_e (own_T p4))) (q2 ^^^ q0) T343.heap n0 (Nat.le_trans Z0 K343.1) ) hZ (hw _ (List.mem_of_getElem? (i := 5) rfl)) (hw _ (List.mem_of_getElem? (i := 4) rfl)) (by decide) (by decide)) (g := (mkF m 393 #[.val (.long q0), .second, .val (.long q2), .second, .val (.int p4), .val (.int p5), .val (.ref b172), .val (.int (own_T p4)), .val (.int (0 : Int32)), .val (.long (own_e (own_T p4))), .second, .val (.ref b_342), .val (.ref b_343), .unset, .unset, .unset, .unset, .unset] [(.int (0 : Int32)), (.long (q2 ^^^ q0)), (.long (q0 ^^^ (own_e (own_T p4))))])) rfl (by rw [hml]; rfl) (argsL := [(.long (q0 ^^^ (own_e (own_T p4)))), (.long (q2 ^^^ q0)), (.int (0 : Int32))]) (rest := []) (lenOf own_pd0 rfl) rfl (by show 2 * 0 + _ ≤ _; exact Nat.le_of_eq rfl) (hb hby at_393) (fun _ _ => ⟨rfl, rfl, (by decide : 3 + 1 ≤ _), (by decide : 76 + 10 ≤ _)⟩)
    dsimp only [Pt.U, Pt.locs, Pt.cells, Pt.slots] at X345 l345 y345 z345 st345 hQ345
    subst l345 y345 z345
    obtain ⟨b_345, k_345, rfl, N345q, i345_4, i345_5, i345_6⟩ := hQ345
    have N345 := Fr.app N343 N345q
    have Q346 := (Q344.keep i343_4 nin0)
    have ne_b172_b_345 : b172 ≠ b_345 := Nat.ne_of_lt (Nat.lt_of_lt_of_le Q346.lt i345_5)
    have Q347 := (i342_6.keep i343_4 nin0)
    have ne_b_342_b_345 : b_342 ≠ b_345 := Nat.ne_of_lt (Nat.lt_of_lt_of_le Q347.lt i345_5)
    have ne_b_343_b_345 : b_343 ≠ b_345 := Nat.ne_of_lt (Nat.lt_of_lt_of_le i343_6.lt i345_5)
    have gg_b_345 : n0 ≤ b_345 := Nat.le_trans (Nat.le_trans Z0 K343.1) i345_5
    have sz_b_345 : h0.size ≤ b_345 := Nat.le_trans K343.1 i345_5
    have K345 := K343.trans i345_4 all0
    have Q348 := (Q347.keep i345_4 nin0)
    obtain ⟨_, _, ⟨T349, L349, k349, n349⟩, -, X349, ⟨Lc349, hQ349, l349, y349, z349⟩, st349⟩ := Jvm.LawKit.callS X345 hx (y := (⟨"com/example/linkbook/linkbook/coding/Bch", "parityOctet", "([BI)I"⟩ : MethodName)) hown (mvT hZ (hw _ (List.mem_of_getElem? (i := 8) rfl))) (mvT hZ (hw _ (List.mem_of_getElem? (i := 9) rfl))) (mvT hZ (hw _ (List.mem_of_getElem? (i := 10) rfl))) (mvT hZ (hw _ (List.mem_of_getElem? (i := 11) rfl))) (by decide) (backOf (W := 0) (rm2_0 l Z a0 hw [] b_342 k_342 (own_by q0 (48 : Int32)) (own_by q0 (40 : Int32)) (own_by q0 (32 : Int32)) (own_by q0 (24 : Int32)) (own_by q0 (16 : Int32)) (own_by q0 (8 : Int32)) (own_by0 q0) (own_by q2 (56 : Int32)) (own_by q2 (3 : Int32)) (own_by q2 (11 : Int32)) T345.heap n0 (Nat.le_trans Z0 K345.1) Q348) hZ (hw _ (List.mem_of_getElem? (i := 11) rfl)) (hw _ (List.mem_of_getElem? (i := 10) rfl)) (by decide) (by decide)) (g := (mkF m 402 #[.val (.long q0), .second, .val (.long q2), .second, .val (.int p4), .val (.int p5), .val (.ref b172), .val (.int (own_T p4)), .val (.int (0 : Int32)), .val (.long (own_e (own_T p4))), .second, .val (.ref b_342), .val (.ref b_343), .val (.ref b_345), .unset, .unset, .unset, .unset] [(.int (0 : Int32)), (.ref b_342)])) rfl (by rw [hml]; rfl) (argsL := [(.ref b_342), (.int (0 : Int32))]) (rest := []) (lenOf own_pd1 rfl) rfl (by show 2 * 0 + _ ≤ _; exact Nat.le_of_eq rfl) (hb hby at_402) (fun _ _ => ⟨rfl, rfl, (by decide : 4 + 0 ≤ _), (by decide : 86 + 0 ≤ _)⟩)
    dsimp only [Pt.U, Pt.locs, Pt.cells, Pt.slots] at X349 l349 y349 z349 st349 hQ349
    subst l349 y349 z349
    obtain ⟨rfl, N349q, e349⟩ := hQ349
    have N349 := Fr.app N345 N349q
    have Q350 := (i343_6.keep i345_4 nin0)
    obtain ⟨_, _, ⟨T351, L351, k351, n351⟩, -, X351, ⟨Lc351, hQ351, l351, y351, z351⟩, st351⟩ := Jvm.LawKit.callS X349 hx (y := (⟨"com/example/linkbook/linkbook/coding/Bch", "parityOctet", "([BI)I"⟩ : MethodName)) hown (mvT hZ (hw _ (List.mem_of_getElem? (i := 8) rfl))) (mvT hZ (hw _ (List.mem_of_getElem? (i := 9) rfl))) (mvT hZ (hw _ (List.mem_of_getElem? (i := 10) rfl))) (mvT hZ (hw _ (List.mem_of_getElem? (i := 11) rfl))) (by decide) (backOf (W := 0) (rm2_0 l Z a0 hw [] b_343 k_343 (own_by (own_e (own_T p4)) (48 : Int32)) (own_by (own_e (own_T p4)) (40 : Int32)) (own_by (own_e (own_T p4)) (32 : Int32)) (own_by (own_e (own_T p4)) (24 : Int32)) (own_by (own_e (own_T p4)) (16 : Int32)) (own_by (own_e (own_T p4)) (8 : Int32)) (own_by0 (own_e (own_T p4))) (own_by (q2 ^^^ (-1 : Int64)) (56 : Int32)) (own_by (q2 ^^^ (-1 : Int64)) (3 : Int32)) (own_by (q2 ^^^ (-1 : Int64)) (11 : Int32)) T345.heap n0 (Nat.le_trans Z0 K345.1) Q350) hZ (hw _ (List.mem_of_getElem? (i := 11) rfl)) (hw _ (List.mem_of_getElem? (i := 10) rfl)) (by decide) (by decide)) (g := (mkF m 411 #[.val (.long q0), .second, .val (.long q2), .second, .val (.int p4), .val (.int p5), .val (.ref b172), .val (.int (own_T p4)), .val (.int (0 : Int32)), .val (.long (own_e (own_T p4))), .second, .val (.ref b_342), .val (.ref b_343), .val (.ref b_345), .val (.int (own_parL q0)), .unset, .unset, .unset] [(.int (0 : Int32)), (.ref b_343)])) rfl (by rw [hml]; rfl) (argsL := [(.ref b_343), (.int (0 : Int32))]) (rest := []) (lenOf own_pd1 rfl) rfl (by show 2 * 0 + _ ≤ _; exact Nat.le_of_eq rfl) (hb hby at_411) (fun _ _ => ⟨rfl, e349, (by decide : 4 + 0 ≤ _), (by decide : 86 + 0 ≤ _)⟩)
    dsimp only [Pt.U, Pt.locs, Pt.cells, Pt.slots] at X351 l351 y351 z351 st351 hQ351
    subst l351 y351 z351
    obtain ⟨rfl, N351q, e351⟩ := hQ351
    have N351 := Fr.app N349 N351q
    obtain ⟨_, _, ⟨T352, L352, k352, n352⟩, -, X352, ⟨Lc352, hQ352, l352, y352, z352⟩, st352⟩ := Jvm.LawKit.callS X351 hx (y := (⟨"com/example/linkbook/linkbook/coding/Bch", "parityOctet", "([BI)I"⟩ : MethodName)) hown (mvT hZ (hw _ (List.mem_of_getElem? (i := 8) rfl))) (mvT hZ (hw _ (List.mem_of_getElem? (i := 9) rfl))) (mvT hZ (hw _ (List.mem_of_getElem? (i := 10) rfl))) (mvT hZ (hw _ (List.mem_of_getElem? (i := 11) rfl))) (by decide) (backOf (W := 0) (rm2_0 l Z a0 hw [] b_345 k_345 (own_by (q0 ^^^ (own_e (own_T p4))) (48 : Int32)) (own_by (q0 ^^^ (own_e (own_T p4))) (40 : Int32)) (own_by (q0 ^^^ (own_e (own_T p4))) (32 : Int32)) (own_by (q0 ^^^ (own_e (own_T p4))) (24 : Int32)) (own_by (q0 ^^^ (own_e (own_T p4))) (16 : Int32)) (own_by (q0 ^^^ (own_e (own_T p4))) (8 : Int32)) (own_by0 (q0 ^^^ (own_e (own_T p4)))) (own_by (q2 ^^^ q0) (56 : Int32)) (own_by (q2 ^^^ q0) (3 : Int32)) (own_by (q2 ^^^ q0) (11 : Int32)) T345.heap n0 (Nat.le_trans Z0 K345.1) i345_6) hZ (hw _ (List.mem_of_getElem? (i := 11) rfl)) (hw _ (List.mem_of_getElem? (i := 10) rfl)) (by decide) (by decide)) (g := (mkF m 420 #[.val (.long q0), .second, .val (.long q2), .second, .val (.int p4), .val (.int p5), .val (.ref b172), .val (.int (own_T p4)), .val (.int (0 : Int32)), .val (.long (own_e (own_T p4))), .second, .val (.ref b_342), .val (.ref b_343), .val (.ref b_345), .val (.int (own_parL q0)), .val (.int (own_parL (own_e (own_T p4)))), .unset, .unset] [(.int (0 : Int32)), (.ref b_345)])) rfl (by rw [hml]; rfl) (argsL := [(.ref b_345), (.int (0 : Int32))]) (rest := []) (lenOf own_pd1 rfl) rfl (by show 2 * 0 + _ ≤ _; exact Nat.le_of_eq rfl) (hb hby at_420) (fun _ _ => ⟨rfl, e351, (by decide : 4 + 0 ≤ _), (by decide : 86 + 0 ≤ _)⟩)
    dsimp only [Pt.U, Pt.locs, Pt.cells, Pt.slots] at X352 l352 y352 z352 st352 hQ352
    subst l352 y352 z352
    obtain ⟨rfl, N352q, e352⟩ := hQ352
    have N352 := Fr.app N351 N352q
    have Q354 := (Q346.keep i345_4 nin0)
    obtain ⟨cl353, Ar353, q353, S353, M353, H353, G353⟩ := id Q354
    have hin353 : ¬ ((own_T p4) < 0 ∨ cl353.slots.size ≤ ((own_T p4)).toNatClampNeg) := inb_of S353 (own_t p4)
    have hat353 : cl353.slots[((own_T p4)).toNatClampNeg]? = some (.int (own_tabI.getD ((own_T p4)).toNatClampNeg 0)) := Has.at H353 hin353 (own_getT _)
    have hc443_355 : (own_parL (own_e (own_T p4))) = ((((own_tabI.getD ((own_T p4)).toNatClampNeg 0) ^^^ (-1 : Int32)) &&& (127 : Int32)) <<< ((1 : Int32) &&& 31)) := own_tabT _ (own_t p4)
    have hc457_356 : (own_parL (q0 ^^^ (own_e (own_T p4)))) = (((own_parL q0) ^^^ (own_parL (own_e (own_T p4)))) ^^^ (254 : Int32)) := own_parL_xor _ _
    obtain ⟨fs, hr, hrun, hended, hW, hsame⟩ := X352.leave (v := some (.int (1 : Int32))) (fun h => by rw [Bd.returns] at h; cases h)
    refine ⟨_, _, pre341 _ ?_, hrun, hended, _, _, rfl, ?_, ⟨_, rfl⟩, hW, hsame.mono (by decide) (by decide)⟩
    · show Steps p.tables e below (T339.setTop (mkF m 352 #[.val (.long q0), .second, .val (.long q2), .second, .val (.int p4), .val (.int p5), .val (.ref b172), .val (.int (own_T p4)), .val (.int (p5 &&& (3 : Int32))), .unset, .unset, .unset, .unset, .unset, .unset, .unset, .unset, .unset] [])) _
      rw [hk]
      show Steps p.tables e below (T339.setTop (mkF m 352 #[.val (.long q0), .second, .val (.long q2), .second, .val (.int p4), .val (.int p5), .val (.ref b172), .val (.int (own_T p4)), .val (.int (0 : Int32)), .unset, .unset, .unset, .unset, .unset, .unset, .unset, .unset, .unset] [])) _
      refine XS.lconst XX339.here hx rfl (hb hby at_352) ?_
      show Steps p.tables e below (T339.setTop (mkF m 353 #[.val (.long q0), .second, .val (.long q2), .second, .val (.int p4), .val (.int p5), .val (.ref b172), .val (.int (own_T p4)), .val (.int (0 : Int32)), .unset, .unset, .unset, .unset, .unset, .unset, .unset, .unset, .unset] [(.long (1 : Int64))])) _
      refine XS.bipush XX339.here hx rfl (hb hby at_353) ?_
      show Steps p.tables e below (T339.setTop (mkF m 355 #[.val (.long q0), .second, .val (.long q2), .second, .val (.int p4), .val (.int p5), .val (.ref b172), .val (.int (own_T p4)), .val (.int (0 : Int32)), .unset, .unset, .unset, .unset, .unset, .unset, .unset, .unset, .unset] [(.int (55 : Int32)), (.long (1 : Int64))])) _
      refine XS.iload XX339.here hx rfl (hb hby at_355) rfl ?_
      show Steps p.tables e below (T339.setTop (mkF m 357 #[.val (.long q0), .second, .val (.long q2), .second, .val (.int p4), .val (.int p5), .val (.ref b172), .val (.int (own_T p4)), .val (.int (0 : Int32)), .unset, .unset, .unset, .unset, .unset, .unset, .unset, .unset, .unset] [(.int (own_T p4)), (.int (55 : Int32)), (.long (1 : Int64))])) _
      refine XS.isub XX339.here hx rfl (hb hby at_357) rfl ?_
      show Steps p.tables e below (T339.setTop (mkF m 358 #[.val (.long q0), .second, .val (.long q2), .second, .val (.int p4), .val (.int p5), .val (.ref b172), .val (.int (own_T p4)), .val (.int (0 : Int32)), .unset, .unset, .unset, .unset, .unset, .unset, .unset, .unset, .unset] [(.int ((55 : Int32) - (own_T p4))), (.long (1 : Int64))])) _
      refine XS.lshl XX339.here hx rfl (hb hby at_358) rfl ?_
      show Steps p.tables e below (T339.setTop (mkF m 359 #[.val (.long q0), .second, .val (.long q2), .second, .val (.int p4), .val (.int p5), .val (.ref b172), .val (.int (own_T p4)), .val (.int (0 : Int32)), .unset, .unset, .unset, .unset, .unset, .unset, .unset, .unset, .unset] [(.long ((1 : Int64) <<< (((55 : Int32) - (own_T p4)) &&& 0x3f).toInt64))])) _
      refine XS.lstore XX339.here hx rfl (hb hby at_359) rfl (l' := #[.val (.long q0), .second, .val (.long q2), .second, .val (.int p4), .val (.int p5), .val (.ref b172), .val (.int (own_T p4)), .val (.int (0 : Int32)), .val (.long ((1 : Int64) <<< (((55 : Int32) - (own_T p4)) &&& 0x3f).toInt64)), .second, .unset, .unset, .unset, .unset, .unset, .unset, .unset]) rfl ?_
      show Steps p.tables e below (T339.setTop (mkF m 361 #[.val (.long q0), .second, .val (.long q2), .second, .val (.int p4), .val (.int p5), .val (.ref b172), .val (.int (own_T p4)), .val (.int (0 : Int32)), .val (.long (own_e (own_T p4))), .second, .unset, .unset, .unset, .unset, .unset, .unset, .unset] [])) _
      refine XS.lloadN XX339.here hx rfl (hb hby at_361) rfl ?_
      show Steps p.tables e below (T339.setTop (mkF m 362 #[.val (.long q0), .second, .val (.long q2), .second, .val (.int p4), .val (.int p5), .val (.ref b172), .val (.int (own_T p4)), .val (.int (0 : Int32)), .val (.long (own_e (own_T p4))), .second, .unset, .unset, .unset, .unset, .unset, .unset, .unset] [(.long q0)])) _
      refine XS.lloadN XX339.here hx rfl (hb hby at_362) rfl ?_
      show Steps p.tables e below (T339.setTop (mkF m 363 #[.val (.long q0), .second, .val (.long q2), .second, .val (.int p4), .val (.int p5), .val (.ref b172), .val (.int (own_T p4)), .val (.int (0 : Int32)), .val (.long (own_e (own_T p4))), .second, .unset, .unset, .unset, .unset, .unset, .unset, .unset] [(.long q2), (.long q0)])) _
      refine XS.iload XX339.here hx rfl (hb hby at_363) rfl ?_
      show Steps p.tables e below (T339.setTop (mkF m 365 #[.val (.long q0), .second, .val (.long q2), .second, .val (.int p4), .val (.int p5), .val (.ref b172), .val (.int (own_T p4)), .val (.int (0 : Int32)), .val (.long (own_e (own_T p4))), .second, .unset, .unset, .unset, .unset, .unset, .unset, .unset] [(.int (0 : Int32)), (.long q2), (.long q0)])) _
      refine st342 _ ?_
      show Steps p.tables e below (T342.setTop (mkF m 368 #[.val (.long q0), .second, .val (.long q2), .second, .val (.int p4), .val (.int p5), .val (.ref b172), .val (.int (own_T p4)), .val (.int (0 : Int32)), .val (.long (own_e (own_T p4))), .second, .unset, .unset, .unset, .unset, .unset, .unset, .unset] [(.ref b_342)])) _
      refine XS.astore X342.here hx rfl (hb hby at_368) rfl rfl (l' := #[.val (.long q0), .second, .val (.long q2), .second, .val (.int p4), .val (.int p5), .val (.ref b172), .val (.int (own_T p4)), .val (.int (0 : Int32)), .val (.long (own_e (own_T p4))), .second, .val (.ref b_342), .unset, .unset, .unset, .unset, .unset, .unset]) rfl ?_
      show Steps p.tables e below (T342.setTop (mkF m 370 #[.val (.long q0), .second, .val (.long q2), .second, .val (.int p4), .val (.int p5), .val (.ref b172), .val (.int (own_T p4)), .val (.int (0 : Int32)), .val (.long (own_e (own_T p4))), .second, .val (.ref b_342), .unset, .unset, .unset, .unset, .unset, .unset] [])) _
      refine XS.lload X342.here hx rfl (hb hby at_370) rfl ?_
      show Steps p.tables e below (T342.setTop (mkF m 372 #[.val (.long q0), .second, .val (.long q2), .second, .val (.int p4), .val (.int p5), .val (.ref b172), .val (.int (own_T p4)), .val (.int (0 : Int32)), .val (.long (own_e (own_T p4))), .second, .val (.ref b_342), .unset, .unset, .unset, .unset, .unset, .unset] [(.long (own_e (own_T p4)))])) _
      refine XS.lloadN X342.here hx rfl (hb hby at_372) rfl ?_
      show Steps p.tables e below (T342.setTop (mkF m 373 #[.val (.long q0), .second, .val (.long q2), .second, .val (.int p4), .val (.int p5), .val (.ref b172), .val (.int (own_T p4)), .val (.int (0 : Int32)), .val (.long (own_e (own_T p4))), .second, .val (.ref b_342), .unset, .unset, .unset, .unset, .unset, .unset] [(.long q2), (.long (own_e (own_T p4)))])) _
      refine X342.ldc2Long hx hown (mvT hZ (hw _ (List.mem_of_getElem? (i := 7) rfl))) (g := (mkF m 373 #[.val (.long q0), .second, .val (.long q2), .second, .val (.int p4), .val (.int p5), .val (.ref b172), .val (.int (own_T p4)), .val (.int (0 : Int32)), .val (.long (own_e (own_T p4))), .second, .val (.ref b_342), .unset, .unset, .unset, .unset, .unset, .unset] [(.long q2), (.long (own_e (own_T p4)))])) rfl (hb hby at_373) _ ?_
      show Steps p.tables e below (T342.setTop (mkF m 376 #[.val (.long q0), .second, .val (.long q2), .second, .val (.int p4), .val (.int p5), .val (.ref b172), .val (.int (own_T p4)), .val (.int (0 : Int32)), .val (.long (own_e (own_T p4))), .second, .val (.ref b_342), .unset, .unset, .unset, .unset, .unset, .unset] [(.long (-1 : Int64)), (.long q2), (.long (own_e (own_T p4)))])) _
      refine XS.lxor X342.here hx rfl (hb hby at_376) rfl ?_
      show Steps p.tables e below (T342.setTop (mkF m 377 #[.val (.long q0), .second, .val (.long q2), .second, .val (.int p4), .val (.int p5), .val (.ref b172), .val (.int (own_T p4)), .val (.int (0 : Int32)), .val (.long (own_e (own_T p4))), .second, .val (.ref b_342), .unset, .unset, .unset, .unset, .unset, .unset] [(.long (q2 ^^^ (-1 : Int64))), (.long (own_e (own_T p4)))])) _
      refine XS.iload X342.here hx rfl (hb hby at_377) rfl ?_
      show Steps p.tables e below (T342.setTop (mkF m 379 #[.val (.long q0), .second, .val (.long q2), .second, .val (.int p4), .val (.int p5), .val (.ref b172), .val (.int (own_T p4)), .val (.int (0 : Int32)), .val (.long (own_e (own_T p4))), .second, .val (.ref b_342), .unset, .unset, .unset, .unset, .unset, .unset] [(.int (0 : Int32)), (.long (q2 ^^^ (-1 : Int64))), (.long (own_e (own_T p4)))])) _
      refine st343 _ ?_
      show Steps p.tables e below (T343.setTop (mkF m 382 #[.val (.long q0), .second, .val (.long q2), .second, .val (.int p4), .val (.int p5), .val (.ref b172), .val (.int (own_T p4)), .val (.int (0 : Int32)), .val (.long (own_e (own_T p4))), .second, .val (.ref b_342), .unset, .unset, .unset, .unset, .unset, .unset] [(.ref b_343)])) _
      refine XS.astore X343.here hx rfl (hb hby at_382) rfl rfl (l' := #[.val (.long q0), .second, .val (.long q2), .second, .val (.int p4), .val (.int p5), .val (.ref b172), .val (.int (own_T p4)), .val (.int (0 : Int32)), .val (.long (own_e (own_T p4))), .second, .val (.ref b_342), .val (.ref b_343), .unset, .unset, .unset, .unset, .unset]) rfl ?_
      show Steps p.tables e below (T343.setTop (mkF m 384 #[.val (.long q0), .second, .val (.long q2), .second, .val (.int p4), .val (.int p5), .val (.ref b172), .val (.int (own_T p4)), .val (.int (0 : Int32)), .val (.long (own_e (own_T p4))), .second, .val (.ref b_342), .val (.ref b_343), .unset, .unset, .unset, .unset, .unset] [])) _
      refine XS.lloadN X343.here hx rfl (hb hby at_384) rfl ?_
      show Steps p.tables e below (T343.setTop (mkF m 385 #[.val (.long q0), .second, .val (.long q2), .second, .val (.int p4), .val (.int p5), .val (.ref b172), .val (.int (own_T p4)), .val (.int (0 : Int32)), .val (.long (own_e (own_T p4))), .second, .val (.ref b_342), .val (.ref b_343), .unset, .unset, .unset, .unset, .unset] [(.long q0)])) _
      refine XS.lload X343.here hx rfl (hb hby at_385) rfl ?_
      show Steps p.tables e below (T343.setTop (mkF m 387 #[.val (.long q0), .second, .val (.long q2), .second, .val (.int p4), .val (.int p5), .val (.ref b172), .val (.int (own_T p4)), .val (.int (0 : Int32)), .val (.long (own_e (own_T p4))), .second, .val (.ref b_342), .val (.ref b_343), .unset, .unset, .unset, .unset, .unset] [(.long (own_e (own_T p4))), (.long q0)])) _
      refine XS.lxor X343.here hx rfl (hb hby at_387) rfl ?_
      show Steps p.tables e below (T343.setTop (mkF m 388 #[.val (.long q0), .second, .val (.long q2), .second, .val (.int p4), .val (.int p5), .val (.ref b172), .val (.int (own_T p4)), .val (.int (0 : Int32)), .val (.long (own_e (own_T p4))), .second, .val (.ref b_342), .val (.ref b_343), .unset, .unset, .unset, .unset, .unset] [(.long (q0 ^^^ (own_e (own_T p4))))])) _
      refine XS.lloadN X343.here hx rfl (hb hby at_388) rfl ?_
      show Steps p.tables e below (T343.setTop (mkF m 389 #[.val (.long q0), .second, .val (.long q2), .second, .val (.int p4), .val (.int p5), .val (.ref b172), .val (.int (own_T p4)), .val (.int (0 : Int32)), .val (.long (own_e (own_T p4))), .second, .val (.ref b_342), .val (.ref b_343), .unset, .unset, .unset, .unset, .unset] [(.long q2), (.long (q0 ^^^ (own_e (own_T p4))))])) _
      refine XS.lloadN X343.here hx rfl (hb hby at_389) rfl ?_
      show Steps p.tables e below (T343.setTop (mkF m 390 #[.val (.long q0), .second, .val (.long q2), .second, .val (.int p4), .val (.int p5), .val (.ref b172), .val (.int (own_T p4)), .val (.int (0 : Int32)), .val (.long (own_e (own_T p4))), .second, .val (.ref b_342), .val (.ref b_343), .unset, .unset, .unset, .unset, .unset] [(.long q0), (.long q2), (.long (q0 ^^^ (own_e (own_T p4))))])) _
      refine XS.lxor X343.here hx rfl (hb hby at_390) rfl ?_
      show Steps p.tables e below (T343.setTop (mkF m 391 #[.val (.long q0), .second, .val (.long q2), .second, .val (.int p4), .val (.int p5), .val (.ref b172), .val (.int (own_T p4)), .val (.int (0 : Int32)), .val (.long (own_e (own_T p4))), .second, .val (.ref b_342), .val (.ref b_343), .unset, .unset, .unset, .unset, .unset] [(.long (q2 ^^^ q0)), (.long (q0 ^^^ (own_e (own_T p4))))])) _
      refine XS.iload X343.here hx rfl (hb hby at_391) rfl ?_
      show Steps p.tables e below (T343.setTop (mkF m 393 #[.val (.long q0), .second, .val (.long q2), .second, .val (.int p4), .val (.int p5), .val (.ref b172), .val (.int (own_T p4)), .val (.int (0 : Int32)), .val (.long (own_e (own_T p4))), .second, .val (.ref b_342), .val (.ref b_343), .unset, .unset, .unset, .unset, .unset] [(.int (0 : Int32)), (.long (q2 ^^^ q0)), (.long (q0 ^^^ (own_e (own_T p4))))])) _
      refine st345 _ ?_
      show Steps p.tables e below (T345.setTop (mkF m 396 #[.val (.long q0), .second, .val (.long q2), .second, .val (.int p4), .val (.int p5), .val (.ref b172), .val (.int (own_T p4)), .val (.int (0 : Int32)), .val (.long (own_e (own_T p4))), .second, .val (.ref b_342), .val (.ref b_343), .unset, .unset, .unset, .unset, .unset] [(.ref b_345)])) _
      refine XS.astore X345.here hx rfl (hb hby at_396) rfl rfl (l' := #[.val (.long q0), .second, .val (.long q2), .second, .val (.int p4), .val (.int p5), .val (.ref b172), .val (.int (own_T p4)), .val (.int (0 : Int32)), .val (.long (own_e (own_T p4))), .second, .val (.ref b_342), .val (.ref b_343), .val (.ref b_345), .unset, .unset, .unset, .unset]) rfl ?_
      show Steps p.tables e below (T345.setTop (mkF m 398 #[.val (.long q0), .second, .val (.long q2), .second, .val (.int p4), .val (.int p5), .val (.ref b172), .val (.int (own_T p4)), .val (.int (0 : Int32)), .val (.long (own_e (own_T p4))), .second, .val (.ref b_342), .val (.ref b_343), .val (.ref b_345), .unset, .unset, .unset, .unset] [])) _
      refine XS.aload X345.here hx rfl (hb hby at_398) rfl rfl ?_
      show Steps p.tables e below (T345.setTop (mkF m 400 #[.val (.long q0), .second, .val (.long q2), .second, .val (.int p4), .val (.int p5), .val (.ref b172), .val (.int (own_T p4)), .val (.int (0 : Int32)), .val (.long (own_e (own_T p4))), .second, .val (.ref b_342), .val (.ref b_343), .val (.ref b_345), .unset, .unset, .unset, .unset] [(.ref b_342)])) _
      refine XS.iload X345.here hx rfl (hb hby at_400) rfl ?_
      show Steps p.tables e below (T345.setTop (mkF m 402 #[.val (.long q0), .second, .val (.long q2), .second, .val (.int p4), .val (.int p5), .val (.ref b172), .val (.int (own_T p4)), .val (.int (0 : Int32)), .val (.long (own_e (own_T p4))), .second, .val (.ref b_342), .val (.ref b_343), .val (.ref b_345), .unset, .unset, .unset, .unset] [(.int (0 : Int32)), (.ref b_342)])) _
      refine st349 _ ?_
      show Steps p.tables e below (T349.setTop (mkF m 405 #[.val (.long q0), .second, .val (.long q2), .second, .val (.int p4), .val (.int p5), .val (.ref b172), .val (.int (own_T p4)), .val (.int (0 : Int32)), .val (.long (own_e (own_T p4))), .second, .val (.ref b_342), .val (.ref b_343), .val (.ref b_345), .unset, .unset, .unset, .unset] [(.int (own_parL q0))])) _
      refine XS.istore X349.here hx rfl (hb hby at_405) rfl (l' := #[.val (.long q0), .second, .val (.long q2), .second, .val (.int p4), .val (.int p5), .val (.ref b172), .val (.int (own_T p4)), .val (.int (0 : Int32)), .val (.long (own_e (own_T p4))), .second, .val (.ref b_342), .val (.ref b_343), .val (.ref b_345), .val (.int (own_parL q0)), .unset, .unset, .unset]) rfl ?_
      show Steps p.tables e below (T349.setTop (mkF m 407 #[.val (.long q0), .second, .val (.long q2), .second, .val (.int p4), .val (.int p5), .val (.ref b172), .val (.int (own_T p4)), .val (.int (0 : Int32)), .val (.long (own_e (own_T p4))), .second, .val (.ref b_342), .val (.ref b_343), .val (.ref b_345), .val (.int (own_parL q0)), .unset, .unset, .unset] [])) _
      refine XS.aload X349.here hx rfl (hb hby at_407) rfl rfl ?_
      show Steps p.tables e below (T349.setTop (mkF m 409 #[.val (.long q0), .second, .val (.long q2), .second, .val (.int p4), .val (.int p5), .val (.ref b172), .val (.int (own_T p4)), .val (.int (0 : Int32)), .val (.long (own_e (own_T p4))), .second, .val (.ref b_342), .val (.ref b_343), .val (.ref b_345), .val (.int (own_parL q0)), .unset, .unset, .unset] [(.ref b_343)])) _
      refine XS.iload X349.here hx rfl (hb hby at_409) rfl ?_
      show Steps p.tables e below (T349.setTop (mkF m 411 #[.val (.long q0), .second, .val (.long q2), .second, .val (.int p4), .val (.int p5), .val (.ref b172), .val (.int (own_T p4)), .val (.int (0 : Int32)), .val (.long (own_e (own_T p4))), .second, .val (.ref b_342), .val (.ref b_343), .val (.ref b_345), .val (.int (own_parL q0)), .unset, .unset, .unset] [(.int (0 : Int32)), (.ref b_343)])) _
      refine st351 _ ?_
      show Steps p.tables e below (T351.setTop (mkF m 414 #[.val (.long q0), .second, .val (.long q2), .second, .val (.int p4), .val (.int p5), .val (.ref b172), .val (.int (own_T p4)), .val (.int (0 : Int32)), .val (.long (own_e (own_T p4))), .second, .val (.ref b_342), .val (.ref b_343), .val (.ref b_345), .val (.int (own_parL q0)), .unset, .unset, .unset] [(.int (own_parL (own_e (own_T p4))))])) _
      refine XS.istore X351.here hx rfl (hb hby at_414) rfl (l' := #[.val (.long q0), .second, .val (.long q2), .second, .val (.int p4), .val (.int p5), .val (.ref b172), .val (.int (own_T p4)), .val (.int (0 : Int32)), .val (.long (own_e (own_T p4))), .second, .val (.ref b_342), .val (.ref b_343), .val (.ref b_345), .val (.int (own_parL q0)), .val (.int (own_parL (own_e (own_T p4)))), .unset, .unset]) rfl ?_
      show Steps p.tables e below (T351.setTop (mkF m 416 #[.val (.long q0), .second, .val (.long q2), .second, .val (.int p4), .val (.int p5), .val (.ref b172), .val (.int (own_T p4)), .val (.int (0 : Int32)), .val (.long (own_e (own_T p4))), .second, .val (.ref b_342), .val (.ref b_343), .val (.ref b_345), .val (.int (own_parL q0)), .val (.int (own_parL (own_e (own_T p4)))), .unset, .unset] [])) _
      refine XS.aload X351.here hx rfl (hb hby at_416) rfl rfl ?_
      show Steps p.tables e below (T351.setTop (mkF m 418 #[.val (.long q0), .second, .val (.long q2), .second, .val (.int p4), .val (.int p5), .val (.ref b172), .val (.int (own_T p4)), .val (.int (0 : Int32)), .val (.long (own_e (own_T p4))), .second, .val (.ref b_342), .val (.ref b_343), .val (.ref b_345), .val (.int (own_parL q0)), .val (.int (own_parL (own_e (own_T p4)))), .unset, .unset] [(.ref b_345)])) _
      refine XS.iload X351.here hx rfl (hb hby at_418) rfl ?_
      show Steps p.tables e below (T351.setTop (mkF m 420 #[.val (.long q0), .second, .val (.long q2), .second, .val (.int p4), .val (.int p5), .val (.ref b172), .val (.int (own_T p4)), .val (.int (0 : Int32)), .val (.long (own_e (own_T p4))), .second, .val (.ref b_342), .val (.ref b_343), .val (.ref b_345), .val (.int (own_parL q0)), .val (.int (own_parL (own_e (own_T p4)))), .unset, .unset] [(.int (0 : Int32)), (.ref b_345)])) _
      refine st352 _ ?_
      show Steps p.tables e below (T352.setTop (mkF m 423 #[.val (.long q0), .second, .val (.long q2), .second, .val (.int p4), .val (.int p5), .val (.ref b172), .val (.int (own_T p4)), .val (.int (0 : Int32)), .val (.long (own_e (own_T p4))), .second, .val (.ref b_342), .val (.ref b_343), .val (.ref b_345), .val (.int (own_parL q0)), .val (.int (own_parL (own_e (own_T p4)))), .unset, .unset] [(.int (own_parL (q0 ^^^ (own_e (own_T p4)))))])) _
      refine XS.istore X352.here hx rfl (hb hby at_423) rfl (l' := #[.val (.long q0), .second, .val (.long q2), .second, .val (.int p4), .val (.int p5), .val (.ref b172), .val (.int (own_T p4)), .val (.int (0 : Int32)), .val (.long (own_e (own_T p4))), .second, .val (.ref b_342), .val (.ref b_343), .val (.ref b_345), .val (.int (own_parL q0)), .val (.int (own_parL (own_e (own_T p4)))), .val (.int (own_parL (q0 ^^^ (own_e (own_T p4))))), .unset]) rfl ?_
      show Steps p.tables e below (T352.setTop (mkF m 425 #[.val (.long q0), .second, .val (.long q2), .second, .val (.int p4), .val (.int p5), .val (.ref b172), .val (.int (own_T p4)), .val (.int (0 : Int32)), .val (.long (own_e (own_T p4))), .second, .val (.ref b_342), .val (.ref b_343), .val (.ref b_345), .val (.int (own_parL q0)), .val (.int (own_parL (own_e (own_T p4)))), .val (.int (own_parL (q0 ^^^ (own_e (own_T p4))))), .unset] [])) _
      refine XS.aload X352.here hx rfl (hb hby at_425) rfl rfl ?_
      show Steps p.tables e below (T352.setTop (mkF m 427 #[.val (.long q0), .second, .val (.long q2), .second, .val (.int p4), .val (.int p5), .val (.ref b172), .val (.int (own_T p4)), .val (.int (0 : Int32)), .val (.long (own_e (own_T p4))), .second, .val (.ref b_342), .val (.ref b_343), .val (.ref b_345), .val (.int (own_parL q0)), .val (.int (own_parL (own_e (own_T p4)))), .val (.int (own_parL (q0 ^^^ (own_e (own_T p4))))), .unset] [(.ref b172)])) _
      refine XS.iload X352.here hx rfl (hb hby at_427) rfl ?_
      show Steps p.tables e below (T352.setTop (mkF m 429 #[.val (.long q0), .second, .val (.long q2), .second, .val (.int p4), .val (.int p5), .val (.ref b172), .val (.int (own_T p4)), .val (.int (0 : Int32)), .val (.long (own_e (own_T p4))), .second, .val (.ref b_342), .val (.ref b_343), .val (.ref b_345), .val (.int (own_parL q0)), .val (.int (own_parL (own_e (own_T p4)))), .val (.int (own_parL (q0 ^^^ (own_e (own_T p4))))), .unset] [(.int (own_T p4)), (.ref b172)])) _
      refine X352.iaload hx (j := (own_T p4)) (v := (.int (own_tabI.getD ((own_T p4)).toNatClampNeg 0))) (by rw [e352]; exact Ar353.1) (State.isArrayOf_alike hZ.alike Ar353.2.1) Ar353.2.2 hin353 hat353 (g := (mkF m 429 #[.val (.long q0), .second, .val (.long q2), .second, .val (.int p4), .val (.int p5), .val (.ref b172), .val (.int (own_T p4)), .val (.int (0 : Int32)), .val (.long (own_e (own_T p4))), .second, .val (.ref b_342), .val (.ref b_343), .val (.ref b_345), .val (.int (own_parL q0)), .val (.int (own_parL (own_e (own_T p4)))), .val (.int (own_parL (q0 ^^^ (own_e (own_T p4))))), .unset] [(.int (own_T p4)), (.ref b172)])) rfl rfl (hb hby at_429) _ ?_
      show Steps p.tables e below (T352.setTop (mkF m 430 #[.val (.long q0), .second, .val (.long q2), .second, .val (.int p4), .val (.int p5), .val (.ref b172), .val (.int (own_T p4)), .val (.int (0 : Int32)), .val (.long (own_e (own_T p4))), .second, .val (.ref b_342), .val (.ref b_343), .val (.ref b_345), .val (.int (own_parL q0)), .val (.int (own_parL (own_e (own_T p4)))), .val (.int (own_parL (q0 ^^^ (own_e (own_T p4))))), .unset] [(.int (own_tabI.getD ((own_T p4)).toNatClampNeg 0))])) _
      refine XS.iconst X352.here hx rfl (hb hby at_430) ?_
      show Steps p.tables e below (T352.setTop (mkF m 431 #[.val (.long q0), .second, .val (.long q2), .second, .val (.int p4), .val (.int p5), .val (.ref b172), .val (.int (own_T p4)), .val (.int (0 : Int32)), .val (.long (own_e (own_T p4))), .second, .val (.ref b_342), .val (.ref b_343), .val (.ref b_345), .val (.int (own_parL q0)), .val (.int (own_parL (own_e (own_T p4)))), .val (.int (own_parL (q0 ^^^ (own_e (own_T p4))))), .unset] [(.int (-1 : Int32)), (.int (own_tabI.getD ((own_T p4)).toNatClampNeg 0))])) _
      refine XS.ixor X352.here hx rfl (hb hby at_431) rfl ?_
      show Steps p.tables e below (T352.setTop (mkF m 432 #[.val (.long q0), .second, .val (.long q2), .second, .val (.int p4), .val (.int p5), .val (.ref b172), .val (.int (own_T p4)), .val (.int (0 : Int32)), .val (.long (own_e (own_T p4))), .second, .val (.ref b_342), .val (.ref b_343), .val (.ref b_345), .val (.int (own_parL q0)), .val (.int (own_parL (own_e (own_T p4)))), .val (.int (own_parL (q0 ^^^ (own_e (own_T p4))))), .unset] [(.int ((own_tabI.getD ((own_T p4)).toNatClampNeg 0) ^^^ (-1 : Int32)))])) _
      refine XS.bipush X352.here hx rfl (hb hby at_432) ?_
      show Steps p.tables e below (T352.setTop (mkF m 434 #[.val (.long q0), .second, .val (.long q2), .second, .val (.int p4), .val (.int p5), .val (.ref b172), .val (.int (own_T p4)), .val (.int (0 : Int32)), .val (.long (own_e (own_T p4))), .second, .val (.ref b_342), .val (.ref b_343), .val (.ref b_345), .val (.int (own_parL q0)), .val (.int (own_parL (own_e (own_T p4)))), .val (.int (own_parL (q0 ^^^ (own_e (own_T p4))))), .unset] [(.int (127 : Int32)), (.int ((own_tabI.getD ((own_T p4)).toNatClampNeg 0) ^^^ (-1 : Int32)))])) _
      refine XS.iand X352.here hx rfl (hb hby at_434) rfl ?_
      show Steps p.tables e below (T352.setTop (mkF m 435 #[.val (.long q0), .second, .val (.long q2), .second, .val (.int p4), .val (.int p5), .val (.ref b172), .val (.int (own_T p4)), .val (.int (0 : Int32)), .val (.long (own_e (own_T p4))), .second, .val (.ref b_342), .val (.ref b_343), .val (.ref b_345), .val (.int (own_parL q0)), .val (.int (own_parL (own_e (own_T p4)))), .val (.int (own_parL (q0 ^^^ (own_e (own_T p4))))), .unset] [(.int (((own_tabI.getD ((own_T p4)).toNatClampNeg 0) ^^^ (-1 : Int32)) &&& (127 : Int32)))])) _
      refine XS.iconst X352.here hx rfl (hb hby at_435) ?_
      show Steps p.tables e below (T352.setTop (mkF m 436 #[.val (.long q0), .second, .val (.long q2), .second, .val (.int p4), .val (.int p5), .val (.ref b172), .val (.int (own_T p4)), .val (.int (0 : Int32)), .val (.long (own_e (own_T p4))), .second, .val (.ref b_342), .val (.ref b_343), .val (.ref b_345), .val (.int (own_parL q0)), .val (.int (own_parL (own_e (own_T p4)))), .val (.int (own_parL (q0 ^^^ (own_e (own_T p4))))), .unset] [(.int (1 : Int32)), (.int (((own_tabI.getD ((own_T p4)).toNatClampNeg 0) ^^^ (-1 : Int32)) &&& (127 : Int32)))])) _
      refine XS.ishl X352.here hx rfl (hb hby at_436) rfl ?_
      show Steps p.tables e below (T352.setTop (mkF m 437 #[.val (.long q0), .second, .val (.long q2), .second, .val (.int p4), .val (.int p5), .val (.ref b172), .val (.int (own_T p4)), .val (.int (0 : Int32)), .val (.long (own_e (own_T p4))), .second, .val (.ref b_342), .val (.ref b_343), .val (.ref b_345), .val (.int (own_parL q0)), .val (.int (own_parL (own_e (own_T p4)))), .val (.int (own_parL (q0 ^^^ (own_e (own_T p4))))), .unset] [(.int ((((own_tabI.getD ((own_T p4)).toNatClampNeg 0) ^^^ (-1 : Int32)) &&& (127 : Int32)) <<< ((1 : Int32) &&& 31)))])) _
      refine XS.istore X352.here hx rfl (hb hby at_437) rfl (l' := #[.val (.long q0), .second, .val (.long q2), .second, .val (.int p4), .val (.int p5), .val (.ref b172), .val (.int (own_T p4)), .val (.int (0 : Int32)), .val (.long (own_e (own_T p4))), .second, .val (.ref b_342), .val (.ref b_343), .val (.ref b_345), .val (.int (own_parL q0)), .val (.int (own_parL (own_e (own_T p4)))), .val (.int (own_parL (q0 ^^^ (own_e (own_T p4))))), .val (.int ((((own_tabI.getD ((own_T p4)).toNatClampNeg 0) ^^^ (-1 : Int32)) &&& (127 : Int32)) <<< ((1 : Int32) &&& 31)))]) rfl ?_
      show Steps p.tables e below (T352.setTop (mkF m 439 #[.val (.long q0), .second, .val (.long q2), .second, .val (.int p4), .val (.int p5), .val (.ref b172), .val (.int (own_T p4)), .val (.int (0 : Int32)), .val (.long (own_e (own_T p4))), .second, .val (.ref b_342), .val (.ref b_343), .val (.ref b_345), .val (.int (own_parL q0)), .val (.int (own_parL (own_e (own_T p4)))), .val (.int (own_parL (q0 ^^^ (own_e (own_T p4))))), .val (.int ((((own_tabI.getD ((own_T p4)).toNatClampNeg 0) ^^^ (-1 : Int32)) &&& (127 : Int32)) <<< ((1 : Int32) &&& 31)))] [])) _
      refine XS.iload X352.here hx rfl (hb hby at_439) rfl ?_
      show Steps p.tables e below (T352.setTop (mkF m 441 #[.val (.long q0), .second, .val (.long q2), .second, .val (.int p4), .val (.int p5), .val (.ref b172), .val (.int (own_T p4)), .val (.int (0 : Int32)), .val (.long (own_e (own_T p4))), .second, .val (.ref b_342), .val (.ref b_343), .val (.ref b_345), .val (.int (own_parL q0)), .val (.int (own_parL (own_e (own_T p4)))), .val (.int (own_parL (q0 ^^^ (own_e (own_T p4))))), .val (.int ((((own_tabI.getD ((own_T p4)).toNatClampNeg 0) ^^^ (-1 : Int32)) &&& (127 : Int32)) <<< ((1 : Int32) &&& 31)))] [(.int (own_parL (own_e (own_T p4))))])) _
      refine XS.iload X352.here hx rfl (hb hby at_441) rfl ?_
      show Steps p.tables e below (T352.setTop (mkF m 443 #[.val (.long q0), .second, .val (.long q2), .second, .val (.int p4), .val (.int p5), .val (.ref b172), .val (.int (own_T p4)), .val (.int (0 : Int32)), .val (.long (own_e (own_T p4))), .second, .val (.ref b_342), .val (.ref b_343), .val (.ref b_345), .val (.int (own_parL q0)), .val (.int (own_parL (own_e (own_T p4)))), .val (.int (own_parL (q0 ^^^ (own_e (own_T p4))))), .val (.int ((((own_tabI.getD ((own_T p4)).toNatClampNeg 0) ^^^ (-1 : Int32)) &&& (127 : Int32)) <<< ((1 : Int32) &&& 31)))] [(.int ((((own_tabI.getD ((own_T p4)).toNatClampNeg 0) ^^^ (-1 : Int32)) &&& (127 : Int32)) <<< ((1 : Int32) &&& 31))), (.int (own_parL (own_e (own_T p4))))])) _
      refine XS.icmpNo X352.here hx rfl (hb hby at_443) rfl (teq hc443_355).2 ?_
      show Steps p.tables e below (T352.setTop (mkF m 446 #[.val (.long q0), .second, .val (.long q2), .second, .val (.int p4), .val (.int p5), .val (.ref b172), .val (.int (own_T p4)), .val (.int (0 : Int32)), .val (.long (own_e (own_T p4))), .second, .val (.ref b_342), .val (.ref b_343), .val (.ref b_345), .val (.int (own_parL q0)), .val (.int (own_parL (own_e (own_T p4)))), .val (.int (own_parL (q0 ^^^ (own_e (own_T p4))))), .val (.int ((((own_tabI.getD ((own_T p4)).toNatClampNeg 0) ^^^ (-1 : Int32)) &&& (127 : Int32)) <<< ((1 : Int32) &&& 31)))] [])) _
      refine XS.iload X352.here hx rfl (hb hby at_446) rfl ?_
      show Steps p.tables e below (T352.setTop (mkF m 448 #[.val (.long q0), .second, .val (.long q2), .second, .val (.int p4), .val (.int p5), .val (.ref b172), .val (.int (own_T p4)), .val (.int (0 : Int32)), .val (.long (own_e (own_T p4))), .second, .val (.ref b_342), .val (.ref b_343), .val (.ref b_345), .val (.int (own_parL q0)), .val (.int (own_parL (own_e (own_T p4)))), .val (.int (own_parL (q0 ^^^ (own_e (own_T p4))))), .val (.int ((((own_tabI.getD ((own_T p4)).toNatClampNeg 0) ^^^ (-1 : Int32)) &&& (127 : Int32)) <<< ((1 : Int32) &&& 31)))] [(.int (own_parL (q0 ^^^ (own_e (own_T p4)))))])) _
      refine XS.iload X352.here hx rfl (hb hby at_448) rfl ?_
      show Steps p.tables e below (T352.setTop (mkF m 450 #[.val (.long q0), .second, .val (.long q2), .second, .val (.int p4), .val (.int p5), .val (.ref b172), .val (.int (own_T p4)), .val (.int (0 : Int32)), .val (.long (own_e (own_T p4))), .second, .val (.ref b_342), .val (.ref b_343), .val (.ref b_345), .val (.int (own_parL q0)), .val (.int (own_parL (own_e (own_T p4)))), .val (.int (own_parL (q0 ^^^ (own_e (own_T p4))))), .val (.int ((((own_tabI.getD ((own_T p4)).toNatClampNeg 0) ^^^ (-1 : Int32)) &&& (127 : Int32)) <<< ((1 : Int32) &&& 31)))] [(.int (own_parL q0)), (.int (own_parL (q0 ^^^ (own_e (own_T p4)))))])) _
      refine XS.iload X352.here hx rfl (hb hby at_450) rfl ?_
      show Steps p.tables e below (T352.setTop (mkF m 452 #[.val (.long q0), .second, .val (.long q2), .second, .val (.int p4), .val (.int p5), .val (.ref b172), .val (.int (own_T p4)), .val (.int (0 : Int32)), .val (.long (own_e (own_T p4))), .second, .val (.ref b_342), .val (.ref b_343), .val (.ref b_345), .val (.int (own_parL q0)), .val (.int (own_parL (own_e (own_T p4)))), .val (.int (own_parL (q0 ^^^ (own_e (own_T p4))))), .val (.int ((((own_tabI.getD ((own_T p4)).toNatClampNeg 0) ^^^ (-1 : Int32)) &&& (127 : Int32)) <<< ((1 : Int32) &&& 31)))] [(.int (own_parL (own_e (own_T p4)))), (.int (own_parL q0)), (.int (own_parL (q0 ^^^ (own_e (own_T p4)))))])) _
      refine XS.ixor X352.here hx rfl (hb hby at_452) rfl ?_
      show Steps p.tables e below (T352.setTop (mkF m 453 #[.val (.long q0), .second, .val (.long q2), .second, .val (.int p4), .val (.int p5), .val (.ref b172), .val (.int (own_T p4)), .val (.int (0 : Int32)), .val (.long (own_e (own_T p4))), .second, .val (.ref b_342), .val (.ref b_343), .val (.ref b_345), .val (.int (own_parL q0)), .val (.int (own_parL (own_e (own_T p4)))), .val (.int (own_parL (q0 ^^^ (own_e (own_T p4))))), .val (.int ((((own_tabI.getD ((own_T p4)).toNatClampNeg 0) ^^^ (-1 : Int32)) &&& (127 : Int32)) <<< ((1 : Int32) &&& 31)))] [(.int ((own_parL q0) ^^^ (own_parL (own_e (own_T p4))))), (.int (own_parL (q0 ^^^ (own_e (own_T p4)))))])) _
      refine XS.sipush X352.here hx rfl (hb hby at_453) ?_
      show Steps p.tables e below (T352.setTop (mkF m 456 #[.val (.long q0), .second, .val (.long q2), .second, .val (.int p4), .val (.int p5), .val (.ref b172), .val (.int (own_T p4)), .val (.int (0 : Int32)), .val (.long (own_e (own_T p4))), .second, .val (.ref b_342), .val (.ref b_343), .val (.ref b_345), .val (.int (own_parL q0)), .val (.int (own_parL (own_e (own_T p4)))), .val (.int (own_parL (q0 ^^^ (own_e (own_T p4))))), .val (.int ((((own_tabI.getD ((own_T p4)).toNatClampNeg 0) ^^^ (-1 : Int32)) &&& (127 : Int32)) <<< ((1 : Int32) &&& 31)))] [(.int (254 : Int32)), (.int ((own_parL q0) ^^^ (own_parL (own_e (own_T p4))))), (.int (own_parL (q0 ^^^ (own_e (own_T p4)))))])) _
      refine XS.ixor X352.here hx rfl (hb hby at_456) rfl ?_
      show Steps p.tables e below (T352.setTop (mkF m 457 #[.val (.long q0), .second, .val (.long q2), .second, .val (.int p4), .val (.int p5), .val (.ref b172), .val (.int (own_T p4)), .val (.int (0 : Int32)), .val (.long (own_e (own_T p4))), .second, .val (.ref b_342), .val (.ref b_343), .val (.ref b_345), .val (.int (own_parL q0)), .val (.int (own_parL (own_e (own_T p4)))), .val (.int (own_parL (q0 ^^^ (own_e (own_T p4))))), .val (.int ((((own_tabI.getD ((own_T p4)).toNatClampNeg 0) ^^^ (-1 : Int32)) &&& (127 : Int32)) <<< ((1 : Int32) &&& 31)))] [(.int (((own_parL q0) ^^^ (own_parL (own_e (own_T p4)))) ^^^ (254 : Int32))), (.int (own_parL (q0 ^^^ (own_e (own_T p4)))))])) _
      refine XS.icmpNo X352.here hx rfl (hb hby at_457) rfl (teq hc457_356).2 ?_
      show Steps p.tables e below (T352.setTop (mkF m 460 #[.val (.long q0), .second, .val (.long q2), .second, .val (.int p4), .val (.int p5), .val (.ref b172), .val (.int (own_T p4)), .val (.int (0 : Int32)), .val (.long (own_e (own_T p4))), .second, .val (.ref b_342), .val (.ref b_343), .val (.ref b_345), .val (.int (own_parL q0)), .val (.int (own_parL (own_e (own_T p4)))), .val (.int (own_parL (q0 ^^^ (own_e (own_T p4))))), .val (.int ((((own_tabI.getD ((own_T p4)).toNatClampNeg 0) ^^^ (-1 : Int32)) &&& (127 : Int32)) <<< ((1 : Int32) &&& 31)))] [])) _
      refine XS.iconst X352.here hx rfl (hb hby at_460) ?_
      show Steps p.tables e below (T352.setTop (mkF m 461 #[.val (.long q0), .second, .val (.long q2), .second, .val (.int p4), .val (.int p5), .val (.ref b172), .val (.int (own_T p4)), .val (.int (0 : Int32)), .val (.long (own_e (own_T p4))), .second, .val (.ref b_342), .val (.ref b_343), .val (.ref b_345), .val (.int (own_parL q0)), .val (.int (own_parL (own_e (own_T p4)))), .val (.int (own_parL (q0 ^^^ (own_e (own_T p4))))), .val (.int ((((own_tabI.getD ((own_T p4)).toNatClampNeg 0) ^^^ (-1 : Int32)) &&& (127 : Int32)) <<< ((1 : Int32) &&& 31)))] [(.int (1 : Int32))])) _
      refine XS.goto X352.here hx rfl (pc0 := 461) (pc' := 465) rfl (hb hby at_461) (by decide) (by decide) ?_
      show Steps p.tables e below (T352.setTop (mkF m 465 #[.val (.long q0), .second, .val (.long q2), .second, .val (.int p4), .val (.int p5), .val (.ref b172), .val (.int (own_T p4)), .val (.int (0 : Int32)), .val (.long (own_e (own_T p4))), .second, .val (.ref b_342), .val (.ref b_343), .val (.ref b_345), .val (.int (own_parL q0)), .val (.int (own_parL (own_e (own_T p4)))), .val (.int (own_parL (q0 ^^^ (own_e (own_T p4))))), .val (.int ((((own_tabI.getD ((own_T p4)).toNatClampNeg 0) ^^^ (-1 : Int32)) &&& (127 : Int32)) <<< ((1 : Int32) &&& 31)))] [(.int (1 : Int32))])) _
      exact retN X352 hx (t := .boolean) Bd.returns (by simp) (hb hby at_465) hr
    · show Q0 Z q0 q2 p4 p5 h0 n0 _ T352.heap _
      rw [e352]
      exact ⟨rfl, N352⟩
  · obtain ⟨_, _, ⟨T357, L357, k357, n357⟩, -, X357, ⟨Lc357, hQ357, l357, y357, z357⟩, st357⟩ := Jvm.LawKit.callS XX339 hx (y := (⟨"com/example/linkbook/linkbook/coding/BchParityOctetPinLaw", "build", "(JJI)[B"⟩ : MethodName)) hown (mvT hZ (hw _ (List.mem_of_getElem? (i := 2) rfl))) (mvT hZ (hw _ (List.mem_of_getElem? (i := 3) rfl))) (mvT hZ (hw _ (List.mem_of_getElem? (i := 4) rfl))) (mvT hZ (hw _ (List.mem_of_getElem? (i := 5) rfl))) (by decide) (backOf (W := 0) (rm1_1 l Z a0 hw [] q0 q2 h339 n0 (Nat.le_trans Z0 K339.1) ) hZ (hw _ (List.mem_of_getElem? (i := 5) rfl)) (hw _ (List.mem_of_getElem? (i := 4) rfl)) (by decide) (by decide)) (g := (mkF m 365 #[.val (.long q0), .second, .val (.long q2), .second, .val (.int p4), .val (.int p5), .val (.ref b172), .val (.int (own_T p4)), .val (.int (1 : Int32)), .val (.long (own_e (own_T p4))), .second, .unset, .unset, .unset, .unset, .unset, .unset, .unset] [(.int (1 : Int32)), (.long q2), (.long q0)])) rfl (by rw [hml]; rfl) (argsL := [(.long q0), (.long q2), (.int (1 : Int32))]) (rest := []) (lenOf own_pd0 rfl) rfl (by show 2 * 0 + _ ≤ _; exact Nat.le_of_eq rfl) (hb hby at_365) (fun _ _ => ⟨rfl, e339, (by decide : 1 + 1 ≤ _), (by decide : 56 + 10 ≤ _)⟩)
    dsimp only [Pt.U, Pt.locs, Pt.cells, Pt.slots] at X357 l357 y357 z357 st357 hQ357
    subst l357 y357 z357
    obtain ⟨b_357, k_357, rfl, N357q, i357_4, i357_5, i357_6⟩ := hQ357
    have N357 := Fr.app NN339 N357q
    have ne_b172_b_357 : b172 ≠ b_357 := Nat.ne_of_lt (Nat.lt_of_lt_of_le V339.lt i357_5)
    have gg_b_357 : n0 ≤ b_357 := Nat.le_trans (Nat.le_trans Z0 K339.1) i357_5
    have sz_b_357 : h0.size ≤ b_357 := Nat.le_trans K339.1 i357_5
    have K357 := K339.trans i357_4 all0
    obtain ⟨_, _, ⟨T358, L358, k358, n358⟩, -, X358, ⟨Lc358, hQ358, l358, y358, z358⟩, st358⟩ := Jvm.LawKit.callS X357 hx (y := (⟨"com/example/linkbook/linkbook/coding/BchParityOctetPinLaw", "build", "(JJI)[B"⟩ : MethodName)) hown (mvT hZ (hw _ (List.mem_of_getElem? (i := 2) rfl))) (mvT hZ (hw _ (List.mem_of_getElem? (i := 3) rfl))) (mvT hZ (hw _ (List.mem_of_getElem? (i := 4) rfl))) (mvT hZ (hw _ (List.mem_of_getElem? (i := 5) rfl))) (by decide) (backOf (W := 0) (rm1_1 l Z a0 hw [] (own_e (own_T p4)) (q2 ^^^ (-1 : Int64)) T357.heap n0 (Nat.le_trans Z0 K357.1) ) hZ (hw _ (List.mem_of_getElem? (i := 5) rfl)) (hw _ (List.mem_of_getElem? (i := 4) rfl)) (by decide) (by decide)) (g := (mkF m 379 #[.val (.long q0), .second, .val (.long q2), .second, .val (.int p4), .val (.int p5), .val (.ref b172), .val (.int (own_T p4)), .val (.int (1 : Int32)), .val (.long (own_e (own_T p4))), .second, .val (.ref b_357), .unset, .unset, .unset, .unset, .unset, .unset] [(.int (1 : Int32)), (.long (q2 ^^^ (-1 : Int64))), (.long (own_e (own_T p4)))])) rfl (by rw [hml]; rfl) (argsL := [(.long (own_e (own_T p4))), (.long (q2 ^^^ (-1 : Int64))), (.int (1 : Int32))]) (rest := []) (lenOf own_pd0 rfl) rfl (by show 2 * 0 + _ ≤ _; exact Nat.le_of_eq rfl) (hb hby at_379) (fun _ _ => ⟨rfl, rfl, (by decide : 2 + 1 ≤ _), (by decide : 66 + 10 ≤ _)⟩)
    dsimp only [Pt.U, Pt.locs, Pt.cells, Pt.slots] at X358 l358 y358 z358 st358 hQ358
    subst l358 y358 z358
    obtain ⟨b_358, k_358, rfl, N358q, i358_4, i358_5, i358_6⟩ := hQ358
    have N358 := Fr.app N357 N358q
    have Q359 := (V339.keep i357_4 nin0)
    have ne_b172_b_358 : b172 ≠ b_358 := Nat.ne_of_lt (Nat.lt_of_lt_of_le Q359.lt i358_5)
    have ne_b_357_b_358 : b_357 ≠ b_358 := Nat.ne_of_lt (Nat.lt_of_lt_of_le i357_6.lt i358_5)
    have gg_b_358 : n0 ≤ b_358 := Nat.le_trans (Nat.le_trans Z0 K357.1) i358_5
    have sz_b_358 : h0.size ≤ b_358 := Nat.le_trans K357.1 i358_5
    have K358 := K357.trans i358_4 all0
    obtain ⟨_, _, ⟨T360, L360, k360, n360⟩, -, X360, ⟨Lc360, hQ360, l360, y360, z360⟩, st360⟩ := Jvm.LawKit.callS X358 hx (y := (⟨"com/example/linkbook/linkbook/coding/BchParityOctetPinLaw", "build", "(JJI)[B"⟩ : MethodName)) hown (mvT hZ (hw _ (List.mem_of_getElem? (i := 2) rfl))) (mvT hZ (hw _ (List.mem_of_getElem? (i := 3) rfl))) (mvT hZ (hw _ (List.mem_of_getElem? (i := 4) rfl))) (mvT hZ (hw _ (List.mem_of_getElem? (i := 5) rfl))) (by decide) (backOf (W := 0) (rm1_1 l Z a0 hw [] (q0 ^^^ (own_e (own_T p4))) (q2 ^^^ q0) T358.heap n0 (Nat.le_trans Z0 K358.1) ) hZ (hw _ (List.mem_of_getElem? (i := 5) rfl)) (hw _ (List.mem_of_getElem? (i := 4) rfl)) (by decide) (by decide)) (g := (mkF m 393 #[.val (.long q0), .second, .val (.long q2), .second, .val (.int p4), .val (.int p5), .val (.ref b172), .val (.int (own_T p4)), .val (.int (1 : Int32)), .val (.long (own_e (own_T p4))), .second, .val (.ref b_357), .val (.ref b_358), .unset, .unset, .unset, .unset, .unset] [(.int (1 : Int32)), (.long (q2 ^^^ q0)), (.long (q0 ^^^ (own_e (own_T p4))))])) rfl (by rw [hml]; rfl) (argsL := [(.long (q0 ^^^ (own_e (own_T p4)))), (.long (q2 ^^^ q0)), (.int (1 : Int32))]) (rest := []) (lenOf own_pd0 rfl) rfl (by show 2 * 0 + _ ≤ _; exact Nat.le_of_eq rfl) (hb hby at_393) (fun _ _ => ⟨rfl, rfl, (by decide : 3 + 1 ≤ _), (by decide : 76 + 10 ≤ _)⟩)
    dsimp only [Pt.U, Pt.locs, Pt.cells, Pt.slots] at X360 l360 y360 z360 st360 hQ360
    subst l360 y360 z360
    obtain ⟨b_360, k_360, rfl, N360q, i360_4, i360_5, i360_6⟩ := hQ360
    have N360 := Fr.app N358 N360q
    have Q361 := (Q359.keep i358_4 nin0)
    have ne_b172_b_360 : b172 ≠ b_360 := Nat.ne_of_lt (Nat.lt_of_lt_of_le Q361.lt i360_5)
    have Q362 := (i357_6.keep i358_4 nin0)
    have ne_b_357_b_360 : b_357 ≠ b_360 := Nat.ne_of_lt (Nat.lt_of_lt_of_le Q362.lt i360_5)
    have ne_b_358_b_360 : b_358 ≠ b_360 := Nat.ne_of_lt (Nat.lt_of_lt_of_le i358_6.lt i360_5)
    have gg_b_360 : n0 ≤ b_360 := Nat.le_trans (Nat.le_trans Z0 K358.1) i360_5
    have sz_b_360 : h0.size ≤ b_360 := Nat.le_trans K358.1 i360_5
    have K360 := K358.trans i360_4 all0
    have Q363 := (Q362.keep i360_4 nin0)
    obtain ⟨_, _, ⟨T364, L364, k364, n364⟩, -, X364, ⟨Lc364, hQ364, l364, y364, z364⟩, st364⟩ := Jvm.LawKit.callS X360 hx (y := (⟨"com/example/linkbook/linkbook/coding/Bch", "parityOctet", "([BI)I"⟩ : MethodName)) hown (mvT hZ (hw _ (List.mem_of_getElem? (i := 8) rfl))) (mvT hZ (hw _ (List.mem_of_getElem? (i := 9) rfl))) (mvT hZ (hw _ (List.mem_of_getElem? (i := 10) rfl))) (mvT hZ (hw _ (List.mem_of_getElem? (i := 11) rfl))) (by decide) (backOf (W := 0) (rm2_1 l Z a0 hw [] b_357 k_357 (own_by0 q2) (own_by q0 (48 : Int32)) (own_by q0 (40 : Int32)) (own_by q0 (32 : Int32)) (own_by q0 (24 : Int32)) (own_by q0 (16 : Int32)) (own_by q0 (8 : Int32)) (own_by0 q0) (own_by q2 (3 : Int32)) (own_by q2 (11 : Int32)) T360.heap n0 (Nat.le_trans Z0 K360.1) Q363) hZ (hw _ (List.mem_of_getElem? (i := 11) rfl)) (hw _ (List.mem_of_getElem? (i := 10) rfl)) (by decide) (by decide)) (g := (mkF m 402 #[.val (.long q0), .second, .val (.long q2), .second, .val (.int p4), .val (.int p5), .val (.ref b172), .val (.int (own_T p4)), .val (.int (1 : Int32)), .val (.long (own_e (own_T p4))), .second, .val (.ref b_357), .val (.ref b_358), .val (.ref b_360), .unset, .unset, .unset, .unset] [(.int (1 : Int32)), (.ref b_357)])) rfl (by rw [hml]; rfl) (argsL := [(.ref b_357), (.int (1 : Int32))]) (rest := []) (lenOf own_pd1 rfl) rfl (by show 2 * 0 + _ ≤ _; exact Nat.le_of_eq rfl) (hb hby at_402) (fun _ _ => ⟨rfl, rfl, (by decide : 4 + 0 ≤ _), (by decide : 86 + 0 ≤ _)⟩)
    dsimp only [Pt.U, Pt.locs, Pt.cells, Pt.slots] at X364 l364 y364 z364 st364 hQ364
    subst l364 y364 z364
    obtain ⟨rfl, N364q, e364⟩ := hQ364
    have N364 := Fr.app N360 N364q
    have Q365 := (i358_6.keep i360_4 nin0)
    obtain ⟨_, _, ⟨T366, L366, k366, n366⟩, -, X366, ⟨Lc366, hQ366, l366, y366, z366⟩, st366⟩ := Jvm.LawKit.callS X364 hx (y := (⟨"com/example/linkbook/linkbook/coding/Bch", "parityOctet", "([BI)I"⟩ : MethodName)) hown (mvT hZ (hw _ (List.mem_of_getElem? (i := 8) rfl))) (mvT hZ (hw _ (List.mem_of_getElem? (i := 9) rfl))) (mvT hZ (hw _ (List.mem_of_getElem? (i := 10) rfl))) (mvT hZ (hw _ (List.mem_of_getElem? (i := 11) rfl))) (by decide) (backOf (W := 0) (rm2_1 l Z a0 hw [] b_358 k_358 (own_by0 (q2 ^^^ (-1 : Int64))) (own_by (own_e (own_T p4)) (48 : Int32)) (own_by (own_e (own_T p4)) (40 : Int32)) (own_by (own_e (own_T p4)) (32 : Int32)) (own_by (own_e (own_T p4)) (24 : Int32)) (own_by (own_e (own_T p4)) (16 : Int32)) (own_by (own_e (own_T p4)) (8 : Int32)) (own_by0 (own_e (own_T p4))) (own_by (q2 ^^^ (-1 : Int64)) (3 : Int32)) (own_by (q2 ^^^ (-1 : Int64)) (11 : Int32)) T360.heap n0 (Nat.le_trans Z0 K360.1) Q365) hZ (hw _ (List.mem_of_getElem? (i := 11) rfl)) (hw _ (List.mem_of_getElem? (i := 10) rfl)) (by decide) (by decide)) (g := (mkF m 411 #[.val (.long q0), .second, .val (.long q2), .second, .val (.int p4), .val (.int p5), .val (.ref b172), .val (.int (own_T p4)), .val (.int (1 : Int32)), .val (.long (own_e (own_T p4))), .second, .val (.ref b_357), .val (.ref b_358), .val (.ref b_360), .val (.int (own_parL q0)), .unset, .unset, .unset] [(.int (1 : Int32)), (.ref b_358)])) rfl (by rw [hml]; rfl) (argsL := [(.ref b_358), (.int (1 : Int32))]) (rest := []) (lenOf own_pd1 rfl) rfl (by show 2 * 0 + _ ≤ _; exact Nat.le_of_eq rfl) (hb hby at_411) (fun _ _ => ⟨rfl, e364, (by decide : 4 + 0 ≤ _), (by decide : 86 + 0 ≤ _)⟩)
    dsimp only [Pt.U, Pt.locs, Pt.cells, Pt.slots] at X366 l366 y366 z366 st366 hQ366
    subst l366 y366 z366
    obtain ⟨rfl, N366q, e366⟩ := hQ366
    have N366 := Fr.app N364 N366q
    obtain ⟨_, _, ⟨T367, L367, k367, n367⟩, -, X367, ⟨Lc367, hQ367, l367, y367, z367⟩, st367⟩ := Jvm.LawKit.callS X366 hx (y := (⟨"com/example/linkbook/linkbook/coding/Bch", "parityOctet", "([BI)I"⟩ : MethodName)) hown (mvT hZ (hw _ (List.mem_of_getElem? (i := 8) rfl))) (mvT hZ (hw _ (List.mem_of_getElem? (i := 9) rfl))) (mvT hZ (hw _ (List.mem_of_getElem? (i := 10) rfl))) (mvT hZ (hw _ (List.mem_of_getElem? (i := 11) rfl))) (by decide) (backOf (W := 0) (rm2_1 l Z a0 hw [] b_360 k_360 (own_by0 (q2 ^^^ q0)) (own_by (q0 ^^^ (own_e (own_T p4))) (48 : Int32)) (own_by (q0 ^^^ (own_e (own_T p4))) (40 : Int32)) (own_by (q0 ^^^ (own_e (own_T p4))) (32 : Int32)) (own_by (q0 ^^^ (own_e (own_T p4))) (24 : Int32)) (own_by (q0 ^^^ (own_e (own_T p4))) (16 : Int32)) (own_by (q0 ^^^ (own_e (own_T p4))) (8 : Int32)) (own_by0 (q0 ^^^ (own_e (own_T p4)))) (own_by (q2 ^^^ q0) (3 : Int32)) (own_by (q2 ^^^ q0) (11 : Int32)) T360.heap n0 (Nat.le_trans Z0 K360.1) i360_6) hZ (hw _ (List.mem_of_getElem? (i := 11) rfl)) (hw _ (List.mem_of_getElem? (i := 10) rfl)) (by decide) (by decide)) (g := (mkF m 420 #[.val (.long q0), .second, .val (.long q2), .second, .val (.int p4), .val (.int p5), .val (.ref b172), .val (.int (own_T p4)), .val (.int (1 : Int32)), .val (.long (own_e (own_T p4))), .second, .val (.ref b_357), .val (.ref b_358), .val (.ref b_360), .val (.int (own_parL q0)), .val (.int (own_parL (own_e (own_T p4)))), .unset, .unset] [(.int (1 : Int32)), (.ref b_360)])) rfl (by rw [hml]; rfl) (argsL := [(.ref b_360), (.int (1 : Int32))]) (rest := []) (lenOf own_pd1 rfl) rfl (by show 2 * 0 + _ ≤ _; exact Nat.le_of_eq rfl) (hb hby at_420) (fun _ _ => ⟨rfl, e366, (by decide : 4 + 0 ≤ _), (by decide : 86 + 0 ≤ _)⟩)
    dsimp only [Pt.U, Pt.locs, Pt.cells, Pt.slots] at X367 l367 y367 z367 st367 hQ367
    subst l367 y367 z367
    obtain ⟨rfl, N367q, e367⟩ := hQ367
    have N367 := Fr.app N366 N367q
    have Q369 := (Q361.keep i360_4 nin0)
    obtain ⟨cl368, Ar368, q368, S368, M368, H368, G368⟩ := id Q369
    have hin368 : ¬ ((own_T p4) < 0 ∨ cl368.slots.size ≤ ((own_T p4)).toNatClampNeg) := inb_of S368 (own_t p4)
    have hat368 : cl368.slots[((own_T p4)).toNatClampNeg]? = some (.int (own_tabI.getD ((own_T p4)).toNatClampNeg 0)) := Has.at H368 hin368 (own_getT _)
    have hc443_370 : (own_parL (own_e (own_T p4))) = ((((own_tabI.getD ((own_T p4)).toNatClampNeg 0) ^^^ (-1 : Int32)) &&& (127 : Int32)) <<< ((1 : Int32) &&& 31)) := own_tabT _ (own_t p4)
    have hc457_371 : (own_parL (q0 ^^^ (own_e (own_T p4)))) = (((own_parL q0) ^^^ (own_parL (own_e (own_T p4)))) ^^^ (254 : Int32)) := own_parL_xor _ _
    obtain ⟨fs, hr, hrun, hended, hW, hsame⟩ := X367.leave (v := some (.int (1 : Int32))) (fun h => by rw [Bd.returns] at h; cases h)
    refine ⟨_, _, pre341 _ ?_, hrun, hended, _, _, rfl, ?_, ⟨_, rfl⟩, hW, hsame.mono (by decide) (by decide)⟩
    · show Steps p.tables e below (T339.setTop (mkF m 352 #[.val (.long q0), .second, .val (.long q2), .second, .val (.int p4), .val (.int p5), .val (.ref b172), .val (.int (own_T p4)), .val (.int (p5 &&& (3 : Int32))), .unset, .unset, .unset, .unset, .unset, .unset, .unset, .unset, .unset] [])) _
      rw [hk]
      show Steps p.tables e below (T339.setTop (mkF m 352 #[.val (.long q0), .second, .val (.long q2), .second, .val (.int p4), .val (.int p5), .val (.ref b172), .val (.int (own_T p4)), .val (.int (1 : Int32)), .unset, .unset, .unset, .unset, .unset, .unset, .unset, .unset, .unset] [])) _
      refine XS.lconst XX339.here hx rfl (hb hby at_352) ?_
      show Steps p.tables e below (T339.setTop (mkF m 353 #[.val (.long q0), .second, .val (.long q2), .second, .val (.int p4), .val (.int p5), .val (.ref b172), .val (.int (own_T p4)), .val (.int (1 : Int32)), .unset, .unset, .unset, .unset, .unset, .unset, .unset, .unset, .unset] [(.long (1 : Int64))])) _
      refine XS.bipush XX339.here hx rfl (hb hby at_353) ?_
      show Steps p.tables e below (T339.setTop (mkF m 355 #[.val (.long q0), .second, .val (.long q2), .second, .val (.int p4), .val (.int p5), .val (.ref b172), .val (.int (own_T p4)), .val (.int (1 : Int32)), .unset, .unset, .unset, .unset, .unset, .unset, .unset, .unset, .unset] [(.int (55 : Int32)), (.long (1 : Int64))])) _
      refine XS.iload XX339.here hx rfl (hb hby at_355) rfl ?_
      show Steps p.tables e below (T339.setTop (mkF m 357 #[.val (.long q0), .second, .val (.long q2), .second, .val (.int p4), .val (.int p5), .val (.ref b172), .val (.int (own_T p4)), .val (.int (1 : Int32)), .unset, .unset, .unset, .unset, .unset, .unset, .unset, .unset, .unset] [(.int (own_T p4)), (.int (55 : Int32)), (.long (1 : Int64))])) _
      refine XS.isub XX339.here hx rfl (hb hby at_357) rfl ?_
      show Steps p.tables e below (T339.setTop (mkF m 358 #[.val (.long q0), .second, .val (.long q2), .second, .val (.int p4), .val (.int p5), .val (.ref b172), .val (.int (own_T p4)), .val (.int (1 : Int32)), .unset, .unset, .unset, .unset, .unset, .unset, .unset, .unset, .unset] [(.int ((55 : Int32) - (own_T p4))), (.long (1 : Int64))])) _
      refine XS.lshl XX339.here hx rfl (hb hby at_358) rfl ?_
      show Steps p.tables e below (T339.setTop (mkF m 359 #[.val (.long q0), .second, .val (.long q2), .second, .val (.int p4), .val (.int p5), .val (.ref b172), .val (.int (own_T p4)), .val (.int (1 : Int32)), .unset, .unset, .unset, .unset, .unset, .unset, .unset, .unset, .unset] [(.long ((1 : Int64) <<< (((55 : Int32) - (own_T p4)) &&& 0x3f).toInt64))])) _
      refine XS.lstore XX339.here hx rfl (hb hby at_359) rfl (l' := #[.val (.long q0), .second, .val (.long q2), .second, .val (.int p4), .val (.int p5), .val (.ref b172), .val (.int (own_T p4)), .val (.int (1 : Int32)), .val (.long ((1 : Int64) <<< (((55 : Int32) - (own_T p4)) &&& 0x3f).toInt64)), .second, .unset, .unset, .unset, .unset, .unset, .unset, .unset]) rfl ?_
      show Steps p.tables e below (T339.setTop (mkF m 361 #[.val (.long q0), .second, .val (.long q2), .second, .val (.int p4), .val (.int p5), .val (.ref b172), .val (.int (own_T p4)), .val (.int (1 : Int32)), .val (.long (own_e (own_T p4))), .second, .unset, .unset, .unset, .unset, .unset, .unset, .unset] [])) _
      refine XS.lloadN XX339.here hx rfl (hb hby at_361) rfl ?_
      show Steps p.tables e below (T339.setTop (mkF m 362 #[.val (.long q0), .second, .val (.long q2), .second, .val (.int p4), .val (.int p5), .val (.ref b172), .val (.int (own_T p4)), .val (.int (1 : Int32)), .val (.long (own_e (own_T p4))), .second, .unset, .unset, .unset, .unset, .unset, .unset, .unset] [(.long q0)])) _
      refine XS.lloadN XX339.here hx rfl (hb hby at_362) rfl ?_
      show Steps p.tables e below (T339.setTop (mkF m 363 #[.val (.long q0), .second, .val (.long q2), .second, .val (.int p4), .val (.int p5), .val (.ref b172), .val (.int (own_T p4)), .val (.int (1 : Int32)), .val (.long (own_e (own_T p4))), .second, .unset, .unset, .unset, .unset, .unset, .unset, .unset] [(.long q2), (.long q0)])) _
      refine XS.iload XX339.here hx rfl (hb hby at_363) rfl ?_
      show Steps p.tables e below (T339.setTop (mkF m 365 #[.val (.long q0), .second, .val (.long q2), .second, .val (.int p4), .val (.int p5), .val (.ref b172), .val (.int (own_T p4)), .val (.int (1 : Int32)), .val (.long (own_e (own_T p4))), .second, .unset, .unset, .unset, .unset, .unset, .unset, .unset] [(.int (1 : Int32)), (.long q2), (.long q0)])) _
      refine st357 _ ?_
      show Steps p.tables e below (T357.setTop (mkF m 368 #[.val (.long q0), .second, .val (.long q2), .second, .val (.int p4), .val (.int p5), .val (.ref b172), .val (.int (own_T p4)), .val (.int (1 : Int32)), .val (.long (own_e (own_T p4))), .second, .unset, .unset, .unset, .unset, .unset, .unset, .unset] [(.ref b_357)])) _
      refine XS.astore X357.here hx rfl (hb hby at_368) rfl rfl (l' := #[.val (.long q0), .second, .val (.long q2), .second, .val (.int p4), .val (.int p5), .val (.ref b172), .val (.int (own_T p4)), .val (.int (1 : Int32)), .val (.long (own_e (own_T p4))), .second, .val (.ref b_357), .unset, .unset, .unset, .unset, .unset, .unset]) rfl ?_
      show Steps p.tables e below (T357.setTop (mkF m 370 #[.val (.long q0), .second, .val (.long q2), .second, .val (.int p4), .val (.int p5), .val (.ref b172), .val (.int (own_T p4)), .val (.int (1 : Int32)), .val (.long (own_e (own_T p4))), .second, .val (.ref b_357), .unset, .unset, .unset, .unset, .unset, .unset] [])) _
      refine XS.lload X357.here hx rfl (hb hby at_370) rfl ?_
      show Steps p.tables e below (T357.setTop (mkF m 372 #[.val (.long q0), .second, .val (.long q2), .second, .val (.int p4), .val (.int p5), .val (.ref b172), .val (.int (own_T p4)), .val (.int (1 : Int32)), .val (.long (own_e (own_T p4))), .second, .val (.ref b_357), .unset, .unset, .unset, .unset, .unset, .unset] [(.long (own_e (own_T p4)))])) _
      refine XS.lloadN X357.here hx rfl (hb hby at_372) rfl ?_
      show Steps p.tables e below (T357.setTop (mkF m 373 #[.val (.long q0), .second, .val (.long q2), .second, .val (.int p4), .val (.int p5), .val (.ref b172), .val (.int (own_T p4)), .val (.int (1 : Int32)), .val (.long (own_e (own_T p4))), .second, .val (.ref b_357), .unset, .unset, .unset, .unset, .unset, .unset] [(.long q2), (.long (own_e (own_T p4)))])) _
      refine X357.ldc2Long hx hown (mvT hZ (hw _ (List.mem_of_getElem? (i := 7) rfl))) (g := (mkF m 373 #[.val (.long q0), .second, .val (.long q2), .second, .val (.int p4), .val (.int p5), .val (.ref b172), .val (.int (own_T p4)), .val (.int (1 : Int32)), .val (.long (own_e (own_T p4))), .second, .val (.ref b_357), .unset, .unset, .unset, .unset, .unset, .unset] [(.long q2), (.long (own_e (own_T p4)))])) rfl (hb hby at_373) _ ?_
      show Steps p.tables e below (T357.setTop (mkF m 376 #[.val (.long q0), .second, .val (.long q2), .second, .val (.int p4), .val (.int p5), .val (.ref b172), .val (.int (own_T p4)), .val (.int (1 : Int32)), .val (.long (own_e (own_T p4))), .second, .val (.ref b_357), .unset, .unset, .unset, .unset, .unset, .unset] [(.long (-1 : Int64)), (.long q2), (.long (own_e (own_T p4)))])) _
      refine XS.lxor X357.here hx rfl (hb hby at_376) rfl ?_
      show Steps p.tables e below (T357.setTop (mkF m 377 #[.val (.long q0), .second, .val (.long q2), .second, .val (.int p4), .val (.int p5), .val (.ref b172), .val (.int (own_T p4)), .val (.int (1 : Int32)), .val (.long (own_e (own_T p4))), .second, .val (.ref b_357), .unset, .unset, .unset, .unset, .unset, .unset] [(.long (q2 ^^^ (-1 : Int64))), (.long (own_e (own_T p4)))])) _
      refine XS.iload X357.here hx rfl (hb hby at_377) rfl ?_
      show Steps p.tables e below (T357.setTop (mkF m 379 #[.val (.long q0), .second, .val (.long q2), .second, .val (.int p4), .val (.int p5), .val (.ref b172), .val (.int (own_T p4)), .val (.int (1 : Int32)), .val (.long (own_e (own_T p4))), .second, .val (.ref b_357), .unset, .unset, .unset, .unset, .unset, .unset] [(.int (1 : Int32)), (.long (q2 ^^^ (-1 : Int64))), (.long (own_e (own_T p4)))])) _
      refine st358 _ ?_
      show Steps p.tables e below (T358.setTop (mkF m 382 #[.val (.long q0), .second, .val (.long q2), .second, .val (.int p4), .val (.int p5), .val (.ref b172), .val (.int (own_T p4)), .val (.int (1 : Int32)), .val (.long (own_e (own_T p4))), .second, .val (.ref b_357), .unset, .unset, .unset, .unset, .unset, .unset] [(.ref b_358)])) _
      refine XS.astore X358.here hx rfl (hb hby at_382) rfl rfl (l' := #[.val (.long q0), .second, .val (.long q2), .second, .val (.int p4), .val (.int p5), .val (.ref b172), .val (.int (own_T p4)), .val (.int (1 : Int32)), .val (.long (own_e (own_T p4))), .second, .val (.ref b_357), .val (.ref b_358), .unset, .unset, .unset, .unset, .unset]) rfl ?_
      show Steps p.tables e below (T358.setTop (mkF m 384 #[.val (.long q0), .second, .val (.long q2), .second, .val (.int p4), .val (.int p5), .val (.ref b172), .val (.int (own_T p4)), .val (.int (1 : Int32)), .val (.long (own_e (own_T p4))), .second, .val (.ref b_357), .val (.ref b_358), .unset, .unset, .unset, .unset, .unset] [])) _
      refine XS.lloadN X358.here hx rfl (hb hby at_384) rfl ?_
      show Steps p.tables e below (T358.setTop (mkF m 385 #[.val (.long q0), .second, .val (.long q2), .second, .val (.int p4), .val (.int p5), .val (.ref b172), .val (.int (own_T p4)), .val (.int (1 : Int32)), .val (.long (own_e (own_T p4))), .second, .val (.ref b_357), .val (.ref b_358), .unset, .unset, .unset, .unset, .unset] [(.long q0)])) _
      refine XS.lload X358.here hx rfl (hb hby at_385) rfl ?_
      show Steps p.tables e below (T358.setTop (mkF m 387 #[.val (.long q0), .second, .val (.long q2), .second, .val (.int p4), .val (.int p5), .val (.ref b172), .val (.int (own_T p4)), .val (.int (1 : Int32)), .val (.long (own_e (own_T p4))), .second, .val (.ref b_357), .val (.ref b_358), .unset, .unset, .unset, .unset, .unset] [(.long (own_e (own_T p4))), (.long q0)])) _
      refine XS.lxor X358.here hx rfl (hb hby at_387) rfl ?_
      show Steps p.tables e below (T358.setTop (mkF m 388 #[.val (.long q0), .second, .val (.long q2), .second, .val (.int p4), .val (.int p5), .val (.ref b172), .val (.int (own_T p4)), .val (.int (1 : Int32)), .val (.long (own_e (own_T p4))), .second, .val (.ref b_357), .val (.ref b_358), .unset, .unset, .unset, .unset, .unset] [(.long (q0 ^^^ (own_e (own_T p4))))])) _
      refine XS.lloadN X358.here hx rfl (hb hby at_388) rfl ?_
      show Steps p.tables e below (T358.setTop (mkF m 389 #[.val (.long q0), .second, .val (.long q2), .second, .val (.int p4), .val (.int p5), .val (.ref b172), .val (.int (own_T p4)), .val (.int (1 : Int32)), .val (.long (own_e (own_T p4))), .second, .val (.ref b_357), .val (.ref b_358), .unset, .unset, .unset, .unset, .unset] [(.long q2), (.long (q0 ^^^ (own_e (own_T p4))))])) _
      refine XS.lloadN X358.here hx rfl (hb hby at_389) rfl ?_
      show Steps p.tables e below (T358.setTop (mkF m 390 #[.val (.long q0), .second, .val (.long q2), .second, .val (.int p4), .val (.int p5), .val (.ref b172), .val (.int (own_T p4)), .val (.int (1 : Int32)), .val (.long (own_e (own_T p4))), .second, .val (.ref b_357), .val (.ref b_358), .unset, .unset, .unset, .unset, .unset] [(.long q0), (.long q2), (.long (q0 ^^^ (own_e (own_T p4))))])) _
      refine XS.lxor X358.here hx rfl (hb hby at_390) rfl ?_
      show Steps p.tables e below (T358.setTop (mkF m 391 #[.val (.long q0), .second, .val (.long q2), .second, .val (.int p4), .val (.int p5), .val (.ref b172), .val (.int (own_T p4)), .val (.int (1 : Int32)), .val (.long (own_e (own_T p4))), .second, .val (.ref b_357), .val (.ref b_358), .unset, .unset, .unset, .unset, .unset] [(.long (q2 ^^^ q0)), (.long (q0 ^^^ (own_e (own_T p4))))])) _
      refine XS.iload X358.here hx rfl (hb hby at_391) rfl ?_
      show Steps p.tables e below (T358.setTop (mkF m 393 #[.val (.long q0), .second, .val (.long q2), .second, .val (.int p4), .val (.int p5), .val (.ref b172), .val (.int (own_T p4)), .val (.int (1 : Int32)), .val (.long (own_e (own_T p4))), .second, .val (.ref b_357), .val (.ref b_358), .unset, .unset, .unset, .unset, .unset] [(.int (1 : Int32)), (.long (q2 ^^^ q0)), (.long (q0 ^^^ (own_e (own_T p4))))])) _
      refine st360 _ ?_
      show Steps p.tables e below (T360.setTop (mkF m 396 #[.val (.long q0), .second, .val (.long q2), .second, .val (.int p4), .val (.int p5), .val (.ref b172), .val (.int (own_T p4)), .val (.int (1 : Int32)), .val (.long (own_e (own_T p4))), .second, .val (.ref b_357), .val (.ref b_358), .unset, .unset, .unset, .unset, .unset] [(.ref b_360)])) _
      refine XS.astore X360.here hx rfl (hb hby at_396) rfl rfl (l' := #[.val (.long q0), .second, .val (.long q2), .second, .val (.int p4), .val (.int p5), .val (.ref b172), .val (.int (own_T p4)), .val (.int (1 : Int32)), .val (.long (own_e (own_T p4))), .second, .val (.ref b_357), .val (.ref b_358), .val (.ref b_360), .unset, .unset, .unset, .unset]) rfl ?_
      show Steps p.tables e below (T360.setTop (mkF m 398 #[.val (.long q0), .second, .val (.long q2), .second, .val (.int p4), .val (.int p5), .val (.ref b172), .val (.int (own_T p4)), .val (.int (1 : Int32)), .val (.long (own_e (own_T p4))), .second, .val (.ref b_357), .val (.ref b_358), .val (.ref b_360), .unset, .unset, .unset, .unset] [])) _
      refine XS.aload X360.here hx rfl (hb hby at_398) rfl rfl ?_
      show Steps p.tables e below (T360.setTop (mkF m 400 #[.val (.long q0), .second, .val (.long q2), .second, .val (.int p4), .val (.int p5), .val (.ref b172), .val (.int (own_T p4)), .val (.int (1 : Int32)), .val (.long (own_e (own_T p4))), .second, .val (.ref b_357), .val (.ref b_358), .val (.ref b_360), .unset, .unset, .unset, .unset] [(.ref b_357)])) _
      refine XS.iload X360.here hx rfl (hb hby at_400) rfl ?_
      show Steps p.tables e below (T360.setTop (mkF m 402 #[.val (.long q0), .second, .val (.long q2), .second, .val (.int p4), .val (.int p5), .val (.ref b172), .val (.int (own_T p4)), .val (.int (1 : Int32)), .val (.long (own_e (own_T p4))), .second, .val (.ref b_357), .val (.ref b_358), .val (.ref b_360), .unset, .unset, .unset, .unset] [(.int (1 : Int32)), (.ref b_357)])) _
      refine st364 _ ?_
      show Steps p.tables e below (T364.setTop (mkF m 405 #[.val (.long q0), .second, .val (.long q2), .second, .val (.int p4), .val (.int p5), .val (.ref b172), .val (.int (own_T p4)), .val (.int (1 : Int32)), .val (.long (own_e (own_T p4))), .second, .val (.ref b_357), .val (.ref b_358), .val (.ref b_360), .unset, .unset, .unset, .unset] [(.int (own_parL q0))])) _
      refine XS.istore X364.here hx rfl (hb hby at_405) rfl (l' := #[.val (.long q0), .second, .val (.long q2), .second, .val (.int p4), .val (.int p5), .val (.ref b172), .val (.int (own_T p4)), .val (.int (1 : Int32)), .val (.long (own_e (own_T p4))), .second, .val (.ref b_357), .val (.ref b_358), .val (.ref b_360), .val (.int (own_parL q0)), .unset, .unset, .unset]) rfl ?_
      show Steps p.tables e below (T364.setTop (mkF m 407 #[.val (.long q0), .second, .val (.long q2), .second, .val (.int p4), .val (.int p5), .val (.ref b172), .val (.int (own_T p4)), .val (.int (1 : Int32)), .val (.long (own_e (own_T p4))), .second, .val (.ref b_357), .val (.ref b_358), .val (.ref b_360), .val (.int (own_parL q0)), .unset, .unset, .unset] [])) _
      refine XS.aload X364.here hx rfl (hb hby at_407) rfl rfl ?_
      show Steps p.tables e below (T364.setTop (mkF m 409 #[.val (.long q0), .second, .val (.long q2), .second, .val (.int p4), .val (.int p5), .val (.ref b172), .val (.int (own_T p4)), .val (.int (1 : Int32)), .val (.long (own_e (own_T p4))), .second, .val (.ref b_357), .val (.ref b_358), .val (.ref b_360), .val (.int (own_parL q0)), .unset, .unset, .unset] [(.ref b_358)])) _
      refine XS.iload X364.here hx rfl (hb hby at_409) rfl ?_
      show Steps p.tables e below (T364.setTop (mkF m 411 #[.val (.long q0), .second, .val (.long q2), .second, .val (.int p4), .val (.int p5), .val (.ref b172), .val (.int (own_T p4)), .val (.int (1 : Int32)), .val (.long (own_e (own_T p4))), .second, .val (.ref b_357), .val (.ref b_358), .val (.ref b_360), .val (.int (own_parL q0)), .unset, .unset, .unset] [(.int (1 : Int32)), (.ref b_358)])) _
      refine st366 _ ?_
      show Steps p.tables e below (T366.setTop (mkF m 414 #[.val (.long q0), .second, .val (.long q2), .second, .val (.int p4), .val (.int p5), .val (.ref b172), .val (.int (own_T p4)), .val (.int (1 : Int32)), .val (.long (own_e (own_T p4))), .second, .val (.ref b_357), .val (.ref b_358), .val (.ref b_360), .val (.int (own_parL q0)), .unset, .unset, .unset] [(.int (own_parL (own_e (own_T p4))))])) _
      refine XS.istore X366.here hx rfl (hb hby at_414) rfl (l' := #[.val (.long q0), .second, .val (.long q2), .second, .val (.int p4), .val (.int p5), .val (.ref b172), .val (.int (own_T p4)), .val (.int (1 : Int32)), .val (.long (own_e (own_T p4))), .second, .val (.ref b_357), .val (.ref b_358), .val (.ref b_360), .val (.int (own_parL q0)), .val (.int (own_parL (own_e (own_T p4)))), .unset, .unset]) rfl ?_
      show Steps p.tables e below (T366.setTop (mkF m 416 #[.val (.long q0), .second, .val (.long q2), .second, .val (.int p4), .val (.int p5), .val (.ref b172), .val (.int (own_T p4)), .val (.int (1 : Int32)), .val (.long (own_e (own_T p4))), .second, .val (.ref b_357), .val (.ref b_358), .val (.ref b_360), .val (.int (own_parL q0)), .val (.int (own_parL (own_e (own_T p4)))), .unset, .unset] [])) _
      refine XS.aload X366.here hx rfl (hb hby at_416) rfl rfl ?_
      show Steps p.tables e below (T366.setTop (mkF m 418 #[.val (.long q0), .second, .val (.long q2), .second, .val (.int p4), .val (.int p5), .val (.ref b172), .val (.int (own_T p4)), .val (.int (1 : Int32)), .val (.long (own_e (own_T p4))), .second, .val (.ref b_357), .val (.ref b_358), .val (.ref b_360), .val (.int (own_parL q0)), .val (.int (own_parL (own_e (own_T p4)))), .unset, .unset] [(.ref b_360)])) _
      refine XS.iload X366.here hx rfl (hb hby at_418) rfl ?_
      show Steps p.tables e below (T366.setTop (mkF m 420 #[.val (.long q0), .second, .val (.long q2), .second, .val (.int p4), .val (.int p5), .val (.ref b172), .val (.int (own_T p4)), .val (.int (1 : Int32)), .val (.long (own_e (own_T p4))), .second, .val (.ref b_357), .val (.ref b_358), .val (.ref b_360), .val (.int (own_parL q0)), .val (.int (own_parL (own_e (own_T p4)))), .unset, .unset] [(.int (1 : Int32)), (.ref b_360)])) _
      refine st367 _ ?_
      show Steps p.tables e below (T367.setTop (mkF m 423 #[.val (.long q0), .second, .val (.long q2), .second, .val (.int p4), .val (.int p5), .val (.ref b172), .val (.int (own_T p4)), .val (.int (1 : Int32)), .val (.long (own_e (own_T p4))), .second, .val (.ref b_357), .val (.ref b_358), .val (.ref b_360), .val (.int (own_parL q0)), .val (.int (own_parL (own_e (own_T p4)))), .unset, .unset] [(.int (own_parL (q0 ^^^ (own_e (own_T p4)))))])) _
      refine XS.istore X367.here hx rfl (hb hby at_423) rfl (l' := #[.val (.long q0), .second, .val (.long q2), .second, .val (.int p4), .val (.int p5), .val (.ref b172), .val (.int (own_T p4)), .val (.int (1 : Int32)), .val (.long (own_e (own_T p4))), .second, .val (.ref b_357), .val (.ref b_358), .val (.ref b_360), .val (.int (own_parL q0)), .val (.int (own_parL (own_e (own_T p4)))), .val (.int (own_parL (q0 ^^^ (own_e (own_T p4))))), .unset]) rfl ?_
      show Steps p.tables e below (T367.setTop (mkF m 425 #[.val (.long q0), .second, .val (.long q2), .second, .val (.int p4), .val (.int p5), .val (.ref b172), .val (.int (own_T p4)), .val (.int (1 : Int32)), .val (.long (own_e (own_T p4))), .second, .val (.ref b_357), .val (.ref b_358), .val (.ref b_360), .val (.int (own_parL q0)), .val (.int (own_parL (own_e (own_T p4)))), .val (.int (own_parL (q0 ^^^ (own_e (own_T p4))))), .unset] [])) _
      refine XS.aload X367.here hx rfl (hb hby at_425) rfl rfl ?_
      show Steps p.tables e below (T367.setTop (mkF m 427 #[.val (.long q0), .second, .val (.long q2), .second, .val (.int p4), .val (.int p5), .val (.ref b172), .val (.int (own_T p4)), .val (.int (1 : Int32)), .val (.long (own_e (own_T p4))), .second, .val (.ref b_357), .val (.ref b_358), .val (.ref b_360), .val (.int (own_parL q0)), .val (.int (own_parL (own_e (own_T p4)))), .val (.int (own_parL (q0 ^^^ (own_e (own_T p4))))), .unset] [(.ref b172)])) _
      refine XS.iload X367.here hx rfl (hb hby at_427) rfl ?_
      show Steps p.tables e below (T367.setTop (mkF m 429 #[.val (.long q0), .second, .val (.long q2), .second, .val (.int p4), .val (.int p5), .val (.ref b172), .val (.int (own_T p4)), .val (.int (1 : Int32)), .val (.long (own_e (own_T p4))), .second, .val (.ref b_357), .val (.ref b_358), .val (.ref b_360), .val (.int (own_parL q0)), .val (.int (own_parL (own_e (own_T p4)))), .val (.int (own_parL (q0 ^^^ (own_e (own_T p4))))), .unset] [(.int (own_T p4)), (.ref b172)])) _
      refine X367.iaload hx (j := (own_T p4)) (v := (.int (own_tabI.getD ((own_T p4)).toNatClampNeg 0))) (by rw [e367]; exact Ar368.1) (State.isArrayOf_alike hZ.alike Ar368.2.1) Ar368.2.2 hin368 hat368 (g := (mkF m 429 #[.val (.long q0), .second, .val (.long q2), .second, .val (.int p4), .val (.int p5), .val (.ref b172), .val (.int (own_T p4)), .val (.int (1 : Int32)), .val (.long (own_e (own_T p4))), .second, .val (.ref b_357), .val (.ref b_358), .val (.ref b_360), .val (.int (own_parL q0)), .val (.int (own_parL (own_e (own_T p4)))), .val (.int (own_parL (q0 ^^^ (own_e (own_T p4))))), .unset] [(.int (own_T p4)), (.ref b172)])) rfl rfl (hb hby at_429) _ ?_
      show Steps p.tables e below (T367.setTop (mkF m 430 #[.val (.long q0), .second, .val (.long q2), .second, .val (.int p4), .val (.int p5), .val (.ref b172), .val (.int (own_T p4)), .val (.int (1 : Int32)), .val (.long (own_e (own_T p4))), .second, .val (.ref b_357), .val (.ref b_358), .val (.ref b_360), .val (.int (own_parL q0)), .val (.int (own_parL (own_e (own_T p4)))), .val (.int (own_parL (q0 ^^^ (own_e (own_T p4))))), .unset] [(.int (own_tabI.getD ((own_T p4)).toNatClampNeg 0))])) _
      refine XS.iconst X367.here hx rfl (hb hby at_430) ?_
      show Steps p.tables e below (T367.setTop (mkF m 431 #[.val (.long q0), .second, .val (.long q2), .second, .val (.int p4), .val (.int p5), .val (.ref b172), .val (.int (own_T p4)), .val (.int (1 : Int32)), .val (.long (own_e (own_T p4))), .second, .val (.ref b_357), .val (.ref b_358), .val (.ref b_360), .val (.int (own_parL q0)), .val (.int (own_parL (own_e (own_T p4)))), .val (.int (own_parL (q0 ^^^ (own_e (own_T p4))))), .unset] [(.int (-1 : Int32)), (.int (own_tabI.getD ((own_T p4)).toNatClampNeg 0))])) _
      refine XS.ixor X367.here hx rfl (hb hby at_431) rfl ?_
      show Steps p.tables e below (T367.setTop (mkF m 432 #[.val (.long q0), .second, .val (.long q2), .second, .val (.int p4), .val (.int p5), .val (.ref b172), .val (.int (own_T p4)), .val (.int (1 : Int32)), .val (.long (own_e (own_T p4))), .second, .val (.ref b_357), .val (.ref b_358), .val (.ref b_360), .val (.int (own_parL q0)), .val (.int (own_parL (own_e (own_T p4)))), .val (.int (own_parL (q0 ^^^ (own_e (own_T p4))))), .unset] [(.int ((own_tabI.getD ((own_T p4)).toNatClampNeg 0) ^^^ (-1 : Int32)))])) _
      refine XS.bipush X367.here hx rfl (hb hby at_432) ?_
      show Steps p.tables e below (T367.setTop (mkF m 434 #[.val (.long q0), .second, .val (.long q2), .second, .val (.int p4), .val (.int p5), .val (.ref b172), .val (.int (own_T p4)), .val (.int (1 : Int32)), .val (.long (own_e (own_T p4))), .second, .val (.ref b_357), .val (.ref b_358), .val (.ref b_360), .val (.int (own_parL q0)), .val (.int (own_parL (own_e (own_T p4)))), .val (.int (own_parL (q0 ^^^ (own_e (own_T p4))))), .unset] [(.int (127 : Int32)), (.int ((own_tabI.getD ((own_T p4)).toNatClampNeg 0) ^^^ (-1 : Int32)))])) _
      refine XS.iand X367.here hx rfl (hb hby at_434) rfl ?_
      show Steps p.tables e below (T367.setTop (mkF m 435 #[.val (.long q0), .second, .val (.long q2), .second, .val (.int p4), .val (.int p5), .val (.ref b172), .val (.int (own_T p4)), .val (.int (1 : Int32)), .val (.long (own_e (own_T p4))), .second, .val (.ref b_357), .val (.ref b_358), .val (.ref b_360), .val (.int (own_parL q0)), .val (.int (own_parL (own_e (own_T p4)))), .val (.int (own_parL (q0 ^^^ (own_e (own_T p4))))), .unset] [(.int (((own_tabI.getD ((own_T p4)).toNatClampNeg 0) ^^^ (-1 : Int32)) &&& (127 : Int32)))])) _
      refine XS.iconst X367.here hx rfl (hb hby at_435) ?_
      show Steps p.tables e below (T367.setTop (mkF m 436 #[.val (.long q0), .second, .val (.long q2), .second, .val (.int p4), .val (.int p5), .val (.ref b172), .val (.int (own_T p4)), .val (.int (1 : Int32)), .val (.long (own_e (own_T p4))), .second, .val (.ref b_357), .val (.ref b_358), .val (.ref b_360), .val (.int (own_parL q0)), .val (.int (own_parL (own_e (own_T p4)))), .val (.int (own_parL (q0 ^^^ (own_e (own_T p4))))), .unset] [(.int (1 : Int32)), (.int (((own_tabI.getD ((own_T p4)).toNatClampNeg 0) ^^^ (-1 : Int32)) &&& (127 : Int32)))])) _
      refine XS.ishl X367.here hx rfl (hb hby at_436) rfl ?_
      show Steps p.tables e below (T367.setTop (mkF m 437 #[.val (.long q0), .second, .val (.long q2), .second, .val (.int p4), .val (.int p5), .val (.ref b172), .val (.int (own_T p4)), .val (.int (1 : Int32)), .val (.long (own_e (own_T p4))), .second, .val (.ref b_357), .val (.ref b_358), .val (.ref b_360), .val (.int (own_parL q0)), .val (.int (own_parL (own_e (own_T p4)))), .val (.int (own_parL (q0 ^^^ (own_e (own_T p4))))), .unset] [(.int ((((own_tabI.getD ((own_T p4)).toNatClampNeg 0) ^^^ (-1 : Int32)) &&& (127 : Int32)) <<< ((1 : Int32) &&& 31)))])) _
      refine XS.istore X367.here hx rfl (hb hby at_437) rfl (l' := #[.val (.long q0), .second, .val (.long q2), .second, .val (.int p4), .val (.int p5), .val (.ref b172), .val (.int (own_T p4)), .val (.int (1 : Int32)), .val (.long (own_e (own_T p4))), .second, .val (.ref b_357), .val (.ref b_358), .val (.ref b_360), .val (.int (own_parL q0)), .val (.int (own_parL (own_e (own_T p4)))), .val (.int (own_parL (q0 ^^^ (own_e (own_T p4))))), .val (.int ((((own_tabI.getD ((own_T p4)).toNatClampNeg 0) ^^^ (-1 : Int32)) &&& (127 : Int32)) <<< ((1 : Int32) &&& 31)))]) rfl ?_
      show Steps p.tables e below (T367.setTop (mkF m 439 #[.val (.long q0), .second, .val (.long q2), .second, .val (.int p4), .val (.int p5), .val (.ref b172), .val (.int (own_T p4)), .val (.int (1 : Int32)), .val (.long (own_e (own_T p4))), .second, .val (.ref b_357), .val (.ref b_358), .val (.ref b_360), .val (.int (own_parL q0)), .val (.int (own_parL (own_e (own_T p4)))), .val (.int (own_parL (q0 ^^^ (own_e (own_T p4))))), .val (.int ((((own_tabI.getD ((own_T p4)).toNatClampNeg 0) ^^^ (-1 : Int32)) &&& (127 : Int32)) <<< ((1 : Int32) &&& 31)))] [])) _
      refine XS.iload X367.here hx rfl (hb hby at_439) rfl ?_
      show Steps p.tables e below (T367.setTop (mkF m 441 #[.val (.long q0), .second, .val (.long q2), .second, .val (.int p4), .val (.int p5), .val (.ref b172), .val (.int (own_T p4)), .val (.int (1 : Int32)), .val (.long (own_e (own_T p4))), .second, .val (.ref b_357), .val (.ref b_358), .val (.ref b_360), .val (.int (own_parL q0)), .val (.int (own_parL (own_e (own_T p4)))), .val (.int (own_parL (q0 ^^^ (own_e (own_T p4))))), .val (.int ((((own_tabI.getD ((own_T p4)).toNatClampNeg 0) ^^^ (-1 : Int32)) &&& (127 : Int32)) <<< ((1 : Int32) &&& 31)))] [(.int (own_parL (own_e (own_T p4))))])) _
      refine XS.iload X367.here hx rfl (hb hby at_441) rfl ?_
      show Steps p.tables e below (T367.setTop (mkF m 443 #[.val (.long q0), .second, .val (.long q2), .second, .val (.int p4), .val (.int p5), .val (.ref b172), .val (.int (own_T p4)), .val (.int (1 : Int32)), .val (.long (own_e (own_T p4))), .second, .val (.ref b_357), .val (.ref b_358), .val (.ref b_360), .val (.int (own_parL q0)), .val (.int (own_parL (own_e (own_T p4)))), .val (.int (own_parL (q0 ^^^ (own_e (own_T p4))))), .val (.int ((((own_tabI.getD ((own_T p4)).toNatClampNeg 0) ^^^ (-1 : Int32)) &&& (127 : Int32)) <<< ((1 : Int32) &&& 31)))] [(.int ((((own_tabI.getD ((own_T p4)).toNatClampNeg 0) ^^^ (-1 : Int32)) &&& (127 : Int32)) <<< ((1 : Int32) &&& 31))), (.int (own_parL (own_e (own_T p4))))])) _
      refine XS.icmpNo X367.here hx rfl (hb hby at_443) rfl (teq hc443_370).2 ?_
      show Steps p.tables e below (T367.setTop (mkF m 446 #[.val (.long q0), .second, .val (.long q2), .second, .val (.int p4), .val (.int p5), .val (.ref b172), .val (.int (own_T p4)), .val (.int (1 : Int32)), .val (.long (own_e (own_T p4))), .second, .val (.ref b_357), .val (.ref b_358), .val (.ref b_360), .val (.int (own_parL q0)), .val (.int (own_parL (own_e (own_T p4)))), .val (.int (own_parL (q0 ^^^ (own_e (own_T p4))))), .val (.int ((((own_tabI.getD ((own_T p4)).toNatClampNeg 0) ^^^ (-1 : Int32)) &&& (127 : Int32)) <<< ((1 : Int32) &&& 31)))] [])) _
      refine XS.iload X367.here hx rfl (hb hby at_446) rfl ?_
      show Steps p.tables e below (T367.setTop (mkF m 448 #[.val (.long q0), .second, .val (.long q2), .second, .val (.int p4), .val (.int p5), .val (.ref b172), .val (.int (own_T p4)), .val (.int (1 : Int32)), .val (.long (own_e (own_T p4))), .second, .val (.ref b_357), .val (.ref b_358), .val (.ref b_360), .val (.int (own_parL q0)), .val (.int (own_parL (own_e (own_T p4)))), .val (.int (own_parL (q0 ^^^ (own_e (own_T p4))))), .val (.int ((((own_tabI.getD ((own_T p4)).toNatClampNeg 0) ^^^ (-1 : Int32)) &&& (127 : Int32)) <<< ((1 : Int32) &&& 31)))] [(.int (own_parL (q0 ^^^ (own_e (own_T p4)))))])) _
      refine XS.iload X367.here hx rfl (hb hby at_448) rfl ?_
      show Steps p.tables e below (T367.setTop (mkF m 450 #[.val (.long q0), .second, .val (.long q2), .second, .val (.int p4), .val (.int p5), .val (.ref b172), .val (.int (own_T p4)), .val (.int (1 : Int32)), .val (.long (own_e (own_T p4))), .second, .val (.ref b_357), .val (.ref b_358), .val (.ref b_360), .val (.int (own_parL q0)), .val (.int (own_parL (own_e (own_T p4)))), .val (.int (own_parL (q0 ^^^ (own_e (own_T p4))))), .val (.int ((((own_tabI.getD ((own_T p4)).toNatClampNeg 0) ^^^ (-1 : Int32)) &&& (127 : Int32)) <<< ((1 : Int32) &&& 31)))] [(.int (own_parL q0)), (.int (own_parL (q0 ^^^ (own_e (own_T p4)))))])) _
      refine XS.iload X367.here hx rfl (hb hby at_450) rfl ?_
      show Steps p.tables e below (T367.setTop (mkF m 452 #[.val (.long q0), .second, .val (.long q2), .second, .val (.int p4), .val (.int p5), .val (.ref b172), .val (.int (own_T p4)), .val (.int (1 : Int32)), .val (.long (own_e (own_T p4))), .second, .val (.ref b_357), .val (.ref b_358), .val (.ref b_360), .val (.int (own_parL q0)), .val (.int (own_parL (own_e (own_T p4)))), .val (.int (own_parL (q0 ^^^ (own_e (own_T p4))))), .val (.int ((((own_tabI.getD ((own_T p4)).toNatClampNeg 0) ^^^ (-1 : Int32)) &&& (127 : Int32)) <<< ((1 : Int32) &&& 31)))] [(.int (own_parL (own_e (own_T p4)))), (.int (own_parL q0)), (.int (own_parL (q0 ^^^ (own_e (own_T p4)))))])) _
      refine XS.ixor X367.here hx rfl (hb hby at_452) rfl ?_
      show Steps p.tables e below (T367.setTop (mkF m 453 #[.val (.long q0), .second, .val (.long q2), .second, .val (.int p4), .val (.int p5), .val (.ref b172), .val (.int (own_T p4)), .val (.int (1 : Int32)), .val (.long (own_e (own_T p4))), .second, .val (.ref b_357), .val (.ref b_358), .val (.ref b_360), .val (.int (own_parL q0)), .val (.int (own_parL (own_e (own_T p4)))), .val (.int (own_parL (q0 ^^^ (own_e (own_T p4))))), .val (.int ((((own_tabI.getD ((own_T p4)).toNatClampNeg 0) ^^^ (-1 : Int32)) &&& (127 : Int32)) <<< ((1 : Int32) &&& 31)))] [(.int ((own_parL q0) ^^^ (own_parL (own_e (own_T p4))))), (.int (own_parL (q0 ^^^ (own_e (own_T p4)))))])) _
      refine XS.sipush X367.here hx rfl (hb hby at_453) ?_
      show Steps p.tables e below (T367.setTop (mkF m 456 #[.val (.long q0), .second, .val (.long q2), .second, .val (.int p4), .val (.int p5), .val (.ref b172), .val (.int (own_T p4)), .val (.int (1 : Int32)), .val (.long (own_e (own_T p4))), .second, .val (.ref b_357), .val (.ref b_358), .val (.ref b_360), .val (.int (own_parL q0)), .val (.int (own_parL (own_e (own_T p4)))), .val (.int (own_parL (q0 ^^^ (own_e (own_T p4))))), .val (.int ((((own_tabI.getD ((own_T p4)).toNatClampNeg 0) ^^^ (-1 : Int32)) &&& (127 : Int32)) <<< ((1 : Int32) &&& 31)))] [(.int (254 : Int32)), (.int ((own_parL q0) ^^^ (own_parL (own_e (own_T p4))))), (.int (own_parL (q0 ^^^ (own_e (own_T p4)))))])) _
      refine XS.ixor X367.here hx rfl (hb hby at_456) rfl ?_
      show Steps p.tables e below (T367.setTop (mkF m 457 #[.val (.long q0), .second, .val (.long q2), .second, .val (.int p4), .val (.int p5), .val (.ref b172), .val (.int (own_T p4)), .val (.int (1 : Int32)), .val (.long (own_e (own_T p4))), .second, .val (.ref b_357), .val (.ref b_358), .val (.ref b_360), .val (.int (own_parL q0)), .val (.int (own_parL (own_e (own_T p4)))), .val (.int (own_parL (q0 ^^^ (own_e (own_T p4))))), .val (.int ((((own_tabI.getD ((own_T p4)).toNatClampNeg 0) ^^^ (-1 : Int32)) &&& (127 : Int32)) <<< ((1 : Int32) &&& 31)))] [(.int (((own_parL q0) ^^^ (own_parL (own_e (own_T p4)))) ^^^ (254 : Int32))), (.int (own_parL (q0 ^^^ (own_e (own_T p4)))))])) _
      refine XS.icmpNo X367.here hx rfl (hb hby at_457) rfl (teq hc457_371).2 ?_
      show Steps p.tables e below (T367.setTop (mkF m 460 #[.val (.long q0), .second, .val (.long q2), .second, .val (.int p4), .val (.int p5), .val (.ref b172), .val (.int (own_T p4)), .val (.int (1 : Int32)), .val (.long (own_e (own_T p4))), .second, .val (.ref b_357), .val (.ref b_358), .val (.ref b_360), .val (.int (own_parL q0)), .val (.int (own_parL (own_e (own_T p4)))), .val (.int (own_parL (q0 ^^^ (own_e (own_T p4))))), .val (.int ((((own_tabI.getD ((own_T p4)).toNatClampNeg 0) ^^^ (-1 : Int32)) &&& (127 : Int32)) <<< ((1 : Int32) &&& 31)))] [])) _
      refine XS.iconst X367.here hx rfl (hb hby at_460) ?_
      show Steps p.tables e below (T367.setTop (mkF m 461 #[.val (.long q0), .second, .val (.long q2), .second, .val (.int p4), .val (.int p5), .val (.ref b172), .val (.int (own_T p4)), .val (.int (1 : Int32)), .val (.long (own_e (own_T p4))), .second, .val (.ref b_357), .val (.ref b_358), .val (.ref b_360), .val (.int (own_parL q0)), .val (.int (own_parL (own_e (own_T p4)))), .val (.int (own_parL (q0 ^^^ (own_e (own_T p4))))), .val (.int ((((own_tabI.getD ((own_T p4)).toNatClampNeg 0) ^^^ (-1 : Int32)) &&& (127 : Int32)) <<< ((1 : Int32) &&& 31)))] [(.int (1 : Int32))])) _
      refine XS.goto X367.here hx rfl (pc0 := 461) (pc' := 465) rfl (hb hby at_461) (by decide) (by decide) ?_
      show Steps p.tables e below (T367.setTop (mkF m 465 #[.val (.long q0), .second, .val (.long q2), .second, .val (.int p4), .val (.int p5), .val (.ref b172), .val (.int (own_T p4)), .val (.int (1 : Int32)), .val (.long (own_e (own_T p4))), .second, .val (.ref b_357), .val (.ref b_358), .val (.ref b_360), .val (.int (own_parL q0)), .val (.int (own_parL (own_e (own_T p4)))), .val (.int (own_parL (q0 ^^^ (own_e (own_T p4))))), .val (.int ((((own_tabI.getD ((own_T p4)).toNatClampNeg 0) ^^^ (-1 : Int32)) &&& (127 : Int32)) <<< ((1 : Int32) &&& 31)))] [(.int (1 : Int32))])) _
      exact retN X367 hx (t := .boolean) Bd.returns (by simp) (hb hby at_465) hr
    · show Q0 Z q0 q2 p4 p5 h0 n0 _ T367.heap _
      rw [e367]
      exact ⟨rfl, N367⟩
  · obtain ⟨_, _, ⟨T372, L372, k372, n372⟩, -, X372, ⟨Lc372, hQ372, l372, y372, z372⟩, st372⟩ := Jvm.LawKit.callS XX339 hx (y := (⟨"com/example/linkbook/linkbook/coding/BchParityOctetPinLaw", "build", "(JJI)[B"⟩ : MethodName)) hown (mvT hZ (hw _ (List.mem_of_getElem? (i := 2) rfl))) (mvT hZ (hw _ (List.mem_of_getElem? (i := 3) rfl))) (mvT hZ (hw _ (List.mem_of_getElem? (i := 4) rfl))) (mvT hZ (hw _ (List.mem_of_getElem? (i := 5) rfl))) (by decide) (backOf (W := 0) (rm1_2 l Z a0 hw [] q0 q2 h339 n0 (Nat.le_trans Z0 K339.1) ) hZ (hw _ (List.mem_of_getElem? (i := 5) rfl)) (hw _ (List.mem_of_getElem? (i := 4) rfl)) (by decide) (by decide)) (g := (mkF m 365 #[.val (.long q0), .second, .val (.long q2), .second, .val (.int p4), .val (.int p5), .val (.ref b172), .val (.int (own_T p4)), .val (.int (2 : Int32)), .val (.long (own_e (own_T p4))), .second, .unset, .unset, .unset, .unset, .unset, .unset, .unset] [(.int (2 : Int32)), (.long q2), (.long q0)])) rfl (by rw [hml]; rfl) (argsL := [(.long q0), (.long q2), (.int (2 : Int32))]) (rest := []) (lenOf own_pd0 rfl) rfl (by show 2 * 0 + _ ≤ _; exact Nat.le_of_eq rfl) (hb hby at_365) (fun _ _ => ⟨rfl, e339, (by decide : 1 + 1 ≤ _), (by decide : 56 + 10 ≤ _)⟩)
    dsimp only [Pt.U, Pt.locs, Pt.cells, Pt.slots] at X372 l372 y372 z372 st372 hQ372
    subst l372 y372 z372
    obtain ⟨b_372, k_372, rfl, N372q, i372_4, i372_5, i372_6⟩ := hQ372
    have N372 := Fr.app NN339 N372q
    have ne_b172_b_372 : b172 ≠ b_372 := Nat.ne_of_lt (Nat.lt_of_lt_of_le V339.lt i372_5)
    have gg_b_372 : n0 ≤ b_372 := Nat.le_trans (Nat.le_trans Z0 K339.1) i372_5
    have sz_b_372 : h0.size ≤ b_372 := Nat.le_trans K339.1 i372_5
    have K372 := K339.trans i372_4 all0
    obtain ⟨_, _, ⟨T373, L373, k373, n373⟩, -, X373, ⟨Lc373, hQ373, l373, y373, z373⟩, st373⟩ := Jvm.LawKit.callS X372 hx (y := (⟨"com/example/linkbook/linkbook/coding/BchParityOctetPinLaw", "build", "(JJI)[B"⟩ : MethodName)) hown (mvT hZ (hw _ (List.mem_of_getElem? (i := 2) rfl))) (mvT hZ (hw _ (List.mem_of_getElem? (i := 3) rfl))) (mvT hZ (hw _ (List.mem_of_getElem? (i := 4) rfl))) (mvT hZ (hw _ (List.mem_of_getElem? (i := 5) rfl))) (by decide) (backOf (W := 0) (rm1_2 l Z a0 hw [] (own_e (own_T p4)) (q2 ^^^ (-1 : Int64)) T372.heap n0 (Nat.le_trans Z0 K372.1) ) hZ (hw _ (List.mem_of_getElem? (i := 5) rfl)) (hw _ (List.mem_of_getElem? (i := 4) rfl)) (by decide) (by decide)) (g := (mkF m 379 #[.val (.long q0), .second, .val (.long q2), .second, .val (.int p4), .val (.int p5), .val (.ref b172), .val (.int (own_T p4)), .val (.int (2 : Int32)), .val (.long (own_e (own_T p4))), .second, .val (.ref b_372), .unset, .unset, .unset, .unset, .unset, .unset] [(.int (2 : Int32)), (.long (q2 ^^^ (-1 : Int64))), (.long (own_e (own_T p4)))])) rfl (by rw [hml]; rfl) (argsL := [(.long (own_e (own_T p4))), (.long (q2 ^^^ (-1 : Int64))), (.int (2 : Int32))]) (rest := []) (lenOf own_pd0 rfl) rfl (by show 2 * 0 + _ ≤ _; exact Nat.le_of_eq rfl) (hb hby at_379) (fun _ _ => ⟨rfl, rfl, (by decide : 2 + 1 ≤ _), (by decide : 66 + 10 ≤ _)⟩)
    dsimp only [Pt.U, Pt.locs, Pt.cells, Pt.slots] at X373 l373 y373 z373 st373 hQ373
    subst l373 y373 z373
    obtain ⟨b_373, k_373, rfl, N373q, i373_4, i373_5, i373_6⟩ := hQ373
    have N373 := Fr.app N372 N373q
    have Q374 := (V339.keep i372_4 nin0)
    have ne_b172_b_373 : b172 ≠ b_373 := Nat.ne_of_lt (Nat.lt_of_lt_of_le Q374.lt i373_5)
    have ne_b_372_b_373 : b_372 ≠ b_373 := Nat.ne_of_lt (Nat.lt_of_lt_of_le i372_6.lt i373_5)
    have gg_b_373 : n0 ≤ b_373 := Nat.le_trans (Nat.le_trans Z0 K372.1) i373_5
    have sz_b_373 : h0.size ≤ b_373 := Nat.le_trans K372.1 i373_5
    have K373 := K372.trans i373_4 all0
    obtain ⟨_, _, ⟨T375, L375, k375, n375⟩, -, X375, ⟨Lc375, hQ375, l375, y375, z375⟩, st375⟩ := Jvm.LawKit.callS X373 hx (y := (⟨"com/example/linkbook/linkbook/coding/BchParityOctetPinLaw", "build", "(JJI)[B"⟩ : MethodName)) hown (mvT hZ (hw _ (List.mem_of_getElem? (i := 2) rfl))) (mvT hZ (hw _ (List.mem_of_getElem? (i := 3) rfl))) (mvT hZ (hw _ (List.mem_of_getElem? (i := 4) rfl))) (mvT hZ (hw _ (List.mem_of_getElem? (i := 5) rfl))) (by decide) (backOf (W := 0) (rm1_2 l Z a0 hw [] (q0 ^^^ (own_e (own_T p4))) (q2 ^^^ q0) T373.heap n0 (Nat.le_trans Z0 K373.1) ) hZ (hw _ (List.mem_of_getElem? (i := 5) rfl)) (hw _ (List.mem_of_getElem? (i := 4) rfl)) (by decide) (by decide)) (g := (mkF m 393 #[.val (.long q0), .second, .val (.long q2), .second, .val (.int p4), .val (.int p5), .val (.ref b172), .val (.int (own_T p4)), .val (.int (2 : Int32)), .val (.long (own_e (own_T p4))), .second, .val (.ref b_372), .val (.ref b_373), .unset, .unset, .unset, .unset, .unset] [(.int (2 : Int32)), (.long (q2 ^^^ q0)), (.long (q0 ^^^ (own_e (own_T p4))))])) rfl (by rw [hml]; rfl) (argsL := [(.long (q0 ^^^ (own_e (own_T p4)))), (.long (q2 ^^^ q0)), (.int (2 : Int32))]) (rest := []) (lenOf own_pd0 rfl) rfl (by show 2 * 0 + _ ≤ _; exact Nat.le_of_eq rfl) (hb hby at_393) (fun _ _ => ⟨rfl, rfl, (by decide : 3 + 1 ≤ _), (by decide : 76 + 10 ≤ _)⟩)
    dsimp only [Pt.U, Pt.locs, Pt.cells, Pt.slots] at X375 l375 y375 z375 st375 hQ375
    subst l375 y375 z375
    obtain ⟨b_375, k_375, rfl, N375q, i375_4, i375_5, i375_6⟩ := hQ375
    have N375 := Fr.app N373 N375q
    have Q376 := (Q374.keep i373_4 nin0)
    have ne_b172_b_375 : b172 ≠ b_375 := Nat.ne_of_lt (Nat.lt_of_lt_of_le Q376.lt i375_5)
    have Q377 := (i372_6.keep i373_4 nin0)
    have ne_b_372_b_375 : b_372 ≠ b_375 := Nat.ne_of_lt (Nat.lt_of_lt_of_le Q377.lt i375_5)
    have ne_b_373_b_375 : b_373 ≠ b_375 := Nat.ne_of_lt (Nat.lt_of_lt_of_le i373_6.lt i375_5)
    have gg_b_375 : n0 ≤ b_375 := Nat.le_trans (Nat.le_trans Z0 K373.1) i375_5
    have sz_b_375 : h0.size ≤ b_375 := Nat.le_trans K373.1 i375_5
    have K375 := K373.trans i375_4 all0
    have Q378 := (Q377.keep i375_4 nin0)
    obtain ⟨_, _, ⟨T379, L379, k379, n379⟩, -, X379, ⟨Lc379, hQ379, l379, y379, z379⟩, st379⟩ := Jvm.LawKit.callS X375 hx (y := (⟨"com/example/linkbook/linkbook/coding/Bch", "parityOctet", "([BI)I"⟩ : MethodName)) hown (mvT hZ (hw _ (List.mem_of_getElem? (i := 8) rfl))) (mvT hZ (hw _ (List.mem_of_getElem? (i := 9) rfl))) (mvT hZ (hw _ (List.mem_of_getElem? (i := 10) rfl))) (mvT hZ (hw _ (List.mem_of_getElem? (i := 11) rfl))) (by decide) (backOf (W := 0) (rm2_2 l Z a0 hw [] b_372 k_372 (own_by0 q2) (own_by q2 (8 : Int32)) (own_by q0 (48 : Int32)) (own_by q0 (40 : Int32)) (own_by q0 (32 : Int32)) (own_by q0 (24 : Int32)) (own_by q0 (16 : Int32)) (own_by q0 (8 : Int32)) (own_by0 q0) (own_by q2 (11 : Int32)) T375.heap n0 (Nat.le_trans Z0 K375.1) Q378) hZ (hw _ (List.mem_of_getElem? (i := 11) rfl)) (hw _ (List.mem_of_getElem? (i := 10) rfl)) (by decide) (by decide)) (g := (mkF m 402 #[.val (.long q0), .second, .val (.long q2), .second, .val (.int p4), .val (.int p5), .val (.ref b172), .val (.int (own_T p4)), .val (.int (2 : Int32)), .val (.long (own_e (own_T p4))), .second, .val (.ref b_372), .val (.ref b_373), .val (.ref b_375), .unset, .unset, .unset, .unset] [(.int (2 : Int32)), (.ref b_372)])) rfl (by rw [hml]; rfl) (argsL := [(.ref b_372), (.int (2 : Int32))]) (rest := []) (lenOf own_pd1 rfl) rfl (by show 2 * 0 + _ ≤ _; exact Nat.le_of_eq rfl) (hb hby at_402) (fun _ _ => ⟨rfl, rfl, (by decide : 4 + 0 ≤ _), (by decide : 86 + 0 ≤ _)⟩)
    dsimp only [Pt.U, Pt.locs, Pt.cells, Pt.slots] at X379 l379 y379 z379 st379 hQ379
    subst l379 y379 z379
    obtain ⟨rfl, N379q, e379⟩ := hQ379
    have N379 := Fr.app N375 N379q
    have Q380 := (i373_6.keep i375_4 nin0)
    obtain ⟨_, _, ⟨T381, L381, k381, n381⟩, -, X381, ⟨Lc381, hQ381, l381, y381, z381⟩, st381⟩ := Jvm.LawKit.callS X379 hx (y := (⟨"com/example/linkbook/linkbook/coding/Bch", "parityOctet", "([BI)I"⟩ : MethodName)) hown (mvT hZ (hw _ (List.mem_of_getElem? (i := 8) rfl))) (mvT hZ (hw _ (List.mem_of_getElem? (i := 9) rfl))) (mvT hZ (hw _ (List.mem_of_getElem? (i := 10) rfl))) (mvT hZ (hw _ (List.mem_of_getElem? (i := 11) rfl))) (by decide) (backOf (W := 0) (rm2_2 l Z a0 hw [] b_373 k_373 (own_by0 (q2 ^^^ (-1 : Int64))) (own_by (q2 ^^^ (-1 : Int64)) (8 : Int32)) (own_by (own_e (own_T p4)) (48 : Int32)) (own_by (own_e (own_T p4)) (40 : Int32)) (own_by (own_e (own_T p4)) (32 : Int32)) (own_by (own_e (own_T p4)) (24 : Int32)) (own_by (own_e (own_T p4)) (16 : Int32)) (own_by (own_e (own_T p4)) (8 : Int32)) (own_by0 (own_e (own_T p4))) (own_by (q2 ^^^ (-1 : Int64)) (11 : Int32)) T375.heap n0 (Nat.le_trans Z0 K375.1) Q380) hZ (hw _ (List.mem_of_getElem? (i := 11) rfl)) (hw _ (List.mem_of_getElem? (i := 10) rfl)) (by decide) (by decide)) (g := (mkF m 411 #[.val (.long q0), .second, .val (.long q2), .second, .val (.int p4), .val (.int p5), .val (.ref b172), .val (.int (own_T p4)), .val (.int (2 : Int32)), .val (.long (own_e (own_T p4))), .second, .val (.ref b_372), .val (.ref b_373), .val (.ref b_375), .val (.int (own_parL q0)), .unset, .unset, .unset] [(.int (2 : Int32)), (.ref b_373)])) rfl (by rw [hml]; rfl) (argsL := [(.ref b_373), (.int (2 : Int32))]) (rest := []) (lenOf own_pd1 rfl) rfl (by show 2 * 0 + _ ≤ _; exact Nat.le_of_eq rfl) (hb hby at_411) (fun _ _ => ⟨rfl, e379, (by decide : 4 + 0 ≤ _), (by decide : 86 + 0 ≤ _)⟩)
    dsimp only [Pt.U, Pt.locs, Pt.cells, Pt.slots] at X381 l381 y381 z381 st381 hQ381
    subst l381 y381 z381
    obtain ⟨rfl, N381q, e381⟩ := hQ381
    have N381 := Fr.app N379 N381q
    obtain ⟨_, _, ⟨T382, L382, k382, n382⟩, -, X382, ⟨Lc382, hQ382, l382, y382, z382⟩, st382⟩ := Jvm.LawKit.callS X381 hx (y := (⟨"com/example/linkbook/linkbook/coding/Bch", "parityOctet", "([BI)I"⟩ : MethodName)) hown (mvT hZ (hw _ (List.mem_of_getElem? (i := 8) rfl))) (mvT hZ (hw _ (List.mem_of_getElem? (i := 9) rfl))) (mvT hZ (hw _ (List.mem_of_getElem? (i := 10) rfl))) (mvT hZ (hw _ (List.mem_of_getElem? (i := 11) rfl))) (by decide) (backOf (W := 0) (rm2_2 l Z a0 hw [] b_375 k_375 (own_by0 (q2 ^^^ q0)) (own_by (q2 ^^^ q0) (8 : Int32)) (own_by (q0 ^^^ (own_e (own_T p4))) (48 : Int32)) (own_by (q0 ^^^ (own_e (own_T p4))) (40 : Int32)) (own_by (q0 ^^^ (own_e (own_T p4))) (32 : Int32)) (own_by (q0 ^^^ (own_e (own_T p4))) (24 : Int32)) (own_by (q0 ^^^ (own_e (own_T p4))) (16 : Int32)) (own_by (q0 ^^^ (own_e (own_T p4))) (8 : Int32)) (own_by0 (q0 ^^^ (own_e (own_T p4)))) (own_by (q2 ^^^ q0) (11 : Int32)) T375.heap n0 (Nat.le_trans Z0 K375.1) i375_6) hZ (hw _ (List.mem_of_getElem? (i := 11) rfl)) (hw _ (List.mem_of_getElem? (i := 10) rfl)) (by decide) (by decide)) (g := (mkF m 420 #[.val (.long q0), .second, .val (.long q2), .second, .val (.int p4), .val (.int p5), .val (.ref b172), .val (.int (own_T p4)), .val (.int (2 : Int32)), .val (.long (own_e (own_T p4))), .second, .val (.ref b_372), .val (.ref b_373), .val (.ref b_375), .val (.int (own_parL q0)), .val (.int (own_parL (own_e (own_T p4)))), .unset, .unset] [(.int (2 : Int32)), (.ref b_375)])) rfl (by rw [hml]; rfl) (argsL := [(.ref b_375), (.int (2 : Int32))]) (rest := []) (lenOf own_pd1 rfl) rfl (by show 2 * 0 + _ ≤ _; exact Nat.le_of_eq rfl) (hb hby at_420) (fun _ _ => ⟨rfl, e381, (by decide : 4 + 0 ≤ _), (by decide : 86 + 0 ≤ _)⟩)
    dsimp only [Pt.U, Pt.locs, Pt.cells, Pt.slots] at X382 l382 y382 z382 st382 hQ382
    subst l382 y382 z382
    obtain ⟨rfl, N382q, e382⟩ := hQ382
    have N382 := Fr.app N381 N382q
    have Q384 := (Q376.keep i375_4 nin0)
    obtain ⟨cl383, Ar383, q383, S383, M383, H383, G383⟩ := id Q384
    have hin383 : ¬ ((own_T p4) < 0 ∨ cl383.slots.size ≤ ((own_T p4)).toNatClampNeg) := inb_of S383 (own_t p4)
    have hat383 : cl383.slots[((own_T p4)).toNatClampNeg]? = some (.int (own_tabI.getD ((own_T p4)).toNatClampNeg 0)) := Has.at H383 hin383 (own_getT _)
    have hc443_385 : (own_parL (own_e (own_T p4))) = ((((own_tabI.getD ((own_T p4)).toNatClampNeg 0) ^^^ (-1 : Int32)) &&& (127 : Int32)) <<< ((1 : Int32) &&& 31)) := own_tabT _ (own_t p4)
    have hc457_386 : (own_parL (q0 ^^^ (own_e (own_T p4)))) = (((own_parL q0) ^^^ (own_parL (own_e (own_T p4)))) ^^^ (254 : Int32)) := own_parL_xor _ _
    obtain ⟨fs, hr, hrun, hended, hW, hsame⟩ := X382.leave (v := some (.int (1 : Int32))) (fun h => by rw [Bd.returns] at h; cases h)
    refine ⟨_, _, pre341 _ ?_, hrun, hended, _, _, rfl, ?_, ⟨_, rfl⟩, hW, hsame.mono (by decide) (by decide)⟩
    · show Steps p.tables e below (T339.setTop (mkF m 352 #[.val (.long q0), .second, .val (.long q2), .second, .val (.int p4), .val (.int p5), .val (.ref b172), .val (.int (own_T p4)), .val (.int (p5 &&& (3 : Int32))), .unset, .unset, .unset, .unset, .unset, .unset, .unset, .unset, .unset] [])) _
      rw [hk]
      show Steps p.tables e below (T339.setTop (mkF m 352 #[.val (.long q0), .second, .val (.long q2), .second, .val (.int p4), .val (.int p5), .val (.ref b172), .val (.int (own_T p4)), .val (.int (2 : Int32)), .unset, .unset, .unset, .unset, .unset, .unset, .unset, .unset, .unset] [])) _
      refine XS.lconst XX339.here hx rfl (hb hby at_352) ?_
      show Steps p.tables e below (T339.setTop (mkF m 353 #[.val (.long q0), .second, .val (.long q2), .second, .val (.int p4), .val (.int p5), .val (.ref b172), .val (.int (own_T p4)), .val (.int (2 : Int32)), .unset, .unset, .unset, .unset, .unset, .unset, .unset, .unset, .unset] [(.long (1 : Int64))])) _
      refine XS.bipush XX339.here hx rfl (hb hby at_353) ?_
      show Steps p.tables e below (T339.setTop (mkF m 355 #[.val (.long q0), .second, .val (.long q2), .second, .val (.int p4), .val (.int p5), .val (.ref b172), .val (.int (own_T p4)), .val (.int (2 : Int32)), .unset, .unset, .unset, .unset, .unset, .unset, .unset, .unset, .unset] [(.int (55 : Int32)), (.long (1 : Int64))])) _
      refine XS.iload XX339.here hx rfl (hb hby at_355) rfl ?_
      show Steps p.tables e below (T339.setTop (mkF m 357 #[.val (.long q0), .second, .val (.long q2), .second, .val (.int p4), .val (.int p5), .val (.ref b172), .val (.int (own_T p4)), .val (.int (2 : Int32)), .unset, .unset, .unset, .unset, .unset, .unset, .unset, .unset, .unset] [(.int (own_T p4)), (.int (55 : Int32)), (.long (1 : Int64))])) _
      refine XS.isub XX339.here hx rfl (hb hby at_357) rfl ?_
      show Steps p.tables e below (T339.setTop (mkF m 358 #[.val (.long q0), .second, .val (.long q2), .second, .val (.int p4), .val (.int p5), .val (.ref b172), .val (.int (own_T p4)), .val (.int (2 : Int32)), .unset, .unset, .unset, .unset, .unset, .unset, .unset, .unset, .unset] [(.int ((55 : Int32) - (own_T p4))), (.long (1 : Int64))])) _
      refine XS.lshl XX339.here hx rfl (hb hby at_358) rfl ?_
      show Steps p.tables e below (T339.setTop (mkF m 359 #[.val (.long q0), .second, .val (.long q2), .second, .val (.int p4), .val (.int p5), .val (.ref b172), .val (.int (own_T p4)), .val (.int (2 : Int32)), .unset, .unset, .unset, .unset, .unset, .unset, .unset, .unset, .unset] [(.long ((1 : Int64) <<< (((55 : Int32) - (own_T p4)) &&& 0x3f).toInt64))])) _
      refine XS.lstore XX339.here hx rfl (hb hby at_359) rfl (l' := #[.val (.long q0), .second, .val (.long q2), .second, .val (.int p4), .val (.int p5), .val (.ref b172), .val (.int (own_T p4)), .val (.int (2 : Int32)), .val (.long ((1 : Int64) <<< (((55 : Int32) - (own_T p4)) &&& 0x3f).toInt64)), .second, .unset, .unset, .unset, .unset, .unset, .unset, .unset]) rfl ?_
      show Steps p.tables e below (T339.setTop (mkF m 361 #[.val (.long q0), .second, .val (.long q2), .second, .val (.int p4), .val (.int p5), .val (.ref b172), .val (.int (own_T p4)), .val (.int (2 : Int32)), .val (.long (own_e (own_T p4))), .second, .unset, .unset, .unset, .unset, .unset, .unset, .unset] [])) _
      refine XS.lloadN XX339.here hx rfl (hb hby at_361) rfl ?_
      show Steps p.tables e below (T339.setTop (mkF m 362 #[.val (.long q0), .second, .val (.long q2), .second, .val (.int p4), .val (.int p5), .val (.ref b172), .val (.int (own_T p4)), .val (.int (2 : Int32)), .val (.long (own_e (own_T p4))), .second, .unset, .unset, .unset, .unset, .unset, .unset, .unset] [(.long q0)])) _
      refine XS.lloadN XX339.here hx rfl (hb hby at_362) rfl ?_
      show Steps p.tables e below (T339.setTop (mkF m 363 #[.val (.long q0), .second, .val (.long q2), .second, .val (.int p4), .val (.int p5), .val (.ref b172), .val (.int (own_T p4)), .val (.int (2 : Int32)), .val (.long (own_e (own_T p4))), .second, .unset, .unset, .unset, .unset, .unset, .unset, .unset] [(.long q2), (.long q0)])) _
      refine XS.iload XX339.here hx rfl (hb hby at_363) rfl ?_
      show Steps p.tables e below (T339.setTop (mkF m 365 #[.val (.long q0), .second, .val (.long q2), .second, .val (.int p4), .val (.int p5), .val (.ref b172), .val (.int (own_T p4)), .val (.int (2 : Int32)), .val (.long (own_e (own_T p4))), .second, .unset, .unset, .unset, .unset, .unset, .unset, .unset] [(.int (2 : Int32)), (.long q2), (.long q0)])) _
      refine st372 _ ?_
      show Steps p.tables e below (T372.setTop (mkF m 368 #[.val (.long q0), .second, .val (.long q2), .second, .val (.int p4), .val (.int p5), .val (.ref b172), .val (.int (own_T p4)), .val (.int (2 : Int32)), .val (.long (own_e (own_T p4))), .second, .unset, .unset, .unset, .unset, .unset, .unset, .unset] [(.ref b_372)])) _
      refine XS.astore X372.here hx rfl (hb hby at_368) rfl rfl (l' := #[.val (.long q0), .second, .val (.long q2), .second, .val (.int p4), .val (.int p5), .val (.ref b172), .val (.int (own_T p4)), .val (.int (2 : Int32)), .val (.long (own_e (own_T p4))), .second, .val (.ref b_372), .unset, .unset, .unset, .unset, .unset, .unset]) rfl ?_
      show Steps p.tables e below (T372.setTop (mkF m 370 #[.val (.long q0), .second, .val (.long q2), .second, .val (.int p4), .val (.int p5), .val (.ref b172), .val (.int (own_T p4)), .val (.int (2 : Int32)), .val (.long (own_e (own_T p4))), .second, .val (.ref b_372), .unset, .unset, .unset, .unset, .unset, .unset] [])) _
      refine XS.lload X372.here hx rfl (hb hby at_370) rfl ?_
      show Steps p.tables e below (T372.setTop (mkF m 372 #[.val (.long q0), .second, .val (.long q2), .second, .val (.int p4), .val (.int p5), .val (.ref b172), .val (.int (own_T p4)), .val (.int (2 : Int32)), .val (.long (own_e (own_T p4))), .second, .val (.ref b_372), .unset, .unset, .unset, .unset, .unset, .unset] [(.long (own_e (own_T p4)))])) _
      refine XS.lloadN X372.here hx rfl (hb hby at_372) rfl ?_
      show Steps p.tables e below (T372.setTop (mkF m 373 #[.val (.long q0), .second, .val (.long q2), .second, .val (.int p4), .val (.int p5), .val (.ref b172), .val (.int (own_T p4)), .val (.int (2 : Int32)), .val (.long (own_e (own_T p4))), .second, .val (.ref b_372), .unset, .unset, .unset, .unset, .unset, .unset] [(.long q2), (.long (own_e (own_T p4)))])) _
      refine X372.ldc2Long hx hown (mvT hZ (hw _ (List.mem_of_getElem? (i := 7) rfl))) (g := (mkF m 373 #[.val (.long q0), .second, .val (.long q2), .second, .val (.int p4), .val (.int p5), .val (.ref b172), .val (.int (own_T p4)), .val (.int (2 : Int32)), .val (.long (own_e (own_T p4))), .second, .val (.ref b_372), .unset, .unset, .unset, .unset, .unset, .unset] [(.long q2), (.long (own_e (own_T p4)))])) rfl (hb hby at_373) _ ?_
      show Steps p.tables e below (T372.setTop (mkF m 376 #[.val (.long q0), .second, .val (.long q2), .second, .val (.int p4), .val (.int p5), .val (.ref b172), .val (.int (own_T p4)), .val (.int (2 : Int32)), .val (.long (own_e (own_T p4))), .second, .val (.ref b_372), .unset, .unset, .unset, .unset, .unset, .unset] [(.long (-1 : Int64)), (.long q2), (.long (own_e (own_T p4)))])) _
      refine XS.lxor X372.here hx rfl (hb hby at_376) rfl ?_
      show Steps p.tables e below (T372.setTop (mkF m 377 #[.val (.long q0), .second, .val (.long q2), .second, .val (.int p4), .val (.int p5), .val (.ref b172), .val (.int (own_T p4)), .val (.int (2 : Int32)), .val (.long (own_e (own_T p4))), .second, .val (.ref b_372), .unset, .unset, .unset, .unset, .unset, .unset] [(.long (q2 ^^^ (-1 : Int64))), (.long (own_e (own_T p4)))])) _
      refine XS.iload X372.here hx rfl (hb hby at_377) rfl ?_
      show Steps p.tables e below (T372.setTop (mkF m 379 #[.val (.long q0), .second, .val (.long q2), .second, .val (.int p4), .val (.int p5), .val (.ref b172), .val (.int (own_T p4)), .val (.int (2 : Int32)), .val (.long (own_e (own_T p4))), .second, .val (.ref b_372), .unset, .unset, .unset, .unset, .unset, .unset] [(.int (2 : Int32)), (.long (q2 ^^^ (-1 : Int64))), (.long (own_e (own_T p4)))])) _
      refine st373 _ ?_
      show Steps p.tables e below (T373.setTop (mkF m 382 #[.val (.long q0), .second, .val (.long q2), .second, .val (.int p4), .val (.int p5), .val (.ref b172), .val (.int (own_T p4)), .val (.int (2 : Int32)), .val (.long (own_e (own_T p4))), .second, .val (.ref b_372), .unset, .unset, .unset, .unset, .unset, .unset] [(.ref b_373)])) _
      refine XS.astore X373.here hx rfl (hb hby at_382) rfl rfl (l' := #[.val (.long q0), .second, .val (.long q2), .second, .val (.int p4), .val (.int p5), .val (.ref b172), .val (.int (own_T p4)), .val (.int (2 : Int32)), .val (.long (own_e (own_T p4))), .second, .val (.ref b_372), .val (.ref b_373), .unset, .unset, .unset, .unset, .unset]) rfl ?_
      show Steps p.tables e below (T373.setTop (mkF m 384 #[.val (.long q0), .second, .val (.long q2), .second, .val (.int p4), .val (.int p5), .val (.ref b172), .val (.int (own_T p4)), .val (.int (2 : Int32)), .val (.long (own_e (own_T p4))), .second, .val (.ref b_372), .val (.ref b_373), .unset, .unset, .unset, .unset, .unset] [])) _
      refine XS.lloadN X373.here hx rfl (hb hby at_384) rfl ?_
      show Steps p.tables e below (T373.setTop (mkF m 385 #[.val (.long q0), .second, .val (.long q2), .second, .val (.int p4), .val (.int p5), .val (.ref b172), .val (.int (own_T p4)), .val (.int (2 : Int32)), .val (.long (own_e (own_T p4))), .second, .val (.ref b_372), .val (.ref b_373), .unset, .unset, .unset, .unset, .unset] [(.long q0)])) _
      refine XS.lload X373.here hx rfl (hb hby at_385) rfl ?_
      show Steps p.tables e below (T373.setTop (mkF m 387 #[.val (.long q0), .second, .val (.long q2), .second, .val (.int p4), .val (.int p5), .val (.ref b172), .val (.int (own_T p4)), .val (.int (2 : Int32)), .val (.long (own_e (own_T p4))), .second, .val (.ref b_372), .val (.ref b_373), .unset, .unset, .unset, .unset, .unset] [(.long (own_e (own_T p4))), (.long q0)])) _
      refine XS.lxor X373.here hx rfl (hb hby at_387) rfl ?_
      show Steps p.tables e below (T373.setTop (mkF m 388 #[.val (.long q0), .second, .val (.long q2), .second, .val (.int p4), .val (.int p5), .val (.ref b172), .val (.int (own_T p4)), .val (.int (2 : Int32)), .val (.long (own_e (own_T p4))), .second, .val (.ref b_372), .val (.ref b_373), .unset, .unset, .unset, .unset, .unset] [(.long (q0 ^^^ (own_e (own_T p4))))])) _
      refine XS.lloadN X373.here hx rfl (hb hby at_388) rfl ?_
      show Steps p.tables e below (T373.setTop (mkF m 389 #[.val (.long q0), .second, .val (.long q2), .second, .val (.int p4), .val (.int p5), .val (.ref b172), .val (.int (own_T p4)), .val (.int (2 : Int32)), .val (.long (own_e (own_T p4))), .second, .val (.ref b_372), .val (.ref b_373), .unset, .unset, .unset, .unset, .unset] [(.long q2), (.long (q0 ^^^ (own_e (own_T p4))))])) _
      refine XS.lloadN X373.here hx rfl (hb hby at_389) rfl ?_
      show Steps p.tables e below (T373.setTop (mkF m 390 #[.val (.long q0), .second, .val (.long q2), .second, .val (.int p4), .val (.int p5), .val (.ref b172), .val (.int (own_T p4)), .val (.int (2 : Int32)), .val (.long (own_e (own_T p4))), .second, .val (.ref b_372), .val (.ref b_373), .unset, .unset, .unset, .unset, .unset] [(.long q0), (.long q2), (.long (q0 ^^^ (own_e (own_T p4))))])) _
      refine XS.lxor X373.here hx rfl (hb hby at_390) rfl ?_
      show Steps p.tables e below (T373.setTop (mkF m 391 #[.val (.long q0), .second, .val (.long q2), .second, .val (.int p4), .val (.int p5), .val (.ref b172), .val (.int (own_T p4)), .val (.int (2 : Int32)), .val (.long (own_e (own_T p4))), .second, .val (.ref b_372), .val (.ref b_373), .unset, .unset, .unset, .unset, .unset] [(.long (q2 ^^^ q0)), (.long (q0 ^^^ (own_e (own_T p4))))])) _
      refine XS.iload X373.here hx rfl (hb hby at_391) rfl ?_
      show Steps p.tables e below (T373.setTop (mkF m 393 #[.val (.long q0), .second, .val (.long q2), .second, .val (.int p4), .val (.int p5), .val (.ref b172), .val (.int (own_T p4)), .val (.int (2 : Int32)), .val (.long (own_e (own_T p4))), .second, .val (.ref b_372), .val (.ref b_373), .unset, .unset, .unset, .unset, .unset] [(.int (2 : Int32)), (.long (q2 ^^^ q0)), (.long (q0 ^^^ (own_e (own_T p4))))])) _
      refine st375 _ ?_
      show Steps p.tables e below (T375.setTop (mkF m 396 #[.val (.long q0), .second, .val (.long q2), .second, .val (.int p4), .val (.int p5), .val (.ref b172), .val (.int (own_T p4)), .val (.int (2 : Int32)), .val (.long (own_e (own_T p4))), .second, .val (.ref b_372), .val (.ref b_373), .unset, .unset, .unset, .unset, .unset] [(.ref b_375)])) _
      refine XS.astore X375.here hx rfl (hb hby at_396) rfl rfl (l' := #[.val (.long q0), .second, .val (.long q2), .second, .val (.int p4), .val (.int p5), .val (.ref b172), .val (.int (own_T p4)), .val (.int (2 : Int32)), .val (.long (own_e (own_T p4))), .second, .val (.ref b_372), .val (.ref b_373), .val (.ref b_375), .unset, .unset, .unset, .unset]) rfl ?_
      show Steps p.tables e below (T375.setTop (mkF m 398 #[.val (.long q0), .second, .val (.long q2), .second, .val (.int p4), .val (.int p5), .val (.ref b172), .val (.int (own_T p4)), .val (.int (2 : Int32)), .val (.long (own_e (own_T p4))), .second, .val (.ref b_372), .val (.ref b_373), .val (.ref b_375), .unset, .unset, .unset, .unset] [])) _
      refine XS.aload X375.here hx rfl (hb hby at_398) rfl rfl ?_
      show Steps p.tables e below (T375.setTop (mkF m 400 #[.val (.long q0), .second, .val (.long q2), .second, .val (.int p4), .val (.int p5), .val (.ref b172), .val (.int (own_T p4)), .val (.int (2 : Int32)), .val (.long (own_e (own_T p4))), .second, .val (.ref b_372), .val (.ref b_373), .val (.ref b_375), .unset, .unset, .unset, .unset] [(.ref b_372)])) _
      refine XS.iload X375.here hx rfl (hb hby at_400) rfl ?_
      show Steps p.tables e below (T375.setTop (mkF m 402 #[.val (.long q0), .second, .val (.long q2), .second, .val (.int p4), .val (.int p5), .val (.ref b172), .val (.int (own_T p4)), .val (.int (2 : Int32)), .val (.long (own_e (own_T p4))), .second, .val (.ref b_372), .val (.ref b_373), .val (.ref b_375), .unset, .unset, .unset, .unset] [(.int (2 : Int32)), (.ref b_372)])) _
      refine st379 _ ?_
      show Steps p.tables e below (T379.setTop (mkF m 405 #[.val (.long q0), .second, .val (.long q2), .second, .val (.int p4), .val (.int p5), .val (.ref b172), .val (.int (own_T p4)), .val (.int (2 : Int32)), .val (.long (own_e (own_T p4))), .second, .val (.ref b_372), .val (.ref b_373), .val (.ref b_375), .unset, .unset, .unset, .unset] [(.int (own_parL q0))])) _
      refine XS.istore X379.here hx rfl (hb hby at_405) rfl (l' := #[.val (.long q0), .second, .val (.long q2), .second, .val (.int p4), .val (.int p5), .val (.ref b172), .val (.int (own_T p4)), .val (.int (2 : Int32)), .val (.long (own_e (own_T p4))), .second, .val (.ref b_372), .val (.ref b_373), .val (.ref b_375), .val (.int (own_parL q0)), .unset, .unset, .unset]) rfl ?_
      show Steps p.tables e below (T379.setTop (mkF m 407 #[.val (.long q0), .second, .val (.long q2), .second, .val (.int p4), .val (.int p5), .val (.ref b172), .val (.int (own_T p4)), .val (.int (2 : Int32)), .val (.long (own_e (own_T p4))), .second, .val (.ref b_372), .val (.ref b_373), .val (.ref b_375), .val (.int (own_parL q0)), .unset, .unset, .unset] [])) _
      refine XS.aload X379.here hx rfl (hb hby at_407) rfl rfl ?_
      show Steps p.tables e below (T379.setTop (mkF m 409 #[.val (.long q0), .second, .val (.long q2), .second, .val (.int p4), .val (.int p5), .val (.ref b172), .val (.int (own_T p4)), .val (.int (2 : Int32)), .val (.long (own_e (own_T p4))), .second, .val (.ref b_372), .val (.ref b_373), .val (.ref b_375), .val (.int (own_parL q0)), .unset, .unset, .unset] [(.ref b_373)])) _
      refine XS.iload X379.here hx rfl (hb hby at_409) rfl ?_
      show Steps p.tables e below (T379.setTop (mkF m 411 #[.val (.long q0), .second, .val (.long q2), .second, .val (.int p4), .val (.int p5), .val (.ref b172), .val (.int (own_T p4)), .val (.int (2 : Int32)), .val (.long (own_e (own_T p4))), .second, .val (.ref b_372), .val (.ref b_373), .val (.ref b_375), .val (.int (own_parL q0)), .unset, .unset, .unset] [(.int (2 : Int32)), (.ref b_373)])) _
      refine st381 _ ?_
      show Steps p.tables e below (T381.setTop (mkF m 414 #[.val (.long q0), .second, .val (.long q2), .second, .val (.int p4), .val (.int p5), .val (.ref b172), .val (.int (own_T p4)), .val (.int (2 : Int32)), .val (.long (own_e (own_T p4))), .second, .val (.ref b_372), .val (.ref b_373), .val (.ref b_375), .val (.int (own_parL q0)), .unset, .unset, .unset] [(.int (own_parL (own_e (own_T p4))))])) _
      refine XS.istore X381.here hx rfl (hb hby at_414) rfl (l' := #[.val (.long q0), .second, .val (.long q2), .second, .val (.int p4), .val (.int p5), .val (.ref b172), .val (.int (own_T p4)), .val (.int (2 : Int32)), .val (.long (own_e (own_T p4))), .second, .val (.ref b_372), .val (.ref b_373), .val (.ref b_375), .val (.int (own_parL q0)), .val (.int (own_parL (own_e (own_T p4)))), .unset, .unset]) rfl ?_
      show Steps p.tables e below (T381.setTop (mkF m 416 #[.val (.long q0), .second, .val (.long q2), .second, .val (.int p4), .val (.int p5), .val (.ref b172), .val (.int (own_T p4)), .val (.int (2 : Int32)), .val (.long (own_e (own_T p4))), .second, .val (.ref b_372), .val (.ref b_373), .val (.ref b_375), .val (.int (own_parL q0)), .val (.int (own_parL (own_e (own_T p4)))), .unset, .unset] [])) _
      refine XS.aload X381.here hx rfl (hb hby at_416) rfl rfl ?_
      show Steps p.tables e below (T381.setTop (mkF m 418 #[.val (.long q0), .second, .val (.long q2), .second, .val (.int p4), .val (.int p5), .val (.ref b172), .val (.int (own_T p4)), .val (.int (2 : Int32)), .val (.long (own_e (own_T p4))), .second, .val (.ref b_372), .val (.ref b_373), .val (.ref b_375), .val (.int (own_parL q0)), .val (.int (own_parL (own_e (own_T p4)))), .unset, .unset] [(.ref b_375)])) _
      refine XS.iload X381.here hx rfl (hb hby at_418) rfl ?_
      show Steps p.tables e below (T381.setTop (mkF m 420 #[.val (.long q0), .second, .val (.long q2), .second, .val (.int p4), .val (.int p5), .val (.ref b172), .val (.int (own_T p4)), .val (.int (2 : Int32)), .val (.long (own_e (own_T p4))), .second, .val (.ref b_372), .val (.ref b_373), .val (.ref b_375), .val (.int (own_parL q0)), .val (.int (own_parL (own_e (own_T p4)))), .unset, .unset] [(.int (2 : Int32)), (.ref b_375)])) _
      refine st382 _ ?_
      show Steps p.tables e below (T382.setTop (mkF m 423 #[.val (.long q0), .second, .val (.long q2), .second, .val (.int p4), .val (.int p5), .val (.ref b172), .val (.int (own_T p4)), .val (.int (2 : Int32)), .val (.long (own_e (own_T p4))), .second, .val (.ref b_372), .val (.ref b_373), .val (.ref b_375), .val (.int (own_parL q0)), .val (.int (own_parL (own_e (own_T p4)))), .unset, .unset] [(.int (own_parL (q0 ^^^ (own_e (own_T p4)))))])) _
      refine XS.istore X382.here hx rfl (hb hby at_423) rfl (l' := #[.val (.long q0), .second, .val (.long q2), .second, .val (.int p4), .val (.int p5), .val (.ref b172), .val (.int (own_T p4)), .val (.int (2 : Int32)), .val (.long (own_e (own_T p4))), .second, .val (.ref b_372), .val (.ref b_373), .val (.ref b_375), .val (.int (own_parL q0)), .val (.int (own_parL (own_e (own_T p4)))), .val (.int (own_parL (q0 ^^^ (own_e (own_T p4))))), .unset]) rfl ?_
      show Steps p.tables e below (T382.setTop (mkF m 425 #[.val (.long q0), .second, .val (.long q2), .second, .val (.int p4), .val (.int p5), .val (.ref b172), .val (.int (own_T p4)), .val (.int (2 : Int32)), .val (.long (own_e (own_T p4))), .second, .val (.ref b_372), .val (.ref b_373), .val (.ref b_375), .val (.int (own_parL q0)), .val (.int (own_parL (own_e (own_T p4)))), .val (.int (own_parL (q0 ^^^ (own_e (own_T p4))))), .unset] [])) _
      refine XS.aload X382.here hx rfl (hb hby at_425) rfl rfl ?_
      show Steps p.tables e below (T382.setTop (mkF m 427 #[.val (.long q0), .second, .val (.long q2), .second, .val (.int p4), .val (.int p5), .val (.ref b172), .val (.int (own_T p4)), .val (.int (2 : Int32)), .val (.long (own_e (own_T p4))), .second, .val (.ref b_372), .val (.ref b_373), .val (.ref b_375), .val (.int (own_parL q0)), .val (.int (own_parL (own_e (own_T p4)))), .val (.int (own_parL (q0 ^^^ (own_e (own_T p4))))), .unset] [(.ref b172)])) _
      refine XS.iload X382.here hx rfl (hb hby at_427) rfl ?_
      show Steps p.tables e below (T382.setTop (mkF m 429 #[.val (.long q0), .second, .val (.long q2), .second, .val (.int p4), .val (.int p5), .val (.ref b172), .val (.int (own_T p4)), .val (.int (2 : Int32)), .val (.long (own_e (own_T p4))), .second, .val (.ref b_372), .val (.ref b_373), .val (.ref b_375), .val (.int (own_parL q0)), .val (.int (own_parL (own_e (own_T p4)))), .val (.int (own_parL (q0 ^^^ (own_e (own_T p4))))), .unset] [(.int (own_T p4)), (.ref b172)])) _
      refine X382.iaload hx (j := (own_T p4)) (v := (.int (own_tabI.getD ((own_T p4)).toNatClampNeg 0))) (by rw [e382]; exact Ar383.1) (State.isArrayOf_alike hZ.alike Ar383.2.1) Ar383.2.2 hin383 hat383 (g := (mkF m 429 #[.val (.long q0), .second, .val (.long q2), .second, .val (.int p4), .val (.int p5), .val (.ref b172), .val (.int (own_T p4)), .val (.int (2 : Int32)), .val (.long (own_e (own_T p4))), .second, .val (.ref b_372), .val (.ref b_373), .val (.ref b_375), .val (.int (own_parL q0)), .val (.int (own_parL (own_e (own_T p4)))), .val (.int (own_parL (q0 ^^^ (own_e (own_T p4))))), .unset] [(.int (own_T p4)), (.ref b172)])) rfl rfl (hb hby at_429) _ ?_
      show Steps p.tables e below (T382.setTop (mkF m 430 #[.val (.long q0), .second, .val (.long q2), .second, .val (.int p4), .val (.int p5), .val (.ref b172), .val (.int (own_T p4)), .val (.int (2 : Int32)), .val (.long (own_e (own_T p4))), .second, .val (.ref b_372), .val (.ref b_373), .val (.ref b_375), .val (.int (own_parL q0)), .val (.int (own_parL (own_e (own_T p4)))), .val (.int (own_parL (q0 ^^^ (own_e (own_T p4))))), .unset] [(.int (own_tabI.getD ((own_T p4)).toNatClampNeg 0))])) _
      refine XS.iconst X382.here hx rfl (hb hby at_430) ?_
      show Steps p.tables e below (T382.setTop (mkF m 431 #[.val (.long q0), .second, .val (.long q2), .second, .val (.int p4), .val (.int p5), .val (.ref b172), .val (.int (own_T p4)), .val (.int (2 : Int32)), .val (.long (own_e (own_T p4))), .second, .val (.ref b_372), .val (.ref b_373), .val (.ref b_375), .val (.int (own_parL q0)), .val (.int (own_parL (own_e (own_T p4)))), .val (.int (own_parL (q0 ^^^ (own_e (own_T p4))))), .unset] [(.int (-1 : Int32)), (.int (own_tabI.getD ((own_T p4)).toNatClampNeg 0))])) _
      refine XS.ixor X382.here hx rfl (hb hby at_431) rfl ?_
      show Steps p.tables e below (T382.setTop (mkF m 432 #[.val (.long q0), .second, .val (.long q2), .second, .val (.int p4), .val (.int p5), .val (.ref b172), .val (.int (own_T p4)), .val (.int (2 : Int32)), .val (.long (own_e (own_T p4))), .second, .val (.ref b_372), .val (.ref b_373), .val (.ref b_375), .val (.int (own_parL q0)), .val (.int (own_parL (own_e (own_T p4)))), .val (.int (own_parL (q0 ^^^ (own_e (own_T p4))))), .unset] [(.int ((own_tabI.getD ((own_T p4)).toNatClampNeg 0) ^^^ (-1 : Int32)))])) _
      refine XS.bipush X382.here hx rfl (hb hby at_432) ?_
      show Steps p.tables e below (T382.setTop (mkF m 434 #[.val (.long q0), .second, .val (.long q2), .second, .val (.int p4), .val (.int p5), .val (.ref b172), .val (.int (own_T p4)), .val (.int (2 : Int32)), .val (.long (own_e (own_T p4))), .second, .val (.ref b_372), .val (.ref b_373), .val (.ref b_375), .val (.int (own_parL q0)), .val (.int (own_parL (own_e (own_T p4)))), .val (.int (own_parL (q0 ^^^ (own_e (own_T p4))))), .unset] [(.int (127 : Int32)), (.int ((own_tabI.getD ((own_T p4)).toNatClampNeg 0) ^^^ (-1 : Int32)))])) _
      refine XS.iand X382.here hx rfl (hb hby at_434) rfl ?_
      show Steps p.tables e below (T382.setTop (mkF m 435 #[.val (.long q0), .second, .val (.long q2), .second, .val (.int p4), .val (.int p5), .val (.ref b172), .val (.int (own_T p4)), .val (.int (2 : Int32)), .val (.long (own_e (own_T p4))), .second, .val (.ref b_372), .val (.ref b_373), .val (.ref b_375), .val (.int (own_parL q0)), .val (.int (own_parL (own_e (own_T p4)))), .val (.int (own_parL (q0 ^^^ (own_e (own_T p4))))), .unset] [(.int (((own_tabI.getD ((own_T p4)).toNatClampNeg 0) ^^^ (-1 : Int32)) &&& (127 : Int32)))])) _
      refine XS.iconst X382.here hx rfl (hb hby at_435) ?_
      show Steps p.tables e below (T382.setTop (mkF m 436 #[.val (.long q0), .second, .val (.long q2), .second, .val (.int p4), .val (.int p5), .val (.ref b172), .val (.int (own_T p4)), .val (.int (2 : Int32)), .val (.long (own_e (own_T p4))), .second, .val (.ref b_372), .val (.ref b_373), .val (.ref b_375), .val (.int (own_parL q0)), .val (.int (own_parL (own_e (own_T p4)))), .val (.int (own_parL (q0 ^^^ (own_e (own_T p4))))), .unset] [(.int (1 : Int32)), (.int (((own_tabI.getD ((own_T p4)).toNatClampNeg 0) ^^^ (-1 : Int32)) &&& (127 : Int32)))])) _
      refine XS.ishl X382.here hx rfl (hb hby at_436) rfl ?_
      show Steps p.tables e below (T382.setTop (mkF m 437 #[.val (.long q0), .second, .val (.long q2), .second, .val (.int p4), .val (.int p5), .val (.ref b172), .val (.int (own_T p4)), .val (.int (2 : Int32)), .val (.long (own_e (own_T p4))), .second, .val (.ref b_372), .val (.ref b_373), .val (.ref b_375), .val (.int (own_parL q0)), .val (.int (own_parL (own_e (own_T p4)))), .val (.int (own_parL (q0 ^^^ (own_e (own_T p4))))), .unset] [(.int ((((own_tabI.getD ((own_T p4)).toNatClampNeg 0) ^^^ (-1 : Int32)) &&& (127 : Int32)) <<< ((1 : Int32) &&& 31)))])) _
      refine XS.istore X382.here hx rfl (hb hby at_437) rfl (l' := #[.val (.long q0), .second, .val (.long q2), .second, .val (.int p4), .val (.int p5), .val (.ref b172), .val (.int (own_T p4)), .val (.int (2 : Int32)), .val (.long (own_e (own_T p4))), .second, .val (.ref b_372), .val (.ref b_373), .val (.ref b_375), .val (.int (own_parL q0)), .val (.int (own_parL (own_e (own_T p4)))), .val (.int (own_parL (q0 ^^^ (own_e (own_T p4))))), .val (.int ((((own_tabI.getD ((own_T p4)).toNatClampNeg 0) ^^^ (-1 : Int32)) &&& (127 : Int32)) <<< ((1 : Int32) &&& 31)))]) rfl ?_
      show Steps p.tables e below (T382.setTop (mkF m 439 #[.val (.long q0), .second, .val (.long q2), .second, .val (.int p4), .val (.int p5), .val (.ref b172), .val (.int (own_T p4)), .val (.int (2 : Int32)), .val (.long (own_e (own_T p4))), .second, .val (.ref b_372), .val (.ref b_373), .val (.ref b_375), .val (.int (own_parL q0)), .val (.int (own_parL (own_e (own_T p4)))), .val (.int (own_parL (q0 ^^^ (own_e (own_T p4))))), .val (.int ((((own_tabI.getD ((own_T p4)).toNatClampNeg 0) ^^^ (-1 : Int32)) &&& (127 : Int32)) <<< ((1 : Int32) &&& 31)))] [])) _
      refine XS.iload X382.here hx rfl (hb hby at_439) rfl ?_
      show Steps p.tables e below (T382.setTop (mkF m 441 #[.val (.long q0), .second, .val (.long q2), .second, .val (.int p4), .val (.int p5), .val (.ref b172), .val (.int (own_T p4)), .val (.int (2 : Int32)), .val (.long (own_e (own_T p4))), .second, .val (.ref b_372), .val (.ref b_373), .val (.ref b_375), .val (.int (own_parL q0)), .val (.int (own_parL (own_e (own_T p4)))), .val (.int (own_parL (q0 ^^^ (own_e (own_T p4))))), .val (.int ((((own_tabI.getD ((own_T p4)).toNatClampNeg 0) ^^^ (-1 : Int32)) &&& (127 : Int32)) <<< ((1 : Int32) &&& 31)))] [(.int (own_parL (own_e (own_T p4))))])) _
      refine XS.iload X382.here hx rfl (hb hby at_441) rfl ?_
      show Steps p.tables e below (T382.setTop (mkF m 443 #[.val (.long q0), .second, .val (.long q2), .second, .val (.int p4), .val (.int p5), .val (.ref b172), .val (.int (own_T p4)), .val (.int (2 : Int32)), .val (.long (own_e (own_T p4))), .second, .val (.ref b_372), .val (.ref b_373), .val (.ref b_375), .val (.int (own_parL q0)), .val (.int (own_parL (own_e (own_T p4)))), .val (.int (own_parL (q0 ^^^ (own_e (own_T p4))))), .val (.int ((((own_tabI.getD ((own_T p4)).toNatClampNeg 0) ^^^ (-1 : Int32)) &&& (127 : Int32)) <<< ((1 : Int32) &&& 31)))] [(.int ((((own_tabI.getD ((own_T p4)).toNatClampNeg 0) ^^^ (-1 : Int32)) &&& (127 : Int32)) <<< ((1 : Int32) &&& 31))), (.int (own_parL (own_e (own_T p4))))])) _
      refine XS.icmpNo X382.here hx rfl (hb hby at_443) rfl (teq hc443_385).2 ?_
      show Steps p.tables e below (T382.setTop (mkF m 446 #[.val (.long q0), .second, .val (.long q2), .second, .val (.int p4), .val (.int p5), .val (.ref b172), .val (.int (own_T p4)), .val (.int (2 : Int32)), .val (.long (own_e (own_T p4))), .second, .val (.ref b_372), .val (.ref b_373), .val (.ref b_375), .val (.int (own_parL q0)), .val (.int (own_parL (own_e (own_T p4)))), .val (.int (own_parL (q0 ^^^ (own_e (own_T p4))))), .val (.int ((((own_tabI.getD ((own_T p4)).toNatClampNeg 0) ^^^ (-1 : Int32)) &&& (127 : Int32)) <<< ((1 : Int32) &&& 31)))] [])) _
      refine XS.iload X382.here hx rfl (hb hby at_446) rfl ?_
      show Steps p.tables e below (T382.setTop (mkF m 448 #[.val (.long q0), .second, .val (.long q2), .second, .val (.int p4), .val (.int p5), .val (.ref b172), .val (.int (own_T p4)), .val (.int (2 : Int32)), .val (.long (own_e (own_T p4))), .second, .val (.ref b_372), .val (.ref b_373), .val (.ref b_375), .val (.int (own_parL q0)), .val (.int (own_parL (own_e (own_T p4)))), .val (.int (own_parL (q0 ^^^ (own_e (own_T p4))))), .val (.int ((((own_tabI.getD ((own_T p4)).toNatClampNeg 0) ^^^ (-1 : Int32)) &&& (127 : Int32)) <<< ((1 : Int32) &&& 31)))] [(.int (own_parL (q0 ^^^ (own_e (own_T p4)))))])) _
      refine XS.iload X382.here hx rfl (hb hby at_448) rfl ?_
      show Steps p.tables e below (T382.setTop (mkF m 450 #[.val (.long q0), .second, .val (.long q2), .second, .val (.int p4), .val (.int p5), .val (.ref b172), .val (.int (own_T p4)), .val (.int (2 : Int32)), .val (.long (own_e (own_T p4))), .second, .val (.ref b_372), .val (.ref b_373), .val (.ref b_375), .val (.int (own_parL q0)), .val (.int (own_parL (own_e (own_T p4)))), .val (.int (own_parL (q0 ^^^ (own_e (own_T p4))))), .val (.int ((((own_tabI.getD ((own_T p4)).toNatClampNeg 0) ^^^ (-1 : Int32)) &&& (127 : Int32)) <<< ((1 : Int32) &&& 31)))] [(.int (own_parL q0)), (.int (own_parL (q0 ^^^ (own_e (own_T p4)))))])) _
      refine XS.iload X382.here hx rfl (hb hby at_450) rfl ?_
      show Steps p.tables e below (T382.setTop (mkF m 452 #[.val (.long q0), .second, .val (.long q2), .second, .val (.int p4), .val (.int p5), .val (.ref b172), .val (.int (own_T p4)), .val (.int (2 : Int32)), .val (.long (own_e (own_T p4))), .second, .val (.ref b_372), .val (.ref b_373), .val (.ref b_375), .val (.int (own_parL q0)), .val (.int (own_parL (own_e (own_T p4)))), .val (.int (own_parL (q0 ^^^ (own_e (own_T p4))))), .val (.int ((((own_tabI.getD ((own_T p4)).toNatClampNeg 0) ^^^ (-1 : Int32)) &&& (127 : Int32)) <<< ((1 : Int32) &&& 31)))] [(.int (own_parL (own_e (own_T p4)))), (.int (own_parL q0)), (.int (own_parL (q0 ^^^ (own_e (own_T p4)))))])) _
      refine XS.ixor X382.here hx rfl (hb hby at_452) rfl ?_
      show Steps p.tables e below (T382.setTop (mkF m 453 #[.val (.long q0), .second, .val (.long q2), .second, .val (.int p4), .val (.int p5), .val (.ref b172), .val (.int (own_T p4)), .val (.int (2 : Int32)), .val (.long (own_e (own_T p4))), .second, .val (.ref b_372), .val (.ref b_373), .val (.ref b_375), .val (.int (own_parL q0)), .val (.int (own_parL (own_e (own_T p4)))), .val (.int (own_parL (q0 ^^^ (own_e (own_T p4))))), .val (.int ((((own_tabI.getD ((own_T p4)).toNatClampNeg 0) ^^^ (-1 : Int32)) &&& (127 : Int32)) <<< ((1 : Int32) &&& 31)))] [(.int ((own_parL q0) ^^^ (own_parL (own_e (own_T p4))))), (.int (own_parL (q0 ^^^ (own_e (own_T p4)))))])) _
      refine XS.sipush X382.here hx rfl (hb hby at_453) ?_
      show Steps p.tables e below (T382.setTop (mkF m 456 #[.val (.long q0), .second, .val (.long q2), .second, .val (.int p4), .val (.int p5), .val (.ref b172), .val (.int (own_T p4)), .val (.int (2 : Int32)), .val (.long (own_e (own_T p4))), .second, .val (.ref b_372), .val (.ref b_373), .val (.ref b_375), .val (.int (own_parL q0)), .val (.int (own_parL (own_e (own_T p4)))), .val (.int (own_parL (q0 ^^^ (own_e (own_T p4))))), .val (.int ((((own_tabI.getD ((own_T p4)).toNatClampNeg 0) ^^^ (-1 : Int32)) &&& (127 : Int32)) <<< ((1 : Int32) &&& 31)))] [(.int (254 : Int32)), (.int ((own_parL q0) ^^^ (own_parL (own_e (own_T p4))))), (.int (own_parL (q0 ^^^ (own_e (own_T p4)))))])) _
      refine XS.ixor X382.here hx rfl (hb hby at_456) rfl ?_
      show Steps p.tables e below (T382.setTop (mkF m 457 #[.val (.long q0), .second, .val (.long q2), .second, .val (.int p4), .val (.int p5), .val (.ref b172), .val (.int (own_T p4)), .val (.int (2 : Int32)), .val (.long (own_e (own_T p4))), .second, .val (.ref b_372), .val (.ref b_373), .val (.ref b_375), .val (.int (own_parL q0)), .val (.int (own_parL (own_e (own_T p4)))), .val (.int (own_parL (q0 ^^^ (own_e (own_T p4))))), .val (.int ((((own_tabI.getD ((own_T p4)).toNatClampNeg 0) ^^^ (-1 : Int32)) &&& (127 : Int32)) <<< ((1 : Int32) &&& 31)))] [(.int (((own_parL q0) ^^^ (own_parL (own_e (own_T p4)))) ^^^ (254 : Int32))), (.int (own_parL (q0 ^^^ (own_e (own_T p4)))))])) _
      refine XS.icmpNo X382.here hx rfl (hb hby at_457) rfl (teq hc457_386).2 ?_
      show Steps p.tables e below (T382.setTop (mkF m 460 #[.val (.long q0), .second, .val (.long q2), .second, .val (.int p4), .val (.int p5), .val (.ref b172), .val (.int (own_T p4)), .val (.int (2 : Int32)), .val (.long (own_e (own_T p4))), .second, .val (.ref b_372), .val (.ref b_373), .val (.ref b_375), .val (.int (own_parL q0)), .val (.int (own_parL (own_e (own_T p4)))), .val (.int (own_parL (q0 ^^^ (own_e (own_T p4))))), .val (.int ((((own_tabI.getD ((own_T p4)).toNatClampNeg 0) ^^^ (-1 : Int32)) &&& (127 : Int32)) <<< ((1 : Int32) &&& 31)))] [])) _
      refine XS.iconst X382.here hx rfl (hb hby at_460) ?_
      show Steps p.tables e below (T382.setTop (mkF m 461 #[.val (.long q0), .second, .val (.long q2), .second, .val (.int p4), .val (.int p5), .val (.ref b172), .val (.int (own_T p4)), .val (.int (2 : Int32)), .val (.long (own_e (own_T p4))), .second, .val (.ref b_372), .val (.ref b_373), .val (.ref b_375), .val (.int (own_parL q0)), .val (.int (own_parL (own_e (own_T p4)))), .val (.int (own_parL (q0 ^^^ (own_e (own_T p4))))), .val (.int ((((own_tabI.getD ((own_T p4)).toNatClampNeg 0) ^^^ (-1 : Int32)) &&& (127 : Int32)) <<< ((1 : Int32) &&& 31)))] [(.int (1 : Int32))])) _
      refine XS.goto X382.here hx rfl (pc0 := 461) (pc' := 465) rfl (hb hby at_461) (by decide) (by decide) ?_
      show Steps p.tables e below (T382.setTop (mkF m 465 #[.val (.long q0), .second, .val (.long q2), .second, .val (.int p4), .val (.int p5), .val (.ref b172), .val (.int (own_T p4)), .val (.int (2 : Int32)), .val (.long (own_e (own_T p4))), .second, .val (.ref b_372), .val (.ref b_373), .val (.ref b_375), .val (.int (own_parL q0)), .val (.int (own_parL (own_e (own_T p4)))), .val (.int (own_parL (q0 ^^^ (own_e (own_T p4))))), .val (.int ((((own_tabI.getD ((own_T p4)).toNatClampNeg 0) ^^^ (-1 : Int32)) &&& (127 : Int32)) <<< ((1 : Int32) &&& 31)))] [(.int (1 : Int32))])) _
      exact retN X382 hx (t := .boolean) Bd.returns (by simp) (hb hby at_465) hr
    · show Q0 Z q0 q2 p4 p5 h0 n0 _ T382.heap _
      rw [e382]
      exact ⟨rfl, N382⟩
  · obtain ⟨_, _, ⟨T387, L387, k387, n387⟩, -, X387, ⟨Lc387, hQ387, l387, y387, z387⟩, st387⟩ := Jvm.LawKit.callS XX339 hx (y := (⟨"com/example/linkbook/linkbook/coding/BchParityOctetPinLaw", "build", "(JJI)[B"⟩ : MethodName)) hown (mvT hZ (hw _ (List.mem_of_getElem? (i := 2) rfl))) (mvT hZ (hw _ (List.mem_of_getElem? (i := 3) rfl))) (mvT hZ (hw _ (List.mem_of_getElem? (i := 4) rfl))) (mvT hZ (hw _ (List.mem_of_getElem? (i := 5) rfl))) (by decide) (backOf (W := 0) (rm1_3 l Z a0 hw [] q0 q2 h339 n0 (Nat.le_trans Z0 K339.1) ) hZ (hw _ (List.mem_of_getElem? (i := 5) rfl)) (hw _ (List.mem_of_getElem? (i := 4) rfl)) (by decide) (by decide)) (g := (mkF m 365 #[.val (.long q0), .second, .val (.long q2), .second, .val (.int p4), .val (.int p5), .val (.ref b172), .val (.int (own_T p4)), .val (.int (3 : Int32)), .val (.long (own_e (own_T p4))), .second, .unset, .unset, .unset, .unset, .unset, .unset, .unset] [(.int (3 : Int32)), (.long q2), (.long q0)])) rfl (by rw [hml]; rfl) (argsL := [(.long q0), (.long q2), (.int (3 : Int32))]) (rest := []) (lenOf own_pd0 rfl) rfl (by show 2 * 0 + _ ≤ _; exact Nat.le_of_eq rfl) (hb hby at_365) (fun _ _ => ⟨rfl, e339, (by decide : 1 + 1 ≤ _), (by decide : 56 + 10 ≤ _)⟩)
    dsimp only [Pt.U, Pt.locs, Pt.cells, Pt.slots] at X387 l387 y387 z387 st387 hQ387
    subst l387 y387 z387
    obtain ⟨b_387, k_387, rfl, N387q, i387_4, i387_5, i387_6⟩ := hQ387
    have N387 := Fr.app NN339 N387q
    have ne_b172_b_387 : b172 ≠ b_387 := Nat.ne_of_lt (Nat.lt_of_lt_of_le V339.lt i387_5)
    have gg_b_387 : n0 ≤ b_387 := Nat.le_trans (Nat.le_trans Z0 K339.1) i387_5
    have sz_b_387 : h0.size ≤ b_387 := Nat.le_trans K339.1 i387_5
    have K387 := K339.trans i387_4 all0
    obtain ⟨_, _, ⟨T388, L388, k388, n388⟩, -, X388, ⟨Lc388, hQ388, l388, y388, z388⟩, st388⟩ := Jvm.LawKit.callS X387 hx (y := (⟨"com/example/linkbook/linkbook/coding/BchParityOctetPinLaw", "build", "(JJI)[B"⟩ : MethodName)) hown (mvT hZ (hw _ (List.mem_of_getElem? (i := 2) rfl))) (mvT hZ (hw _ (List.mem_of_getElem? (i := 3) rfl))) (mvT hZ (hw _ (List.mem_of_getElem? (i := 4) rfl))) (mvT hZ (hw _ (List.mem_of_getElem? (i := 5) rfl))) (by decide) (backOf (W := 0) (rm1_3 l Z a0 hw [] (own_e (own_T p4)) (q2 ^^^ (-1 : Int64)) T387.heap n0 (Nat.le_trans Z0 K387.1) ) hZ (hw _ (List.mem_of_getElem? (i := 5) rfl)) (hw _ (List.mem_of_getElem? (i := 4) rfl)) (by decide) (by decide)) (g := (mkF m 379 #[.val (.long q0), .second, .val (.long q2), .second, .val (.int p4), .val (.int p5), .val (.ref b172), .val (.int (own_T p4)), .val (.int (3 : Int32)), .val (.long (own_e (own_T p4))), .second, .val (.ref b_387), .unset, .unset, .unset, .unset, .unset, .unset] [(.int (3 : Int32)), (.long (q2 ^^^ (-1 : Int64))), (.long (own_e (own_T p4)))])) rfl (by rw [hml]; rfl) (argsL := [(.long (own_e (own_T p4))), (.long (q2 ^^^ (-1 : Int64))), (.int (3 : Int32))]) (rest := []) (lenOf own_pd0 rfl) rfl (by show 2 * 0 + _ ≤ _; exact Nat.le_of_eq rfl) (hb hby at_379) (fun _ _ => ⟨rfl, rfl, (by decide : 2 + 1 ≤ _), (by decide : 66 + 10 ≤ _)⟩)
    dsimp only [Pt.U, Pt.locs, Pt.cells, Pt.slots] at X388 l388 y388 z388 st388 hQ388
    subst l388 y388 z388
    obtain ⟨b_388, k_388, rfl, N388q, i388_4, i388_5, i388_6⟩ := hQ388
    have N388 := Fr.app N387 N388q
    have Q389 := (V339.keep i387_4 nin0)
    have ne_b172_b_388 : b172 ≠ b_388 := Nat.ne_of_lt (Nat.lt_of_lt_of_le Q389.lt i388_5)
    have ne_b_387_b_388 : b_387 ≠ b_388 := Nat.ne_of_lt (Nat.lt_of_lt_of_le i387_6.lt i388_5)
    have gg_b_388 : n0 ≤ b_388 := Nat.le_trans (Nat.le_trans Z0 K387.1) i388_5
    have sz_b_388 : h0.size ≤ b_388 := Nat.le_trans K387.1 i388_5
    have K388 := K387.trans i388_4 all0
    obtain ⟨_, _, ⟨T390, L390, k390, n390⟩, -, X390, ⟨Lc390, hQ390, l390, y390, z390⟩, st390⟩ := Jvm.LawKit.callS X388 hx (y := (⟨"com/example/linkbook/linkbook/coding/BchParityOctetPinLaw", "build", "(JJI)[B"⟩ : MethodName)) hown (mvT hZ (hw _ (List.mem_of_getElem? (i := 2) rfl))) (mvT hZ (hw _ (List.mem_of_getElem? (i := 3) rfl))) (mvT hZ (hw _ (List.mem_of_getElem? (i := 4) rfl))) (mvT hZ (hw _ (List.mem_of_getElem? (i := 5) rfl))) (by decide) (backOf (W := 0) (rm1_3 l Z a0 hw [] (q0 ^^^ (own_e (own_T p4))) (q2 ^^^ q0) T388.heap n0 (Nat.le_trans Z0 K388.1) ) hZ (hw _ (List.mem_of_getElem? (i := 5) rfl)) (hw _ (List.mem_of_getElem? (i := 4) rfl)) (by decide) (by decide)) (g := (mkF m 393 #[.val (.long q0), .second, .val (.long q2), .second, .val (.int p4), .val (.int p5), .val (.ref b172), .val (.int (own_T p4)), .val (.int (3 : Int32)), .val (.long (own_e (own_T p4))), .second, .val (.ref b_387), .val (.ref b_388), .unset, .unset, .unset, .unset, .unset] [(.int (3 : Int32)), (.long (q2 ^^^ q0)), (.long (q0 ^^^ (own_e (own_T p4))))])) rfl (by rw [hml]; rfl) (argsL := [(.long (q0 ^^^ (own_e (own_T p4)))), (.long (q2 ^^^ q0)), (.int (3 : Int32))]) (rest := []) (lenOf own_pd0 rfl) rfl (by show 2 * 0 + _ ≤ _; exact Nat.le_of_eq rfl) (hb hby at_393) (fun _ _ => ⟨rfl, rfl, (by decide : 3 + 1 ≤ _), (by decide : 76 + 10 ≤ _)⟩)
    dsimp only [Pt.U, Pt.locs, Pt.cells, Pt.slots] at X390 l390 y390 z390 st390 hQ390
    subst l390 y390 z390
    obtain ⟨b_390, k_390, rfl, N390q, i390_4, i390_5, i390_6⟩ := hQ390
    have N390 := Fr.app N388 N390q
    have Q391 := (Q389.keep i388_4 nin0)
    have ne_b172_b_390 : b172 ≠ b_390 := Nat.ne_of_lt (Nat.lt_of_lt_of_le Q391.lt i390_5)
    have Q392 := (i387_6.keep i388_4 nin0)
    have ne_b_387_b_390 : b_387 ≠ b_390 := Nat.ne_of_lt (Nat.lt_of_lt_of_le Q392.lt i390_5)
    have ne_b_388_b_390 : b_388 ≠ b_390 := Nat.ne_of_lt (Nat.lt_of_lt_of_le i388_6.lt i390_5)
    have gg_b_390 : n0 ≤ b_390 := Nat.le_trans (Nat.le_trans Z0 K388.1) i390_5
    have sz_b_390 : h0.size ≤ b_390 := Nat.le_trans K388.1 i390_5
    have K390 := K388.trans i390_4 all0
    have Q393 := (Q392.keep i390_4 nin0)
    obtain ⟨_, _, ⟨T394, L394, k394, n394⟩, -, X394, ⟨Lc394, hQ394, l394, y394, z394⟩, st394⟩ := Jvm.LawKit.callS X390 hx (y := (⟨"com/example/linkbook/linkbook/coding/Bch", "parityOctet", "([BI)I"⟩ : MethodName)) hown (mvT hZ (hw _ (List.mem_of_getElem? (i := 8) rfl))) (mvT hZ (hw _ (List.mem_of_getElem? (i := 9) rfl))) (mvT hZ (hw _ (List.mem_of_getElem? (i := 10) rfl))) (mvT hZ (hw _ (List.mem_of_getElem? (i := 11) rfl))) (by decide) (backOf (W := 0) (rm2_3 l Z a0 hw [] b_387 k_387 (own_by0 q2) (own_by q2 (8 : Int32)) (own_by q2 (16 : Int32)) (own_by q0 (48 : Int32)) (own_by q0 (40 : Int32)) (own_by q0 (32 : Int32)) (own_by q0 (24 : Int32)) (own_by q0 (16 : Int32)) (own_by q0 (8 : Int32)) (own_by0 q0) T390.heap n0 (Nat.le_trans Z0 K390.1) Q393) hZ (hw _ (List.mem_of_getElem? (i := 11) rfl)) (hw _ (List.mem_of_getElem? (i := 10) rfl)) (by decide) (by decide)) (g := (mkF m 402 #[.val (.long q0), .second, .val (.long q2), .second, .val (.int p4), .val (.int p5), .val (.ref b172), .val (.int (own_T p4)), .val (.int (3 : Int32)), .val (.long (own_e (own_T p4))), .second, .val (.ref b_387), .val (.ref b_388), .val (.ref b_390), .unset, .unset, .unset, .unset] [(.int (3 : Int32)), (.ref b_387)])) rfl (by rw [hml]; rfl) (argsL := [(.ref b_387), (.int (3 : Int32))]) (rest := []) (lenOf own_pd1 rfl) rfl (by show 2 * 0 + _ ≤ _; exact Nat.le_of_eq rfl) (hb hby at_402) (fun _ _ => ⟨rfl, rfl, (by decide : 4 + 0 ≤ _), (by decide : 86 + 0 ≤ _)⟩)
    dsimp only [Pt.U, Pt.locs, Pt.cells, Pt.slots] at X394 l394 y394 z394 st394 hQ394
    subst l394 y394 z394
    obtain ⟨rfl, N394q, e394⟩ := hQ394
    have N394 := Fr.app N390 N394q
    have Q395 := (i388_6.keep i390_4 nin0)
    obtain ⟨_, _, ⟨T396, L396, k396, n396⟩, -, X396, ⟨Lc396, hQ396, l396, y396, z396⟩, st396⟩ := Jvm.LawKit.callS X394 hx (y := (⟨"com/example/linkbook/linkbook/coding/Bch", "parityOctet", "([BI)I"⟩ : MethodName)) hown (mvT hZ (hw _ (List.mem_of_getElem? (i := 8) rfl))) (mvT hZ (hw _ (List.mem_of_getElem? (i := 9) rfl))) (mvT hZ (hw _ (List.mem_of_getElem? (i := 10) rfl))) (mvT hZ (hw _ (List.mem_of_getElem? (i := 11) rfl))) (by decide) (backOf (W := 0) (rm2_3 l Z a0 hw [] b_388 k_388 (own_by0 (q2 ^^^ (-1 : Int64))) (own_by (q2 ^^^ (-1 : Int64)) (8 : Int32)) (own_by (q2 ^^^ (-1 : Int64)) (16 : Int32)) (own_by (own_e (own_T p4)) (48 : Int32)) (own_by (own_e (own_T p4)) (40 : Int32)) (own_by (own_e (own_T p4)) (32 : Int32)) (own_by (own_e (own_T p4)) (24 : Int32)) (own_by (own_e (own_T p4)) (16 : Int32)) (own_by (own_e (own_T p4)) (8 : Int32)) (own_by0 (own_e (own_T p4))) T390.heap n0 (Nat.le_trans Z0 K390.1) Q395) hZ (hw _ (List.mem_of_getElem? (i := 11) rfl)) (hw _ (List.mem_of_getElem? (i := 10) rfl)) (by decide) (by decide)) (g := (mkF m 411 #[.val (.long q0), .second, .val (.long q2), .second, .val (.int p4), .val (.int p5), .val (.ref b172), .val (.int (own_T p4)), .val (.int (3 : Int32)), .val (.long (own_e (own_T p4))), .second, .val (.ref b_387), .val (.ref b_388), .val (.ref b_390), .val (.int (own_parL q0)), .unset, .unset, .unset] [(.int (3 : Int32)), (.ref b_388)])) rfl (by rw [hml]; rfl) (argsL := [(.ref b_388), (.int (3 : Int32))]) (rest := []) (lenOf own_pd1 rfl) rfl (by show 2 * 0 + _ ≤ _; exact Nat.le_of_eq rfl) (hb hby at_411) (fun _ _ => ⟨rfl, e394, (by decide : 4 + 0 ≤ _), (by decide : 86 + 0 ≤ _)⟩)
    dsimp only [Pt.U, Pt.locs, Pt.cells, Pt.slots] at X396 l396 y396 z396 st396 hQ396
    subst l396 y396 z396
    obtain ⟨rfl, N396q, e396⟩ := hQ396
    have N396 := Fr.app N394 N396q
    obtain ⟨_, _, ⟨T397, L397, k397, n397⟩, -, X397, ⟨Lc397, hQ397, l397, y397, z397⟩, st397⟩ := Jvm.LawKit.callS X396 hx (y := (⟨"com/example/linkbook/linkbook/coding/Bch", "parityOctet", "([BI)I"⟩ : MethodName)) hown (mvT hZ (hw _ (List.mem_of_getElem? (i := 8) rfl))) (mvT hZ (hw _ (List.mem_of_getElem? (i := 9) rfl))) (mvT hZ (hw _ (List.mem_of_getElem? (i := 10) rfl))) (mvT hZ (hw _ (List.mem_of_getElem? (i := 11) rfl))) (by decide) (backOf (W := 0) (rm2_3 l Z a0 hw [] b_390 k_390 (own_by0 (q2 ^^^ q0)) (own_by (q2 ^^^ q0) (8 : Int32)) (own_by (q2 ^^^ q0) (16 : Int32)) (own_by (q0 ^^^ (own_e (own_T p4))) (48 : Int32)) (own_by (q0 ^^^ (own_e (own_T p4))) (40 : Int32)) (own_by (q0 ^^^ (own_e (own_T p4))) (32 : Int32)) (own_by (q0 ^^^ (own_e (own_T p4))) (24 : Int32)) (own_by (q0 ^^^ (own_e (own_T p4))) (16 : Int32)) (own_by (q0 ^^^ (own_e (own_T p4))) (8 : Int32)) (own_by0 (q0 ^^^ (own_e (own_T p4)))) T390.heap n0 (Nat.le_trans Z0 K390.1) i390_6) hZ (hw _ (List.mem_of_getElem? (i := 11) rfl)) (hw _ (List.mem_of_getElem? (i := 10) rfl)) (by decide) (by decide)) (g := (mkF m 420 #[.val (.long q0), .second, .val (.long q2), .second, .val (.int p4), .val (.int p5), .val (.ref b172), .val (.int (own_T p4)), .val (.int (3 : Int32)), .val (.long (own_e (own_T p4))), .second, .val (.ref b_387), .val (.ref b_388), .val (.ref b_390), .val (.int (own_parL q0)), .val (.int (own_parL (own_e (own_T p4)))), .unset, .unset] [(.int (3 : Int32)), (.ref b_390)])) rfl (by rw [hml]; rfl) (argsL := [(.ref b_390), (.int (3 : Int32))]) (rest := []) (lenOf own_pd1 rfl) rfl (by show 2 * 0 + _ ≤ _; exact Nat.le_of_eq rfl) (hb hby at_420) (fun _ _ => ⟨rfl, e396, (by decide : 4 + 0 ≤ _), (by decide : 86 + 0 ≤ _)⟩)
    dsimp only [Pt.U, Pt.locs, Pt.cells, Pt.slots] at X397 l397 y397 z397 st397 hQ397
    subst l397 y397 z397
    obtain ⟨rfl, N397q, e397⟩ := hQ397
    have N397 := Fr.app N396 N397q
    have Q399 := (Q391.keep i390_4 nin0)
    obtain ⟨cl398, Ar398, q398, S398, M398, H398, G398⟩ := id Q399
    have hin398 : ¬ ((own_T p4) < 0 ∨ cl398.slots.size ≤ ((own_T p4)).toNatClampNeg) := inb_of S398 (own_t p4)
    have hat398 : cl398.slots[((own_T p4)).toNatClampNeg]? = some (.int (own_tabI.getD ((own_T p4)).toNatClampNeg 0)) := Has.at H398 hin398 (own_getT _)
    have hc443_400 : (own_parL (own_e (own_T p4))) = ((((own_tabI.getD ((own_T p4)).toNatClampNeg 0) ^^^ (-1 : Int32)) &&& (127 : Int32)) <<< ((1 : Int32) &&& 31)) := own_tabT _ (own_t p4)
    have hc457_401 : (own_parL (q0 ^^^ (own_e (own_T p4)))) = (((own_parL q0) ^^^ (own_parL (own_e (own_T p4)))) ^^^ (254 : Int32)) := own_parL_xor _ _
    obtain ⟨fs, hr, hrun, hended, hW, hsame⟩ := X397.leave (v := some (.int (1 : Int32))) (fun h => by rw [Bd.returns] at h; cases h)
    refine ⟨_, _, pre341 _ ?_, hrun, hended, _, _, rfl, ?_, ⟨_, rfl⟩, hW, hsame.mono (by decide) (by decide)⟩
    · show Steps p.tables e below (T339.setTop (mkF m 352 #[.val (.long q0), .second, .val (.long q2), .second, .val (.int p4), .val (.int p5), .val (.ref b172), .val (.int (own_T p4)), .val (.int (p5 &&& (3 : Int32))), .unset, .unset, .unset, .unset, .unset, .unset, .unset, .unset, .unset] [])) _
      rw [hk]
      show Steps p.tables e below (T339.setTop (mkF m 352 #[.val (.long q0), .second, .val (.long q2), .second, .val (.int p4), .val (.int p5), .val (.ref b172), .val (.int (own_T p4)), .val (.int (3 : Int32)), .unset, .unset, .unset, .unset, .unset, .unset, .unset, .unset, .unset] [])) _
      refine XS.lconst XX339.here hx rfl (hb hby at_352) ?_
      show Steps p.tables e below (T339.setTop (mkF m 353 #[.val (.long q0), .second, .val (.long q2), .second, .val (.int p4), .val (.int p5), .val (.ref b172), .val (.int (own_T p4)), .val (.int (3 : Int32)), .unset, .unset, .unset, .unset, .unset, .unset, .unset, .unset, .unset] [(.long (1 : Int64))])) _
      refine XS.bipush XX339.here hx rfl (hb hby at_353) ?_
      show Steps p.tables e below (T339.setTop (mkF m 355 #[.val (.long q0), .second, .val (.long q2), .second, .val (.int p4), .val (.int p5), .val (.ref b172), .val (.int (own_T p4)), .val (.int (3 : Int32)), .unset, .unset, .unset, .unset, .unset, .unset, .unset, .unset, .unset] [(.int (55 : Int32)), (.long (1 : Int64))])) _
      refine XS.iload XX339.here hx rfl (hb hby at_355) rfl ?_
      show Steps p.tables e below (T339.setTop (mkF m 357 #[.val (.long q0), .second, .val (.long q2), .second, .val (.int p4), .val (.int p5), .val (.ref b172), .val (.int (own_T p4)), .val (.int (3 : Int32)), .unset, .unset, .unset, .unset, .unset, .unset, .unset, .unset, .unset] [(.int (own_T p4)), (.int (55 : Int32)), (.long (1 : Int64))])) _
      refine XS.isub XX339.here hx rfl (hb hby at_357) rfl ?_
      show Steps p.tables e below (T339.setTop (mkF m 358 #[.val (.long q0), .second, .val (.long q2), .second, .val (.int p4), .val (.int p5), .val (.ref b172), .val (.int (own_T p4)), .val (.int (3 : Int32)), .unset, .unset, .unset, .unset, .unset, .unset, .unset, .unset, .unset] [(.int ((55 : Int32) - (own_T p4))), (.long (1 : Int64))])) _
      refine XS.lshl XX339.here hx rfl (hb hby at_358) rfl ?_
      show Steps p.tables e below (T339.setTop (mkF m 359 #[.val (.long q0), .second, .val (.long q2), .second, .val (.int p4), .val (.int p5), .val (.ref b172), .val (.int (own_T p4)), .val (.int (3 : Int32)), .unset, .unset, .unset, .unset, .unset, .unset, .unset, .unset, .unset] [(.long ((1 : Int64) <<< (((55 : Int32) - (own_T p4)) &&& 0x3f).toInt64))])) _
      refine XS.lstore XX339.here hx rfl (hb hby at_359) rfl (l' := #[.val (.long q0), .second, .val (.long q2), .second, .val (.int p4), .val (.int p5), .val (.ref b172), .val (.int (own_T p4)), .val (.int (3 : Int32)), .val (.long ((1 : Int64) <<< (((55 : Int32) - (own_T p4)) &&& 0x3f).toInt64)), .second, .unset, .unset, .unset, .unset, .unset, .unset, .unset]) rfl ?_
      show Steps p.tables e below (T339.setTop (mkF m 361 #[.val (.long q0), .second, .val (.long q2), .second, .val (.int p4), .val (.int p5), .val (.ref b172), .val (.int (own_T p4)), .val (.int (3 : Int32)), .val (.long (own_e (own_T p4))), .second, .unset, .unset, .unset, .unset, .unset, .unset, .unset] [])) _
      refine XS.lloadN XX339.here hx rfl (hb hby at_361) rfl ?_
      show Steps p.tables e below (T339.setTop (mkF m 362 #[.val (.long q0), .second, .val (.long q2), .second, .val (.int p4), .val (.int p5), .val (.ref b172), .val (.int (own_T p4)), .val (.int (3 : Int32)), .val (.long (own_e (own_T p4))), .second, .unset, .unset, .unset, .unset, .unset, .unset, .unset] [(.long q0)])) _
      refine XS.lloadN XX339.here hx rfl (hb hby at_362) rfl ?_
      show Steps p.tables e below (T339.setTop (mkF m 363 #[.val (.long q0), .second, .val (.long q2), .second, .val (.int p4), .val (.int p5), .val (.ref b172), .val (.int (own_T p4)), .val (.int (3 : Int32)), .val (.long (own_e (own_T p4))), .second, .unset, .unset, .unset, .unset, .unset, .unset, .unset] [(.long q2), (.long q0)])) _
      refine XS.iload XX339.here hx rfl (hb hby at_363) rfl ?_
      show Steps p.tables e below (T339.setTop (mkF m 365 #[.val (.long q0), .second, .val (.long q2), .second, .val (.int p4), .val (.int p5), .val (.ref b172), .val (.int (own_T p4)), .val (.int (3 : Int32)), .val (.long (own_e (own_T p4))), .second, .unset, .unset, .unset, .unset, .unset, .unset, .unset] [(.int (3 : Int32)), (.long q2), (.long q0)])) _
      refine st387 _ ?_
      show Steps p.tables e below (T387.setTop (mkF m 368 #[.val (.long q0), .second, .val (.long q2), .second, .val (.int p4), .val (.int p5), .val (.ref b172), .val (.int (own_T p4)), .val (.int (3 : Int32)), .val (.long (own_e (own_T p4))), .second, .unset, .unset, .unset, .unset, .unset, .unset, .unset] [(.ref b_387)])) _
      refine XS.astore X387.here hx rfl (hb hby at_368) rfl rfl (l' := #[.val (.long q0), .second, .val (.long q2), .second, .val (.int p4), .val (.int p5), .val (.ref b172), .val (.int (own_T p4)), .val (.int (3 : Int32)), .val (.long (own_e (own_T p4))), .second, .val (.ref b_387), .unset, .unset, .unset, .unset, .unset, .unset]) rfl ?_
      show Steps p.tables e below (T387.setTop (mkF m 370 #[.val (.long q0), .second, .val (.long q2), .second, .val (.int p4), .val (.int p5), .val (.ref b172), .val (.int (own_T p4)), .val (.int (3 : Int32)), .val (.long (own_e (own_T p4))), .second, .val (.ref b_387), .unset, .unset, .unset, .unset, .unset, .unset] [])) _
      refine XS.lload X387.here hx rfl (hb hby at_370) rfl ?_
      show Steps p.tables e below (T387.setTop (mkF m 372 #[.val (.long q0), .second, .val (.long q2), .second, .val (.int p4), .val (.int p5), .val (.ref b172), .val (.int (own_T p4)), .val (.int (3 : Int32)), .val (.long (own_e (own_T p4))), .second, .val (.ref b_387), .unset, .unset, .unset, .unset, .unset, .unset] [(.long (own_e (own_T p4)))])) _
      refine XS.lloadN X387.here hx rfl (hb hby at_372) rfl ?_
      show Steps p.tables e below (T387.setTop (mkF m 373 #[.val (.long q0), .second, .val (.long q2), .second, .val (.int p4), .val (.int p5), .val (.ref b172), .val (.int (own_T p4)), .val (.int (3 : Int32)), .val (.long (own_e (own_T p4))), .second, .val (.ref b_387), .unset, .unset, .unset, .unset, .unset, .unset] [(.long q2), (.long (own_e (own_T p4)))])) _
      refine X387.ldc2Long hx hown (mvT hZ (hw _ (List.mem_of_getElem? (i := 7) rfl))) (g := (mkF m 373 #[.val (.long q0), .second, .val (.long q2), .second, .val (.int p4), .val (.int p5), .val (.ref b172), .val (.int (own_T p4)), .val (.int (3 : Int32)), .val (.long (own_e (own_T p4))), .second, .val (.ref b_387), .unset, .unset, .unset, .unset, .unset, .unset] [(.long q2), (.long (own_e (own_T p4)))])) rfl (hb hby at_373) _ ?_
      show Steps p.tables e below (T387.setTop (mkF m 376 #[.val (.long q0), .second, .val (.long q2), .second, .val (.int p4), .val (.int p5), .val (.ref b172), .val (.int (own_T p4)), .val (.int (3 : Int32)), .val (.long (own_e (own_T p4))), .second, .val (.ref b_387), .unset, .unset, .unset, .unset, .unset, .unset] [(.long (-1 : Int64)), (.long q2), (.long (own_e (own_T p4)))])) _
      refine XS.lxor X387.here hx rfl (hb hby at_376) rfl ?_
      show Steps p.tables e below (T387.setTop (mkF m 377 #[.val (.long q0), .second, .val (.long q2), .second, .val (.int p4), .val (.int p5), .val (.ref b172), .val (.int (own_T p4)), .val (.int (3 : Int32)), .val (.long (own_e (own_T p4))), .second, .val (.ref b_387), .unset, .unset, .unset, .unset, .unset, .unset] [(.long (q2 ^^^ (-1 : Int64))), (.long (own_e (own_T p4)))])) _
      refine XS.iload X387.here hx rfl (hb hby at_377) rfl ?_
      show Steps p.tables e below (T387.setTop (mkF m 379 #[.val (.long q0), .second, .val (.long q2), .second, .val (.int p4), .val (.int p5), .val (.ref b172), .val (.int (own_T p4)), .val (.int (3 : Int32)), .val (.long (own_e (own_T p4))), .second, .val (.ref b_387), .unset, .unset, .unset, .unset, .unset, .unset] [(.int (3 : Int32)), (.long (q2 ^^^ (-1 : Int64))), (.long (own_e (own_T p4)))])) _
      refine st388 _ ?_
      show Steps p.tables e below (T388.setTop (mkF m 382 #[.val (.long q0), .second, .val (.long q2), .second, .val (.int p4), .val (.int p5), .val (.ref b172), .val (.int (own_T p4)), .val (.int (3 : Int32)), .val (.long (own_e (own_T p4))), .second, .val (.ref b_387), .unset, .unset, .unset, .unset, .unset, .unset] [(.ref b_388)])) _
      refine XS.astore X388.here hx rfl (hb hby at_382) rfl rfl (l' := #[.val (.long q0), .second, .val (.long q2), .second, .val (.int p4), .val (.int p5), .val (.ref b172), .val (.int (own_T p4)), .val (.int (3 : Int32)), .val (.long (own_e (own_T p4))), .second, .val (.ref b_387), .val (.ref b_388), .unset, .unset, .unset, .unset, .unset]) rfl ?_
      show Steps p.tables e below (T388.setTop (mkF m 384 #[.val (.long q0), .second, .val (.long q2), .second, .val (.int p4), .val (.int p5), .val (.ref b172), .val (.int (own_T p4)), .val (.int (3 : Int32)), .val (.long (own_e (own_T p4))), .second, .val (.ref b_387), .val (.ref b_388), .unset, .unset, .unset, .unset, .unset] [])) _
      refine XS.lloadN X388.here hx rfl (hb hby at_384) rfl ?_
      show Steps p.tables e below (T388.setTop (mkF m 385 #[.val (.long q0), .second, .val (.long q2), .second, .val (.int p4), .val (.int p5), .val (.ref b172), .val (.int (own_T p4)), .val (.int (3 : Int32)), .val (.long (own_e (own_T p4))), .second, .val (.ref b_387), .val (.ref b_388), .unset, .unset, .unset, .unset, .unset] [(.long q0)])) _
      refine XS.lload X388.here hx rfl (hb hby at_385) rfl ?_
      show Steps p.tables e below (T388.setTop (mkF m 387 #[.val (.long q0), .second, .val (.long q2), .second, .val (.int p4), .val (.int p5), .val (.ref b172), .val (.int (own_T p4)), .val (.int (3 : Int32)), .val (.long (own_e (own_T p4))), .second, .val (.ref b_387), .val (.ref b_388), .unset, .unset, .unset, .unset, .unset] [(.long (own_e (own_T p4))), (.long q0)])) _
      refine XS.lxor X388.here hx rfl (hb hby at_387) rfl ?_
      show Steps p.tables e below (T388.setTop (mkF m 388 #[.val (.long q0), .second, .val (.long q2), .second, .val (.int p4), .val (.int p5), .val (.ref b172), .val (.int (own_T p4)), .val (.int (3 : Int32)), .val (.long (own_e (own_T p4))), .second, .val (.ref b_387), .val (.ref b_388), .unset, .unset, .unset, .unset, .unset] [(.long (q0 ^^^ (own_e (own_T p4))))])) _
      refine XS.lloadN X388.here hx rfl (hb hby at_388) rfl ?_
      show Steps p.tables e below (T388.setTop (mkF m 389 #[.val (.long q0), .second, .val (.long q2), .second, .val (.int p4), .val (.int p5), .val (.ref b172), .val (.int (own_T p4)), .val (.int (3 : Int32)), .val (.long (own_e (own_T p4))), .second, .val (.ref b_387), .val (.ref b_388), .unset, .unset, .unset, .unset, .unset] [(.long q2), (.long (q0 ^^^ (own_e (own_T p4))))])) _
      refine XS.lloadN X388.here hx rfl (hb hby at_389) rfl ?_
      show Steps p.tables e below (T388.setTop (mkF m 390 #[.val (.long q0), .second, .val (.long q2), .second, .val (.int p4), .val (.int p5), .val (.ref b172), .val (.int (own_T p4)), .val (.int (3 : Int32)), .val (.long (own_e (own_T p4))), .second, .val (.ref b_387), .val (.ref b_388), .unset, .unset, .unset, .unset, .unset] [(.long q0), (.long q2), (.long (q0 ^^^ (own_e (own_T p4))))])) _
      refine XS.lxor X388.here hx rfl (hb hby at_390) rfl ?_
      show Steps p.tables e below (T388.setTop (mkF m 391 #[.val (.long q0), .second, .val (.long q2), .second, .val (.int p4), .val (.int p5), .val (.ref b172), .val (.int (own_T p4)), .val (.int (3 : Int32)), .val (.long (own_e (own_T p4))), .second, .val (.ref b_387), .val (.ref b_388), .unset, .unset, .unset, .unset, .unset] [(.long (q2 ^^^ q0)), (.long (q0 ^^^ (own_e (own_T p4))))])) _
      refine XS.iload X388.here hx rfl (hb hby at_391) rfl ?_
      show Steps p.tables e below (T388.setTop (mkF m 393 #[.val (.long q0), .second, .val (.long q2), .second, .val (.int p4), .val (.int p5), .val (.ref b172), .val (.int (own_T p4)), .val (.int (3 : Int32)), .val (.long (own_e (own_T p4))), .second, .val (.ref b_387), .val (.ref b_388), .unset, .unset, .unset, .unset, .unset] [(.int (3 : Int32)), (.long (q2 ^^^ q0)), (.long (q0 ^^^ (own_e (own_T p4))))])) _
      refine st390 _ ?_
      show Steps p.tables e below (T390.setTop (mkF m 396 #[.val (.long q0), .second, .val (.long q2), .second, .val (.int p4), .val (.int p5), .val (.ref b172), .val (.int (own_T p4)), .val (.int (3 : Int32)), .val (.long (own_e (own_T p4))), .second, .val (.ref b_387), .val (.ref b_388), .unset, .unset, .unset, .unset, .unset] [(.ref b_390)])) _
      refine XS.astore X390.here hx rfl (hb hby at_396) rfl rfl (l' := #[.val (.long q0), .second, .val (.long q2), .second, .val (.int p4), .val (.int p5), .val (.ref b172), .val (.int (own_T p4)), .val (.int (3 : Int32)), .val (.long (own_e (own_T p4))), .second, .val (.ref b_387), .val (.ref b_388), .val (.ref b_390), .unset, .unset, .unset, .unset]) rfl ?_
      show Steps p.tables e below (T390.setTop (mkF m 398 #[.val (.long q0), .second, .val (.long q2), .second, .val (.int p4), .val (.int p5), .val (.ref b172), .val (.int (own_T p4)), .val (.int (3 : Int32)), .val (.long (own_e (own_T p4))), .second, .val (.ref b_387), .val (.ref b_388), .val (.ref b_390), .unset, .unset, .unset, .unset] [])) _
      refine XS.aload X390.here hx rfl (hb hby at_398) rfl rfl ?_
      show Steps p.tables e below (T390.setTop (mkF m 400 #[.val (.long q0), .second, .val (.long q2), .second, .val (.int p4), .val (.int p5), .val (.ref b172), .val (.int (own_T p4)), .val (.int (3 : Int32)), .val (.long (own_e (own_T p4))), .second, .val (.ref b_387), .val (.ref b_388), .val (.ref b_390), .unset, .unset, .unset, .unset] [(.ref b_387)])) _
      refine XS.iload X390.here hx rfl (hb hby at_400) rfl ?_
      show Steps p.tables e below (T390.setTop (mkF m 402 #[.val (.long q0), .second, .val (.long q2), .second, .val (.int p4), .val (.int p5), .val (.ref b172), .val (.int (own_T p4)), .val (.int (3 : Int32)), .val (.long (own_e (own_T p4))), .second, .val (.ref b_387), .val (.ref b_388), .val (.ref b_390), .unset, .unset, .unset, .unset] [(.int (3 : Int32)), (.ref b_387)])) _
      refine st394 _ ?_
      show Steps p.tables e below (T394.setTop (mkF m 405 #[.val (.long q0), .second, .val (.long q2), .second, .val (.int p4), .val (.int p5), .val (.ref b172), .val (.int (own_T p4)), .val (.int (3 : Int32)), .val (.long (own_e (own_T p4))), .second, .val (.ref b_387), .val (.ref b_388), .val (.ref b_390), .unset, .unset, .unset, .unset] [(.int (own_parL q0))])) _
      refine XS.istore X394.here hx rfl (hb hby at_405) rfl (l' := #[.val (.long q0), .second, .val (.long q2), .second, .val (.int p4), .val (.int p5), .val (.ref b172), .val (.int (own_T p4)), .val (.int (3 : Int32)), .val (.long (own_e (own_T p4))), .second, .val (.ref b_387), .val (.ref b_388), .val (.ref b_390), .val (.int (own_parL q0)), .unset, .unset, .unset]) rfl ?_
      show Steps p.tables e below (T394.setTop (mkF m 407 #[.val (.long q0), .second, .val (.long q2), .second, .val (.int p4), .val (.int p5), .val (.ref b172), .val (.int (own_T p4)), .val (.int (3 : Int32)), .val (.long (own_e (own_T p4))), .second, .val (.ref b_387), .val (.ref b_388), .val (.ref b_390), .val (.int (own_parL q0)), .unset, .unset, .unset] [])) _
      refine XS.aload X394.here hx rfl (hb hby at_407) rfl rfl ?_
      show Steps p.tables e below (T394.setTop (mkF m 409 #[.val (.long q0), .second, .val (.long q2), .second, .val (.int p4), .val (.int p5), .val (.ref b172), .val (.int (own_T p4)), .val (.int (3 : Int32)), .val (.long (own_e (own_T p4))), .second, .val (.ref b_387), .val (.ref b_388), .val (.ref b_390), .val (.int (own_parL q0)), .unset, .unset, .unset] [(.ref b_388)])) _
      refine XS.iload X394.here hx rfl (hb hby at_409) rfl ?_
      show Steps p.tables e below (T394.setTop (mkF m 411 #[.val (.long q0), .second, .val (.long q2), .second, .val (.int p4), .val (.int p5), .val (.ref b172), .val (.int (own_T p4)), .val (.int (3 : Int32)), .val (.long (own_e (own_T p4))), .second, .val (.ref b_387), .val (.ref b_388), .val (.ref b_390), .val (.int (own_parL q0)), .unset, .unset, .unset] [(.int (3 : Int32)), (.ref b_388)])) _
      refine st396 _ ?_
      show Steps p.tables e below (T396.setTop (mkF m 414 #[.val (.long q0), .second, .val (.long q2), .second, .val (.int p4), .val (.int p5), .val (.ref b172), .val (.int (own_T p4)), .val (.int (3 : Int32)), .val (.long (own_e (own_T p4))), .second, .val (.ref b_387), .val (.ref b_388), .val (.ref b_390), .val (.int (own_parL q0)), .unset, .unset, .unset] [(.int (own_parL (own_e (own_T p4))))])) _
      refine XS.istore X396.here hx rfl (hb hby at_414) rfl (l' := #[.val (.long q0), .second, .val (.long q2), .second, .val (.int p4), .val (.int p5), .val (.ref b172), .val (.int (own_T p4)), .val (.int (3 : Int32)), .val (.long (own_e (own_T p4))), .second, .val (.ref b_387), .val (.ref b_388), .val (.ref b_390), .val (.int (own_parL q0)), .val (.int (own_parL (own_e (own_T p4)))), .unset, .unset]) rfl ?_
      show Steps p.tables e below (T396.setTop (mkF m 416 #[.val (.long q0), .second, .val (.long q2), .second, .val (.int p4), .val (.int p5), .val (.ref b172), .val (.int (own_T p4)), .val (.int (3 : Int32)), .val (.long (own_e (own_T p4))), .second, .val (.ref b_387), .val (.ref b_388), .val (.ref b_390), .val (.int (own_parL q0)), .val (.int (own_parL (own_e (own_T p4)))), .unset, .unset] [])) _
      refine XS.aload X396.here hx rfl (hb hby at_416) rfl rfl ?_
      show Steps p.tables e below (T396.setTop (mkF m 418 #[.val (.long q0), .second, .val (.long q2), .second, .val (.int p4), .val (.int p5), .val (.ref b172), .val (.int (own_T p4)), .val (.int (3 : Int32)), .val (.long (own_e (own_T p4))), .second, .val (.ref b_387), .val (.ref b_388), .val (.ref b_390), .val (.int (own_parL q0)), .val (.int (own_parL (own_e (own_T p4)))), .unset, .unset] [(.ref b_390)])) _
      refine XS.iload X396.here hx rfl (hb hby at_418) rfl ?_
      show Steps p.tables e below (T396.setTop (mkF m 420 #[.val (.long q0), .second, .val (.long q2), .second, .val (.int p4), .val (.int p5), .val (.ref b172), .val (.int (own_T p4)), .val (.int (3 : Int32)), .val (.long (own_e (own_T p4))), .second, .val (.ref b_387), .val (.ref b_388), .val (.ref b_390), .val (.int (own_parL q0)), .val (.int (own_parL (own_e (own_T p4)))), .unset, .unset] [(.int (3 : Int32)), (.ref b_390)])) _
      refine st397 _ ?_
      show Steps p.tables e below (T397.setTop (mkF m 423 #[.val (.long q0), .second, .val (.long q2), .second, .val (.int p4), .val (.int p5), .val (.ref b172), .val (.int (own_T p4)), .val (.int (3 : Int32)), .val (.long (own_e (own_T p4))), .second, .val (.ref b_387), .val (.ref b_388), .val (.ref b_390), .val (.int (own_parL q0)), .val (.int (own_parL (own_e (own_T p4)))), .unset, .unset] [(.int (own_parL (q0 ^^^ (own_e (own_T p4)))))])) _
      refine XS.istore X397.here hx rfl (hb hby at_423) rfl (l' := #[.val (.long q0), .second, .val (.long q2), .second, .val (.int p4), .val (.int p5), .val (.ref b172), .val (.int (own_T p4)), .val (.int (3 : Int32)), .val (.long (own_e (own_T p4))), .second, .val (.ref b_387), .val (.ref b_388), .val (.ref b_390), .val (.int (own_parL q0)), .val (.int (own_parL (own_e (own_T p4)))), .val (.int (own_parL (q0 ^^^ (own_e (own_T p4))))), .unset]) rfl ?_
      show Steps p.tables e below (T397.setTop (mkF m 425 #[.val (.long q0), .second, .val (.long q2), .second, .val (.int p4), .val (.int p5), .val (.ref b172), .val (.int (own_T p4)), .val (.int (3 : Int32)), .val (.long (own_e (own_T p4))), .second, .val (.ref b_387), .val (.ref b_388), .val (.ref b_390), .val (.int (own_parL q0)), .val (.int (own_parL (own_e (own_T p4)))), .val (.int (own_parL (q0 ^^^ (own_e (own_T p4))))), .unset] [])) _
      refine XS.aload X397.here hx rfl (hb hby at_425) rfl rfl ?_
      show Steps p.tables e below (T397.setTop (mkF m 427 #[.val (.long q0), .second, .val (.long q2), .second, .val (.int p4), .val (.int p5), .val (.ref b172), .val (.int (own_T p4)), .val (.int (3 : Int32)), .val (.long (own_e (own_T p4))), .second, .val (.ref b_387), .val (.ref b_388), .val (.ref b_390), .val (.int (own_parL q0)), .val (.int (own_parL (own_e (own_T p4)))), .val (.int (own_parL (q0 ^^^ (own_e (own_T p4))))), .unset] [(.ref b172)])) _
      refine XS.iload X397.here hx rfl (hb hby at_427) rfl ?_
      show Steps p.tables e below (T397.setTop (mkF m 429 #[.val (.long q0), .second, .val (.long q2), .second, .val (.int p4), .val (.int p5), .val (.ref b172), .val (.int (own_T p4)), .val (.int (3 : Int32)), .val (.long (own_e (own_T p4))), .second, .val (.ref b_387), .val (.ref b_388), .val (.ref b_390), .val (.int (own_parL q0)), .val (.int (own_parL (own_e (own_T p4)))), .val (.int (own_parL (q0 ^^^ (own_e (own_T p4))))), .unset] [(.int (own_T p4)), (.ref b172)])) _
      refine X397.iaload hx (j := (own_T p4)) (v := (.int (own_tabI.getD ((own_T p4)).toNatClampNeg 0))) (by rw [e397]; exact Ar398.1) (State.isArrayOf_alike hZ.alike Ar398.2.1) Ar398.2.2 hin398 hat398 (g := (mkF m 429 #[.val (.long q0), .second, .val (.long q2), .second, .val (.int p4), .val (.int p5), .val (.ref b172), .val (.int (own_T p4)), .val (.int (3 : Int32)), .val (.long (own_e (own_T p4))), .second, .val (.ref b_387), .val (.ref b_388), .val (.ref b_390), .val (.int (own_parL q0)), .val (.int (own_parL (own_e (own_T p4)))), .val (.int (own_parL (q0 ^^^ (own_e (own_T p4))))), .unset] [(.int (own_T p4)), (.ref b172)])) rfl rfl (hb hby at_429) _ ?_
      show Steps p.tables e below (T397.setTop (mkF m 430 #[.val (.long q0), .second, .val (.long q2), .second, .val (.int p4), .val (.int p5), .val (.ref b172), .val (.int (own_T p4)), .val (.int (3 : Int32)), .val (.long (own_e (own_T p4))), .second, .val (.ref b_387), .val (.ref b_388), .val (.ref b_390), .val (.int (own_parL q0)), .val (.int (own_parL (own_e (own_T p4)))), .val (.int (own_parL (q0 ^^^ (own_e (own_T p4))))), .unset] [(.int (own_tabI.getD ((own_T p4)).toNatClampNeg 0))])) _
      refine XS.iconst X397.here hx rfl (hb hby at_430) ?_
      show Steps p.tables e below (T397.setTop (mkF m 431 #[.val (.long q0), .second, .val (.long q2), .second, .val (.int p4), .val (.int p5), .val (.ref b172), .val (.int (own_T p4)), .val (.int (3 : Int32)), .val (.long (own_e (own_T p4))), .second, .val (.ref b_387), .val (.ref b_388), .val (.ref b_390), .val (.int (own_parL q0)), .val (.int (own_parL (own_e (own_T p4)))), .val (.int (own_parL (q0 ^^^ (own_e (own_T p4))))), .unset] [(.int (-1 : Int32)), (.int (own_tabI.getD ((own_T p4)).toNatClampNeg 0))])) _
      refine XS.ixor X397.here hx rfl (hb hby at_431) rfl ?_
      show Steps p.tables e below (T397.setTop (mkF m 432 #[.val (.long q0), .second, .val (.long q2), .second, .val (.int p4), .val (.int p5), .val (.ref b172), .val (.int (own_T p4)), .val (.int (3 : Int32)), .val (.long (own_e (own_T p4))), .second, .val (.ref b_387), .val (.ref b_388), .val (.ref b_390), .val (.int (own_parL q0)), .val (.int (own_parL (own_e (own_T p4)))), .val (.int (own_parL (q0 ^^^ (own_e (own_T p4))))), .unset] [(.int ((own_tabI.getD ((own_T p4)).toNatClampNeg 0) ^^^ (-1 : Int32)))])) _
      refine XS.bipush X397.here hx rfl (hb hby at_432) ?_
      show Steps p.tables e below (T397.setTop (mkF m 434 #[.val (.long q0), .second, .val (.long q2), .second, .val (.int p4), .val (.int p5), .val (.ref b172), .val (.int (own_T p4)), .val (.int (3 : Int32)), .val (.long (own_e (own_T p4))), .second, .val (.ref b_387), .val (.ref b_388), .val (.ref b_390), .val (.int (own_parL q0)), .val (.int (own_parL (own_e (own_T p4)))), .val (.int (own_parL (q0 ^^^ (own_e (own_T p4))))), .unset] [(.int (127 : Int32)), (.int ((own_tabI.getD ((own_T p4)).toNatClampNeg 0) ^^^ (-1 : Int32)))])) _
      refine XS.iand X397.here hx rfl (hb hby at_434) rfl ?_
      show Steps p.tables e below (T397.setTop (mkF m 435 #[.val (.long q0), .second, .val (.long q2), .second, .val (.int p4), .val (.int p5), .val (.ref b172), .val (.int (own_T p4)), .val (.int (3 : Int32)), .val (.long (own_e (own_T p4))), .second, .val (.ref b_387), .val (.ref b_388), .val (.ref b_390), .val (.int (own_parL q0)), .val (.int (own_parL (own_e (own_T p4)))), .val (.int (own_parL (q0 ^^^ (own_e (own_T p4))))), .unset] [(.int (((own_tabI.getD ((own_T p4)).toNatClampNeg 0) ^^^ (-1 : Int32)) &&& (127 : Int32)))])) _
      refine XS.iconst X397.here hx rfl (hb hby at_435) ?_
      show Steps p.tables e below (T397.setTop (mkF m 436 #[.val (.long q0), .second, .val (.long q2), .second, .val (.int p4), .val (.int p5), .val (.ref b172), .val (.int (own_T p4)), .val (.int (3 : Int32)), .val (.long (own_e (own_T p4))), .second, .val (.ref b_387), .val (.ref b_388), .val (.ref b_390), .val (.int (own_parL q0)), .val (.int (own_parL (own_e (own_T p4)))), .val (.int (own_parL (q0 ^^^ (own_e (own_T p4))))), .unset] [(.int (1 : Int32)), (.int (((own_tabI.getD ((own_T p4)).toNatClampNeg 0) ^^^ (-1 : Int32)) &&& (127 : Int32)))])) _
      refine XS.ishl X397.here hx rfl (hb hby at_436) rfl ?_
      show Steps p.tables e below (T397.setTop (mkF m 437 #[.val (.long q0), .second, .val (.long q2), .second, .val (.int p4), .val (.int p5), .val (.ref b172), .val (.int (own_T p4)), .val (.int (3 : Int32)), .val (.long (own_e (own_T p4))), .second, .val (.ref b_387), .val (.ref b_388), .val (.ref b_390), .val (.int (own_parL q0)), .val (.int (own_parL (own_e (own_T p4)))), .val (.int (own_parL (q0 ^^^ (own_e (own_T p4))))), .unset] [(.int ((((own_tabI.getD ((own_T p4)).toNatClampNeg 0) ^^^ (-1 : Int32)) &&& (127 : Int32)) <<< ((1 : Int32) &&& 31)))])) _
      refine XS.istore X397.here hx rfl (hb hby at_437) rfl (l' := #[.val (.long q0), .second, .val (.long q2), .second, .val (.int p4), .val (.int p5), .val (.ref b172), .val (.int (own_T p4)), .val (.int (3 : Int32)), .val (.long (own_e (own_T p4))), .second, .val (.ref b_387), .val (.ref b_388), .val (.ref b_390), .val (.int (own_parL q0)), .val (.int (own_parL (own_e (own_T p4)))), .val (.int (own_parL (q0 ^^^ (own_e (own_T p4))))), .val (.int ((((own_tabI.getD ((own_T p4)).toNatClampNeg 0) ^^^ (-1 : Int32)) &&& (127 : Int32)) <<< ((1 : Int32) &&& 31)))]) rfl ?_
      show Steps p.tables e below (T397.setTop (mkF m 439 #[.val (.long q0), .second, .val (.long q2), .second, .val (.int p4), .val (.int p5), .val (.ref b172), .val (.int (own_T p4)), .val (.int (3 : Int32)), .val (.long (own_e (own_T p4))), .second, .val (.ref b_387), .val (.ref b_388), .val (.ref b_390), .val (.int (own_parL q0)), .val (.int (own_parL (own_e (own_T p4)))), .val (.int (own_parL (q0 ^^^ (own_e (own_T p4))))), .val (.int ((((own_tabI.getD ((own_T p4)).toNatClampNeg 0) ^^^ (-1 : Int32)) &&& (127 : Int32)) <<< ((1 : Int32) &&& 31)))] [])) _
      refine XS.iload X397.here hx rfl (hb hby at_439) rfl ?_
      show Steps p.tables e below (T397.setTop (mkF m 441 #[.val (.long q0), .second, .val (.long q2), .second, .val (.int p4), .val (.int p5), .val (.ref b172), .val (.int (own_T p4)), .val (.int (3 : Int32)), .val (.long (own_e (own_T p4))), .second, .val (.ref b_387), .val (.ref b_388), .val (.ref b_390), .val (.int (own_parL q0)), .val (.int (own_parL (own_e (own_T p4)))), .val (.int (own_parL (q0 ^^^ (own_e (own_T p4))))), .val (.int ((((own_tabI.getD ((own_T p4)).toNatClampNeg 0) ^^^ (-1 : Int32)) &&& (127 : Int32)) <<< ((1 : Int32) &&& 31)))] [(.int (own_parL (own_e (own_T p4))))])) _
      refine XS.iload X397.here hx rfl (hb hby at_441) rfl ?_
      show Steps p.tables e below (T397.setTop (mkF m 443 #[.val (.long q0), .second, .val (.long q2), .second, .val (.int p4), .val (.int p5), .val (.ref b172), .val (.int (own_T p4)), .val (.int (3 : Int32)), .val (.long (own_e (own_T p4))), .second, .val (.ref b_387), .val (.ref b_388), .val (.ref b_390), .val (.int (own_parL q0)), .val (.int (own_parL (own_e (own_T p4)))), .val (.int (own_parL (q0 ^^^ (own_e (own_T p4))))), .val (.int ((((own_tabI.getD ((own_T p4)).toNatClampNeg 0) ^^^ (-1 : Int32)) &&& (127 : Int32)) <<< ((1 : Int32) &&& 31)))] [(.int ((((own_tabI.getD ((own_T p4)).toNatClampNeg 0) ^^^ (-1 : Int32)) &&& (127 : Int32)) <<< ((1 : Int32) &&& 31))), (.int (own_parL (own_e (own_T p4))))])) _
      refine XS.icmpNo X397.here hx rfl (hb hby at_443) rfl (teq hc443_400).2 ?_
      show Steps p.tables e below (T397.setTop (mkF m 446 #[.val (.long q0), .second, .val (.long q2), .second, .val (.int p4), .val (.int p5), .val (.ref b172), .val (.int (own_T p4)), .val (.int (3 : Int32)), .val (.long (own_e (own_T p4))), .second, .val (.ref b_387), .val (.ref b_388), .val (.ref b_390), .val (.int (own_parL q0)), .val (.int (own_parL (own_e (own_T p4)))), .val (.int (own_parL (q0 ^^^ (own_e (own_T p4))))), .val (.int ((((own_tabI.getD ((own_T p4)).toNatClampNeg 0) ^^^ (-1 : Int32)) &&& (127 : Int32)) <<< ((1 : Int32) &&& 31)))] [])) _
      refine XS.iload X397.here hx rfl (hb hby at_446) rfl ?_
      show Steps p.tables e below (T397.setTop (mkF m 448 #[.val (.long q0), .second, .val (.long q2), .second, .val (.int p4), .val (.int p5), .val (.ref b172), .val (.int (own_T p4)), .val (.int (3 : Int32)), .val (.long (own_e (own_T p4))), .second, .val (.ref b_387), .val (.ref b_388), .val (.ref b_390), .val (.int (own_parL q0)), .val (.int (own_parL (own_e (own_T p4)))), .val (.int (own_parL (q0 ^^^ (own_e (own_T p4))))), .val (.int ((((own_tabI.getD ((own_T p4)).toNatClampNeg 0) ^^^ (-1 : Int32)) &&& (127 : Int32)) <<< ((1 : Int32) &&& 31)))] [(.int (own_parL (q0 ^^^ (own_e (own_T p4)))))])) _
      refine XS.iload X397.here hx rfl (hb hby at_448) rfl ?_
      show Steps p.tables e below (T397.setTop (mkF m 450 #[.val (.long q0), .second, .val (.long q2), .second, .val (.int p4), .val (.int p5), .val (.ref b172), .val (.int (own_T p4)), .val (.int (3 : Int32)), .val (.long (own_e (own_T p4))), .second, .val (.ref b_387), .val (.ref b_388), .val (.ref b_390), .val (.int (own_parL q0)), .val (.int (own_parL (own_e (own_T p4)))), .val (.int (own_parL (q0 ^^^ (own_e (own_T p4))))), .val (.int ((((own_tabI.getD ((own_T p4)).toNatClampNeg 0) ^^^ (-1 : Int32)) &&& (127 : Int32)) <<< ((1 : Int32) &&& 31)))] [(.int (own_parL q0)), (.int (own_parL (q0 ^^^ (own_e (own_T p4)))))])) _
      refine XS.iload X397.here hx rfl (hb hby at_450) rfl ?_
      show Steps p.tables e below (T397.setTop (mkF m 452 #[.val (.long q0), .second, .val (.long q2), .second, .val (.int p4), .val (.int p5), .val (.ref b172), .val (.int (own_T p4)), .val (.int (3 : Int32)), .val (.long (own_e (own_T p4))), .second, .val (.ref b_387), .val (.ref b_388), .val (.ref b_390), .val (.int (own_parL q0)), .val (.int (own_parL (own_e (own_T p4)))), .val (.int (own_parL (q0 ^^^ (own_e (own_T p4))))), .val (.int ((((own_tabI.getD ((own_T p4)).toNatClampNeg 0) ^^^ (-1 : Int32)) &&& (127 : Int32)) <<< ((1 : Int32) &&& 31)))] [(.int (own_parL (own_e (own_T p4)))), (.int (own_parL q0)), (.int (own_parL (q0 ^^^ (own_e (own_T p4)))))])) _
      refine XS.ixor X397.here hx rfl (hb hby at_452) rfl ?_
      show Steps p.tables e below (T397.setTop (mkF m 453 #[.val (.long q0), .second, .val (.long q2), .second, .val (.int p4), .val (.int p5), .val (.ref b172), .val (.int (own_T p4)), .val (.int (3 : Int32)), .val (.long (own_e (own_T p4))), .second, .val (.ref b_387), .val (.ref b_388), .val (.ref b_390), .val (.int (own_parL q0)), .val (.int (own_parL (own_e (own_T p4)))), .val (.int (own_parL (q0 ^^^ (own_e (own_T p4))))), .val (.int ((((own_tabI.getD ((own_T p4)).toNatClampNeg 0) ^^^ (-1 : Int32)) &&& (127 : Int32)) <<< ((1 : Int32) &&& 31)))] [(.int ((own_parL q0) ^^^ (own_parL (own_e (own_T p4))))), (.int (own_parL (q0 ^^^ (own_e (own_T p4)))))])) _
      refine XS.sipush X397.here hx rfl (hb hby at_453) ?_
      show Steps p.tables e below (T397.setTop (mkF m 456 #[.val (.long q0), .second, .val (.long q2), .second, .val (.int p4), .val (.int p5), .val (.ref b172), .val (.int (own_T p4)), .val (.int (3 : Int32)), .val (.long (own_e (own_T p4))), .second, .val (.ref b_387), .val (.ref b_388), .val (.ref b_390), .val (.int (own_parL q0)), .val (.int (own_parL (own_e (own_T p4)))), .val (.int (own_parL (q0 ^^^ (own_e (own_T p4))))), .val (.int ((((own_tabI.getD ((own_T p4)).toNatClampNeg 0) ^^^ (-1 : Int32)) &&& (127 : Int32)) <<< ((1 : Int32) &&& 31)))] [(.int (254 : Int32)), (.int ((own_parL q0) ^^^ (own_parL (own_e (own_T p4))))), (.int (own_parL (q0 ^^^ (own_e (own_T p4)))))])) _
      refine XS.ixor X397.here hx rfl (hb hby at_456) rfl ?_
      show Steps p.tables e below (T397.setTop (mkF m 457 #[.val (.long q0), .second, .val (.long q2), .second, .val (.int p4), .val (.int p5), .val (.ref b172), .val (.int (own_T p4)), .val (.int (3 : Int32)), .val (.long (own_e (own_T p4))), .second, .val (.ref b_387), .val (.ref b_388), .val (.ref b_390), .val (.int (own_parL q0)), .val (.int (own_parL (own_e (own_T p4)))), .val (.int (own_parL (q0 ^^^ (own_e (own_T p4))))), .val (.int ((((own_tabI.getD ((own_T p4)).toNatClampNeg 0) ^^^ (-1 : Int32)) &&& (127 : Int32)) <<< ((1 : Int32) &&& 31)))] [(.int (((own_parL q0) ^^^ (own_parL (own_e (own_T p4)))) ^^^ (254 : Int32))), (.int (own_parL (q0 ^^^ (own_e (own_T p4)))))])) _
      refine XS.icmpNo X397.here hx rfl (hb hby at_457) rfl (teq hc457_401).2 ?_
      show Steps p.tables e below (T397.setTop (mkF m 460 #[.val (.long q0), .second, .val (.long q2), .second, .val (.int p4), .val (.int p5), .val (.ref b172), .val (.int (own_T p4)), .val (.int (3 : Int32)), .val (.long (own_e (own_T p4))), .second, .val (.ref b_387), .val (.ref b_388), .val (.ref b_390), .val (.int (own_parL q0)), .val (.int (own_parL (own_e (own_T p4)))), .val (.int (own_parL (q0 ^^^ (own_e (own_T p4))))), .val (.int ((((own_tabI.getD ((own_T p4)).toNatClampNeg 0) ^^^ (-1 : Int32)) &&& (127 : Int32)) <<< ((1 : Int32) &&& 31)))] [])) _
      refine XS.iconst X397.here hx rfl (hb hby at_460) ?_
      show Steps p.tables e below (T397.setTop (mkF m 461 #[.val (.long q0), .second, .val (.long q2), .second, .val (.int p4), .val (.int p5), .val (.ref b172), .val (.int (own_T p4)), .val (.int (3 : Int32)), .val (.long (own_e (own_T p4))), .second, .val (.ref b_387), .val (.ref b_388), .val (.ref b_390), .val (.int (own_parL q0)), .val (.int (own_parL (own_e (own_T p4)))), .val (.int (own_parL (q0 ^^^ (own_e (own_T p4))))), .val (.int ((((own_tabI.getD ((own_T p4)).toNatClampNeg 0) ^^^ (-1 : Int32)) &&& (127 : Int32)) <<< ((1 : Int32) &&& 31)))] [(.int (1 : Int32))])) _
      refine XS.goto X397.here hx rfl (pc0 := 461) (pc' := 465) rfl (hb hby at_461) (by decide) (by decide) ?_
      show Steps p.tables e below (T397.setTop (mkF m 465 #[.val (.long q0), .second, .val (.long q2), .second, .val (.int p4), .val (.int p5), .val (.ref b172), .val (.int (own_T p4)), .val (.int (3 : Int32)), .val (.long (own_e (own_T p4))), .second, .val (.ref b_387), .val (.ref b_388), .val (.ref b_390), .val (.int (own_parL q0)), .val (.int (own_parL (own_e (own_T p4)))), .val (.int (own_parL (q0 ^^^ (own_e (own_T p4))))), .val (.int ((((own_tabI.getD ((own_T p4)).toNatClampNeg 0) ^^^ (-1 : Int32)) &&& (127 : Int32)) <<< ((1 : Int32) &&& 31)))] [(.int (1 : Int32))])) _
      exact retN X397 hx (t := .boolean) Bd.returns (by simp) (hb hby at_465) hr
    · show Q0 Z q0 q2 p4 p5 h0 n0 _ T397.heap _
      rw [e397]
      exact ⟨rfl, N397⟩
set_option maxRecDepth 65536 in
set_option maxHeartbeats 40000000 in
theorem comes_1 {Post : Tables → Env → Array Value → State → Outcome → State → Prop} (hpost : ∀ tb e args s v u, (limb_1_1.after args s (.returned v) u = true ∧ limb_1_2.after args s (.returned v) u = true ∧ True) → FrameEnd s (.returned v) u (Jvm.fieldLocs frame_1_writes args s ++ Jvm.arrayLocs frame_1_arrays args s ++ Jvm.staticLocs frame_1_statics s) 16 256 → Post tb e args s (.returned v) u) :
    ArmFor flags0 classFile x code maxLocals ret World_1 tables_1 room_1 Calls_1 rest_1 Pre_1 Post := by
  intro l hfl _ _ p e ha hc hk s m args below hf hA hF happ hP
  obtain ⟨hcalls, hrest, hpre⟩ := hP
  obtain ⟨-, -, -, hnamed, -, -, -, hat⟩ := (Spec.applies_iff hf).mp happ
  obtain ⟨hg, hn⟩ := and_e (Cond.before_iff.mp (show (Jvm.Cond.and given_1 narrow_1).before args s = true from hpre))
  obtain ⟨hcount, hg0⟩ := and_e hg
  obtain ⟨hi0, hg1⟩ := and_e hg0
  obtain ⟨hi1, hg2⟩ := and_e hg1
  obtain ⟨hi2, hg3⟩ := and_e hg2
  have hi3 := hg3
  obtain ⟨w0, w1, w2, w3, rfl⟩ : ∃ w0 w1 w2 w3 : Value, args = #[w0, w1, w2, w3] := by
    have hs : args.size = 4 := by simpa [Cond.value, given_1] using hcount
    obtain ⟨L⟩ := args
    match L, hs with
    | [w0, w1, w2, w3], _ => exact ⟨w0, w1, w2, w3, rfl⟩
  have hw := fun d (hd : d ∈ tables_1) => atoms_spec (ws := Jvm.Cond.code x code maxLocals ret :: tables_1) hat d (List.mem_cons_of_mem _ hd)
  have hfit : Fit s := fun {y c} hc i hi => by
    obtain ⟨ha, rfl⟩ := Array.getElem?_eq_some_iff.mp hc
    have q := List.all_eq_true.mp ((Array.all_eq_true_iff_forall_mem.mp hF) _ (Array.getElem_mem ha)) i (List.mem_range.mpr hi)
    simpa [Array.getElem?_eq_getElem hi] using q
  obtain ⟨i0, ei0⟩ := isL_v hi0
  obtain rfl : w0 = (.long i0) := Option.some.inj ei0
  obtain ⟨i1, ei1⟩ := isL_v hi1
  obtain rfl : w1 = (.long i1) := Option.some.inj ei1
  obtain ⟨i2, ei2⟩ := is_v hi2
  obtain rfl : w2 = (.int i2) := Option.some.inj ei2
  obtain ⟨i3, ei3⟩ := is_v hi3
  obtain rfl : w3 = (.int i3) := Option.some.inj ei3
  obtain ⟨n, o, h1, h2, h3, _, L, rfl, ⟨rfl, N⟩, hq⟩ := rm0 l s _ hw tables_1 i0 i1 i2 i3  s.heap s.heap.size (Nat.le_refl _)  p e ha hc hk s m _ below hf ((Spec.applies_iff_loose hf).mp happ).1 ⟨rfl, State.Warmed39.refl s, rfl⟩ trivial
  refine ⟨n, _, h1, h2, h3, hpost _ _ _ _ _ _ ⟨Cond.after_iff.mpr rfl, Cond.after_iff.mpr (eq_i res_at (Term.int_eval (1)) rfl), trivial⟩ ⟨hq.1, hq.2.1, (hq.2.2.sift fun y hy => Or.inr (N y hy)).mono (by decide) (by decide)⟩⟩
theorem main_1_1 : Claimed_1_1 := comes_1 fun _ _ _ _ _ _ h hF => ⟨h.1, hF⟩
theorem main_1_2 : Claimed_1_2 := comes_1 fun _ _ _ _ _ _ h hF => ⟨h.2.1, hF⟩
end Jvm.Pilot.@@N@@
namespace Jvm.Pilot.@@N@@
open Jvm Jvm.ClassFile Sem Op Lib Jvm.Free Jvm.Stand Jvm.Pilot.@@N@@.Jvm.D
/-! MADE BY PROGRAM (witnessworld.py) out of the Statement's table words and the real class files: 9 classes; the members and pool entries that the words name. The judged class is class 1, her method 2. -/
namespace start1
open Jvm.ClassFile
def u (s : String) : CpInfo := .utf8 (stringToUtf16 s)
/-- a pool by its gaps: so many unusable entries, then the entry; so many at the end -/
def gap : Nat → List CpInfo → List CpInfo
  | 0, r => r
  | n + 1, r => .unusable :: gap n r
def poolList (es : List (Nat × CpInfo)) (last : Nat) : List CpInfo := es.foldr (fun e r => gap e.1 (e.2 :: r)) (gap last [])
def pool (es : List (Nat × CpInfo)) (last : Nat) : Array CpInfo := ⟨poolList es last⟩
def fileOf (pool : Array CpInfo) (this : Nat) (attrs : Array Attribute := #[]) (ms : Array MethodInfo := #[]) (fl : Nat := 33) (sup : Nat := 0) (ifs : Array Nat := #[]) (fds : Array FieldInfo := #[]) : ClassFile where
  minorVersion := 0
  majorVersion := 65
  constantPool := pool
  accessFlags := fl
  thisClass := this
  superClass := sup
  interfaces := ifs
  fields := fds
  methods := ms
  attributes := attrs
def plain (name : String) (sup : Option ClassId) : Class where
  name := name
  kind := .ordinary
  loader := none
  accessFlags := 33
  super := sup
  interfaces := #[]
  cf := none
  fields := #[]
  methods := #[]
  instanceTypes := #[]
  staticTypes := #[]
  resolved := #[]
  callSites := []
  init := .initialized
  statics := none
  mirror := none

def pool0 : Array CpInfo := pool [(5, u "<init>"), (0, u "()V"), (1, .class_ 10), (1, u "java/lang/Object")] 113

def k0m0 : Method := { name := "<init>", desc := "()V", sig := { parameters := [], returnType := none }, accessFlags := 1, code := none }
/-- java/lang/Object -/
def k0 : Class := { plain "java/lang/Object" none with
  accessFlags := 33
  interfaces := #[]
  cf := some (fileOf pool0 8 #[] #[{ accessFlags := 1, nameIndex := 5, descriptorIndex := 6, attributes := #[] }] 33 0 #[] #[])
  fields := #[]
  methods := #[k0m0]
  instanceTypes := #[]
  staticTypes := #[]
  resolved := Array.replicate 124 none
  statics := none }

def pool1 : Array CpInfo := pool [(2, .class_ 4), (1, u "java/lang/Object"), (0, u "<init>"), (0, u "()V"), (0, .integer 2147483647), (0, .methodref 9 10), (0, .class_ 11), (0, .nameAndType 12 13), (0, u "com/example/linkbook/linkbook/coding/BchParityOctetPinLaw"), (0, u "build"), (0, u "(JJI)[B"), (0, .long 18446744073709551615), (1, .methodref 17 18), (0, .class_ 19), (0, .nameAndType 20 21), (0, u "com/example/linkbook/linkbook/coding/Bch"), (0, u "parityOctet"), (0, u "([BI)I"), (2, u "law"), (0, u "(JJII)Z")] 7

def k1m0 : Method := { name := "<init>", desc := "()V", sig := { parameters := [], returnType := none }, accessFlags := 2, code := none }
def k1c1 : Code := { maxStack := 5, maxLocals := 6, code := method_2_code, exceptionTable := #[], attributes := #[] }
def k1m1 : Method := { name := "build", desc := "(JJI)[B", sig := { parameters := [.long, .long, .int], returnType := some (.array .byte) }, accessFlags := 10, code := some k1c1 }
def k1c2 : Code := { maxStack := 6, maxLocals := 18, code := code, exceptionTable := #[], attributes := #[] }
def k1m2 : Method := { name := "law", desc := "(JJII)Z", sig := { parameters := [.long, .long, .int, .int], returnType := some .boolean }, accessFlags := 9, code := some k1c2 }
/-- com/example/linkbook/linkbook/coding/BchParityOctetPinLaw -/
def k1 : Class := { plain "com/example/linkbook/linkbook/coding/BchParityOctetPinLaw" (some 0) with
  accessFlags := 49
  interfaces := #[]
  cf := some (fileOf pool1 9 #[] #[{ accessFlags := 2, nameIndex := 5, descriptorIndex := 6, attributes := #[] }, { accessFlags := 10, nameIndex := 12, descriptorIndex := 13, attributes := #[] }, { accessFlags := 9, nameIndex := 24, descriptorIndex := 25, attributes := #[] }] 49 2 #[] #[])
  fields := #[]
  methods := #[k1m0, k1m1, k1m2]
  instanceTypes := #[]
  staticTypes := #[]
  resolved := Array.replicate 33 none
  statics := none }

def pool2 : Array CpInfo := pool [(1, .class_ 2), (0, u "com/example/linkbook/linkbook/coding/Bch"), (1, .class_ 6), (1, u "java/lang/Object"), (0, u "<init>"), (0, u "()V"), (2, u "INFORMATION_LENGTH"), (0, u "I"), (2, u "CODEBLOCK_LENGTH"), (1, u "PARITY_BITS"), (0, u "PARITY_MASK"), (1, u "GENERATOR"), (3, u "parityOctet"), (0, u "([BI)I")] 3

def k2m0 : Method := { name := "<init>", desc := "()V", sig := { parameters := [], returnType := none }, accessFlags := 2, code := none }
def k2c1 : Code := { maxStack := 3, maxLocals := 6, code := prog_11_method_2_code, exceptionTable := #[], attributes := #[] }
def k2m1 : Method := { name := "parityOctet", desc := "([BI)I", sig := { parameters := [(.array .byte), .int], returnType := some .int }, accessFlags := 9, code := some k2c1 }
/-- com/example/linkbook/linkbook/coding/Bch -/
def k2 : Class := { plain "com/example/linkbook/linkbook/coding/Bch" (some 0) with
  accessFlags := 49
  interfaces := #[]
  cf := some (fileOf pool2 1 #[] #[{ accessFlags := 2, nameIndex := 7, descriptorIndex := 8, attributes := #[] }, { accessFlags := 9, nameIndex := 24, descriptorIndex := 25, attributes := #[] }] 49 4 #[] #[{ accessFlags := 25, nameIndex := 11, descriptorIndex := 12, attributes := #[] }, { accessFlags := 25, nameIndex := 15, descriptorIndex := 12, attributes := #[] }, { accessFlags := 26, nameIndex := 17, descriptorIndex := 12, attributes := #[] }, { accessFlags := 26, nameIndex := 18, descriptorIndex := 12, attributes := #[] }, { accessFlags := 26, nameIndex := 20, descriptorIndex := 12, attributes := #[] }])
  fields := #[{ name := "INFORMATION_LENGTH", type := .int, accessFlags := 25, slot := 0, constantValue := 0 }, { name := "CODEBLOCK_LENGTH", type := .int, accessFlags := 25, slot := 1, constantValue := 0 }, { name := "PARITY_BITS", type := .int, accessFlags := 26, slot := 2, constantValue := 0 }, { name := "PARITY_MASK", type := .int, accessFlags := 26, slot := 3, constantValue := 0 }, { name := "GENERATOR", type := .int, accessFlags := 26, slot := 4, constantValue := 0 }]
  methods := #[k2m0, k2m1]
  instanceTypes := #[]
  staticTypes := #[.int, .int, .int, .int, .int]
  resolved := Array.replicate 29 none
  statics := none }

def pool3 : Array CpInfo := pool [(1, u "java/lang/Cloneable"), (0, .class_ 1), (0, u "java/lang/Object"), (0, .class_ 3)] 3

/-- java/lang/Cloneable -/
def k3 : Class := { plain "java/lang/Cloneable" (some 0) with
  accessFlags := 1537
  interfaces := #[]
  cf := some (fileOf pool3 2 #[] #[] 1537 4 #[] #[])
  fields := #[]
  methods := #[]
  instanceTypes := #[]
  staticTypes := #[]
  resolved := Array.replicate 8 none
  statics := none }

def pool4 : Array CpInfo := pool [(1, u "java/io/Serializable"), (0, .class_ 1), (0, u "java/lang/Object"), (0, .class_ 3)] 3

/-- java/io/Serializable -/
def k4 : Class := { plain "java/io/Serializable" (some 0) with
  accessFlags := 1537
  interfaces := #[]
  cf := some (fileOf pool4 2 #[] #[] 1537 4 #[] #[])
  fields := #[]
  methods := #[]
  instanceTypes := #[]
  staticTypes := #[]
  resolved := Array.replicate 8 none
  statics := none }

/-- the primitive byte -/
def k5 : Class := { plain "byte" none with kind := .primitive 'B', accessFlags := 0x411 }
/-- [B -/
def k6 : Class := { plain "[B" (some 0) with kind := .array 5 .byte, interfaces := #[3, 4], accessFlags := 1041 }

/-- the primitive int -/
def k7 : Class := { plain "int" none with kind := .primitive 'I', accessFlags := 0x411 }
/-- [I -/
def k8 : Class := { plain "[I" (some 0) with kind := .array 7 .int, interfaces := #[3, 4], accessFlags := 1041 }

def heap : Heap := #[]
def classes : Array Class := #[k0, k1, k2, k3, k4, k5, k6, k7, k8]
def interned : List (Array UInt16 × Addr) := []
def slotsUsed : Nat := 0
def theMethod : MethodId := ⟨1, 2⟩
def args0 : Array Value := #[.long 5, .long 77, .int 9, .int 2]
def aboutOver (below : List Frame) : State where
  vm := { classes := classes, interned := interned.toArray }
  heap := heap
  slotsUsed := slotsUsed
  threads := #[{ frames := .invoking theMethod args0 :: below }]
def below0 : List Frame := [.native { method := ⟨0, 0⟩, args := #[] }]
def about1 : State := aboutOver below0
def p0 : Program := .bare "" "" ""
def e0 : Env := launch0.env 0 0 0
theorem w_frames : about1.frames = Frame.invoking theMethod args0 :: below0 := rfl
set_option maxRecDepth 65536 in
theorem w_args : argsFit about1.vm theMethod args0 = true := by decide +kernel
set_option maxRecDepth 65536 in
theorem w_heap : heapFits about1 = true := by decide +kernel
set_option maxRecDepth 65536 in
theorem w_runnable : about1.curStatus? = some .runnable := by decide +kernel
set_option maxRecDepth 65536 in
theorem w_alone : about1.alone = true := by decide +kernel
set_option maxRecDepth 65536 in
theorem w_named : about1.methodNamed? x = some theMethod := by decide +kernel
set_option maxRecDepth 65536 in
theorem w_hears : about1.hears theMethod below0 = true := by decide +kernel
set_option maxRecDepth 65536 in
theorem w_ripe : about1.ripe theMethod args0 below0 = true := by decide +kernel
theorem w_running : about1.status = .running := rfl
set_option maxRecDepth 65536 in
theorem w_room : about1.hasRoom e0.platform room_1 = true :=
  launch0.hasRoom_least _ room_1 (by decide +kernel) (by decide +kernel) (by decide +kernel) (by decide +kernel) (by decide +kernel) (by decide +kernel)
theorem allAtoms_all (ts : List Jvm.Cond) (a : Array Jvm.Value) (st : Jvm.State) : (allAtoms ts).before a st = ts.all (fun c => c.before a st) := by
  induction ts with
  | nil => rfl
  | cons c t ih =>
    show (Jvm.Cond.and c (allAtoms t)).before a st = _
    rw [Jvm.Cond.before_and, ih, List.all_cons]
def words1 : List Jvm.Cond := Jvm.Cond.code x code maxLocals ret :: tables_1
/-- a 'code' word, met by the world's own term for the bytes: nothing is compared byte by byte -/
theorem code_word {y : MethodName} {bytes : ByteArray} {mx : Nat} {rt : Option FieldType} {a : Array Value} {s : State} {m : MethodId} {meth : Method} {c : Code} (h1 : s.methodNamed? y = some m) (h2 : s.vm.method? m = some meth) (h3 : meth.code = some c) (h4 : c.code = bytes)
    (h5 : (c.maxLocals == mx && c.exceptionTable.isEmpty && decide (c.maxStack ≤ mostOperands) && decide (meth.sig.returnType = rt) && !meth.locks && decide (parseMethodDescriptor y.desc = some meth.sig)) = true) : (Jvm.Cond.code y bytes mx rt).before a s = true := by
  simp only [Bool.and_eq_true, beq_iff_eq, Bool.not_eq_true', decide_eq_true_eq] at h5
  obtain ⟨⟨⟨⟨⟨g1, g2⟩, g3⟩, g4⟩, g5⟩, g6⟩ := h5
  simp [Cond.before, Cond.holds, Cond.value, h1, h2, h3, h4, g1, g2, g3, g4, g5, g6]
def isCode : Jvm.Cond → Bool
  | .code _ _ _ _ => true
  | _ => false
theorem all_split {L : List Jvm.Cond} {P : Jvm.Cond → Bool} (h1 : L.all (fun c => isCode c || P c) = true) (h2 : ∀ c ∈ L.filter isCode, P c = true) : L.all P = true := by
  refine List.all_eq_true.mpr fun c hc => ?_
  have h := List.all_eq_true.mp h1 c hc
  rcases Bool.eq_false_or_eq_true (isCode c) with hi | hi
  · exact h2 c (List.mem_filter.mpr ⟨hc, hi⟩)
  · simpa [hi] using h
set_option maxRecDepth 65536 in
theorem w_c0 : (Jvm.Cond.code x code maxLocals ret).before args0 about1 = true := code_word (m := ⟨1, 2⟩) (meth := k1m2) (c := k1c2) (by decide +kernel) rfl rfl rfl (by decide +kernel)
set_option maxRecDepth 65536 in
theorem w_c1 : (Jvm.Cond.code ({ cls := "com/example/linkbook/linkbook/coding/BchParityOctetPinLaw", name := "build", desc := "(JJI)[B" } : Jvm.MethodName) method_2_code (6 : Nat) (Option.some (Jvm.ClassFile.FieldType.array Jvm.ClassFile.FieldType.byte))).before args0 about1 = true := code_word (m := ⟨1, 1⟩) (meth := k1m1) (c := k1c1) (by decide +kernel) rfl rfl rfl (by decide +kernel)
set_option maxRecDepth 65536 in
theorem w_c2 : (Jvm.Cond.code ({ cls := "com/example/linkbook/linkbook/coding/Bch", name := "parityOctet", desc := "([BI)I" } : Jvm.MethodName) prog_11_method_2_code (6 : Nat) (Option.some Jvm.ClassFile.FieldType.int)).before args0 about1 = true := code_word (m := ⟨2, 1⟩) (meth := k2m1) (c := k2c1) (by decide +kernel) rfl rfl rfl (by decide +kernel)
def codes1 : List Jvm.Cond := [Jvm.Cond.code x code maxLocals ret, Jvm.Cond.code ({ cls := "com/example/linkbook/linkbook/coding/BchParityOctetPinLaw", name := "build", desc := "(JJI)[B" } : Jvm.MethodName) method_2_code (6 : Nat) (Option.some (Jvm.ClassFile.FieldType.array Jvm.ClassFile.FieldType.byte)), Jvm.Cond.code ({ cls := "com/example/linkbook/linkbook/coding/Bch", name := "parityOctet", desc := "([BI)I" } : Jvm.MethodName) prog_11_method_2_code (6 : Nat) (Option.some Jvm.ClassFile.FieldType.int)]
set_option maxRecDepth 65536 in
theorem codes_eq : words1.filter isCode = codes1 := rfl
theorem w_codes : ∀ c ∈ words1.filter isCode, c.before args0 about1 = true := by
  rw [codes_eq]
  intro c hc
  simp only [codes1, List.mem_cons, List.not_mem_nil, or_false] at hc
  rcases hc with rfl | rfl | rfl
  · exact w_c0
  · exact w_c1
  · exact w_c2
set_option maxRecDepth 65536 in
theorem w_t1 : words1.all (fun c => isCode c || c.before args0 about1) = true := by decide +kernel
theorem w_tables : (allAtoms (Jvm.Cond.code x code maxLocals ret :: tables_1)).before args0 about1 = true := by
  rw [allAtoms_all]
  show words1.all (fun c => c.before args0 about1) = true
  refine all_split ?_ w_codes
  rw [w_t1]
set_option maxRecDepth 65536 in
theorem w_case : (Jvm.Cond.and given_1 narrow_1).before args0 about1 = true := by decide +kernel
theorem w_applies : (headSpec (Jvm.Cond.code x code maxLocals ret :: tables_1) room_1).applies x e0.platform about1 = true :=
  (Spec.applies_iff w_frames).mpr ⟨w_running, w_runnable, w_alone, w_named, w_hears, w_ripe, w_room, w_tables⟩
theorem atStart : AtStart classFile x code maxLocals ret World_1 tables_1 room_1 Calls_1 rest_1 Pre_1 launch0 p0 e0 about1 theMethod args0 below0 :=
  ⟨lists_1, trivial, launch0.admits_env _ _ _, launch0.least_env, fairChoices_fair.cas, fairChoices_fair.clock, w_frames, w_args, w_heap, w_applies, trivial, trivial, w_case⟩
end start1
theorem witness_1 : WitnessClaimed_1 := ⟨start1.p0, start1.e0, start1.about1, start1.theMethod, start1.args0, start1.below0, start1.atStart⟩
end Jvm.Pilot.@@N@@
