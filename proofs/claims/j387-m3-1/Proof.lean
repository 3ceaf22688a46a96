import JvmDerived
import JvmDerived.Pilot.@@N@@Statement
import JvmDerived.Pilot.@@N@@Code
set_option linter.unusedVariables false
set_option linter.unusedSimpArgs false
namespace Jvm.Pilot.@@N@@
open Jvm Jvm.ClassFile Sem Op Lib Jvm.Free Jvm.Stand Jvm.LawKit Jvm.RoadKit Bundle Jvm.Pilot.@@N@@.Jvm.D
def own_us (x : Int64) (k : Int32) : Int64 := (x.toUInt64 >>> (k &&& 0x3f).toInt64.toUInt64).toInt64
def own_byte (v : Int64) (k : Int32) : Int32 := nar .byte ((own_us v k).toInt32.toInt8.toInt32)
def own_st (r : Int64) (w : Int32) : Int64 := (r <<< ((8 : Int32) &&& 0x3f).toInt64) ||| (w.toInt64 &&& (255 : Int64))
theorem own_shrB (x : Int64) (q : Int32) (k : Nat) (hk : q.toBitVec.toNat % 64 = k) : (own_us x q).toBitVec = x.toBitVec >>> k := by
  show x.toBitVec >>> ((q &&& 0x3f).toInt64.toBitVec % 64) = _
  have h5 := (sm64 q k hk).2
  rw [BitVec.ushiftRight_eq', BitVec.toNat_umod, (sm64 q k hk).1, BitVec.toNat_ofNat]
  have h6 : k % 2 ^ 64 % (64 : BitVec 64).toNat = k := by show k % 2 ^ 64 % 64 = k; omega
  rw [h6]
theorem own_shlB (x : Int64) (q : Int32) (k : Nat) (hk : q.toBitVec.toNat % 64 = k) : (x <<< (q &&& 0x3f).toInt64).toBitVec = x.toBitVec <<< k := by
  show x.toBitVec <<< ((q &&& 0x3f).toInt64.toBitVec.smod 64) = _
  rw [BitVec.shiftLeft_eq', (sm64 q k hk).1, smod64 k (sm64 q k hk).2]
theorem own_natL (q : Int64) : ((q.toBitVec.toNat : Int) - q.toInt) % 18446744073709551616 = 0 ∧ (q.toBitVec.toNat : Int) < 18446744073709551616 := by
  have h1 : q.toInt = q.toBitVec.toInt := rfl
  have h2 := q.toBitVec.isLt
  rw [h1, BitVec.toInt_eq_toNat_cond]
  split <;> omega
theorem own_byteN (v : Int64) (q : Int32) (k : Nat) (hk : q.toBitVec.toNat % 64 = k) : ((own_byte v q).toInt64 &&& (255 : Int64)).toBitVec.toNat = v.toBitVec.toNat / 2 ^ k % 256 := by
  have h1 := c_maskL (own_byte v q).toInt64 (255 : Int64) 8 (by decide) (by decide)
  have e8 : ((2 ^ 8 : Nat) : Int) = 256 := by decide
  rw [e8, c_i2l] at h1
  have h2 := c_i2b ((own_us v q).toInt32.toInt8.toInt32)
  have h3 := c_i2b ((own_us v q).toInt32)
  have h4 := c_l2i (own_us v q)
  have h5 := own_natL (own_us v q)
  rw [own_shrB v q k hk, BitVec.toNat_ushiftRight, Nat.shiftRight_eq_div_pow] at h5
  have h6 := own_natL ((own_byte v q).toInt64 &&& (255 : Int64))
  have e : (own_byte v q) = ((own_us v q).toInt32.toInt8.toInt32).toInt8.toInt32 := rfl
  rw [e] at h1 h6 ⊢
  generalize (v.toBitVec.toNat / 2 ^ k) = U at *
  generalize (((own_us v q).toInt32.toInt8.toInt32).toInt8.toInt32.toInt64 &&& (255 : Int64)) = A at *
  generalize ((own_us v q).toInt32.toInt8.toInt32).toInt8.toInt32 = B at *
  omega
theorem own_next (r : Int64) (w : Int32) (N M : Nat) (hr : r.toBitVec.toNat = N) (hN : N < 2 ^ 56) (hw : (w.toInt64 &&& (255 : Int64)).toBitVec.toNat = M) (hM : M < 256) : (own_st r w).toBitVec.toNat = N * 256 + M := by
  unfold own_st
  rw [Int64.toBitVec_or, own_shlB r (8 : Int32) 8 (by decide), BitVec.toNat_or, BitVec.toNat_shiftLeft, hr, hw]
  have h1 : N <<< 8 = N * 256 := by rw [Nat.shiftLeft_eq]
  rw [Nat.mod_eq_of_lt (by rw [h1]; omega), ← Nat.shiftLeft_add_eq_or_of_lt (by omega : M < 2 ^ 8), h1]
theorem own_go (v r : Int64) (q : Int32) (m i : Nat) (hq : q.toBitVec.toNat % 64 = 8 * m) (hi : i ≤ 7) (hr : r.toBitVec.toNat = v.toBitVec.toNat / 2 ^ (8 * (m + 1)) % 2 ^ (8 * i)) :
    (own_st r (own_byte v q)).toBitVec.toNat = v.toBitVec.toNat / 2 ^ (8 * m) % 2 ^ (8 * (i + 1)) := by
  have h1 : 2 ^ (8 * i) ≤ 2 ^ 56 := Nat.pow_le_pow_right (by decide) (by omega)
  have h2 : v.toBitVec.toNat / 2 ^ (8 * (m + 1)) % 2 ^ (8 * i) < 2 ^ (8 * i) := Nat.mod_lt _ (Nat.pow_pos (by decide))
  rw [own_next r _ _ _ hr (by omega) (own_byteN v q (8 * m) hq) (Nat.mod_lt _ (by decide))]
  have h3 : v.toBitVec.toNat / 2 ^ (8 * (m + 1)) = v.toBitVec.toNat / 2 ^ (8 * m) / 256 := by rw [Nat.div_div_eq_div_mul, show 8 * (m + 1) = 8 * m + 8 by omega, Nat.pow_add]
  rw [h3, show 8 * (i + 1) = 8 + 8 * i by omega, Nat.pow_add, show 2 ^ 8 = 256 by decide, Nat.mod_mul]
  omega
theorem own_mask (v m : Int64) (k : Nat) (hm : m.toBitVec.toNat = 2 ^ k - 1) : (v &&& m).toBitVec.toNat = v.toBitVec.toNat % 2 ^ k := by
  rw [Int64.toBitVec_and, BitVec.toNat_and, hm, Nat.and_two_pow_sub_one_eq_mod]
theorem own_eq (a b : Int64) (h : a.toBitVec.toNat = b.toBitVec.toNat) : a = b := Int64.toBitVec_inj.mp (BitVec.eq_of_toNat_eq h)
theorem own_base (v : Int64) (m : Nat) : (0 : Int64).toBitVec.toNat = v.toBitVec.toNat / 2 ^ (8 * m) % 2 ^ (8 * 0) := by
  rw [Nat.mul_zero, Nat.pow_zero, Nat.mod_one]; rfl
theorem own_nine (p : Int32) : ∃ n : Nat, n < 9 ∧ (p &&& (2147483647 : Int32)) % (9 : Int32) = Int32.ofNat n := by
  have h1 := c_mask p (2147483647 : Int32) 31 (by decide) (by decide)
  have e31 : ((2 ^ 31 : Nat) : Int) = 2147483648 := by decide
  rw [e31] at h1
  have h2 := (c_irem (p &&& (2147483647 : Int32)) (9 : Int32) 9 (by decide)).1 (by omega)
  refine ⟨((p &&& (2147483647 : Int32)) % (9 : Int32)).toInt.toNat, by omega, ?_⟩
  apply Int32.toInt_inj.mp
  rw [Int32.toInt_ofNat_of_lt (by omega)]
  omega
theorem own_fin0 (v : Int64) : (0 : Int64) = (v &&& (((1 : Int64) <<< ((0 : Int32) &&& 0x3f).toInt64) - (1 : Int64))) := by
  apply own_eq
  rw [own_mask v _ 0 (by decide), Nat.pow_zero, Nat.mod_one]
  rfl
theorem own_fin1 (v : Int64) : (own_st (0 : Int64) (own_byte v (0 : Int32))) = (v &&& (((1 : Int64) <<< ((8 : Int32) &&& 0x3f).toInt64) - (1 : Int64))) := by
  apply own_eq
  have h := (own_go v _ (0 : Int32) 0 0 (by decide) (by decide) (own_base v 1))
  rw [Nat.mul_zero, Nat.pow_zero, Nat.div_one] at h
  rw [own_mask v _ 8 (by decide)]
  exact h
theorem own_fin2 (v : Int64) : (own_st (own_st (0 : Int64) (own_byte v (8 : Int32))) (own_byte v (0 : Int32))) = (v &&& (((1 : Int64) <<< ((16 : Int32) &&& 0x3f).toInt64) - (1 : Int64))) := by
  apply own_eq
  have h := (own_go v _ (0 : Int32) 0 1 (by decide) (by decide) (own_go v _ (8 : Int32) 1 0 (by decide) (by decide) (own_base v 2)))
  rw [Nat.mul_zero, Nat.pow_zero, Nat.div_one] at h
  rw [own_mask v _ 16 (by decide)]
  exact h
theorem own_fin3 (v : Int64) : (own_st (own_st (own_st (0 : Int64) (own_byte v (16 : Int32))) (own_byte v (8 : Int32))) (own_byte v (0 : Int32))) = (v &&& (((1 : Int64) <<< ((24 : Int32) &&& 0x3f).toInt64) - (1 : Int64))) := by
  apply own_eq
  have h := (own_go v _ (0 : Int32) 0 2 (by decide) (by decide) (own_go v _ (8 : Int32) 1 1 (by decide) (by decide) (own_go v _ (16 : Int32) 2 0 (by decide) (by decide) (own_base v 3))))
  rw [Nat.mul_zero, Nat.pow_zero, Nat.div_one] at h
  rw [own_mask v _ 24 (by decide)]
  exact h
theorem own_fin4 (v : Int64) : (own_st (own_st (own_st (own_st (0 : Int64) (own_byte v (24 : Int32))) (own_byte v (16 : Int32))) (own_byte v (8 : Int32))) (own_byte v (0 : Int32))) = (v &&& (((1 : Int64) <<< ((32 : Int32) &&& 0x3f).toInt64) - (1 : Int64))) := by
  apply own_eq
  have h := (own_go v _ (0 : Int32) 0 3 (by decide) (by decide) (own_go v _ (8 : Int32) 1 2 (by decide) (by decide) (own_go v _ (16 : Int32) 2 1 (by decide) (by decide) (own_go v _ (24 : Int32) 3 0 (by decide) (by decide) (own_base v 4)))))
  rw [Nat.mul_zero, Nat.pow_zero, Nat.div_one] at h
  rw [own_mask v _ 32 (by decide)]
  exact h
theorem own_fin5 (v : Int64) : (own_st (own_st (own_st (own_st (own_st (0 : Int64) (own_byte v (32 : Int32))) (own_byte v (24 : Int32))) (own_byte v (16 : Int32))) (own_byte v (8 : Int32))) (own_byte v (0 : Int32))) = (v &&& (((1 : Int64) <<< ((40 : Int32) &&& 0x3f).toInt64) - (1 : Int64))) := by
  apply own_eq
  have h := (own_go v _ (0 : Int32) 0 4 (by decide) (by decide) (own_go v _ (8 : Int32) 1 3 (by decide) (by decide) (own_go v _ (16 : Int32) 2 2 (by decide) (by decide) (own_go v _ (24 : Int32) 3 1 (by decide) (by decide) (own_go v _ (32 : Int32) 4 0 (by decide) (by decide) (own_base v 5))))))
  rw [Nat.mul_zero, Nat.pow_zero, Nat.div_one] at h
  rw [own_mask v _ 40 (by decide)]
  exact h
theorem own_fin6 (v : Int64) : (own_st (own_st (own_st (own_st (own_st (own_st (0 : Int64) (own_byte v (40 : Int32))) (own_byte v (32 : Int32))) (own_byte v (24 : Int32))) (own_byte v (16 : Int32))) (own_byte v (8 : Int32))) (own_byte v (0 : Int32))) = (v &&& (((1 : Int64) <<< ((48 : Int32) &&& 0x3f).toInt64) - (1 : Int64))) := by
  apply own_eq
  have h := (own_go v _ (0 : Int32) 0 5 (by decide) (by decide) (own_go v _ (8 : Int32) 1 4 (by decide) (by decide) (own_go v _ (16 : Int32) 2 3 (by decide) (by decide) (own_go v _ (24 : Int32) 3 2 (by decide) (by decide) (own_go v _ (32 : Int32) 4 1 (by decide) (by decide) (own_go v _ (40 : Int32) 5 0 (by decide) (by decide) (own_base v 6)))))))
  rw [Nat.mul_zero, Nat.pow_zero, Nat.div_one] at h
  rw [own_mask v _ 48 (by decide)]
  exact h
theorem own_fin7 (v : Int64) : (own_st (own_st (own_st (own_st (own_st (own_st (own_st (0 : Int64) (own_byte v (48 : Int32))) (own_byte v (40 : Int32))) (own_byte v (32 : Int32))) (own_byte v (24 : Int32))) (own_byte v (16 : Int32))) (own_byte v (8 : Int32))) (own_byte v (0 : Int32))) = (v &&& (((1 : Int64) <<< ((56 : Int32) &&& 0x3f).toInt64) - (1 : Int64))) := by
  apply own_eq
  have h := (own_go v _ (0 : Int32) 0 6 (by decide) (by decide) (own_go v _ (8 : Int32) 1 5 (by decide) (by decide) (own_go v _ (16 : Int32) 2 4 (by decide) (by decide) (own_go v _ (24 : Int32) 3 3 (by decide) (by decide) (own_go v _ (32 : Int32) 4 2 (by decide) (by decide) (own_go v _ (40 : Int32) 5 1 (by decide) (by decide) (own_go v _ (48 : Int32) 6 0 (by decide) (by decide) (own_base v 7))))))))
  rw [Nat.mul_zero, Nat.pow_zero, Nat.div_one] at h
  rw [own_mask v _ 56 (by decide)]
  exact h
theorem own_fin8 (v : Int64) : (own_st (own_st (own_st (own_st (own_st (own_st (own_st (own_st (0 : Int64) (own_byte v (56 : Int32))) (own_byte v (48 : Int32))) (own_byte v (40 : Int32))) (own_byte v (32 : Int32))) (own_byte v (24 : Int32))) (own_byte v (16 : Int32))) (own_byte v (8 : Int32))) (own_byte v (0 : Int32))) = v := by
  apply own_eq
  have h := (own_go v _ (0 : Int32) 0 7 (by decide) (by decide) (own_go v _ (8 : Int32) 1 6 (by decide) (by decide) (own_go v _ (16 : Int32) 2 5 (by decide) (by decide) (own_go v _ (24 : Int32) 3 4 (by decide) (by decide) (own_go v _ (32 : Int32) 4 3 (by decide) (by decide) (own_go v _ (40 : Int32) 5 2 (by decide) (by decide) (own_go v _ (48 : Int32) 6 1 (by decide) (by decide) (own_go v _ (56 : Int32) 7 0 (by decide) (by decide) (own_base v 8)))))))))
  rw [Nat.mul_zero, Nat.pow_zero, Nat.div_one] at h
  rw [Nat.mod_eq_of_lt (by have := v.toBitVec.isLt; omega)] at h
  exact h
theorem pn_0 : plainName "shale/ValueType" = true := by first | (simp [plainName, overriddenIn]; done) | decide +kernel
theorem pn_1 : plainName "shale/ValueTypeBigEndianPinLaw" = true := by first | (simp [plainName, overriddenIn]; done) | decide +kernel
theorem pd_0 : parseMethodDescriptor "(JI)[B" = some ⟨[.long, .int], some (.array .byte)⟩ := by decide +kernel
theorem pd_1 : parseMethodDescriptor "(J[BI)J" = some ⟨[.long, (.array .byte), .int], some .long⟩ := by decide +kernel
theorem d1_0 : decode prog_227_method_42_code 0 = .ok (.iload_n 2, 1) := by decide +kernel
theorem d1_1 : decode prog_227_method_42_code 1 = .ok (.newarray .byte, 2) := by decide +kernel
theorem d1_3 : decode prog_227_method_42_code 3 = .ok (.astore_n 3, 1) := by decide +kernel
theorem d1_4 : decode prog_227_method_42_code 4 = .ok (.iload_n 2, 1) := by decide +kernel
theorem d1_5 : decode prog_227_method_42_code 5 = .ok (.iconst 1, 1) := by decide +kernel
theorem d1_6 : decode prog_227_method_42_code 6 = .ok (.isub, 1) := by decide +kernel
theorem d1_7 : decode prog_227_method_42_code 7 = .ok (.istore 4, 2) := by decide +kernel
theorem d1_9 : decode prog_227_method_42_code 9 = .ok (.iload 4, 2) := by decide +kernel
theorem d1_11 : decode prog_227_method_42_code 11 = .ok (.ifCond .lt 26, 3) := by decide +kernel
theorem d1_37 : decode prog_227_method_42_code 37 = .ok (.aload_n 3, 1) := by decide +kernel
theorem d1_38 : decode prog_227_method_42_code 38 = .ok (.areturn, 1) := by decide +kernel
theorem ef_rmb0 (m : MethodId) (q0 : Int64) : entryFrame m #[(.long q0), (.int (0 : Int32))] 5 = mkF m 0 #[.val (.long q0), .second, .val (.int (0 : Int32)), .unset, .unset] [] := by first | (simp [entryFrame, mkF, argsToLocals, Value.category]; done) | rfl
def Qb0 (Z : State) (q0 : Int64) (h0 : Heap) (n0 : Nat) (v : Option Value) (h : Heap) (L : List Loc) : Prop := ∃ (b : Addr) (k : ClassId), v = some (.ref b) ∧ Fr n0 L ∧ Keep h0 h [] ∧ Arv Z h b k .byte (0 : Int32) [] (.int (0 : Int32))
set_option maxRecDepth 65536 in
set_option maxHeartbeats 40000000 in
theorem rmb0 (l : Launch) (Z : State) (a0 : Array Value) (hw : ∀ d ∈ tables_1, d.before a0 Z = true) (ws : List Jvm.Cond) (q0 : Int64) (h0 : Heap) (n0 : Nat) (Z0 : n0 ≤ h0.size) :
    MetFree l (⟨"shale/ValueType", "bigEndian", "(JI)[B"⟩ : MethodName) (head1 (Jvm.Cond.code (⟨"shale/ValueType", "bigEndian", "(JI)[B"⟩ : MethodName) prog_227_method_42_code 5 (some (.array .byte)) :: ws) ({ frames := 0, cells := 1, slots := 0, locals := 0 } : Room)) (fun a U => a = #[(.long q0), (.int (0 : Int32))] ∧ Z.Warmed39 U.vm ∧ U.heap = h0) (fun _ _ _ _ _ => True) (fun _ U o U' => ∃ v L, o = .returned v ∧ Qb0 Z q0 h0 n0 v U'.heap L ∧ FrameEnd U o U' L ({ frames := 0, cells := 1, slots := 0, locals := 0 } : Room).cells ({ frames := 0, cells := 1, slots := 0, locals := 0 } : Room).slots) := by
  refine MetFree.of_bodySF (plainFor_of_name pn_0) hisR ?_
  intro p e s m args below meth c s₁ Bd hml0 hP hK
  obtain ⟨rfl, hZ, hh⟩ := hP
  have hx := Bd.exec
  have hby := Bd.bytes
  have hml : c.maxLocals = 5 := hml0
  have hown : s.vm.findClass "shale/ValueType" = some m.cls := findClass_of_methodNamed Bd.named
  have hnm := (name_of_methodNamed Bd.named Bd.method).1
  have X0 : Stand p l e ({ frames := 0, cells := 1, slots := 0, locals := 0 } : Room) s m #[(.long q0), (.int (0 : Int32))] below meth c s₁ [] 0 0 := Stand.of_body Bd
  have e0 : s₁.heap = h0 := by rw [← hh, Bd.state]; rfl
  have N0 := Fr.nil n0
  have pre0 : ∀ t, Steps p.tables e below (s₁.setTop (mkF m 0 #[.val (.long q0), .second, .val (.int (0 : Int32)), .unset, .unset] [])) t → Steps p.tables e below (s₁.setTop (entryFrame m #[(.long q0), (.int (0 : Int32))] 5)) t := fun t k => castTop (ef_rmb0 m q0) k
  obtain ⟨T1, h1, k1, X1, e1, E1, A1, st1⟩ := newP X0 hx hZ (hw _ (List.mem_of_getElem? (i := 5) rfl)) e0 (g := (mkF m 1 #[.val (.long q0), .second, .val (.int (0 : Int32)), .unset, .unset] [(.int (0 : Int32))])) rfl (hb hby d1_1) rfl (by decide) (cap := 0) (by decide) (by decide) (by decide) (by decide)
  obtain ⟨b1, g1⟩ : ∃ z, z = h0.size := ⟨_, rfl⟩
  rw [← g1] at A1 st1
  have gn1 : n0 ≤ b1 := Nat.le_trans Z0 (Nat.le_of_eq g1.symm)
  have sz1 : h0.size ≤ b1 := Nat.le_trans (Keep.refl h0 []).1 (Nat.le_of_eq g1.symm)
  have Z2 : n0 ≤ h1.size := Nat.le_trans Z0 E1.1
  have K1 : Keep h0 h1 [] := (Keep.refl h0 []).ext E1
  have V1 : Arv Z h1 b1 k1 .byte (0 : Int32) [] (.int (0 : Int32)) := Arv.new A1 (by decide)
  obtain ⟨fs, hr, hrun, hended, hW, hsame⟩ := X1.leave (v := some (.ref b1)) (fun h => by rw [Bd.returns] at h; cases h)
  refine ⟨_, _, pre0 _ ?_, hrun, hended, _, _, rfl, ?_, ⟨_, rfl⟩, hW, hsame.mono (by decide) (by decide)⟩
  · show Steps p.tables e below (s₁.setTop (mkF m 0 #[.val (.long q0), .second, .val (.int (0 : Int32)), .unset, .unset] [])) _
    refine XS.iloadN X0.here hx rfl (hb hby d1_0) rfl ?_
    show Steps p.tables e below (s₁.setTop (mkF m 1 #[.val (.long q0), .second, .val (.int (0 : Int32)), .unset, .unset] [(.int (0 : Int32))])) _
    refine st1 _ ?_
    show Steps p.tables e below (T1.setTop (mkF m 3 #[.val (.long q0), .second, .val (.int (0 : Int32)), .unset, .unset] [(.ref b1)])) _
    refine XS.astoreN X1.here hx rfl (hb hby d1_3) rfl rfl (l' := #[.val (.long q0), .second, .val (.int (0 : Int32)), .val (.ref b1), .unset]) rfl ?_
    show Steps p.tables e below (T1.setTop (mkF m 4 #[.val (.long q0), .second, .val (.int (0 : Int32)), .val (.ref b1), .unset] [])) _
    refine XS.iloadN X1.here hx rfl (hb hby d1_4) rfl ?_
    show Steps p.tables e below (T1.setTop (mkF m 5 #[.val (.long q0), .second, .val (.int (0 : Int32)), .val (.ref b1), .unset] [(.int (0 : Int32))])) _
    refine XS.iconst X1.here hx rfl (hb hby d1_5) ?_
    show Steps p.tables e below (T1.setTop (mkF m 6 #[.val (.long q0), .second, .val (.int (0 : Int32)), .val (.ref b1), .unset] [(.int (1 : Int32)), (.int (0 : Int32))])) _
    refine XS.isub X1.here hx rfl (hb hby d1_6) rfl ?_
    show Steps p.tables e below (T1.setTop (mkF m 7 #[.val (.long q0), .second, .val (.int (0 : Int32)), .val (.ref b1), .unset] [(.int (-1 : Int32))])) _
    refine XS.istore X1.here hx rfl (hb hby d1_7) rfl (l' := #[.val (.long q0), .second, .val (.int (0 : Int32)), .val (.ref b1), .val (.int (-1 : Int32))]) rfl ?_
    show Steps p.tables e below (T1.setTop (mkF m 9 #[.val (.long q0), .second, .val (.int (0 : Int32)), .val (.ref b1), .val (.int (-1 : Int32))] [])) _
    refine XS.iload X1.here hx rfl (hb hby d1_9) rfl ?_
    show Steps p.tables e below (T1.setTop (mkF m 11 #[.val (.long q0), .second, .val (.int (0 : Int32)), .val (.ref b1), .val (.int (-1 : Int32))] [(.int (-1 : Int32))])) _
    refine XS.ifYes X1.here hx rfl (pc0 := 11) (pc' := 37) rfl (hb hby d1_11) rfl ((if0 _ _).trans (tlt (by decide : (-1 : Int32) < (0 : Int32))).1) (by decide) (by decide) ?_
    show Steps p.tables e below (T1.setTop (mkF m 37 #[.val (.long q0), .second, .val (.int (0 : Int32)), .val (.ref b1), .val (.int (-1 : Int32))] [])) _
    refine XS.aloadN X1.here hx rfl (hb hby d1_37) rfl rfl ?_
    show Steps p.tables e below (T1.setTop (mkF m 38 #[.val (.long q0), .second, .val (.int (0 : Int32)), .val (.ref b1), .val (.int (-1 : Int32))] [(.ref b1)])) _
    exact retOut X1 hx Bd.returns rfl (Or.inr (Or.inr (Or.inr (Or.inr ⟨rfl, rfl, rfl⟩)))) (hb hby d1_38) hr
  · show Qb0 Z q0 h0 n0 _ T1.heap _
    rw [e1]
    exact ⟨_, _, rfl, N0, K1, V1⟩
theorem d1_14 : decode prog_227_method_42_code 14 = .ok (.aload_n 3, 1) := by decide +kernel
theorem d1_15 : decode prog_227_method_42_code 15 = .ok (.iload 4, 2) := by decide +kernel
theorem d1_17 : decode prog_227_method_42_code 17 = .ok (.lload_n 0, 1) := by decide +kernel
theorem d1_18 : decode prog_227_method_42_code 18 = .ok (.bipush 8, 2) := by decide +kernel
theorem d1_20 : decode prog_227_method_42_code 20 = .ok (.iload_n 2, 1) := by decide +kernel
theorem d1_21 : decode prog_227_method_42_code 21 = .ok (.iconst 1, 1) := by decide +kernel
theorem d1_22 : decode prog_227_method_42_code 22 = .ok (.isub, 1) := by decide +kernel
theorem d1_23 : decode prog_227_method_42_code 23 = .ok (.iload 4, 2) := by decide +kernel
theorem d1_25 : decode prog_227_method_42_code 25 = .ok (.isub, 1) := by decide +kernel
theorem d1_26 : decode prog_227_method_42_code 26 = .ok (.imul, 1) := by decide +kernel
theorem d1_27 : decode prog_227_method_42_code 27 = .ok (.lushr, 1) := by decide +kernel
theorem d1_28 : decode prog_227_method_42_code 28 = .ok (.l2i, 1) := by decide +kernel
theorem d1_29 : decode prog_227_method_42_code 29 = .ok (.i2b, 1) := by decide +kernel
theorem d1_30 : decode prog_227_method_42_code 30 = .ok (.bastore, 1) := by decide +kernel
theorem d1_31 : decode prog_227_method_42_code 31 = .ok (.iinc 4 (-1), 3) := by decide +kernel
theorem d1_34 : decode prog_227_method_42_code 34 = .ok (.goto (-25), 3) := by decide +kernel
theorem ef_rmb1 (m : MethodId) (q0 : Int64) : entryFrame m #[(.long q0), (.int (1 : Int32))] 5 = mkF m 0 #[.val (.long q0), .second, .val (.int (1 : Int32)), .unset, .unset] [] := by first | (simp [entryFrame, mkF, argsToLocals, Value.category]; done) | rfl
def Qb1 (Z : State) (q0 : Int64) (h0 : Heap) (n0 : Nat) (v : Option Value) (h : Heap) (L : List Loc) : Prop := ∃ (b : Addr) (k : ClassId), v = some (.ref b) ∧ Fr n0 L ∧ Keep h0 h [] ∧ Arv Z h b k .byte (1 : Int32) [(.int (own_byte q0 (0 : Int32)))] (.int (0 : Int32))
set_option maxRecDepth 65536 in
set_option maxHeartbeats 40000000 in
theorem rmb1 (l : Launch) (Z : State) (a0 : Array Value) (hw : ∀ d ∈ tables_1, d.before a0 Z = true) (ws : List Jvm.Cond) (q0 : Int64) (h0 : Heap) (n0 : Nat) (Z0 : n0 ≤ h0.size) :
    MetFree l (⟨"shale/ValueType", "bigEndian", "(JI)[B"⟩ : MethodName) (head1 (Jvm.Cond.code (⟨"shale/ValueType", "bigEndian", "(JI)[B"⟩ : MethodName) prog_227_method_42_code 5 (some (.array .byte)) :: ws) ({ frames := 0, cells := 1, slots := 1, locals := 0 } : Room)) (fun a U => a = #[(.long q0), (.int (1 : Int32))] ∧ Z.Warmed39 U.vm ∧ U.heap = h0) (fun _ _ _ _ _ => True) (fun _ U o U' => ∃ v L, o = .returned v ∧ Qb1 Z q0 h0 n0 v U'.heap L ∧ FrameEnd U o U' L ({ frames := 0, cells := 1, slots := 1, locals := 0 } : Room).cells ({ frames := 0, cells := 1, slots := 1, locals := 0 } : Room).slots) := by
  refine MetFree.of_bodySF (plainFor_of_name pn_0) hisR ?_
  intro p e s m args below meth c s₁ Bd hml0 hP hK
  obtain ⟨rfl, hZ, hh⟩ := hP
  have hx := Bd.exec
  have hby := Bd.bytes
  have hml : c.maxLocals = 5 := hml0
  have hown : s.vm.findClass "shale/ValueType" = some m.cls := findClass_of_methodNamed Bd.named
  have hnm := (name_of_methodNamed Bd.named Bd.method).1
  have X0 : Stand p l e ({ frames := 0, cells := 1, slots := 1, locals := 0 } : Room) s m #[(.long q0), (.int (1 : Int32))] below meth c s₁ [] 0 0 := Stand.of_body Bd
  have e0 : s₁.heap = h0 := by rw [← hh, Bd.state]; rfl
  have N0 := Fr.nil n0
  have pre0 : ∀ t, Steps p.tables e below (s₁.setTop (mkF m 0 #[.val (.long q0), .second, .val (.int (1 : Int32)), .unset, .unset] [])) t → Steps p.tables e below (s₁.setTop (entryFrame m #[(.long q0), (.int (1 : Int32))] 5)) t := fun t k => castTop (ef_rmb1 m q0) k
  obtain ⟨T1, h1, k1, X1, e1, E1, A1, st1⟩ := newP X0 hx hZ (hw _ (List.mem_of_getElem? (i := 5) rfl)) e0 (g := (mkF m 1 #[.val (.long q0), .second, .val (.int (1 : Int32)), .unset, .unset] [(.int (1 : Int32))])) rfl (hb hby d1_1) rfl (by decide) (cap := 1) (by decide) (by decide) (by decide) (by decide)
  obtain ⟨b1, g1⟩ : ∃ z, z = h0.size := ⟨_, rfl⟩
  rw [← g1] at A1 st1
  have gn1 : n0 ≤ b1 := Nat.le_trans Z0 (Nat.le_of_eq g1.symm)
  have sz1 : h0.size ≤ b1 := Nat.le_trans (Keep.refl h0 []).1 (Nat.le_of_eq g1.symm)
  have Z2 : n0 ≤ h1.size := Nat.le_trans Z0 E1.1
  have K1 : Keep h0 h1 [] := (Keep.refl h0 []).ext E1
  have V1 : Arv Z h1 b1 k1 .byte (1 : Int32) [(.int (0 : Int32))] (.int (0 : Int32)) := (Arv.new A1 (by decide)).pad (pad_rep [] (.int (0 : Int32)) 1)
  obtain ⟨cl3, Ar3, qa3, Sa3, Na3, Ha3, Ga3⟩ := V1
  have hin3 : ¬ ((0 : Int32) < 0 ∨ cl3.slots.size ≤ (0 : Int32).toNatClampNeg) := inb_of Sa3 ⟨by decide, by decide⟩
  obtain ⟨T3, h3, X3, e3, W3, st3⟩ := stB X1 hx hZ e1 Ar3 (j := (0 : Int32)) hin3 (g := (mkF m 30 #[.val (.long q0), .second, .val (.int (1 : Int32)), .val (.ref b1), .val (.int (0 : Int32))] [(.int ((((q0.toUInt64 >>> ((0 : Int32) &&& 0x3f).toInt64.toUInt64).toInt64).toInt32).toInt8.toInt32)), (.int (0 : Int32)), (.ref b1)])) rfl rfl (hb hby d1_30)
  have Z4 : n0 ≤ h3.size := Nat.le_trans Z2 (Keep.of_wr W3).1
  have V3 : Arv Z h3 b1 k1 .byte (1 : Int32) [(.int (own_byte q0 (0 : Int32)))] (.int (0 : Int32)) := Arv.set Ar3 qa3 Sa3 Na3 Ha3 Ga3 (fits_nar_byte _) W3 0 rfl (Nat.le_of_ble_eq_true rfl)
  have K3 : Keep h0 h3 [] := K1.wr W3 (Or.inr sz1)
  have N3 := Fr.snoc X3 N0 gn1
  obtain ⟨fs, hr, hrun, hended, hW, hsame⟩ := X3.leave (v := some (.ref b1)) (fun h => by rw [Bd.returns] at h; cases h)
  refine ⟨_, _, pre0 _ ?_, hrun, hended, _, _, rfl, ?_, ⟨_, rfl⟩, hW, hsame.mono (by decide) (by decide)⟩
  · show Steps p.tables e below (s₁.setTop (mkF m 0 #[.val (.long q0), .second, .val (.int (1 : Int32)), .unset, .unset] [])) _
    refine XS.iloadN X0.here hx rfl (hb hby d1_0) rfl ?_
    show Steps p.tables e below (s₁.setTop (mkF m 1 #[.val (.long q0), .second, .val (.int (1 : Int32)), .unset, .unset] [(.int (1 : Int32))])) _
    refine st1 _ ?_
    show Steps p.tables e below (T1.setTop (mkF m 3 #[.val (.long q0), .second, .val (.int (1 : Int32)), .unset, .unset] [(.ref b1)])) _
    refine XS.astoreN X1.here hx rfl (hb hby d1_3) rfl rfl (l' := #[.val (.long q0), .second, .val (.int (1 : Int32)), .val (.ref b1), .unset]) rfl ?_
    show Steps p.tables e below (T1.setTop (mkF m 4 #[.val (.long q0), .second, .val (.int (1 : Int32)), .val (.ref b1), .unset] [])) _
    refine XS.iloadN X1.here hx rfl (hb hby d1_4) rfl ?_
    show Steps p.tables e below (T1.setTop (mkF m 5 #[.val (.long q0), .second, .val (.int (1 : Int32)), .val (.ref b1), .unset] [(.int (1 : Int32))])) _
    refine XS.iconst X1.here hx rfl (hb hby d1_5) ?_
    show Steps p.tables e below (T1.setTop (mkF m 6 #[.val (.long q0), .second, .val (.int (1 : Int32)), .val (.ref b1), .unset] [(.int (1 : Int32)), (.int (1 : Int32))])) _
    refine XS.isub X1.here hx rfl (hb hby d1_6) rfl ?_
    show Steps p.tables e below (T1.setTop (mkF m 7 #[.val (.long q0), .second, .val (.int (1 : Int32)), .val (.ref b1), .unset] [(.int (0 : Int32))])) _
    refine XS.istore X1.here hx rfl (hb hby d1_7) rfl (l' := #[.val (.long q0), .second, .val (.int (1 : Int32)), .val (.ref b1), .val (.int (0 : Int32))]) rfl ?_
    show Steps p.tables e below (T1.setTop (mkF m 9 #[.val (.long q0), .second, .val (.int (1 : Int32)), .val (.ref b1), .val (.int (0 : Int32))] [])) _
    refine XS.iload X1.here hx rfl (hb hby d1_9) rfl ?_
    show Steps p.tables e below (T1.setTop (mkF m 11 #[.val (.long q0), .second, .val (.int (1 : Int32)), .val (.ref b1), .val (.int (0 : Int32))] [(.int (0 : Int32))])) _
    refine XS.ifNo X1.here hx rfl (hb hby d1_11) rfl ((if0 _ _).trans (flt (by decide : ¬ ((0 : Int32) < (0 : Int32)))).1) ?_
    show Steps p.tables e below (T1.setTop (mkF m 14 #[.val (.long q0), .second, .val (.int (1 : Int32)), .val (.ref b1), .val (.int (0 : Int32))] [])) _
    refine XS.aloadN X1.here hx rfl (hb hby d1_14) rfl rfl ?_
    show Steps p.tables e below (T1.setTop (mkF m 15 #[.val (.long q0), .second, .val (.int (1 : Int32)), .val (.ref b1), .val (.int (0 : Int32))] [(.ref b1)])) _
    refine XS.iload X1.here hx rfl (hb hby d1_15) rfl ?_
    show Steps p.tables e below (T1.setTop (mkF m 17 #[.val (.long q0), .second, .val (.int (1 : Int32)), .val (.ref b1), .val (.int (0 : Int32))] [(.int (0 : Int32)), (.ref b1)])) _
    refine XS.lloadN X1.here hx rfl (hb hby d1_17) rfl ?_
    show Steps p.tables e below (T1.setTop (mkF m 18 #[.val (.long q0), .second, .val (.int (1 : Int32)), .val (.ref b1), .val (.int (0 : Int32))] [(.long q0), (.int (0 : Int32)), (.ref b1)])) _
    refine XS.bipush X1.here hx rfl (hb hby d1_18) ?_
    show Steps p.tables e below (T1.setTop (mkF m 20 #[.val (.long q0), .second, .val (.int (1 : Int32)), .val (.ref b1), .val (.int (0 : Int32))] [(.int (8 : Int32)), (.long q0), (.int (0 : Int32)), (.ref b1)])) _
    refine XS.iloadN X1.here hx rfl (hb hby d1_20) rfl ?_
    show Steps p.tables e below (T1.setTop (mkF m 21 #[.val (.long q0), .second, .val (.int (1 : Int32)), .val (.ref b1), .val (.int (0 : Int32))] [(.int (1 : Int32)), (.int (8 : Int32)), (.long q0), (.int (0 : Int32)), (.ref b1)])) _
    refine XS.iconst X1.here hx rfl (hb hby d1_21) ?_
    show Steps p.tables e below (T1.setTop (mkF m 22 #[.val (.long q0), .second, .val (.int (1 : Int32)), .val (.ref b1), .val (.int (0 : Int32))] [(.int (1 : Int32)), (.int (1 : Int32)), (.int (8 : Int32)), (.long q0), (.int (0 : Int32)), (.ref b1)])) _
    refine XS.isub X1.here hx rfl (hb hby d1_22) rfl ?_
    show Steps p.tables e below (T1.setTop (mkF m 23 #[.val (.long q0), .second, .val (.int (1 : Int32)), .val (.ref b1), .val (.int (0 : Int32))] [(.int (0 : Int32)), (.int (8 : Int32)), (.long q0), (.int (0 : Int32)), (.ref b1)])) _
    refine XS.iload X1.here hx rfl (hb hby d1_23) rfl ?_
    show Steps p.tables e below (T1.setTop (mkF m 25 #[.val (.long q0), .second, .val (.int (1 : Int32)), .val (.ref b1), .val (.int (0 : Int32))] [(.int (0 : Int32)), (.int (0 : Int32)), (.int (8 : Int32)), (.long q0), (.int (0 : Int32)), (.ref b1)])) _
    refine XS.isub X1.here hx rfl (hb hby d1_25) rfl ?_
    show Steps p.tables e below (T1.setTop (mkF m 26 #[.val (.long q0), .second, .val (.int (1 : Int32)), .val (.ref b1), .val (.int (0 : Int32))] [(.int (0 : Int32)), (.int (8 : Int32)), (.long q0), (.int (0 : Int32)), (.ref b1)])) _
    refine XS.imul X1.here hx rfl (hb hby d1_26) rfl ?_
    show Steps p.tables e below (T1.setTop (mkF m 27 #[.val (.long q0), .second, .val (.int (1 : Int32)), .val (.ref b1), .val (.int (0 : Int32))] [(.int (0 : Int32)), (.long q0), (.int (0 : Int32)), (.ref b1)])) _
    refine XS.lushr X1.here hx rfl (hb hby d1_27) rfl ?_
    show Steps p.tables e below (T1.setTop (mkF m 28 #[.val (.long q0), .second, .val (.int (1 : Int32)), .val (.ref b1), .val (.int (0 : Int32))] [(.long ((q0.toUInt64 >>> ((0 : Int32) &&& 0x3f).toInt64.toUInt64).toInt64)), (.int (0 : Int32)), (.ref b1)])) _
    refine XS.l2i X1.here hx rfl (hb hby d1_28) rfl ?_
    show Steps p.tables e below (T1.setTop (mkF m 29 #[.val (.long q0), .second, .val (.int (1 : Int32)), .val (.ref b1), .val (.int (0 : Int32))] [(.int (((q0.toUInt64 >>> ((0 : Int32) &&& 0x3f).toInt64.toUInt64).toInt64).toInt32)), (.int (0 : Int32)), (.ref b1)])) _
    refine XS.i2b X1.here hx rfl (hb hby d1_29) rfl ?_
    show Steps p.tables e below (T1.setTop (mkF m 30 #[.val (.long q0), .second, .val (.int (1 : Int32)), .val (.ref b1), .val (.int (0 : Int32))] [(.int ((((q0.toUInt64 >>> ((0 : Int32) &&& 0x3f).toInt64.toUInt64).toInt64).toInt32).toInt8.toInt32)), (.int (0 : Int32)), (.ref b1)])) _
    refine st3 _ ?_
    show Steps p.tables e below (T3.setTop (mkF m 31 #[.val (.long q0), .second, .val (.int (1 : Int32)), .val (.ref b1), .val (.int (0 : Int32))] [])) _
    refine XS.iinc X3.here hx rfl (hb hby d1_31) rfl (l' := #[.val (.long q0), .second, .val (.int (1 : Int32)), .val (.ref b1), .val (.int (-1 : Int32))]) rfl ?_
    show Steps p.tables e below (T3.setTop (mkF m 34 #[.val (.long q0), .second, .val (.int (1 : Int32)), .val (.ref b1), .val (.int (-1 : Int32))] [])) _
    refine XS.goto X3.here hx rfl (pc0 := 34) (pc' := 9) rfl (hb hby d1_34) (by decide) (by decide) ?_
    show Steps p.tables e below (T3.setTop (mkF m 9 #[.val (.long q0), .second, .val (.int (1 : Int32)), .val (.ref b1), .val (.int (-1 : Int32))] [])) _
    refine XS.iload X3.here hx rfl (hb hby d1_9) rfl ?_
    show Steps p.tables e below (T3.setTop (mkF m 11 #[.val (.long q0), .second, .val (.int (1 : Int32)), .val (.ref b1), .val (.int (-1 : Int32))] [(.int (-1 : Int32))])) _
    refine XS.ifYes X3.here hx rfl (pc0 := 11) (pc' := 37) rfl (hb hby d1_11) rfl ((if0 _ _).trans (tlt (by decide : (-1 : Int32) < (0 : Int32))).1) (by decide) (by decide) ?_
    show Steps p.tables e below (T3.setTop (mkF m 37 #[.val (.long q0), .second, .val (.int (1 : Int32)), .val (.ref b1), .val (.int (-1 : Int32))] [])) _
    refine XS.aloadN X3.here hx rfl (hb hby d1_37) rfl rfl ?_
    show Steps p.tables e below (T3.setTop (mkF m 38 #[.val (.long q0), .second, .val (.int (1 : Int32)), .val (.ref b1), .val (.int (-1 : Int32))] [(.ref b1)])) _
    exact retOut X3 hx Bd.returns rfl (Or.inr (Or.inr (Or.inr (Or.inr ⟨rfl, rfl, rfl⟩)))) (hb hby d1_38) hr
  · show Qb1 Z q0 h0 n0 _ T3.heap _
    rw [e3]
    exact ⟨_, _, rfl, N3, K3, V3⟩
theorem ef_rmb2 (m : MethodId) (q0 : Int64) : entryFrame m #[(.long q0), (.int (2 : Int32))] 5 = mkF m 0 #[.val (.long q0), .second, .val (.int (2 : Int32)), .unset, .unset] [] := by first | (simp [entryFrame, mkF, argsToLocals, Value.category]; done) | rfl
def Qb2 (Z : State) (q0 : Int64) (h0 : Heap) (n0 : Nat) (v : Option Value) (h : Heap) (L : List Loc) : Prop := ∃ (b : Addr) (k : ClassId), v = some (.ref b) ∧ Fr n0 L ∧ Keep h0 h [] ∧ Arv Z h b k .byte (2 : Int32) [(.int (own_byte q0 (8 : Int32))), (.int (own_byte q0 (0 : Int32)))] (.int (0 : Int32))
set_option maxRecDepth 65536 in
set_option maxHeartbeats 40000000 in
theorem rmb2 (l : Launch) (Z : State) (a0 : Array Value) (hw : ∀ d ∈ tables_1, d.before a0 Z = true) (ws : List Jvm.Cond) (q0 : Int64) (h0 : Heap) (n0 : Nat) (Z0 : n0 ≤ h0.size) :
    MetFree l (⟨"shale/ValueType", "bigEndian", "(JI)[B"⟩ : MethodName) (head1 (Jvm.Cond.code (⟨"shale/ValueType", "bigEndian", "(JI)[B"⟩ : MethodName) prog_227_method_42_code 5 (some (.array .byte)) :: ws) ({ frames := 0, cells := 1, slots := 2, locals := 0 } : Room)) (fun a U => a = #[(.long q0), (.int (2 : Int32))] ∧ Z.Warmed39 U.vm ∧ U.heap = h0) (fun _ _ _ _ _ => True) (fun _ U o U' => ∃ v L, o = .returned v ∧ Qb2 Z q0 h0 n0 v U'.heap L ∧ FrameEnd U o U' L ({ frames := 0, cells := 1, slots := 2, locals := 0 } : Room).cells ({ frames := 0, cells := 1, slots := 2, locals := 0 } : Room).slots) := by
  refine MetFree.of_bodySF (plainFor_of_name pn_0) hisR ?_
  intro p e s m args below meth c s₁ Bd hml0 hP hK
  obtain ⟨rfl, hZ, hh⟩ := hP
  have hx := Bd.exec
  have hby := Bd.bytes
  have hml : c.maxLocals = 5 := hml0
  have hown : s.vm.findClass "shale/ValueType" = some m.cls := findClass_of_methodNamed Bd.named
  have hnm := (name_of_methodNamed Bd.named Bd.method).1
  have X0 : Stand p l e ({ frames := 0, cells := 1, slots := 2, locals := 0 } : Room) s m #[(.long q0), (.int (2 : Int32))] below meth c s₁ [] 0 0 := Stand.of_body Bd
  have e0 : s₁.heap = h0 := by rw [← hh, Bd.state]; rfl
  have N0 := Fr.nil n0
  have pre0 : ∀ t, Steps p.tables e below (s₁.setTop (mkF m 0 #[.val (.long q0), .second, .val (.int (2 : Int32)), .unset, .unset] [])) t → Steps p.tables e below (s₁.setTop (entryFrame m #[(.long q0), (.int (2 : Int32))] 5)) t := fun t k => castTop (ef_rmb2 m q0) k
  obtain ⟨T1, h1, k1, X1, e1, E1, A1, st1⟩ := newP X0 hx hZ (hw _ (List.mem_of_getElem? (i := 5) rfl)) e0 (g := (mkF m 1 #[.val (.long q0), .second, .val (.int (2 : Int32)), .unset, .unset] [(.int (2 : Int32))])) rfl (hb hby d1_1) rfl (by decide) (cap := 2) (by decide) (by decide) (by decide) (by decide)
  obtain ⟨b1, g1⟩ : ∃ z, z = h0.size := ⟨_, rfl⟩
  rw [← g1] at A1 st1
  have gn1 : n0 ≤ b1 := Nat.le_trans Z0 (Nat.le_of_eq g1.symm)
  have sz1 : h0.size ≤ b1 := Nat.le_trans (Keep.refl h0 []).1 (Nat.le_of_eq g1.symm)
  have Z2 : n0 ≤ h1.size := Nat.le_trans Z0 E1.1
  have K1 : Keep h0 h1 [] := (Keep.refl h0 []).ext E1
  have V1 : Arv Z h1 b1 k1 .byte (2 : Int32) [(.int (0 : Int32)), (.int (0 : Int32))] (.int (0 : Int32)) := (Arv.new A1 (by decide)).pad (pad_rep [] (.int (0 : Int32)) 2)
  obtain ⟨cl3, Ar3, qa3, Sa3, Na3, Ha3, Ga3⟩ := V1
  have hin3 : ¬ ((1 : Int32) < 0 ∨ cl3.slots.size ≤ (1 : Int32).toNatClampNeg) := inb_of Sa3 ⟨by decide, by decide⟩
  obtain ⟨T3, h3, X3, e3, W3, st3⟩ := stB X1 hx hZ e1 Ar3 (j := (1 : Int32)) hin3 (g := (mkF m 30 #[.val (.long q0), .second, .val (.int (2 : Int32)), .val (.ref b1), .val (.int (1 : Int32))] [(.int ((((q0.toUInt64 >>> ((0 : Int32) &&& 0x3f).toInt64.toUInt64).toInt64).toInt32).toInt8.toInt32)), (.int (1 : Int32)), (.ref b1)])) rfl rfl (hb hby d1_30)
  have Z4 : n0 ≤ h3.size := Nat.le_trans Z2 (Keep.of_wr W3).1
  have V3 : Arv Z h3 b1 k1 .byte (2 : Int32) [(.int (0 : Int32)), (.int (own_byte q0 (0 : Int32)))] (.int (0 : Int32)) := Arv.set Ar3 qa3 Sa3 Na3 Ha3 Ga3 (fits_nar_byte _) W3 1 rfl (Nat.le_of_ble_eq_true rfl)
  have K3 : Keep h0 h3 [] := K1.wr W3 (Or.inr sz1)
  have N3 := Fr.snoc X3 N0 gn1
  obtain ⟨cl5, Ar5, qa5, Sa5, Na5, Ha5, Ga5⟩ := V3
  have hin5 : ¬ ((0 : Int32) < 0 ∨ cl5.slots.size ≤ (0 : Int32).toNatClampNeg) := inb_of Sa5 ⟨by decide, by decide⟩
  obtain ⟨T5, h5, X5, e5, W5, st5⟩ := stB X3 hx hZ e3 Ar5 (j := (0 : Int32)) hin5 (g := (mkF m 30 #[.val (.long q0), .second, .val (.int (2 : Int32)), .val (.ref b1), .val (.int (0 : Int32))] [(.int ((((q0.toUInt64 >>> ((8 : Int32) &&& 0x3f).toInt64.toUInt64).toInt64).toInt32).toInt8.toInt32)), (.int (0 : Int32)), (.ref b1)])) rfl rfl (hb hby d1_30)
  have Z6 : n0 ≤ h5.size := Nat.le_trans Z4 (Keep.of_wr W5).1
  have V5 : Arv Z h5 b1 k1 .byte (2 : Int32) [(.int (own_byte q0 (8 : Int32))), (.int (own_byte q0 (0 : Int32)))] (.int (0 : Int32)) := Arv.set Ar5 qa5 Sa5 Na5 Ha5 Ga5 (fits_nar_byte _) W5 0 rfl (Nat.le_of_ble_eq_true rfl)
  have K5 : Keep h0 h5 [] := K3.wr W5 (Or.inr sz1)
  have N5 := Fr.snoc X5 N3 gn1
  obtain ⟨fs, hr, hrun, hended, hW, hsame⟩ := X5.leave (v := some (.ref b1)) (fun h => by rw [Bd.returns] at h; cases h)
  refine ⟨_, _, pre0 _ ?_, hrun, hended, _, _, rfl, ?_, ⟨_, rfl⟩, hW, hsame.mono (by decide) (by decide)⟩
  · show Steps p.tables e below (s₁.setTop (mkF m 0 #[.val (.long q0), .second, .val (.int (2 : Int32)), .unset, .unset] [])) _
    refine XS.iloadN X0.here hx rfl (hb hby d1_0) rfl ?_
    show Steps p.tables e below (s₁.setTop (mkF m 1 #[.val (.long q0), .second, .val (.int (2 : Int32)), .unset, .unset] [(.int (2 : Int32))])) _
    refine st1 _ ?_
    show Steps p.tables e below (T1.setTop (mkF m 3 #[.val (.long q0), .second, .val (.int (2 : Int32)), .unset, .unset] [(.ref b1)])) _
    refine XS.astoreN X1.here hx rfl (hb hby d1_3) rfl rfl (l' := #[.val (.long q0), .second, .val (.int (2 : Int32)), .val (.ref b1), .unset]) rfl ?_
    show Steps p.tables e below (T1.setTop (mkF m 4 #[.val (.long q0), .second, .val (.int (2 : Int32)), .val (.ref b1), .unset] [])) _
    refine XS.iloadN X1.here hx rfl (hb hby d1_4) rfl ?_
    show Steps p.tables e below (T1.setTop (mkF m 5 #[.val (.long q0), .second, .val (.int (2 : Int32)), .val (.ref b1), .unset] [(.int (2 : Int32))])) _
    refine XS.iconst X1.here hx rfl (hb hby d1_5) ?_
    show Steps p.tables e below (T1.setTop (mkF m 6 #[.val (.long q0), .second, .val (.int (2 : Int32)), .val (.ref b1), .unset] [(.int (1 : Int32)), (.int (2 : Int32))])) _
    refine XS.isub X1.here hx rfl (hb hby d1_6) rfl ?_
    show Steps p.tables e below (T1.setTop (mkF m 7 #[.val (.long q0), .second, .val (.int (2 : Int32)), .val (.ref b1), .unset] [(.int (1 : Int32))])) _
    refine XS.istore X1.here hx rfl (hb hby d1_7) rfl (l' := #[.val (.long q0), .second, .val (.int (2 : Int32)), .val (.ref b1), .val (.int (1 : Int32))]) rfl ?_
    show Steps p.tables e below (T1.setTop (mkF m 9 #[.val (.long q0), .second, .val (.int (2 : Int32)), .val (.ref b1), .val (.int (1 : Int32))] [])) _
    refine XS.iload X1.here hx rfl (hb hby d1_9) rfl ?_
    show Steps p.tables e below (T1.setTop (mkF m 11 #[.val (.long q0), .second, .val (.int (2 : Int32)), .val (.ref b1), .val (.int (1 : Int32))] [(.int (1 : Int32))])) _
    refine XS.ifNo X1.here hx rfl (hb hby d1_11) rfl ((if0 _ _).trans (flt (by decide : ¬ ((1 : Int32) < (0 : Int32)))).1) ?_
    show Steps p.tables e below (T1.setTop (mkF m 14 #[.val (.long q0), .second, .val (.int (2 : Int32)), .val (.ref b1), .val (.int (1 : Int32))] [])) _
    refine XS.aloadN X1.here hx rfl (hb hby d1_14) rfl rfl ?_
    show Steps p.tables e below (T1.setTop (mkF m 15 #[.val (.long q0), .second, .val (.int (2 : Int32)), .val (.ref b1), .val (.int (1 : Int32))] [(.ref b1)])) _
    refine XS.iload X1.here hx rfl (hb hby d1_15) rfl ?_
    show Steps p.tables e below (T1.setTop (mkF m 17 #[.val (.long q0), .second, .val (.int (2 : Int32)), .val (.ref b1), .val (.int (1 : Int32))] [(.int (1 : Int32)), (.ref b1)])) _
    refine XS.lloadN X1.here hx rfl (hb hby d1_17) rfl ?_
    show Steps p.tables e below (T1.setTop (mkF m 18 #[.val (.long q0), .second, .val (.int (2 : Int32)), .val (.ref b1), .val (.int (1 : Int32))] [(.long q0), (.int (1 : Int32)), (.ref b1)])) _
    refine XS.bipush X1.here hx rfl (hb hby d1_18) ?_
    show Steps p.tables e below (T1.setTop (mkF m 20 #[.val (.long q0), .second, .val (.int (2 : Int32)), .val (.ref b1), .val (.int (1 : Int32))] [(.int (8 : Int32)), (.long q0), (.int (1 : Int32)), (.ref b1)])) _
    refine XS.iloadN X1.here hx rfl (hb hby d1_20) rfl ?_
    show Steps p.tables e below (T1.setTop (mkF m 21 #[.val (.long q0), .second, .val (.int (2 : Int32)), .val (.ref b1), .val (.int (1 : Int32))] [(.int (2 : Int32)), (.int (8 : Int32)), (.long q0), (.int (1 : Int32)), (.ref b1)])) _
    refine XS.iconst X1.here hx rfl (hb hby d1_21) ?_
    show Steps p.tables e below (T1.setTop (mkF m 22 #[.val (.long q0), .second, .val (.int (2 : Int32)), .val (.ref b1), .val (.int (1 : Int32))] [(.int (1 : Int32)), (.int (2 : Int32)), (.int (8 : Int32)), (.long q0), (.int (1 : Int32)), (.ref b1)])) _
    refine XS.isub X1.here hx rfl (hb hby d1_22) rfl ?_
    show Steps p.tables e below (T1.setTop (mkF m 23 #[.val (.long q0), .second, .val (.int (2 : Int32)), .val (.ref b1), .val (.int (1 : Int32))] [(.int (1 : Int32)), (.int (8 : Int32)), (.long q0), (.int (1 : Int32)), (.ref b1)])) _
    refine XS.iload X1.here hx rfl (hb hby d1_23) rfl ?_
    show Steps p.tables e below (T1.setTop (mkF m 25 #[.val (.long q0), .second, .val (.int (2 : Int32)), .val (.ref b1), .val (.int (1 : Int32))] [(.int (1 : Int32)), (.int (1 : Int32)), (.int (8 : Int32)), (.long q0), (.int (1 : Int32)), (.ref b1)])) _
    refine XS.isub X1.here hx rfl (hb hby d1_25) rfl ?_
    show Steps p.tables e below (T1.setTop (mkF m 26 #[.val (.long q0), .second, .val (.int (2 : Int32)), .val (.ref b1), .val (.int (1 : Int32))] [(.int (0 : Int32)), (.int (8 : Int32)), (.long q0), (.int (1 : Int32)), (.ref b1)])) _
    refine XS.imul X1.here hx rfl (hb hby d1_26) rfl ?_
    show Steps p.tables e below (T1.setTop (mkF m 27 #[.val (.long q0), .second, .val (.int (2 : Int32)), .val (.ref b1), .val (.int (1 : Int32))] [(.int (0 : Int32)), (.long q0), (.int (1 : Int32)), (.ref b1)])) _
    refine XS.lushr X1.here hx rfl (hb hby d1_27) rfl ?_
    show Steps p.tables e below (T1.setTop (mkF m 28 #[.val (.long q0), .second, .val (.int (2 : Int32)), .val (.ref b1), .val (.int (1 : Int32))] [(.long ((q0.toUInt64 >>> ((0 : Int32) &&& 0x3f).toInt64.toUInt64).toInt64)), (.int (1 : Int32)), (.ref b1)])) _
    refine XS.l2i X1.here hx rfl (hb hby d1_28) rfl ?_
    show Steps p.tables e below (T1.setTop (mkF m 29 #[.val (.long q0), .second, .val (.int (2 : Int32)), .val (.ref b1), .val (.int (1 : Int32))] [(.int (((q0.toUInt64 >>> ((0 : Int32) &&& 0x3f).toInt64.toUInt64).toInt64).toInt32)), (.int (1 : Int32)), (.ref b1)])) _
    refine XS.i2b X1.here hx rfl (hb hby d1_29) rfl ?_
    show Steps p.tables e below (T1.setTop (mkF m 30 #[.val (.long q0), .second, .val (.int (2 : Int32)), .val (.ref b1), .val (.int (1 : Int32))] [(.int ((((q0.toUInt64 >>> ((0 : Int32) &&& 0x3f).toInt64.toUInt64).toInt64).toInt32).toInt8.toInt32)), (.int (1 : Int32)), (.ref b1)])) _
    refine st3 _ ?_
    show Steps p.tables e below (T3.setTop (mkF m 31 #[.val (.long q0), .second, .val (.int (2 : Int32)), .val (.ref b1), .val (.int (1 : Int32))] [])) _
    refine XS.iinc X3.here hx rfl (hb hby d1_31) rfl (l' := #[.val (.long q0), .second, .val (.int (2 : Int32)), .val (.ref b1), .val (.int (0 : Int32))]) rfl ?_
    show Steps p.tables e below (T3.setTop (mkF m 34 #[.val (.long q0), .second, .val (.int (2 : Int32)), .val (.ref b1), .val (.int (0 : Int32))] [])) _
    refine XS.goto X3.here hx rfl (pc0 := 34) (pc' := 9) rfl (hb hby d1_34) (by decide) (by decide) ?_
    show Steps p.tables e below (T3.setTop (mkF m 9 #[.val (.long q0), .second, .val (.int (2 : Int32)), .val (.ref b1), .val (.int (0 : Int32))] [])) _
    refine XS.iload X3.here hx rfl (hb hby d1_9) rfl ?_
    show Steps p.tables e below (T3.setTop (mkF m 11 #[.val (.long q0), .second, .val (.int (2 : Int32)), .val (.ref b1), .val (.int (0 : Int32))] [(.int (0 : Int32))])) _
    refine XS.ifNo X3.here hx rfl (hb hby d1_11) rfl ((if0 _ _).trans (flt (by decide : ¬ ((0 : Int32) < (0 : Int32)))).1) ?_
    show Steps p.tables e below (T3.setTop (mkF m 14 #[.val (.long q0), .second, .val (.int (2 : Int32)), .val (.ref b1), .val (.int (0 : Int32))] [])) _
    refine XS.aloadN X3.here hx rfl (hb hby d1_14) rfl rfl ?_
    show Steps p.tables e below (T3.setTop (mkF m 15 #[.val (.long q0), .second, .val (.int (2 : Int32)), .val (.ref b1), .val (.int (0 : Int32))] [(.ref b1)])) _
    refine XS.iload X3.here hx rfl (hb hby d1_15) rfl ?_
    show Steps p.tables e below (T3.setTop (mkF m 17 #[.val (.long q0), .second, .val (.int (2 : Int32)), .val (.ref b1), .val (.int (0 : Int32))] [(.int (0 : Int32)), (.ref b1)])) _
    refine XS.lloadN X3.here hx rfl (hb hby d1_17) rfl ?_
    show Steps p.tables e below (T3.setTop (mkF m 18 #[.val (.long q0), .second, .val (.int (2 : Int32)), .val (.ref b1), .val (.int (0 : Int32))] [(.long q0), (.int (0 : Int32)), (.ref b1)])) _
    refine XS.bipush X3.here hx rfl (hb hby d1_18) ?_
    show Steps p.tables e below (T3.setTop (mkF m 20 #[.val (.long q0), .second, .val (.int (2 : Int32)), .val (.ref b1), .val (.int (0 : Int32))] [(.int (8 : Int32)), (.long q0), (.int (0 : Int32)), (.ref b1)])) _
    refine XS.iloadN X3.here hx rfl (hb hby d1_20) rfl ?_
    show Steps p.tables e below (T3.setTop (mkF m 21 #[.val (.long q0), .second, .val (.int (2 : Int32)), .val (.ref b1), .val (.int (0 : Int32))] [(.int (2 : Int32)), (.int (8 : Int32)), (.long q0), (.int (0 : Int32)), (.ref b1)])) _
    refine XS.iconst X3.here hx rfl (hb hby d1_21) ?_
    show Steps p.tables e below (T3.setTop (mkF m 22 #[.val (.long q0), .second, .val (.int (2 : Int32)), .val (.ref b1), .val (.int (0 : Int32))] [(.int (1 : Int32)), (.int (2 : Int32)), (.int (8 : Int32)), (.long q0), (.int (0 : Int32)), (.ref b1)])) _
    refine XS.isub X3.here hx rfl (hb hby d1_22) rfl ?_
    show Steps p.tables e below (T3.setTop (mkF m 23 #[.val (.long q0), .second, .val (.int (2 : Int32)), .val (.ref b1), .val (.int (0 : Int32))] [(.int (1 : Int32)), (.int (8 : Int32)), (.long q0), (.int (0 : Int32)), (.ref b1)])) _
    refine XS.iload X3.here hx rfl (hb hby d1_23) rfl ?_
    show Steps p.tables e below (T3.setTop (mkF m 25 #[.val (.long q0), .second, .val (.int (2 : Int32)), .val (.ref b1), .val (.int (0 : Int32))] [(.int (0 : Int32)), (.int (1 : Int32)), (.int (8 : Int32)), (.long q0), (.int (0 : Int32)), (.ref b1)])) _
    refine XS.isub X3.here hx rfl (hb hby d1_25) rfl ?_
    show Steps p.tables e below (T3.setTop (mkF m 26 #[.val (.long q0), .second, .val (.int (2 : Int32)), .val (.ref b1), .val (.int (0 : Int32))] [(.int (1 : Int32)), (.int (8 : Int32)), (.long q0), (.int (0 : Int32)), (.ref b1)])) _
    refine XS.imul X3.here hx rfl (hb hby d1_26) rfl ?_
    show Steps p.tables e below (T3.setTop (mkF m 27 #[.val (.long q0), .second, .val (.int (2 : Int32)), .val (.ref b1), .val (.int (0 : Int32))] [(.int (8 : Int32)), (.long q0), (.int (0 : Int32)), (.ref b1)])) _
    refine XS.lushr X3.here hx rfl (hb hby d1_27) rfl ?_
    show Steps p.tables e below (T3.setTop (mkF m 28 #[.val (.long q0), .second, .val (.int (2 : Int32)), .val (.ref b1), .val (.int (0 : Int32))] [(.long ((q0.toUInt64 >>> ((8 : Int32) &&& 0x3f).toInt64.toUInt64).toInt64)), (.int (0 : Int32)), (.ref b1)])) _
    refine XS.l2i X3.here hx rfl (hb hby d1_28) rfl ?_
    show Steps p.tables e below (T3.setTop (mkF m 29 #[.val (.long q0), .second, .val (.int (2 : Int32)), .val (.ref b1), .val (.int (0 : Int32))] [(.int (((q0.toUInt64 >>> ((8 : Int32) &&& 0x3f).toInt64.toUInt64).toInt64).toInt32)), (.int (0 : Int32)), (.ref b1)])) _
    refine XS.i2b X3.here hx rfl (hb hby d1_29) rfl ?_
    show Steps p.tables e below (T3.setTop (mkF m 30 #[.val (.long q0), .second, .val (.int (2 : Int32)), .val (.ref b1), .val (.int (0 : Int32))] [(.int ((((q0.toUInt64 >>> ((8 : Int32) &&& 0x3f).toInt64.toUInt64).toInt64).toInt32).toInt8.toInt32)), (.int (0 : Int32)), (.ref b1)])) _
    refine st5 _ ?_
    show Steps p.tables e below (T5.setTop (mkF m 31 #[.val (.long q0), .second, .val (.int (2 : Int32)), .val (.ref b1), .val (.int (0 : Int32))] [])) _
    refine XS.iinc X5.here hx rfl (hb hby d1_31) rfl (l' := #[.val (.long q0), .second, .val (.int (2 : Int32)), .val (.ref b1), .val (.int (-1 : Int32))]) rfl ?_
    show Steps p.tables e below (T5.setTop (mkF m 34 #[.val (.long q0), .second, .val (.int (2 : Int32)), .val (.ref b1), .val (.int (-1 : Int32))] [])) _
    refine XS.goto X5.here hx rfl (pc0 := 34) (pc' := 9) rfl (hb hby d1_34) (by decide) (by decide) ?_
    show Steps p.tables e below (T5.setTop (mkF m 9 #[.val (.long q0), .second, .val (.int (2 : Int32)), .val (.ref b1), .val (.int (-1 : Int32))] [])) _
    refine XS.iload X5.here hx rfl (hb hby d1_9) rfl ?_
    show Steps p.tables e below (T5.setTop (mkF m 11 #[.val (.long q0), .second, .val (.int (2 : Int32)), .val (.ref b1), .val (.int (-1 : Int32))] [(.int (-1 : Int32))])) _
    refine XS.ifYes X5.here hx rfl (pc0 := 11) (pc' := 37) rfl (hb hby d1_11) rfl ((if0 _ _).trans (tlt (by decide : (-1 : Int32) < (0 : Int32))).1) (by decide) (by decide) ?_
    show Steps p.tables e below (T5.setTop (mkF m 37 #[.val (.long q0), .second, .val (.int (2 : Int32)), .val (.ref b1), .val (.int (-1 : Int32))] [])) _
    refine XS.aloadN X5.here hx rfl (hb hby d1_37) rfl rfl ?_
    show Steps p.tables e below (T5.setTop (mkF m 38 #[.val (.long q0), .second, .val (.int (2 : Int32)), .val (.ref b1), .val (.int (-1 : Int32))] [(.ref b1)])) _
    exact retOut X5 hx Bd.returns rfl (Or.inr (Or.inr (Or.inr (Or.inr ⟨rfl, rfl, rfl⟩)))) (hb hby d1_38) hr
  · show Qb2 Z q0 h0 n0 _ T5.heap _
    rw [e5]
    exact ⟨_, _, rfl, N5, K5, V5⟩
theorem ef_rmb3 (m : MethodId) (q0 : Int64) : entryFrame m #[(.long q0), (.int (3 : Int32))] 5 = mkF m 0 #[.val (.long q0), .second, .val (.int (3 : Int32)), .unset, .unset] [] := by first | (simp [entryFrame, mkF, argsToLocals, Value.category]; done) | rfl
def Qb3 (Z : State) (q0 : Int64) (h0 : Heap) (n0 : Nat) (v : Option Value) (h : Heap) (L : List Loc) : Prop := ∃ (b : Addr) (k : ClassId), v = some (.ref b) ∧ Fr n0 L ∧ Keep h0 h [] ∧ Arv Z h b k .byte (3 : Int32) [(.int (own_byte q0 (16 : Int32))), (.int (own_byte q0 (8 : Int32))), (.int (own_byte q0 (0 : Int32)))] (.int (0 : Int32))
set_option maxRecDepth 65536 in
set_option maxHeartbeats 40000000 in
theorem rmb3 (l : Launch) (Z : State) (a0 : Array Value) (hw : ∀ d ∈ tables_1, d.before a0 Z = true) (ws : List Jvm.Cond) (q0 : Int64) (h0 : Heap) (n0 : Nat) (Z0 : n0 ≤ h0.size) :
    MetFree l (⟨"shale/ValueType", "bigEndian", "(JI)[B"⟩ : MethodName) (head1 (Jvm.Cond.code (⟨"shale/ValueType", "bigEndian", "(JI)[B"⟩ : MethodName) prog_227_method_42_code 5 (some (.array .byte)) :: ws) ({ frames := 0, cells := 1, slots := 3, locals := 0 } : Room)) (fun a U => a = #[(.long q0), (.int (3 : Int32))] ∧ Z.Warmed39 U.vm ∧ U.heap = h0) (fun _ _ _ _ _ => True) (fun _ U o U' => ∃ v L, o = .returned v ∧ Qb3 Z q0 h0 n0 v U'.heap L ∧ FrameEnd U o U' L ({ frames := 0, cells := 1, slots := 3, locals := 0 } : Room).cells ({ frames := 0, cells := 1, slots := 3, locals := 0 } : Room).slots) := by
  refine MetFree.of_bodySF (plainFor_of_name pn_0) hisR ?_
  intro p e s m args below meth c s₁ Bd hml0 hP hK
  obtain ⟨rfl, hZ, hh⟩ := hP
  have hx := Bd.exec
  have hby := Bd.bytes
  have hml : c.maxLocals = 5 := hml0
  have hown : s.vm.findClass "shale/ValueType" = some m.cls := findClass_of_methodNamed Bd.named
  have hnm := (name_of_methodNamed Bd.named Bd.method).1
  have X0 : Stand p l e ({ frames := 0, cells := 1, slots := 3, locals := 0 } : Room) s m #[(.long q0), (.int (3 : Int32))] below meth c s₁ [] 0 0 := Stand.of_body Bd
  have e0 : s₁.heap = h0 := by rw [← hh, Bd.state]; rfl
  have N0 := Fr.nil n0
  have pre0 : ∀ t, Steps p.tables e below (s₁.setTop (mkF m 0 #[.val (.long q0), .second, .val (.int (3 : Int32)), .unset, .unset] [])) t → Steps p.tables e below (s₁.setTop (entryFrame m #[(.long q0), (.int (3 : Int32))] 5)) t := fun t k => castTop (ef_rmb3 m q0) k
  obtain ⟨T1, h1, k1, X1, e1, E1, A1, st1⟩ := newP X0 hx hZ (hw _ (List.mem_of_getElem? (i := 5) rfl)) e0 (g := (mkF m 1 #[.val (.long q0), .second, .val (.int (3 : Int32)), .unset, .unset] [(.int (3 : Int32))])) rfl (hb hby d1_1) rfl (by decide) (cap := 3) (by decide) (by decide) (by decide) (by decide)
  obtain ⟨b1, g1⟩ : ∃ z, z = h0.size := ⟨_, rfl⟩
  rw [← g1] at A1 st1
  have gn1 : n0 ≤ b1 := Nat.le_trans Z0 (Nat.le_of_eq g1.symm)
  have sz1 : h0.size ≤ b1 := Nat.le_trans (Keep.refl h0 []).1 (Nat.le_of_eq g1.symm)
  have Z2 : n0 ≤ h1.size := Nat.le_trans Z0 E1.1
  have K1 : Keep h0 h1 [] := (Keep.refl h0 []).ext E1
  have V1 : Arv Z h1 b1 k1 .byte (3 : Int32) [(.int (0 : Int32)), (.int (0 : Int32)), (.int (0 : Int32))] (.int (0 : Int32)) := (Arv.new A1 (by decide)).pad (pad_rep [] (.int (0 : Int32)) 3)
  obtain ⟨cl3, Ar3, qa3, Sa3, Na3, Ha3, Ga3⟩ := V1
  have hin3 : ¬ ((2 : Int32) < 0 ∨ cl3.slots.size ≤ (2 : Int32).toNatClampNeg) := inb_of Sa3 ⟨by decide, by decide⟩
  obtain ⟨T3, h3, X3, e3, W3, st3⟩ := stB X1 hx hZ e1 Ar3 (j := (2 : Int32)) hin3 (g := (mkF m 30 #[.val (.long q0), .second, .val (.int (3 : Int32)), .val (.ref b1), .val (.int (2 : Int32))] [(.int ((((q0.toUInt64 >>> ((0 : Int32) &&& 0x3f).toInt64.toUInt64).toInt64).toInt32).toInt8.toInt32)), (.int (2 : Int32)), (.ref b1)])) rfl rfl (hb hby d1_30)
  have Z4 : n0 ≤ h3.size := Nat.le_trans Z2 (Keep.of_wr W3).1
  have V3 : Arv Z h3 b1 k1 .byte (3 : Int32) [(.int (0 : Int32)), (.int (0 : Int32)), (.int (own_byte q0 (0 : Int32)))] (.int (0 : Int32)) := Arv.set Ar3 qa3 Sa3 Na3 Ha3 Ga3 (fits_nar_byte _) W3 2 rfl (Nat.le_of_ble_eq_true rfl)
  have K3 : Keep h0 h3 [] := K1.wr W3 (Or.inr sz1)
  have N3 := Fr.snoc X3 N0 gn1
  obtain ⟨cl5, Ar5, qa5, Sa5, Na5, Ha5, Ga5⟩ := V3
  have hin5 : ¬ ((1 : Int32) < 0 ∨ cl5.slots.size ≤ (1 : Int32).toNatClampNeg) := inb_of Sa5 ⟨by decide, by decide⟩
  obtain ⟨T5, h5, X5, e5, W5, st5⟩ := stB X3 hx hZ e3 Ar5 (j := (1 : Int32)) hin5 (g := (mkF m 30 #[.val (.long q0), .second, .val (.int (3 : Int32)), .val (.ref b1), .val (.int (1 : Int32))] [(.int ((((q0.toUInt64 >>> ((8 : Int32) &&& 0x3f).toInt64.toUInt64).toInt64).toInt32).toInt8.toInt32)), (.int (1 : Int32)), (.ref b1)])) rfl rfl (hb hby d1_30)
  have Z6 : n0 ≤ h5.size := Nat.le_trans Z4 (Keep.of_wr W5).1
  have V5 : Arv Z h5 b1 k1 .byte (3 : Int32) [(.int (0 : Int32)), (.int (own_byte q0 (8 : Int32))), (.int (own_byte q0 (0 : Int32)))] (.int (0 : Int32)) := Arv.set Ar5 qa5 Sa5 Na5 Ha5 Ga5 (fits_nar_byte _) W5 1 rfl (Nat.le_of_ble_eq_true rfl)
  have K5 : Keep h0 h5 [] := K3.wr W5 (Or.inr sz1)
  have N5 := Fr.snoc X5 N3 gn1
  obtain ⟨cl7, Ar7, qa7, Sa7, Na7, Ha7, Ga7⟩ := V5
  have hin7 : ¬ ((0 : Int32) < 0 ∨ cl7.slots.size ≤ (0 : Int32).toNatClampNeg) := inb_of Sa7 ⟨by decide, by decide⟩
  obtain ⟨T7, h7, X7, e7, W7, st7⟩ := stB X5 hx hZ e5 Ar7 (j := (0 : Int32)) hin7 (g := (mkF m 30 #[.val (.long q0), .second, .val (.int (3 : Int32)), .val (.ref b1), .val (.int (0 : Int32))] [(.int ((((q0.toUInt64 >>> ((16 : Int32) &&& 0x3f).toInt64.toUInt64).toInt64).toInt32).toInt8.toInt32)), (.int (0 : Int32)), (.ref b1)])) rfl rfl (hb hby d1_30)
  have Z8 : n0 ≤ h7.size := Nat.le_trans Z6 (Keep.of_wr W7).1
  have V7 : Arv Z h7 b1 k1 .byte (3 : Int32) [(.int (own_byte q0 (16 : Int32))), (.int (own_byte q0 (8 : Int32))), (.int (own_byte q0 (0 : Int32)))] (.int (0 : Int32)) := Arv.set Ar7 qa7 Sa7 Na7 Ha7 Ga7 (fits_nar_byte _) W7 0 rfl (Nat.le_of_ble_eq_true rfl)
  have K7 : Keep h0 h7 [] := K5.wr W7 (Or.inr sz1)
  have N7 := Fr.snoc X7 N5 gn1
  obtain ⟨fs, hr, hrun, hended, hW, hsame⟩ := X7.leave (v := some (.ref b1)) (fun h => by rw [Bd.returns] at h; cases h)
  refine ⟨_, _, pre0 _ ?_, hrun, hended, _, _, rfl, ?_, ⟨_, rfl⟩, hW, hsame.mono (by decide) (by decide)⟩
  · show Steps p.tables e below (s₁.setTop (mkF m 0 #[.val (.long q0), .second, .val (.int (3 : Int32)), .unset, .unset] [])) _
    refine XS.iloadN X0.here hx rfl (hb hby d1_0) rfl ?_
    show Steps p.tables e below (s₁.setTop (mkF m 1 #[.val (.long q0), .second, .val (.int (3 : Int32)), .unset, .unset] [(.int (3 : Int32))])) _
    refine st1 _ ?_
    show Steps p.tables e below (T1.setTop (mkF m 3 #[.val (.long q0), .second, .val (.int (3 : Int32)), .unset, .unset] [(.ref b1)])) _
    refine XS.astoreN X1.here hx rfl (hb hby d1_3) rfl rfl (l' := #[.val (.long q0), .second, .val (.int (3 : Int32)), .val (.ref b1), .unset]) rfl ?_
    show Steps p.tables e below (T1.setTop (mkF m 4 #[.val (.long q0), .second, .val (.int (3 : Int32)), .val (.ref b1), .unset] [])) _
    refine XS.iloadN X1.here hx rfl (hb hby d1_4) rfl ?_
    show Steps p.tables e below (T1.setTop (mkF m 5 #[.val (.long q0), .second, .val (.int (3 : Int32)), .val (.ref b1), .unset] [(.int (3 : Int32))])) _
    refine XS.iconst X1.here hx rfl (hb hby d1_5) ?_
    show Steps p.tables e below (T1.setTop (mkF m 6 #[.val (.long q0), .second, .val (.int (3 : Int32)), .val (.ref b1), .unset] [(.int (1 : Int32)), (.int (3 : Int32))])) _
    refine XS.isub X1.here hx rfl (hb hby d1_6) rfl ?_
    show Steps p.tables e below (T1.setTop (mkF m 7 #[.val (.long q0), .second, .val (.int (3 : Int32)), .val (.ref b1), .unset] [(.int (2 : Int32))])) _
    refine XS.istore X1.here hx rfl (hb hby d1_7) rfl (l' := #[.val (.long q0), .second, .val (.int (3 : Int32)), .val (.ref b1), .val (.int (2 : Int32))]) rfl ?_
    show Steps p.tables e below (T1.setTop (mkF m 9 #[.val (.long q0), .second, .val (.int (3 : Int32)), .val (.ref b1), .val (.int (2 : Int32))] [])) _
    refine XS.iload X1.here hx rfl (hb hby d1_9) rfl ?_
    show Steps p.tables e below (T1.setTop (mkF m 11 #[.val (.long q0), .second, .val (.int (3 : Int32)), .val (.ref b1), .val (.int (2 : Int32))] [(.int (2 : Int32))])) _
    refine XS.ifNo X1.here hx rfl (hb hby d1_11) rfl ((if0 _ _).trans (flt (by decide : ¬ ((2 : Int32) < (0 : Int32)))).1) ?_
    show Steps p.tables e below (T1.setTop (mkF m 14 #[.val (.long q0), .second, .val (.int (3 : Int32)), .val (.ref b1), .val (.int (2 : Int32))] [])) _
    refine XS.aloadN X1.here hx rfl (hb hby d1_14) rfl rfl ?_
    show Steps p.tables e below (T1.setTop (mkF m 15 #[.val (.long q0), .second, .val (.int (3 : Int32)), .val (.ref b1), .val (.int (2 : Int32))] [(.ref b1)])) _
    refine XS.iload X1.here hx rfl (hb hby d1_15) rfl ?_
    show Steps p.tables e below (T1.setTop (mkF m 17 #[.val (.long q0), .second, .val (.int (3 : Int32)), .val (.ref b1), .val (.int (2 : Int32))] [(.int (2 : Int32)), (.ref b1)])) _
    refine XS.lloadN X1.here hx rfl (hb hby d1_17) rfl ?_
    show Steps p.tables e below (T1.setTop (mkF m 18 #[.val (.long q0), .second, .val (.int (3 : Int32)), .val (.ref b1), .val (.int (2 : Int32))] [(.long q0), (.int (2 : Int32)), (.ref b1)])) _
    refine XS.bipush X1.here hx rfl (hb hby d1_18) ?_
    show Steps p.tables e below (T1.setTop (mkF m 20 #[.val (.long q0), .second, .val (.int (3 : Int32)), .val (.ref b1), .val (.int (2 : Int32))] [(.int (8 : Int32)), (.long q0), (.int (2 : Int32)), (.ref b1)])) _
    refine XS.iloadN X1.here hx rfl (hb hby d1_20) rfl ?_
    show Steps p.tables e below (T1.setTop (mkF m 21 #[.val (.long q0), .second, .val (.int (3 : Int32)), .val (.ref b1), .val (.int (2 : Int32))] [(.int (3 : Int32)), (.int (8 : Int32)), (.long q0), (.int (2 : Int32)), (.ref b1)])) _
    refine XS.iconst X1.here hx rfl (hb hby d1_21) ?_
    show Steps p.tables e below (T1.setTop (mkF m 22 #[.val (.long q0), .second, .val (.int (3 : Int32)), .val (.ref b1), .val (.int (2 : Int32))] [(.int (1 : Int32)), (.int (3 : Int32)), (.int (8 : Int32)), (.long q0), (.int (2 : Int32)), (.ref b1)])) _
    refine XS.isub X1.here hx rfl (hb hby d1_22) rfl ?_
    show Steps p.tables e below (T1.setTop (mkF m 23 #[.val (.long q0), .second, .val (.int (3 : Int32)), .val (.ref b1), .val (.int (2 : Int32))] [(.int (2 : Int32)), (.int (8 : Int32)), (.long q0), (.int (2 : Int32)), (.ref b1)])) _
    refine XS.iload X1.here hx rfl (hb hby d1_23) rfl ?_
    show Steps p.tables e below (T1.setTop (mkF m 25 #[.val (.long q0), .second, .val (.int (3 : Int32)), .val (.ref b1), .val (.int (2 : Int32))] [(.int (2 : Int32)), (.int (2 : Int32)), (.int (8 : Int32)), (.long q0), (.int (2 : Int32)), (.ref b1)])) _
    refine XS.isub X1.here hx rfl (hb hby d1_25) rfl ?_
    show Steps p.tables e below (T1.setTop (mkF m 26 #[.val (.long q0), .second, .val (.int (3 : Int32)), .val (.ref b1), .val (.int (2 : Int32))] [(.int (0 : Int32)), (.int (8 : Int32)), (.long q0), (.int (2 : Int32)), (.ref b1)])) _
    refine XS.imul X1.here hx rfl (hb hby d1_26) rfl ?_
    show Steps p.tables e below (T1.setTop (mkF m 27 #[.val (.long q0), .second, .val (.int (3 : Int32)), .val (.ref b1), .val (.int (2 : Int32))] [(.int (0 : Int32)), (.long q0), (.int (2 : Int32)), (.ref b1)])) _
    refine XS.lushr X1.here hx rfl (hb hby d1_27) rfl ?_
    show Steps p.tables e below (T1.setTop (mkF m 28 #[.val (.long q0), .second, .val (.int (3 : Int32)), .val (.ref b1), .val (.int (2 : Int32))] [(.long ((q0.toUInt64 >>> ((0 : Int32) &&& 0x3f).toInt64.toUInt64).toInt64)), (.int (2 : Int32)), (.ref b1)])) _
    refine XS.l2i X1.here hx rfl (hb hby d1_28) rfl ?_
    show Steps p.tables e below (T1.setTop (mkF m 29 #[.val (.long q0), .second, .val (.int (3 : Int32)), .val (.ref b1), .val (.int (2 : Int32))] [(.int (((q0.toUInt64 >>> ((0 : Int32) &&& 0x3f).toInt64.toUInt64).toInt64).toInt32)), (.int (2 : Int32)), (.ref b1)])) _
    refine XS.i2b X1.here hx rfl (hb hby d1_29) rfl ?_
    show Steps p.tables e below (T1.setTop (mkF m 30 #[.val (.long q0), .second, .val (.int (3 : Int32)), .val (.ref b1), .val (.int (2 : Int32))] [(.int ((((q0.toUInt64 >>> ((0 : Int32) &&& 0x3f).toInt64.toUInt64).toInt64).toInt32).toInt8.toInt32)), (.int (2 : Int32)), (.ref b1)])) _
    refine st3 _ ?_
    show Steps p.tables e below (T3.setTop (mkF m 31 #[.val (.long q0), .second, .val (.int (3 : Int32)), .val (.ref b1), .val (.int (2 : Int32))] [])) _
    refine XS.iinc X3.here hx rfl (hb hby d1_31) rfl (l' := #[.val (.long q0), .second, .val (.int (3 : Int32)), .val (.ref b1), .val (.int (1 : Int32))]) rfl ?_
    show Steps p.tables e below (T3.setTop (mkF m 34 #[.val (.long q0), .second, .val (.int (3 : Int32)), .val (.ref b1), .val (.int (1 : Int32))] [])) _
    refine XS.goto X3.here hx rfl (pc0 := 34) (pc' := 9) rfl (hb hby d1_34) (by decide) (by decide) ?_
    show Steps p.tables e below (T3.setTop (mkF m 9 #[.val (.long q0), .second, .val (.int (3 : Int32)), .val (.ref b1), .val (.int (1 : Int32))] [])) _
    refine XS.iload X3.here hx rfl (hb hby d1_9) rfl ?_
    show Steps p.tables e below (T3.setTop (mkF m 11 #[.val (.long q0), .second, .val (.int (3 : Int32)), .val (.ref b1), .val (.int (1 : Int32))] [(.int (1 : Int32))])) _
    refine XS.ifNo X3.here hx rfl (hb hby d1_11) rfl ((if0 _ _).trans (flt (by decide : ¬ ((1 : Int32) < (0 : Int32)))).1) ?_
    show Steps p.tables e below (T3.setTop (mkF m 14 #[.val (.long q0), .second, .val (.int (3 : Int32)), .val (.ref b1), .val (.int (1 : Int32))] [])) _
    refine XS.aloadN X3.here hx rfl (hb hby d1_14) rfl rfl ?_
    show Steps p.tables e below (T3.setTop (mkF m 15 #[.val (.long q0), .second, .val (.int (3 : Int32)), .val (.ref b1), .val (.int (1 : Int32))] [(.ref b1)])) _
    refine XS.iload X3.here hx rfl (hb hby d1_15) rfl ?_
    show Steps p.tables e below (T3.setTop (mkF m 17 #[.val (.long q0), .second, .val (.int (3 : Int32)), .val (.ref b1), .val (.int (1 : Int32))] [(.int (1 : Int32)), (.ref b1)])) _
    refine XS.lloadN X3.here hx rfl (hb hby d1_17) rfl ?_
    show Steps p.tables e below (T3.setTop (mkF m 18 #[.val (.long q0), .second, .val (.int (3 : Int32)), .val (.ref b1), .val (.int (1 : Int32))] [(.long q0), (.int (1 : Int32)), (.ref b1)])) _
    refine XS.bipush X3.here hx rfl (hb hby d1_18) ?_
    show Steps p.tables e below (T3.setTop (mkF m 20 #[.val (.long q0), .second, .val (.int (3 : Int32)), .val (.ref b1), .val (.int (1 : Int32))] [(.int (8 : Int32)), (.long q0), (.int (1 : Int32)), (.ref b1)])) _
    refine XS.iloadN X3.here hx rfl (hb hby d1_20) rfl ?_
    show Steps p.tables e below (T3.setTop (mkF m 21 #[.val (.long q0), .second, .val (.int (3 : Int32)), .val (.ref b1), .val (.int (1 : Int32))] [(.int (3 : Int32)), (.int (8 : Int32)), (.long q0), (.int (1 : Int32)), (.ref b1)])) _
    refine XS.iconst X3.here hx rfl (hb hby d1_21) ?_
    show Steps p.tables e below (T3.setTop (mkF m 22 #[.val (.long q0), .second, .val (.int (3 : Int32)), .val (.ref b1), .val (.int (1 : Int32))] [(.int (1 : Int32)), (.int (3 : Int32)), (.int (8 : Int32)), (.long q0), (.int (1 : Int32)), (.ref b1)])) _
    refine XS.isub X3.here hx rfl (hb hby d1_22) rfl ?_
    show Steps p.tables e below (T3.setTop (mkF m 23 #[.val (.long q0), .second, .val (.int (3 : Int32)), .val (.ref b1), .val (.int (1 : Int32))] [(.int (2 : Int32)), (.int (8 : Int32)), (.long q0), (.int (1 : Int32)), (.ref b1)])) _
    refine XS.iload X3.here hx rfl (hb hby d1_23) rfl ?_
    show Steps p.tables e below (T3.setTop (mkF m 25 #[.val (.long q0), .second, .val (.int (3 : Int32)), .val (.ref b1), .val (.int (1 : Int32))] [(.int (1 : Int32)), (.int (2 : Int32)), (.int (8 : Int32)), (.long q0), (.int (1 : Int32)), (.ref b1)])) _
    refine XS.isub X3.here hx rfl (hb hby d1_25) rfl ?_
    show Steps p.tables e below (T3.setTop (mkF m 26 #[.val (.long q0), .second, .val (.int (3 : Int32)), .val (.ref b1), .val (.int (1 : Int32))] [(.int (1 : Int32)), (.int (8 : Int32)), (.long q0), (.int (1 : Int32)), (.ref b1)])) _
    refine XS.imul X3.here hx rfl (hb hby d1_26) rfl ?_
    show Steps p.tables e below (T3.setTop (mkF m 27 #[.val (.long q0), .second, .val (.int (3 : Int32)), .val (.ref b1), .val (.int (1 : Int32))] [(.int (8 : Int32)), (.long q0), (.int (1 : Int32)), (.ref b1)])) _
    refine XS.lushr X3.here hx rfl (hb hby d1_27) rfl ?_
    show Steps p.tables e below (T3.setTop (mkF m 28 #[.val (.long q0), .second, .val (.int (3 : Int32)), .val (.ref b1), .val (.int (1 : Int32))] [(.long ((q0.toUInt64 >>> ((8 : Int32) &&& 0x3f).toInt64.toUInt64).toInt64)), (.int (1 : Int32)), (.ref b1)])) _
    refine XS.l2i X3.here hx rfl (hb hby d1_28) rfl ?_
    show Steps p.tables e below (T3.setTop (mkF m 29 #[.val (.long q0), .second, .val (.int (3 : Int32)), .val (.ref b1), .val (.int (1 : Int32))] [(.int (((q0.toUInt64 >>> ((8 : Int32) &&& 0x3f).toInt64.toUInt64).toInt64).toInt32)), (.int (1 : Int32)), (.ref b1)])) _
    refine XS.i2b X3.here hx rfl (hb hby d1_29) rfl ?_
    show Steps p.tables e below (T3.setTop (mkF m 30 #[.val (.long q0), .second, .val (.int (3 : Int32)), .val (.ref b1), .val (.int (1 : Int32))] [(.int ((((q0.toUInt64 >>> ((8 : Int32) &&& 0x3f).toInt64.toUInt64).toInt64).toInt32).toInt8.toInt32)), (.int (1 : Int32)), (.ref b1)])) _
    refine st5 _ ?_
    show Steps p.tables e below (T5.setTop (mkF m 31 #[.val (.long q0), .second, .val (.int (3 : Int32)), .val (.ref b1), .val (.int (1 : Int32))] [])) _
    refine XS.iinc X5.here hx rfl (hb hby d1_31) rfl (l' := #[.val (.long q0), .second, .val (.int (3 : Int32)), .val (.ref b1), .val (.int (0 : Int32))]) rfl ?_
    show Steps p.tables e below (T5.setTop (mkF m 34 #[.val (.long q0), .second, .val (.int (3 : Int32)), .val (.ref b1), .val (.int (0 : Int32))] [])) _
    refine XS.goto X5.here hx rfl (pc0 := 34) (pc' := 9) rfl (hb hby d1_34) (by decide) (by decide) ?_
    show Steps p.tables e below (T5.setTop (mkF m 9 #[.val (.long q0), .second, .val (.int (3 : Int32)), .val (.ref b1), .val (.int (0 : Int32))] [])) _
    refine XS.iload X5.here hx rfl (hb hby d1_9) rfl ?_
    show Steps p.tables e below (T5.setTop (mkF m 11 #[.val (.long q0), .second, .val (.int (3 : Int32)), .val (.ref b1), .val (.int (0 : Int32))] [(.int (0 : Int32))])) _
    refine XS.ifNo X5.here hx rfl (hb hby d1_11) rfl ((if0 _ _).trans (flt (by decide : ¬ ((0 : Int32) < (0 : Int32)))).1) ?_
    show Steps p.tables e below (T5.setTop (mkF m 14 #[.val (.long q0), .second, .val (.int (3 : Int32)), .val (.ref b1), .val (.int (0 : Int32))] [])) _
    refine XS.aloadN X5.here hx rfl (hb hby d1_14) rfl rfl ?_
    show Steps p.tables e below (T5.setTop (mkF m 15 #[.val (.long q0), .second, .val (.int (3 : Int32)), .val (.ref b1), .val (.int (0 : Int32))] [(.ref b1)])) _
    refine XS.iload X5.here hx rfl (hb hby d1_15) rfl ?_
    show Steps p.tables e below (T5.setTop (mkF m 17 #[.val (.long q0), .second, .val (.int (3 : Int32)), .val (.ref b1), .val (.int (0 : Int32))] [(.int (0 : Int32)), (.ref b1)])) _
    refine XS.lloadN X5.here hx rfl (hb hby d1_17) rfl ?_
    show Steps p.tables e below (T5.setTop (mkF m 18 #[.val (.long q0), .second, .val (.int (3 : Int32)), .val (.ref b1), .val (.int (0 : Int32))] [(.long q0), (.int (0 : Int32)), (.ref b1)])) _
    refine XS.bipush X5.here hx rfl (hb hby d1_18) ?_
    show Steps p.tables e below (T5.setTop (mkF m 20 #[.val (.long q0), .second, .val (.int (3 : Int32)), .val (.ref b1), .val (.int (0 : Int32))] [(.int (8 : Int32)), (.long q0), (.int (0 : Int32)), (.ref b1)])) _
    refine XS.iloadN X5.here hx rfl (hb hby d1_20) rfl ?_
    show Steps p.tables e below (T5.setTop (mkF m 21 #[.val (.long q0), .second, .val (.int (3 : Int32)), .val (.ref b1), .val (.int (0 : Int32))] [(.int (3 : Int32)), (.int (8 : Int32)), (.long q0), (.int (0 : Int32)), (.ref b1)])) _
    refine XS.iconst X5.here hx rfl (hb hby d1_21) ?_
    show Steps p.tables e below (T5.setTop (mkF m 22 #[.val (.long q0), .second, .val (.int (3 : Int32)), .val (.ref b1), .val (.int (0 : Int32))] [(.int (1 : Int32)), (.int (3 : Int32)), (.int (8 : Int32)), (.long q0), (.int (0 : Int32)), (.ref b1)])) _
    refine XS.isub X5.here hx rfl (hb hby d1_22) rfl ?_
    show Steps p.tables e below (T5.setTop (mkF m 23 #[.val (.long q0), .second, .val (.int (3 : Int32)), .val (.ref b1), .val (.int (0 : Int32))] [(.int (2 : Int32)), (.int (8 : Int32)), (.long q0), (.int (0 : Int32)), (.ref b1)])) _
    refine XS.iload X5.here hx rfl (hb hby d1_23) rfl ?_
    show Steps p.tables e below (T5.setTop (mkF m 25 #[.val (.long q0), .second, .val (.int (3 : Int32)), .val (.ref b1), .val (.int (0 : Int32))] [(.int (0 : Int32)), (.int (2 : Int32)), (.int (8 : Int32)), (.long q0), (.int (0 : Int32)), (.ref b1)])) _
    refine XS.isub X5.here hx rfl (hb hby d1_25) rfl ?_
    show Steps p.tables e below (T5.setTop (mkF m 26 #[.val (.long q0), .second, .val (.int (3 : Int32)), .val (.ref b1), .val (.int (0 : Int32))] [(.int (2 : Int32)), (.int (8 : Int32)), (.long q0), (.int (0 : Int32)), (.ref b1)])) _
    refine XS.imul X5.here hx rfl (hb hby d1_26) rfl ?_
    show Steps p.tables e below (T5.setTop (mkF m 27 #[.val (.long q0), .second, .val (.int (3 : Int32)), .val (.ref b1), .val (.int (0 : Int32))] [(.int (16 : Int32)), (.long q0), (.int (0 : Int32)), (.ref b1)])) _
    refine XS.lushr X5.here hx rfl (hb hby d1_27) rfl ?_
    show Steps p.tables e below (T5.setTop (mkF m 28 #[.val (.long q0), .second, .val (.int (3 : Int32)), .val (.ref b1), .val (.int (0 : Int32))] [(.long ((q0.toUInt64 >>> ((16 : Int32) &&& 0x3f).toInt64.toUInt64).toInt64)), (.int (0 : Int32)), (.ref b1)])) _
    refine XS.l2i X5.here hx rfl (hb hby d1_28) rfl ?_
    show Steps p.tables e below (T5.setTop (mkF m 29 #[.val (.long q0), .second, .val (.int (3 : Int32)), .val (.ref b1), .val (.int (0 : Int32))] [(.int (((q0.toUInt64 >>> ((16 : Int32) &&& 0x3f).toInt64.toUInt64).toInt64).toInt32)), (.int (0 : Int32)), (.ref b1)])) _
    refine XS.i2b X5.here hx rfl (hb hby d1_29) rfl ?_
    show Steps p.tables e below (T5.setTop (mkF m 30 #[.val (.long q0), .second, .val (.int (3 : Int32)), .val (.ref b1), .val (.int (0 : Int32))] [(.int ((((q0.toUInt64 >>> ((16 : Int32) &&& 0x3f).toInt64.toUInt64).toInt64).toInt32).toInt8.toInt32)), (.int (0 : Int32)), (.ref b1)])) _
    refine st7 _ ?_
    show Steps p.tables e below (T7.setTop (mkF m 31 #[.val (.long q0), .second, .val (.int (3 : Int32)), .val (.ref b1), .val (.int (0 : Int32))] [])) _
    refine XS.iinc X7.here hx rfl (hb hby d1_31) rfl (l' := #[.val (.long q0), .second, .val (.int (3 : Int32)), .val (.ref b1), .val (.int (-1 : Int32))]) rfl ?_
    show Steps p.tables e below (T7.setTop (mkF m 34 #[.val (.long q0), .second, .val (.int (3 : Int32)), .val (.ref b1), .val (.int (-1 : Int32))] [])) _
    refine XS.goto X7.here hx rfl (pc0 := 34) (pc' := 9) rfl (hb hby d1_34) (by decide) (by decide) ?_
    show Steps p.tables e below (T7.setTop (mkF m 9 #[.val (.long q0), .second, .val (.int (3 : Int32)), .val (.ref b1), .val (.int (-1 : Int32))] [])) _
    refine XS.iload X7.here hx rfl (hb hby d1_9) rfl ?_
    show Steps p.tables e below (T7.setTop (mkF m 11 #[.val (.long q0), .second, .val (.int (3 : Int32)), .val (.ref b1), .val (.int (-1 : Int32))] [(.int (-1 : Int32))])) _
    refine XS.ifYes X7.here hx rfl (pc0 := 11) (pc' := 37) rfl (hb hby d1_11) rfl ((if0 _ _).trans (tlt (by decide : (-1 : Int32) < (0 : Int32))).1) (by decide) (by decide) ?_
    show Steps p.tables e below (T7.setTop (mkF m 37 #[.val (.long q0), .second, .val (.int (3 : Int32)), .val (.ref b1), .val (.int (-1 : Int32))] [])) _
    refine XS.aloadN X7.here hx rfl (hb hby d1_37) rfl rfl ?_
    show Steps p.tables e below (T7.setTop (mkF m 38 #[.val (.long q0), .second, .val (.int (3 : Int32)), .val (.ref b1), .val (.int (-1 : Int32))] [(.ref b1)])) _
    exact retOut X7 hx Bd.returns rfl (Or.inr (Or.inr (Or.inr (Or.inr ⟨rfl, rfl, rfl⟩)))) (hb hby d1_38) hr
  · show Qb3 Z q0 h0 n0 _ T7.heap _
    rw [e7]
    exact ⟨_, _, rfl, N7, K7, V7⟩
theorem ef_rmb4 (m : MethodId) (q0 : Int64) : entryFrame m #[(.long q0), (.int (4 : Int32))] 5 = mkF m 0 #[.val (.long q0), .second, .val (.int (4 : Int32)), .unset, .unset] [] := by first | (simp [entryFrame, mkF, argsToLocals, Value.category]; done) | rfl
def Qb4 (Z : State) (q0 : Int64) (h0 : Heap) (n0 : Nat) (v : Option Value) (h : Heap) (L : List Loc) : Prop := ∃ (b : Addr) (k : ClassId), v = some (.ref b) ∧ Fr n0 L ∧ Keep h0 h [] ∧ Arv Z h b k .byte (4 : Int32) [(.int (own_byte q0 (24 : Int32))), (.int (own_byte q0 (16 : Int32))), (.int (own_byte q0 (8 : Int32))), (.int (own_byte q0 (0 : Int32)))] (.int (0 : Int32))
set_option maxRecDepth 65536 in
set_option maxHeartbeats 40000000 in
theorem rmb4 (l : Launch) (Z : State) (a0 : Array Value) (hw : ∀ d ∈ tables_1, d.before a0 Z = true) (ws : List Jvm.Cond) (q0 : Int64) (h0 : Heap) (n0 : Nat) (Z0 : n0 ≤ h0.size) :
    MetFree l (⟨"shale/ValueType", "bigEndian", "(JI)[B"⟩ : MethodName) (head1 (Jvm.Cond.code (⟨"shale/ValueType", "bigEndian", "(JI)[B"⟩ : MethodName) prog_227_method_42_code 5 (some (.array .byte)) :: ws) ({ frames := 0, cells := 1, slots := 4, locals := 0 } : Room)) (fun a U => a = #[(.long q0), (.int (4 : Int32))] ∧ Z.Warmed39 U.vm ∧ U.heap = h0) (fun _ _ _ _ _ => True) (fun _ U o U' => ∃ v L, o = .returned v ∧ Qb4 Z q0 h0 n0 v U'.heap L ∧ FrameEnd U o U' L ({ frames := 0, cells := 1, slots := 4, locals := 0 } : Room).cells ({ frames := 0, cells := 1, slots := 4, locals := 0 } : Room).slots) := by
  refine MetFree.of_bodySF (plainFor_of_name pn_0) hisR ?_
  intro p e s m args below meth c s₁ Bd hml0 hP hK
  obtain ⟨rfl, hZ, hh⟩ := hP
  have hx := Bd.exec
  have hby := Bd.bytes
  have hml : c.maxLocals = 5 := hml0
  have hown : s.vm.findClass "shale/ValueType" = some m.cls := findClass_of_methodNamed Bd.named
  have hnm := (name_of_methodNamed Bd.named Bd.method).1
  have X0 : Stand p l e ({ frames := 0, cells := 1, slots := 4, locals := 0 } : Room) s m #[(.long q0), (.int (4 : Int32))] below meth c s₁ [] 0 0 := Stand.of_body Bd
  have e0 : s₁.heap = h0 := by rw [← hh, Bd.state]; rfl
  have N0 := Fr.nil n0
  have pre0 : ∀ t, Steps p.tables e below (s₁.setTop (mkF m 0 #[.val (.long q0), .second, .val (.int (4 : Int32)), .unset, .unset] [])) t → Steps p.tables e below (s₁.setTop (entryFrame m #[(.long q0), (.int (4 : Int32))] 5)) t := fun t k => castTop (ef_rmb4 m q0) k
  obtain ⟨T1, h1, k1, X1, e1, E1, A1, st1⟩ := newP X0 hx hZ (hw _ (List.mem_of_getElem? (i := 5) rfl)) e0 (g := (mkF m 1 #[.val (.long q0), .second, .val (.int (4 : Int32)), .unset, .unset] [(.int (4 : Int32))])) rfl (hb hby d1_1) rfl (by decide) (cap := 4) (by decide) (by decide) (by decide) (by decide)
  obtain ⟨b1, g1⟩ : ∃ z, z = h0.size := ⟨_, rfl⟩
  rw [← g1] at A1 st1
  have gn1 : n0 ≤ b1 := Nat.le_trans Z0 (Nat.le_of_eq g1.symm)
  have sz1 : h0.size ≤ b1 := Nat.le_trans (Keep.refl h0 []).1 (Nat.le_of_eq g1.symm)
  have Z2 : n0 ≤ h1.size := Nat.le_trans Z0 E1.1
  have K1 : Keep h0 h1 [] := (Keep.refl h0 []).ext E1
  have V1 : Arv Z h1 b1 k1 .byte (4 : Int32) [(.int (0 : Int32)), (.int (0 : Int32)), (.int (0 : Int32)), (.int (0 : Int32))] (.int (0 : Int32)) := (Arv.new A1 (by decide)).pad (pad_rep [] (.int (0 : Int32)) 4)
  obtain ⟨cl3, Ar3, qa3, Sa3, Na3, Ha3, Ga3⟩ := V1
  have hin3 : ¬ ((3 : Int32) < 0 ∨ cl3.slots.size ≤ (3 : Int32).toNatClampNeg) := inb_of Sa3 ⟨by decide, by decide⟩
  obtain ⟨T3, h3, X3, e3, W3, st3⟩ := stB X1 hx hZ e1 Ar3 (j := (3 : Int32)) hin3 (g := (mkF m 30 #[.val (.long q0), .second, .val (.int (4 : Int32)), .val (.ref b1), .val (.int (3 : Int32))] [(.int ((((q0.toUInt64 >>> ((0 : Int32) &&& 0x3f).toInt64.toUInt64).toInt64).toInt32).toInt8.toInt32)), (.int (3 : Int32)), (.ref b1)])) rfl rfl (hb hby d1_30)
  have Z4 : n0 ≤ h3.size := Nat.le_trans Z2 (Keep.of_wr W3).1
  have V3 : Arv Z h3 b1 k1 .byte (4 : Int32) [(.int (0 : Int32)), (.int (0 : Int32)), (.int (0 : Int32)), (.int (own_byte q0 (0 : Int32)))] (.int (0 : Int32)) := Arv.set Ar3 qa3 Sa3 Na3 Ha3 Ga3 (fits_nar_byte _) W3 3 rfl (Nat.le_of_ble_eq_true rfl)
  have K3 : Keep h0 h3 [] := K1.wr W3 (Or.inr sz1)
  have N3 := Fr.snoc X3 N0 gn1
  obtain ⟨cl5, Ar5, qa5, Sa5, Na5, Ha5, Ga5⟩ := V3
  have hin5 : ¬ ((2 : Int32) < 0 ∨ cl5.slots.size ≤ (2 : Int32).toNatClampNeg) := inb_of Sa5 ⟨by decide, by decide⟩
  obtain ⟨T5, h5, X5, e5, W5, st5⟩ := stB X3 hx hZ e3 Ar5 (j := (2 : Int32)) hin5 (g := (mkF m 30 #[.val (.long q0), .second, .val (.int (4 : Int32)), .val (.ref b1), .val (.int (2 : Int32))] [(.int ((((q0.toUInt64 >>> ((8 : Int32) &&& 0x3f).toInt64.toUInt64).toInt64).toInt32).toInt8.toInt32)), (.int (2 : Int32)), (.ref b1)])) rfl rfl (hb hby d1_30)
  have Z6 : n0 ≤ h5.size := Nat.le_trans Z4 (Keep.of_wr W5).1
  have V5 : Arv Z h5 b1 k1 .byte (4 : Int32) [(.int (0 : Int32)), (.int (0 : Int32)), (.int (own_byte q0 (8 : Int32))), (.int (own_byte q0 (0 : Int32)))] (.int (0 : Int32)) := Arv.set Ar5 qa5 Sa5 Na5 Ha5 Ga5 (fits_nar_byte _) W5 2 rfl (Nat.le_of_ble_eq_true rfl)
  have K5 : Keep h0 h5 [] := K3.wr W5 (Or.inr sz1)
  have N5 := Fr.snoc X5 N3 gn1
  obtain ⟨cl7, Ar7, qa7, Sa7, Na7, Ha7, Ga7⟩ := V5
  have hin7 : ¬ ((1 : Int32) < 0 ∨ cl7.slots.size ≤ (1 : Int32).toNatClampNeg) := inb_of Sa7 ⟨by decide, by decide⟩
  obtain ⟨T7, h7, X7, e7, W7, st7⟩ := stB X5 hx hZ e5 Ar7 (j := (1 : Int32)) hin7 (g := (mkF m 30 #[.val (.long q0), .second, .val (.int (4 : Int32)), .val (.ref b1), .val (.int (1 : Int32))] [(.int ((((q0.toUInt64 >>> ((16 : Int32) &&& 0x3f).toInt64.toUInt64).toInt64).toInt32).toInt8.toInt32)), (.int (1 : Int32)), (.ref b1)])) rfl rfl (hb hby d1_30)
  have Z8 : n0 ≤ h7.size := Nat.le_trans Z6 (Keep.of_wr W7).1
  have V7 : Arv Z h7 b1 k1 .byte (4 : Int32) [(.int (0 : Int32)), (.int (own_byte q0 (16 : Int32))), (.int (own_byte q0 (8 : Int32))), (.int (own_byte q0 (0 : Int32)))] (.int (0 : Int32)) := Arv.set Ar7 qa7 Sa7 Na7 Ha7 Ga7 (fits_nar_byte _) W7 1 rfl (Nat.le_of_ble_eq_true rfl)
  have K7 : Keep h0 h7 [] := K5.wr W7 (Or.inr sz1)
  have N7 := Fr.snoc X7 N5 gn1
  obtain ⟨cl9, Ar9, qa9, Sa9, Na9, Ha9, Ga9⟩ := V7
  have hin9 : ¬ ((0 : Int32) < 0 ∨ cl9.slots.size ≤ (0 : Int32).toNatClampNeg) := inb_of Sa9 ⟨by decide, by decide⟩
  obtain ⟨T9, h9, X9, e9, W9, st9⟩ := stB X7 hx hZ e7 Ar9 (j := (0 : Int32)) hin9 (g := (mkF m 30 #[.val (.long q0), .second, .val (.int (4 : Int32)), .val (.ref b1), .val (.int (0 : Int32))] [(.int ((((q0.toUInt64 >>> ((24 : Int32) &&& 0x3f).toInt64.toUInt64).toInt64).toInt32).toInt8.toInt32)), (.int (0 : Int32)), (.ref b1)])) rfl rfl (hb hby d1_30)
  have Z10 : n0 ≤ h9.size := Nat.le_trans Z8 (Keep.of_wr W9).1
  have V9 : Arv Z h9 b1 k1 .byte (4 : Int32) [(.int (own_byte q0 (24 : Int32))), (.int (own_byte q0 (16 : Int32))), (.int (own_byte q0 (8 : Int32))), (.int (own_byte q0 (0 : Int32)))] (.int (0 : Int32)) := Arv.set Ar9 qa9 Sa9 Na9 Ha9 Ga9 (fits_nar_byte _) W9 0 rfl (Nat.le_of_ble_eq_true rfl)
  have K9 : Keep h0 h9 [] := K7.wr W9 (Or.inr sz1)
  have N9 := Fr.snoc X9 N7 gn1
  obtain ⟨fs, hr, hrun, hended, hW, hsame⟩ := X9.leave (v := some (.ref b1)) (fun h => by rw [Bd.returns] at h; cases h)
  refine ⟨_, _, pre0 _ ?_, hrun, hended, _, _, rfl, ?_, ⟨_, rfl⟩, hW, hsame.mono (by decide) (by decide)⟩
  · show Steps p.tables e below (s₁.setTop (mkF m 0 #[.val (.long q0), .second, .val (.int (4 : Int32)), .unset, .unset] [])) _
    refine XS.iloadN X0.here hx rfl (hb hby d1_0) rfl ?_
    show Steps p.tables e below (s₁.setTop (mkF m 1 #[.val (.long q0), .second, .val (.int (4 : Int32)), .unset, .unset] [(.int (4 : Int32))])) _
    refine st1 _ ?_
    show Steps p.tables e below (T1.setTop (mkF m 3 #[.val (.long q0), .second, .val (.int (4 : Int32)), .unset, .unset] [(.ref b1)])) _
    refine XS.astoreN X1.here hx rfl (hb hby d1_3) rfl rfl (l' := #[.val (.long q0), .second, .val (.int (4 : Int32)), .val (.ref b1), .unset]) rfl ?_
    show Steps p.tables e below (T1.setTop (mkF m 4 #[.val (.long q0), .second, .val (.int (4 : Int32)), .val (.ref b1), .unset] [])) _
    refine XS.iloadN X1.here hx rfl (hb hby d1_4) rfl ?_
    show Steps p.tables e below (T1.setTop (mkF m 5 #[.val (.long q0), .second, .val (.int (4 : Int32)), .val (.ref b1), .unset] [(.int (4 : Int32))])) _
    refine XS.iconst X1.here hx rfl (hb hby d1_5) ?_
    show Steps p.tables e below (T1.setTop (mkF m 6 #[.val (.long q0), .second, .val (.int (4 : Int32)), .val (.ref b1), .unset] [(.int (1 : Int32)), (.int (4 : Int32))])) _
    refine XS.isub X1.here hx rfl (hb hby d1_6) rfl ?_
    show Steps p.tables e below (T1.setTop (mkF m 7 #[.val (.long q0), .second, .val (.int (4 : Int32)), .val (.ref b1), .unset] [(.int (3 : Int32))])) _
    refine XS.istore X1.here hx rfl (hb hby d1_7) rfl (l' := #[.val (.long q0), .second, .val (.int (4 : Int32)), .val (.ref b1), .val (.int (3 : Int32))]) rfl ?_
    show Steps p.tables e below (T1.setTop (mkF m 9 #[.val (.long q0), .second, .val (.int (4 : Int32)), .val (.ref b1), .val (.int (3 : Int32))] [])) _
    refine XS.iload X1.here hx rfl (hb hby d1_9) rfl ?_
    show Steps p.tables e below (T1.setTop (mkF m 11 #[.val (.long q0), .second, .val (.int (4 : Int32)), .val (.ref b1), .val (.int (3 : Int32))] [(.int (3 : Int32))])) _
    refine XS.ifNo X1.here hx rfl (hb hby d1_11) rfl ((if0 _ _).trans (flt (by decide : ¬ ((3 : Int32) < (0 : Int32)))).1) ?_
    show Steps p.tables e below (T1.setTop (mkF m 14 #[.val (.long q0), .second, .val (.int (4 : Int32)), .val (.ref b1), .val (.int (3 : Int32))] [])) _
    refine XS.aloadN X1.here hx rfl (hb hby d1_14) rfl rfl ?_
    show Steps p.tables e below (T1.setTop (mkF m 15 #[.val (.long q0), .second, .val (.int (4 : Int32)), .val (.ref b1), .val (.int (3 : Int32))] [(.ref b1)])) _
    refine XS.iload X1.here hx rfl (hb hby d1_15) rfl ?_
    show Steps p.tables e below (T1.setTop (mkF m 17 #[.val (.long q0), .second, .val (.int (4 : Int32)), .val (.ref b1), .val (.int (3 : Int32))] [(.int (3 : Int32)), (.ref b1)])) _
    refine XS.lloadN X1.here hx rfl (hb hby d1_17) rfl ?_
    show Steps p.tables e below (T1.setTop (mkF m 18 #[.val (.long q0), .second, .val (.int (4 : Int32)), .val (.ref b1), .val (.int (3 : Int32))] [(.long q0), (.int (3 : Int32)), (.ref b1)])) _
    refine XS.bipush X1.here hx rfl (hb hby d1_18) ?_
    show Steps p.tables e below (T1.setTop (mkF m 20 #[.val (.long q0), .second, .val (.int (4 : Int32)), .val (.ref b1), .val (.int (3 : Int32))] [(.int (8 : Int32)), (.long q0), (.int (3 : Int32)), (.ref b1)])) _
    refine XS.iloadN X1.here hx rfl (hb hby d1_20) rfl ?_
    show Steps p.tables e below (T1.setTop (mkF m 21 #[.val (.long q0), .second, .val (.int (4 : Int32)), .val (.ref b1), .val (.int (3 : Int32))] [(.int (4 : Int32)), (.int (8 : Int32)), (.long q0), (.int (3 : Int32)), (.ref b1)])) _
    refine XS.iconst X1.here hx rfl (hb hby d1_21) ?_
    show Steps p.tables e below (T1.setTop (mkF m 22 #[.val (.long q0), .second, .val (.int (4 : Int32)), .val (.ref b1), .val (.int (3 : Int32))] [(.int (1 : Int32)), (.int (4 : Int32)), (.int (8 : Int32)), (.long q0), (.int (3 : Int32)), (.ref b1)])) _
    refine XS.isub X1.here hx rfl (hb hby d1_22) rfl ?_
    show Steps p.tables e below (T1.setTop (mkF m 23 #[.val (.long q0), .second, .val (.int (4 : Int32)), .val (.ref b1), .val (.int (3 : Int32))] [(.int (3 : Int32)), (.int (8 : Int32)), (.long q0), (.int (3 : Int32)), (.ref b1)])) _
    refine XS.iload X1.here hx rfl (hb hby d1_23) rfl ?_
    show Steps p.tables e below (T1.setTop (mkF m 25 #[.val (.long q0), .second, .val (.int (4 : Int32)), .val (.ref b1), .val (.int (3 : Int32))] [(.int (3 : Int32)), (.int (3 : Int32)), (.int (8 : Int32)), (.long q0), (.int (3 : Int32)), (.ref b1)])) _
    refine XS.isub X1.here hx rfl (hb hby d1_25) rfl ?_
    show Steps p.tables e below (T1.setTop (mkF m 26 #[.val (.long q0), .second, .val (.int (4 : Int32)), .val (.ref b1), .val (.int (3 : Int32))] [(.int (0 : Int32)), (.int (8 : Int32)), (.long q0), (.int (3 : Int32)), (.ref b1)])) _
    refine XS.imul X1.here hx rfl (hb hby d1_26) rfl ?_
    show Steps p.tables e below (T1.setTop (mkF m 27 #[.val (.long q0), .second, .val (.int (4 : Int32)), .val (.ref b1), .val (.int (3 : Int32))] [(.int (0 : Int32)), (.long q0), (.int (3 : Int32)), (.ref b1)])) _
    refine XS.lushr X1.here hx rfl (hb hby d1_27) rfl ?_
    show Steps p.tables e below (T1.setTop (mkF m 28 #[.val (.long q0), .second, .val (.int (4 : Int32)), .val (.ref b1), .val (.int (3 : Int32))] [(.long ((q0.toUInt64 >>> ((0 : Int32) &&& 0x3f).toInt64.toUInt64).toInt64)), (.int (3 : Int32)), (.ref b1)])) _
    refine XS.l2i X1.here hx rfl (hb hby d1_28) rfl ?_
    show Steps p.tables e below (T1.setTop (mkF m 29 #[.val (.long q0), .second, .val (.int (4 : Int32)), .val (.ref b1), .val (.int (3 : Int32))] [(.int (((q0.toUInt64 >>> ((0 : Int32) &&& 0x3f).toInt64.toUInt64).toInt64).toInt32)), (.int (3 : Int32)), (.ref b1)])) _
    refine XS.i2b X1.here hx rfl (hb hby d1_29) rfl ?_
    show Steps p.tables e below (T1.setTop (mkF m 30 #[.val (.long q0), .second, .val (.int (4 : Int32)), .val (.ref b1), .val (.int (3 : Int32))] [(.int ((((q0.toUInt64 >>> ((0 : Int32) &&& 0x3f).toInt64.toUInt64).toInt64).toInt32).toInt8.toInt32)), (.int (3 : Int32)), (.ref b1)])) _
    refine st3 _ ?_
    show Steps p.tables e below (T3.setTop (mkF m 31 #[.val (.long q0), .second, .val (.int (4 : Int32)), .val (.ref b1), .val (.int (3 : Int32))] [])) _
    refine XS.iinc X3.here hx rfl (hb hby d1_31) rfl (l' := #[.val (.long q0), .second, .val (.int (4 : Int32)), .val (.ref b1), .val (.int (2 : Int32))]) rfl ?_
    show Steps p.tables e below (T3.setTop (mkF m 34 #[.val (.long q0), .second, .val (.int (4 : Int32)), .val (.ref b1), .val (.int (2 : Int32))] [])) _
    refine XS.goto X3.here hx rfl (pc0 := 34) (pc' := 9) rfl (hb hby d1_34) (by decide) (by decide) ?_
    show Steps p.tables e below (T3.setTop (mkF m 9 #[.val (.long q0), .second, .val (.int (4 : Int32)), .val (.ref b1), .val (.int (2 : Int32))] [])) _
    refine XS.iload X3.here hx rfl (hb hby d1_9) rfl ?_
    show Steps p.tables e below (T3.setTop (mkF m 11 #[.val (.long q0), .second, .val (.int (4 : Int32)), .val (.ref b1), .val (.int (2 : Int32))] [(.int (2 : Int32))])) _
    refine XS.ifNo X3.here hx rfl (hb hby d1_11) rfl ((if0 _ _).trans (flt (by decide : ¬ ((2 : Int32) < (0 : Int32)))).1) ?_
    show Steps p.tables e below (T3.setTop (mkF m 14 #[.val (.long q0), .second, .val (.int (4 : Int32)), .val (.ref b1), .val (.int (2 : Int32))] [])) _
    refine XS.aloadN X3.here hx rfl (hb hby d1_14) rfl rfl ?_
    show Steps p.tables e below (T3.setTop (mkF m 15 #[.val (.long q0), .second, .val (.int (4 : Int32)), .val (.ref b1), .val (.int (2 : Int32))] [(.ref b1)])) _
    refine XS.iload X3.here hx rfl (hb hby d1_15) rfl ?_
    show Steps p.tables e below (T3.setTop (mkF m 17 #[.val (.long q0), .second, .val (.int (4 : Int32)), .val (.ref b1), .val (.int (2 : Int32))] [(.int (2 : Int32)), (.ref b1)])) _
    refine XS.lloadN X3.here hx rfl (hb hby d1_17) rfl ?_
    show Steps p.tables e below (T3.setTop (mkF m 18 #[.val (.long q0), .second, .val (.int (4 : Int32)), .val (.ref b1), .val (.int (2 : Int32))] [(.long q0), (.int (2 : Int32)), (.ref b1)])) _
    refine XS.bipush X3.here hx rfl (hb hby d1_18) ?_
    show Steps p.tables e below (T3.setTop (mkF m 20 #[.val (.long q0), .second, .val (.int (4 : Int32)), .val (.ref b1), .val (.int (2 : Int32))] [(.int (8 : Int32)), (.long q0), (.int (2 : Int32)), (.ref b1)])) _
    refine XS.iloadN X3.here hx rfl (hb hby d1_20) rfl ?_
    show Steps p.tables e below (T3.setTop (mkF m 21 #[.val (.long q0), .second, .val (.int (4 : Int32)), .val (.ref b1), .val (.int (2 : Int32))] [(.int (4 : Int32)), (.int (8 : Int32)), (.long q0), (.int (2 : Int32)), (.ref b1)])) _
    refine XS.iconst X3.here hx rfl (hb hby d1_21) ?_
    show Steps p.tables e below (T3.setTop (mkF m 22 #[.val (.long q0), .second, .val (.int (4 : Int32)), .val (.ref b1), .val (.int (2 : Int32))] [(.int (1 : Int32)), (.int (4 : Int32)), (.int (8 : Int32)), (.long q0), (.int (2 : Int32)), (.ref b1)])) _
    refine XS.isub X3.here hx rfl (hb hby d1_22) rfl ?_
    show Steps p.tables e below (T3.setTop (mkF m 23 #[.val (.long q0), .second, .val (.int (4 : Int32)), .val (.ref b1), .val (.int (2 : Int32))] [(.int (3 : Int32)), (.int (8 : Int32)), (.long q0), (.int (2 : Int32)), (.ref b1)])) _
    refine XS.iload X3.here hx rfl (hb hby d1_23) rfl ?_
    show Steps p.tables e below (T3.setTop (mkF m 25 #[.val (.long q0), .second, .val (.int (4 : Int32)), .val (.ref b1), .val (.int (2 : Int32))] [(.int (2 : Int32)), (.int (3 : Int32)), (.int (8 : Int32)), (.long q0), (.int (2 : Int32)), (.ref b1)])) _
    refine XS.isub X3.here hx rfl (hb hby d1_25) rfl ?_
    show Steps p.tables e below (T3.setTop (mkF m 26 #[.val (.long q0), .second, .val (.int (4 : Int32)), .val (.ref b1), .val (.int (2 : Int32))] [(.int (1 : Int32)), (.int (8 : Int32)), (.long q0), (.int (2 : Int32)), (.ref b1)])) _
    refine XS.imul X3.here hx rfl (hb hby d1_26) rfl ?_
    show Steps p.tables e below (T3.setTop (mkF m 27 #[.val (.long q0), .second, .val (.int (4 : Int32)), .val (.ref b1), .val (.int (2 : Int32))] [(.int (8 : Int32)), (.long q0), (.int (2 : Int32)), (.ref b1)])) _
    refine XS.lushr X3.here hx rfl (hb hby d1_27) rfl ?_
    show Steps p.tables e below (T3.setTop (mkF m 28 #[.val (.long q0), .second, .val (.int (4 : Int32)), .val (.ref b1), .val (.int (2 : Int32))] [(.long ((q0.toUInt64 >>> ((8 : Int32) &&& 0x3f).toInt64.toUInt64).toInt64)), (.int (2 : Int32)), (.ref b1)])) _
    refine XS.l2i X3.here hx rfl (hb hby d1_28) rfl ?_
    show Steps p.tables e below (T3.setTop (mkF m 29 #[.val (.long q0), .second, .val (.int (4 : Int32)), .val (.ref b1), .val (.int (2 : Int32))] [(.int (((q0.toUInt64 >>> ((8 : Int32) &&& 0x3f).toInt64.toUInt64).toInt64).toInt32)), (.int (2 : Int32)), (.ref b1)])) _
    refine XS.i2b X3.here hx rfl (hb hby d1_29) rfl ?_
    show Steps p.tables e below (T3.setTop (mkF m 30 #[.val (.long q0), .second, .val (.int (4 : Int32)), .val (.ref b1), .val (.int (2 : Int32))] [(.int ((((q0.toUInt64 >>> ((8 : Int32) &&& 0x3f).toInt64.toUInt64).toInt64).toInt32).toInt8.toInt32)), (.int (2 : Int32)), (.ref b1)])) _
    refine st5 _ ?_
    show Steps p.tables e below (T5.setTop (mkF m 31 #[.val (.long q0), .second, .val (.int (4 : Int32)), .val (.ref b1), .val (.int (2 : Int32))] [])) _
    refine XS.iinc X5.here hx rfl (hb hby d1_31) rfl (l' := #[.val (.long q0), .second, .val (.int (4 : Int32)), .val (.ref b1), .val (.int (1 : Int32))]) rfl ?_
    show Steps p.tables e below (T5.setTop (mkF m 34 #[.val (.long q0), .second, .val (.int (4 : Int32)), .val (.ref b1), .val (.int (1 : Int32))] [])) _
    refine XS.goto X5.here hx rfl (pc0 := 34) (pc' := 9) rfl (hb hby d1_34) (by decide) (by decide) ?_
    show Steps p.tables e below (T5.setTop (mkF m 9 #[.val (.long q0), .second, .val (.int (4 : Int32)), .val (.ref b1), .val (.int (1 : Int32))] [])) _
    refine XS.iload X5.here hx rfl (hb hby d1_9) rfl ?_
    show Steps p.tables e below (T5.setTop (mkF m 11 #[.val (.long q0), .second, .val (.int (4 : Int32)), .val (.ref b1), .val (.int (1 : Int32))] [(.int (1 : Int32))])) _
    refine XS.ifNo X5.here hx rfl (hb hby d1_11) rfl ((if0 _ _).trans (flt (by decide : ¬ ((1 : Int32) < (0 : Int32)))).1) ?_
    show Steps p.tables e below (T5.setTop (mkF m 14 #[.val (.long q0), .second, .val (.int (4 : Int32)), .val (.ref b1), .val (.int (1 : Int32))] [])) _
    refine XS.aloadN X5.here hx rfl (hb hby d1_14) rfl rfl ?_
    show Steps p.tables e below (T5.setTop (mkF m 15 #[.val (.long q0), .second, .val (.int (4 : Int32)), .val (.ref b1), .val (.int (1 : Int32))] [(.ref b1)])) _
    refine XS.iload X5.here hx rfl (hb hby d1_15) rfl ?_
    show Steps p.tables e below (T5.setTop (mkF m 17 #[.val (.long q0), .second, .val (.int (4 : Int32)), .val (.ref b1), .val (.int (1 : Int32))] [(.int (1 : Int32)), (.ref b1)])) _
    refine XS.lloadN X5.here hx rfl (hb hby d1_17) rfl ?_
    show Steps p.tables e below (T5.setTop (mkF m 18 #[.val (.long q0), .second, .val (.int (4 : Int32)), .val (.ref b1), .val (.int (1 : Int32))] [(.long q0), (.int (1 : Int32)), (.ref b1)])) _
    refine XS.bipush X5.here hx rfl (hb hby d1_18) ?_
    show Steps p.tables e below (T5.setTop (mkF m 20 #[.val (.long q0), .second, .val (.int (4 : Int32)), .val (.ref b1), .val (.int (1 : Int32))] [(.int (8 : Int32)), (.long q0), (.int (1 : Int32)), (.ref b1)])) _
    refine XS.iloadN X5.here hx rfl (hb hby d1_20) rfl ?_
    show Steps p.tables e below (T5.setTop (mkF m 21 #[.val (.long q0), .second, .val (.int (4 : Int32)), .val (.ref b1), .val (.int (1 : Int32))] [(.int (4 : Int32)), (.int (8 : Int32)), (.long q0), (.int (1 : Int32)), (.ref b1)])) _
    refine XS.iconst X5.here hx rfl (hb hby d1_21) ?_
    show Steps p.tables e below (T5.setTop (mkF m 22 #[.val (.long q0), .second, .val (.int (4 : Int32)), .val (.ref b1), .val (.int (1 : Int32))] [(.int (1 : Int32)), (.int (4 : Int32)), (.int (8 : Int32)), (.long q0), (.int (1 : Int32)), (.ref b1)])) _
    refine XS.isub X5.here hx rfl (hb hby d1_22) rfl ?_
    show Steps p.tables e below (T5.setTop (mkF m 23 #[.val (.long q0), .second, .val (.int (4 : Int32)), .val (.ref b1), .val (.int (1 : Int32))] [(.int (3 : Int32)), (.int (8 : Int32)), (.long q0), (.int (1 : Int32)), (.ref b1)])) _
    refine XS.iload X5.here hx rfl (hb hby d1_23) rfl ?_
    show Steps p.tables e below (T5.setTop (mkF m 25 #[.val (.long q0), .second, .val (.int (4 : Int32)), .val (.ref b1), .val (.int (1 : Int32))] [(.int (1 : Int32)), (.int (3 : Int32)), (.int (8 : Int32)), (.long q0), (.int (1 : Int32)), (.ref b1)])) _
    refine XS.isub X5.here hx rfl (hb hby d1_25) rfl ?_
    show Steps p.tables e below (T5.setTop (mkF m 26 #[.val (.long q0), .second, .val (.int (4 : Int32)), .val (.ref b1), .val (.int (1 : Int32))] [(.int (2 : Int32)), (.int (8 : Int32)), (.long q0), (.int (1 : Int32)), (.ref b1)])) _
    refine XS.imul X5.here hx rfl (hb hby d1_26) rfl ?_
    show Steps p.tables e below (T5.setTop (mkF m 27 #[.val (.long q0), .second, .val (.int (4 : Int32)), .val (.ref b1), .val (.int (1 : Int32))] [(.int (16 : Int32)), (.long q0), (.int (1 : Int32)), (.ref b1)])) _
    refine XS.lushr X5.here hx rfl (hb hby d1_27) rfl ?_
    show Steps p.tables e below (T5.setTop (mkF m 28 #[.val (.long q0), .second, .val (.int (4 : Int32)), .val (.ref b1), .val (.int (1 : Int32))] [(.long ((q0.toUInt64 >>> ((16 : Int32) &&& 0x3f).toInt64.toUInt64).toInt64)), (.int (1 : Int32)), (.ref b1)])) _
    refine XS.l2i X5.here hx rfl (hb hby d1_28) rfl ?_
    show Steps p.tables e below (T5.setTop (mkF m 29 #[.val (.long q0), .second, .val (.int (4 : Int32)), .val (.ref b1), .val (.int (1 : Int32))] [(.int (((q0.toUInt64 >>> ((16 : Int32) &&& 0x3f).toInt64.toUInt64).toInt64).toInt32)), (.int (1 : Int32)), (.ref b1)])) _
    refine XS.i2b X5.here hx rfl (hb hby d1_29) rfl ?_
    show Steps p.tables e below (T5.setTop (mkF m 30 #[.val (.long q0), .second, .val (.int (4 : Int32)), .val (.ref b1), .val (.int (1 : Int32))] [(.int ((((q0.toUInt64 >>> ((16 : Int32) &&& 0x3f).toInt64.toUInt64).toInt64).toInt32).toInt8.toInt32)), (.int (1 : Int32)), (.ref b1)])) _
    refine st7 _ ?_
    show Steps p.tables e below (T7.setTop (mkF m 31 #[.val (.long q0), .second, .val (.int (4 : Int32)), .val (.ref b1), .val (.int (1 : Int32))] [])) _
    refine XS.iinc X7.here hx rfl (hb hby d1_31) rfl (l' := #[.val (.long q0), .second, .val (.int (4 : Int32)), .val (.ref b1), .val (.int (0 : Int32))]) rfl ?_
    show Steps p.tables e below (T7.setTop (mkF m 34 #[.val (.long q0), .second, .val (.int (4 : Int32)), .val (.ref b1), .val (.int (0 : Int32))] [])) _
    refine XS.goto X7.here hx rfl (pc0 := 34) (pc' := 9) rfl (hb hby d1_34) (by decide) (by decide) ?_
    show Steps p.tables e below (T7.setTop (mkF m 9 #[.val (.long q0), .second, .val (.int (4 : Int32)), .val (.ref b1), .val (.int (0 : Int32))] [])) _
    refine XS.iload X7.here hx rfl (hb hby d1_9) rfl ?_
    show Steps p.tables e below (T7.setTop (mkF m 11 #[.val (.long q0), .second, .val (.int (4 : Int32)), .val (.ref b1), .val (.int (0 : Int32))] [(.int (0 : Int32))])) _
    refine XS.ifNo X7.here hx rfl (hb hby d1_11) rfl ((if0 _ _).trans (flt (by decide : ¬ ((0 : Int32) < (0 : Int32)))).1) ?_
    show Steps p.tables e below (T7.setTop (mkF m 14 #[.val (.long q0), .second, .val (.int (4 : Int32)), .val (.ref b1), .val (.int (0 : Int32))] [])) _
    refine XS.aloadN X7.here hx rfl (hb hby d1_14) rfl rfl ?_
    show Steps p.tables e below (T7.setTop (mkF m 15 #[.val (.long q0), .second, .val (.int (4 : Int32)), .val (.ref b1), .val (.int (0 : Int32))] [(.ref b1)])) _
    refine XS.iload X7.here hx rfl (hb hby d1_15) rfl ?_
    show Steps p.tables e below (T7.setTop (mkF m 17 #[.val (.long q0), .second, .val (.int (4 : Int32)), .val (.ref b1), .val (.int (0 : Int32))] [(.int (0 : Int32)), (.ref b1)])) _
    refine XS.lloadN X7.here hx rfl (hb hby d1_17) rfl ?_
    show Steps p.tables e below (T7.setTop (mkF m 18 #[.val (.long q0), .second, .val (.int (4 : Int32)), .val (.ref b1), .val (.int (0 : Int32))] [(.long q0), (.int (0 : Int32)), (.ref b1)])) _
    refine XS.bipush X7.here hx rfl (hb hby d1_18) ?_
    show Steps p.tables e below (T7.setTop (mkF m 20 #[.val (.long q0), .second, .val (.int (4 : Int32)), .val (.ref b1), .val (.int (0 : Int32))] [(.int (8 : Int32)), (.long q0), (.int (0 : Int32)), (.ref b1)])) _
    refine XS.iloadN X7.here hx rfl (hb hby d1_20) rfl ?_
    show Steps p.tables e below (T7.setTop (mkF m 21 #[.val (.long q0), .second, .val (.int (4 : Int32)), .val (.ref b1), .val (.int (0 : Int32))] [(.int (4 : Int32)), (.int (8 : Int32)), (.long q0), (.int (0 : Int32)), (.ref b1)])) _
    refine XS.iconst X7.here hx rfl (hb hby d1_21) ?_
    show Steps p.tables e below (T7.setTop (mkF m 22 #[.val (.long q0), .second, .val (.int (4 : Int32)), .val (.ref b1), .val (.int (0 : Int32))] [(.int (1 : Int32)), (.int (4 : Int32)), (.int (8 : Int32)), (.long q0), (.int (0 : Int32)), (.ref b1)])) _
    refine XS.isub X7.here hx rfl (hb hby d1_22) rfl ?_
    show Steps p.tables e below (T7.setTop (mkF m 23 #[.val (.long q0), .second, .val (.int (4 : Int32)), .val (.ref b1), .val (.int (0 : Int32))] [(.int (3 : Int32)), (.int (8 : Int32)), (.long q0), (.int (0 : Int32)), (.ref b1)])) _
    refine XS.iload X7.here hx rfl (hb hby d1_23) rfl ?_
    show Steps p.tables e below (T7.setTop (mkF m 25 #[.val (.long q0), .second, .val (.int (4 : Int32)), .val (.ref b1), .val (.int (0 : Int32))] [(.int (0 : Int32)), (.int (3 : Int32)), (.int (8 : Int32)), (.long q0), (.int (0 : Int32)), (.ref b1)])) _
    refine XS.isub X7.here hx rfl (hb hby d1_25) rfl ?_
    show Steps p.tables e below (T7.setTop (mkF m 26 #[.val (.long q0), .second, .val (.int (4 : Int32)), .val (.ref b1), .val (.int (0 : Int32))] [(.int (3 : Int32)), (.int (8 : Int32)), (.long q0), (.int (0 : Int32)), (.ref b1)])) _
    refine XS.imul X7.here hx rfl (hb hby d1_26) rfl ?_
    show Steps p.tables e below (T7.setTop (mkF m 27 #[.val (.long q0), .second, .val (.int (4 : Int32)), .val (.ref b1), .val (.int (0 : Int32))] [(.int (24 : Int32)), (.long q0), (.int (0 : Int32)), (.ref b1)])) _
    refine XS.lushr X7.here hx rfl (hb hby d1_27) rfl ?_
    show Steps p.tables e below (T7.setTop (mkF m 28 #[.val (.long q0), .second, .val (.int (4 : Int32)), .val (.ref b1), .val (.int (0 : Int32))] [(.long ((q0.toUInt64 >>> ((24 : Int32) &&& 0x3f).toInt64.toUInt64).toInt64)), (.int (0 : Int32)), (.ref b1)])) _
    refine XS.l2i X7.here hx rfl (hb hby d1_28) rfl ?_
    show Steps p.tables e below (T7.setTop (mkF m 29 #[.val (.long q0), .second, .val (.int (4 : Int32)), .val (.ref b1), .val (.int (0 : Int32))] [(.int (((q0.toUInt64 >>> ((24 : Int32) &&& 0x3f).toInt64.toUInt64).toInt64).toInt32)), (.int (0 : Int32)), (.ref b1)])) _
    refine XS.i2b X7.here hx rfl (hb hby d1_29) rfl ?_
    show Steps p.tables e below (T7.setTop (mkF m 30 #[.val (.long q0), .second, .val (.int (4 : Int32)), .val (.ref b1), .val (.int (0 : Int32))] [(.int ((((q0.toUInt64 >>> ((24 : Int32) &&& 0x3f).toInt64.toUInt64).toInt64).toInt32).toInt8.toInt32)), (.int (0 : Int32)), (.ref b1)])) _
    refine st9 _ ?_
    show Steps p.tables e below (T9.setTop (mkF m 31 #[.val (.long q0), .second, .val (.int (4 : Int32)), .val (.ref b1), .val (.int (0 : Int32))] [])) _
    refine XS.iinc X9.here hx rfl (hb hby d1_31) rfl (l' := #[.val (.long q0), .second, .val (.int (4 : Int32)), .val (.ref b1), .val (.int (-1 : Int32))]) rfl ?_
    show Steps p.tables e below (T9.setTop (mkF m 34 #[.val (.long q0), .second, .val (.int (4 : Int32)), .val (.ref b1), .val (.int (-1 : Int32))] [])) _
    refine XS.goto X9.here hx rfl (pc0 := 34) (pc' := 9) rfl (hb hby d1_34) (by decide) (by decide) ?_
    show Steps p.tables e below (T9.setTop (mkF m 9 #[.val (.long q0), .second, .val (.int (4 : Int32)), .val (.ref b1), .val (.int (-1 : Int32))] [])) _
    refine XS.iload X9.here hx rfl (hb hby d1_9) rfl ?_
    show Steps p.tables e below (T9.setTop (mkF m 11 #[.val (.long q0), .second, .val (.int (4 : Int32)), .val (.ref b1), .val (.int (-1 : Int32))] [(.int (-1 : Int32))])) _
    refine XS.ifYes X9.here hx rfl (pc0 := 11) (pc' := 37) rfl (hb hby d1_11) rfl ((if0 _ _).trans (tlt (by decide : (-1 : Int32) < (0 : Int32))).1) (by decide) (by decide) ?_
    show Steps p.tables e below (T9.setTop (mkF m 37 #[.val (.long q0), .second, .val (.int (4 : Int32)), .val (.ref b1), .val (.int (-1 : Int32))] [])) _
    refine XS.aloadN X9.here hx rfl (hb hby d1_37) rfl rfl ?_
    show Steps p.tables e below (T9.setTop (mkF m 38 #[.val (.long q0), .second, .val (.int (4 : Int32)), .val (.ref b1), .val (.int (-1 : Int32))] [(.ref b1)])) _
    exact retOut X9 hx Bd.returns rfl (Or.inr (Or.inr (Or.inr (Or.inr ⟨rfl, rfl, rfl⟩)))) (hb hby d1_38) hr
  · show Qb4 Z q0 h0 n0 _ T9.heap _
    rw [e9]
    exact ⟨_, _, rfl, N9, K9, V9⟩
theorem ef_rmb5 (m : MethodId) (q0 : Int64) : entryFrame m #[(.long q0), (.int (5 : Int32))] 5 = mkF m 0 #[.val (.long q0), .second, .val (.int (5 : Int32)), .unset, .unset] [] := by first | (simp [entryFrame, mkF, argsToLocals, Value.category]; done) | rfl
def Qb5 (Z : State) (q0 : Int64) (h0 : Heap) (n0 : Nat) (v : Option Value) (h : Heap) (L : List Loc) : Prop := ∃ (b : Addr) (k : ClassId), v = some (.ref b) ∧ Fr n0 L ∧ Keep h0 h [] ∧ Arv Z h b k .byte (5 : Int32) [(.int (own_byte q0 (32 : Int32))), (.int (own_byte q0 (24 : Int32))), (.int (own_byte q0 (16 : Int32))), (.int (own_byte q0 (8 : Int32))), (.int (own_byte q0 (0 : Int32)))] (.int (0 : Int32))
set_option maxRecDepth 65536 in
set_option maxHeartbeats 40000000 in
theorem rmb5 (l : Launch) (Z : State) (a0 : Array Value) (hw : ∀ d ∈ tables_1, d.before a0 Z = true) (ws : List Jvm.Cond) (q0 : Int64) (h0 : Heap) (n0 : Nat) (Z0 : n0 ≤ h0.size) :
    MetFree l (⟨"shale/ValueType", "bigEndian", "(JI)[B"⟩ : MethodName) (head1 (Jvm.Cond.code (⟨"shale/ValueType", "bigEndian", "(JI)[B"⟩ : MethodName) prog_227_method_42_code 5 (some (.array .byte)) :: ws) ({ frames := 0, cells := 1, slots := 5, locals := 0 } : Room)) (fun a U => a = #[(.long q0), (.int (5 : Int32))] ∧ Z.Warmed39 U.vm ∧ U.heap = h0) (fun _ _ _ _ _ => True) (fun _ U o U' => ∃ v L, o = .returned v ∧ Qb5 Z q0 h0 n0 v U'.heap L ∧ FrameEnd U o U' L ({ frames := 0, cells := 1, slots := 5, locals := 0 } : Room).cells ({ frames := 0, cells := 1, slots := 5, locals := 0 } : Room).slots) := by
  refine MetFree.of_bodySF (plainFor_of_name pn_0) hisR ?_
  intro p e s m args below meth c s₁ Bd hml0 hP hK
  obtain ⟨rfl, hZ, hh⟩ := hP
  have hx := Bd.exec
  have hby := Bd.bytes
  have hml : c.maxLocals = 5 := hml0
  have hown : s.vm.findClass "shale/ValueType" = some m.cls := findClass_of_methodNamed Bd.named
  have hnm := (name_of_methodNamed Bd.named Bd.method).1
  have X0 : Stand p l e ({ frames := 0, cells := 1, slots := 5, locals := 0 } : Room) s m #[(.long q0), (.int (5 : Int32))] below meth c s₁ [] 0 0 := Stand.of_body Bd
  have e0 : s₁.heap = h0 := by rw [← hh, Bd.state]; rfl
  have N0 := Fr.nil n0
  have pre0 : ∀ t, Steps p.tables e below (s₁.setTop (mkF m 0 #[.val (.long q0), .second, .val (.int (5 : Int32)), .unset, .unset] [])) t → Steps p.tables e below (s₁.setTop (entryFrame m #[(.long q0), (.int (5 : Int32))] 5)) t := fun t k => castTop (ef_rmb5 m q0) k
  obtain ⟨T1, h1, k1, X1, e1, E1, A1, st1⟩ := newP X0 hx hZ (hw _ (List.mem_of_getElem? (i := 5) rfl)) e0 (g := (mkF m 1 #[.val (.long q0), .second, .val (.int (5 : Int32)), .unset, .unset] [(.int (5 : Int32))])) rfl (hb hby d1_1) rfl (by decide) (cap := 5) (by decide) (by decide) (by decide) (by decide)
  obtain ⟨b1, g1⟩ : ∃ z, z = h0.size := ⟨_, rfl⟩
  rw [← g1] at A1 st1
  have gn1 : n0 ≤ b1 := Nat.le_trans Z0 (Nat.le_of_eq g1.symm)
  have sz1 : h0.size ≤ b1 := Nat.le_trans (Keep.refl h0 []).1 (Nat.le_of_eq g1.symm)
  have Z2 : n0 ≤ h1.size := Nat.le_trans Z0 E1.1
  have K1 : Keep h0 h1 [] := (Keep.refl h0 []).ext E1
  have V1 : Arv Z h1 b1 k1 .byte (5 : Int32) [(.int (0 : Int32)), (.int (0 : Int32)), (.int (0 : Int32)), (.int (0 : Int32)), (.int (0 : Int32))] (.int (0 : Int32)) := (Arv.new A1 (by decide)).pad (pad_rep [] (.int (0 : Int32)) 5)
  obtain ⟨cl3, Ar3, qa3, Sa3, Na3, Ha3, Ga3⟩ := V1
  have hin3 : ¬ ((4 : Int32) < 0 ∨ cl3.slots.size ≤ (4 : Int32).toNatClampNeg) := inb_of Sa3 ⟨by decide, by decide⟩
  obtain ⟨T3, h3, X3, e3, W3, st3⟩ := stB X1 hx hZ e1 Ar3 (j := (4 : Int32)) hin3 (g := (mkF m 30 #[.val (.long q0), .second, .val (.int (5 : Int32)), .val (.ref b1), .val (.int (4 : Int32))] [(.int ((((q0.toUInt64 >>> ((0 : Int32) &&& 0x3f).toInt64.toUInt64).toInt64).toInt32).toInt8.toInt32)), (.int (4 : Int32)), (.ref b1)])) rfl rfl (hb hby d1_30)
  have Z4 : n0 ≤ h3.size := Nat.le_trans Z2 (Keep.of_wr W3).1
  have V3 : Arv Z h3 b1 k1 .byte (5 : Int32) [(.int (0 : Int32)), (.int (0 : Int32)), (.int (0 : Int32)), (.int (0 : Int32)), (.int (own_byte q0 (0 : Int32)))] (.int (0 : Int32)) := Arv.set Ar3 qa3 Sa3 Na3 Ha3 Ga3 (fits_nar_byte _) W3 4 rfl (Nat.le_of_ble_eq_true rfl)
  have K3 : Keep h0 h3 [] := K1.wr W3 (Or.inr sz1)
  have N3 := Fr.snoc X3 N0 gn1
  obtain ⟨cl5, Ar5, qa5, Sa5, Na5, Ha5, Ga5⟩ := V3
  have hin5 : ¬ ((3 : Int32) < 0 ∨ cl5.slots.size ≤ (3 : Int32).toNatClampNeg) := inb_of Sa5 ⟨by decide, by decide⟩
  obtain ⟨T5, h5, X5, e5, W5, st5⟩ := stB X3 hx hZ e3 Ar5 (j := (3 : Int32)) hin5 (g := (mkF m 30 #[.val (.long q0), .second, .val (.int (5 : Int32)), .val (.ref b1), .val (.int (3 : Int32))] [(.int ((((q0.toUInt64 >>> ((8 : Int32) &&& 0x3f).toInt64.toUInt64).toInt64).toInt32).toInt8.toInt32)), (.int (3 : Int32)), (.ref b1)])) rfl rfl (hb hby d1_30)
  have Z6 : n0 ≤ h5.size := Nat.le_trans Z4 (Keep.of_wr W5).1
  have V5 : Arv Z h5 b1 k1 .byte (5 : Int32) [(.int (0 : Int32)), (.int (0 : Int32)), (.int (0 : Int32)), (.int (own_byte q0 (8 : Int32))), (.int (own_byte q0 (0 : Int32)))] (.int (0 : Int32)) := Arv.set Ar5 qa5 Sa5 Na5 Ha5 Ga5 (fits_nar_byte _) W5 3 rfl (Nat.le_of_ble_eq_true rfl)
  have K5 : Keep h0 h5 [] := K3.wr W5 (Or.inr sz1)
  have N5 := Fr.snoc X5 N3 gn1
  obtain ⟨cl7, Ar7, qa7, Sa7, Na7, Ha7, Ga7⟩ := V5
  have hin7 : ¬ ((2 : Int32) < 0 ∨ cl7.slots.size ≤ (2 : Int32).toNatClampNeg) := inb_of Sa7 ⟨by decide, by decide⟩
  obtain ⟨T7, h7, X7, e7, W7, st7⟩ := stB X5 hx hZ e5 Ar7 (j := (2 : Int32)) hin7 (g := (mkF m 30 #[.val (.long q0), .second, .val (.int (5 : Int32)), .val (.ref b1), .val (.int (2 : Int32))] [(.int ((((q0.toUInt64 >>> ((16 : Int32) &&& 0x3f).toInt64.toUInt64).toInt64).toInt32).toInt8.toInt32)), (.int (2 : Int32)), (.ref b1)])) rfl rfl (hb hby d1_30)
  have Z8 : n0 ≤ h7.size := Nat.le_trans Z6 (Keep.of_wr W7).1
  have V7 : Arv Z h7 b1 k1 .byte (5 : Int32) [(.int (0 : Int32)), (.int (0 : Int32)), (.int (own_byte q0 (16 : Int32))), (.int (own_byte q0 (8 : Int32))), (.int (own_byte q0 (0 : Int32)))] (.int (0 : Int32)) := Arv.set Ar7 qa7 Sa7 Na7 Ha7 Ga7 (fits_nar_byte _) W7 2 rfl (Nat.le_of_ble_eq_true rfl)
  have K7 : Keep h0 h7 [] := K5.wr W7 (Or.inr sz1)
  have N7 := Fr.snoc X7 N5 gn1
  obtain ⟨cl9, Ar9, qa9, Sa9, Na9, Ha9, Ga9⟩ := V7
  have hin9 : ¬ ((1 : Int32) < 0 ∨ cl9.slots.size ≤ (1 : Int32).toNatClampNeg) := inb_of Sa9 ⟨by decide, by decide⟩
  obtain ⟨T9, h9, X9, e9, W9, st9⟩ := stB X7 hx hZ e7 Ar9 (j := (1 : Int32)) hin9 (g := (mkF m 30 #[.val (.long q0), .second, .val (.int (5 : Int32)), .val (.ref b1), .val (.int (1 : Int32))] [(.int ((((q0.toUInt64 >>> ((24 : Int32) &&& 0x3f).toInt64.toUInt64).toInt64).toInt32).toInt8.toInt32)), (.int (1 : Int32)), (.ref b1)])) rfl rfl (hb hby d1_30)
  have Z10 : n0 ≤ h9.size := Nat.le_trans Z8 (Keep.of_wr W9).1
  have V9 : Arv Z h9 b1 k1 .byte (5 : Int32) [(.int (0 : Int32)), (.int (own_byte q0 (24 : Int32))), (.int (own_byte q0 (16 : Int32))), (.int (own_byte q0 (8 : Int32))), (.int (own_byte q0 (0 : Int32)))] (.int (0 : Int32)) := Arv.set Ar9 qa9 Sa9 Na9 Ha9 Ga9 (fits_nar_byte _) W9 1 rfl (Nat.le_of_ble_eq_true rfl)
  have K9 : Keep h0 h9 [] := K7.wr W9 (Or.inr sz1)
  have N9 := Fr.snoc X9 N7 gn1
  obtain ⟨cl11, Ar11, qa11, Sa11, Na11, Ha11, Ga11⟩ := V9
  have hin11 : ¬ ((0 : Int32) < 0 ∨ cl11.slots.size ≤ (0 : Int32).toNatClampNeg) := inb_of Sa11 ⟨by decide, by decide⟩
  obtain ⟨T11, h11, X11, e11, W11, st11⟩ := stB X9 hx hZ e9 Ar11 (j := (0 : Int32)) hin11 (g := (mkF m 30 #[.val (.long q0), .second, .val (.int (5 : Int32)), .val (.ref b1), .val (.int (0 : Int32))] [(.int ((((q0.toUInt64 >>> ((32 : Int32) &&& 0x3f).toInt64.toUInt64).toInt64).toInt32).toInt8.toInt32)), (.int (0 : Int32)), (.ref b1)])) rfl rfl (hb hby d1_30)
  have Z12 : n0 ≤ h11.size := Nat.le_trans Z10 (Keep.of_wr W11).1
  have V11 : Arv Z h11 b1 k1 .byte (5 : Int32) [(.int (own_byte q0 (32 : Int32))), (.int (own_byte q0 (24 : Int32))), (.int (own_byte q0 (16 : Int32))), (.int (own_byte q0 (8 : Int32))), (.int (own_byte q0 (0 : Int32)))] (.int (0 : Int32)) := Arv.set Ar11 qa11 Sa11 Na11 Ha11 Ga11 (fits_nar_byte _) W11 0 rfl (Nat.le_of_ble_eq_true rfl)
  have K11 : Keep h0 h11 [] := K9.wr W11 (Or.inr sz1)
  have N11 := Fr.snoc X11 N9 gn1
  obtain ⟨fs, hr, hrun, hended, hW, hsame⟩ := X11.leave (v := some (.ref b1)) (fun h => by rw [Bd.returns] at h; cases h)
  refine ⟨_, _, pre0 _ ?_, hrun, hended, _, _, rfl, ?_, ⟨_, rfl⟩, hW, hsame.mono (by decide) (by decide)⟩
  · show Steps p.tables e below (s₁.setTop (mkF m 0 #[.val (.long q0), .second, .val (.int (5 : Int32)), .unset, .unset] [])) _
    refine XS.iloadN X0.here hx rfl (hb hby d1_0) rfl ?_
    show Steps p.tables e below (s₁.setTop (mkF m 1 #[.val (.long q0), .second, .val (.int (5 : Int32)), .unset, .unset] [(.int (5 : Int32))])) _
    refine st1 _ ?_
    show Steps p.tables e below (T1.setTop (mkF m 3 #[.val (.long q0), .second, .val (.int (5 : Int32)), .unset, .unset] [(.ref b1)])) _
    refine XS.astoreN X1.here hx rfl (hb hby d1_3) rfl rfl (l' := #[.val (.long q0), .second, .val (.int (5 : Int32)), .val (.ref b1), .unset]) rfl ?_
    show Steps p.tables e below (T1.setTop (mkF m 4 #[.val (.long q0), .second, .val (.int (5 : Int32)), .val (.ref b1), .unset] [])) _
    refine XS.iloadN X1.here hx rfl (hb hby d1_4) rfl ?_
    show Steps p.tables e below (T1.setTop (mkF m 5 #[.val (.long q0), .second, .val (.int (5 : Int32)), .val (.ref b1), .unset] [(.int (5 : Int32))])) _
    refine XS.iconst X1.here hx rfl (hb hby d1_5) ?_
    show Steps p.tables e below (T1.setTop (mkF m 6 #[.val (.long q0), .second, .val (.int (5 : Int32)), .val (.ref b1), .unset] [(.int (1 : Int32)), (.int (5 : Int32))])) _
    refine XS.isub X1.here hx rfl (hb hby d1_6) rfl ?_
    show Steps p.tables e below (T1.setTop (mkF m 7 #[.val (.long q0), .second, .val (.int (5 : Int32)), .val (.ref b1), .unset] [(.int (4 : Int32))])) _
    refine XS.istore X1.here hx rfl (hb hby d1_7) rfl (l' := #[.val (.long q0), .second, .val (.int (5 : Int32)), .val (.ref b1), .val (.int (4 : Int32))]) rfl ?_
    show Steps p.tables e below (T1.setTop (mkF m 9 #[.val (.long q0), .second, .val (.int (5 : Int32)), .val (.ref b1), .val (.int (4 : Int32))] [])) _
    refine XS.iload X1.here hx rfl (hb hby d1_9) rfl ?_
    show Steps p.tables e below (T1.setTop (mkF m 11 #[.val (.long q0), .second, .val (.int (5 : Int32)), .val (.ref b1), .val (.int (4 : Int32))] [(.int (4 : Int32))])) _
    refine XS.ifNo X1.here hx rfl (hb hby d1_11) rfl ((if0 _ _).trans (flt (by decide : ¬ ((4 : Int32) < (0 : Int32)))).1) ?_
    show Steps p.tables e below (T1.setTop (mkF m 14 #[.val (.long q0), .second, .val (.int (5 : Int32)), .val (.ref b1), .val (.int (4 : Int32))] [])) _
    refine XS.aloadN X1.here hx rfl (hb hby d1_14) rfl rfl ?_
    show Steps p.tables e below (T1.setTop (mkF m 15 #[.val (.long q0), .second, .val (.int (5 : Int32)), .val (.ref b1), .val (.int (4 : Int32))] [(.ref b1)])) _
    refine XS.iload X1.here hx rfl (hb hby d1_15) rfl ?_
    show Steps p.tables e below (T1.setTop (mkF m 17 #[.val (.long q0), .second, .val (.int (5 : Int32)), .val (.ref b1), .val (.int (4 : Int32))] [(.int (4 : Int32)), (.ref b1)])) _
    refine XS.lloadN X1.here hx rfl (hb hby d1_17) rfl ?_
    show Steps p.tables e below (T1.setTop (mkF m 18 #[.val (.long q0), .second, .val (.int (5 : Int32)), .val (.ref b1), .val (.int (4 : Int32))] [(.long q0), (.int (4 : Int32)), (.ref b1)])) _
    refine XS.bipush X1.here hx rfl (hb hby d1_18) ?_
    show Steps p.tables e below (T1.setTop (mkF m 20 #[.val (.long q0), .second, .val (.int (5 : Int32)), .val (.ref b1), .val (.int (4 : Int32))] [(.int (8 : Int32)), (.long q0), (.int (4 : Int32)), (.ref b1)])) _
    refine XS.iloadN X1.here hx rfl (hb hby d1_20) rfl ?_
    show Steps p.tables e below (T1.setTop (mkF m 21 #[.val (.long q0), .second, .val (.int (5 : Int32)), .val (.ref b1), .val (.int (4 : Int32))] [(.int (5 : Int32)), (.int (8 : Int32)), (.long q0), (.int (4 : Int32)), (.ref b1)])) _
    refine XS.iconst X1.here hx rfl (hb hby d1_21) ?_
    show Steps p.tables e below (T1.setTop (mkF m 22 #[.val (.long q0), .second, .val (.int (5 : Int32)), .val (.ref b1), .val (.int (4 : Int32))] [(.int (1 : Int32)), (.int (5 : Int32)), (.int (8 : Int32)), (.long q0), (.int (4 : Int32)), (.ref b1)])) _
    refine XS.isub X1.here hx rfl (hb hby d1_22) rfl ?_
    show Steps p.tables e below (T1.setTop (mkF m 23 #[.val (.long q0), .second, .val (.int (5 : Int32)), .val (.ref b1), .val (.int (4 : Int32))] [(.int (4 : Int32)), (.int (8 : Int32)), (.long q0), (.int (4 : Int32)), (.ref b1)])) _
    refine XS.iload X1.here hx rfl (hb hby d1_23) rfl ?_
    show Steps p.tables e below (T1.setTop (mkF m 25 #[.val (.long q0), .second, .val (.int (5 : Int32)), .val (.ref b1), .val (.int (4 : Int32))] [(.int (4 : Int32)), (.int (4 : Int32)), (.int (8 : Int32)), (.long q0), (.int (4 : Int32)), (.ref b1)])) _
    refine XS.isub X1.here hx rfl (hb hby d1_25) rfl ?_
    show Steps p.tables e below (T1.setTop (mkF m 26 #[.val (.long q0), .second, .val (.int (5 : Int32)), .val (.ref b1), .val (.int (4 : Int32))] [(.int (0 : Int32)), (.int (8 : Int32)), (.long q0), (.int (4 : Int32)), (.ref b1)])) _
    refine XS.imul X1.here hx rfl (hb hby d1_26) rfl ?_
    show Steps p.tables e below (T1.setTop (mkF m 27 #[.val (.long q0), .second, .val (.int (5 : Int32)), .val (.ref b1), .val (.int (4 : Int32))] [(.int (0 : Int32)), (.long q0), (.int (4 : Int32)), (.ref b1)])) _
    refine XS.lushr X1.here hx rfl (hb hby d1_27) rfl ?_
    show Steps p.tables e below (T1.setTop (mkF m 28 #[.val (.long q0), .second, .val (.int (5 : Int32)), .val (.ref b1), .val (.int (4 : Int32))] [(.long ((q0.toUInt64 >>> ((0 : Int32) &&& 0x3f).toInt64.toUInt64).toInt64)), (.int (4 : Int32)), (.ref b1)])) _
    refine XS.l2i X1.here hx rfl (hb hby d1_28) rfl ?_
    show Steps p.tables e below (T1.setTop (mkF m 29 #[.val (.long q0), .second, .val (.int (5 : Int32)), .val (.ref b1), .val (.int (4 : Int32))] [(.int (((q0.toUInt64 >>> ((0 : Int32) &&& 0x3f).toInt64.toUInt64).toInt64).toInt32)), (.int (4 : Int32)), (.ref b1)])) _
    refine XS.i2b X1.here hx rfl (hb hby d1_29) rfl ?_
    show Steps p.tables e below (T1.setTop (mkF m 30 #[.val (.long q0), .second, .val (.int (5 : Int32)), .val (.ref b1), .val (.int (4 : Int32))] [(.int ((((q0.toUInt64 >>> ((0 : Int32) &&& 0x3f).toInt64.toUInt64).toInt64).toInt32).toInt8.toInt32)), (.int (4 : Int32)), (.ref b1)])) _
    refine st3 _ ?_
    show Steps p.tables e below (T3.setTop (mkF m 31 #[.val (.long q0), .second, .val (.int (5 : Int32)), .val (.ref b1), .val (.int (4 : Int32))] [])) _
    refine XS.iinc X3.here hx rfl (hb hby d1_31) rfl (l' := #[.val (.long q0), .second, .val (.int (5 : Int32)), .val (.ref b1), .val (.int (3 : Int32))]) rfl ?_
    show Steps p.tables e below (T3.setTop (mkF m 34 #[.val (.long q0), .second, .val (.int (5 : Int32)), .val (.ref b1), .val (.int (3 : Int32))] [])) _
    refine XS.goto X3.here hx rfl (pc0 := 34) (pc' := 9) rfl (hb hby d1_34) (by decide) (by decide) ?_
    show Steps p.tables e below (T3.setTop (mkF m 9 #[.val (.long q0), .second, .val (.int (5 : Int32)), .val (.ref b1), .val (.int (3 : Int32))] [])) _
    refine XS.iload X3.here hx rfl (hb hby d1_9) rfl ?_
    show Steps p.tables e below (T3.setTop (mkF m 11 #[.val (.long q0), .second, .val (.int (5 : Int32)), .val (.ref b1), .val (.int (3 : Int32))] [(.int (3 : Int32))])) _
    refine XS.ifNo X3.here hx rfl (hb hby d1_11) rfl ((if0 _ _).trans (flt (by decide : ¬ ((3 : Int32) < (0 : Int32)))).1) ?_
    show Steps p.tables e below (T3.setTop (mkF m 14 #[.val (.long q0), .second, .val (.int (5 : Int32)), .val (.ref b1), .val (.int (3 : Int32))] [])) _
    refine XS.aloadN X3.here hx rfl (hb hby d1_14) rfl rfl ?_
    show Steps p.tables e below (T3.setTop (mkF m 15 #[.val (.long q0), .second, .val (.int (5 : Int32)), .val (.ref b1), .val (.int (3 : Int32))] [(.ref b1)])) _
    refine XS.iload X3.here hx rfl (hb hby d1_15) rfl ?_
    show Steps p.tables e below (T3.setTop (mkF m 17 #[.val (.long q0), .second, .val (.int (5 : Int32)), .val (.ref b1), .val (.int (3 : Int32))] [(.int (3 : Int32)), (.ref b1)])) _
    refine XS.lloadN X3.here hx rfl (hb hby d1_17) rfl ?_
    show Steps p.tables e below (T3.setTop (mkF m 18 #[.val (.long q0), .second, .val (.int (5 : Int32)), .val (.ref b1), .val (.int (3 : Int32))] [(.long q0), (.int (3 : Int32)), (.ref b1)])) _
    refine XS.bipush X3.here hx rfl (hb hby d1_18) ?_
    show Steps p.tables e below (T3.setTop (mkF m 20 #[.val (.long q0), .second, .val (.int (5 : Int32)), .val (.ref b1), .val (.int (3 : Int32))] [(.int (8 : Int32)), (.long q0), (.int (3 : Int32)), (.ref b1)])) _
    refine XS.iloadN X3.here hx rfl (hb hby d1_20) rfl ?_
    show Steps p.tables e below (T3.setTop (mkF m 21 #[.val (.long q0), .second, .val (.int (5 : Int32)), .val (.ref b1), .val (.int (3 : Int32))] [(.int (5 : Int32)), (.int (8 : Int32)), (.long q0), (.int (3 : Int32)), (.ref b1)])) _
    refine XS.iconst X3.here hx rfl (hb hby d1_21) ?_
    show Steps p.tables e below (T3.setTop (mkF m 22 #[.val (.long q0), .second, .val (.int (5 : Int32)), .val (.ref b1), .val (.int (3 : Int32))] [(.int (1 : Int32)), (.int (5 : Int32)), (.int (8 : Int32)), (.long q0), (.int (3 : Int32)), (.ref b1)])) _
    refine XS.isub X3.here hx rfl (hb hby d1_22) rfl ?_
    show Steps p.tables e below (T3.setTop (mkF m 23 #[.val (.long q0), .second, .val (.int (5 : Int32)), .val (.ref b1), .val (.int (3 : Int32))] [(.int (4 : Int32)), (.int (8 : Int32)), (.long q0), (.int (3 : Int32)), (.ref b1)])) _
    refine XS.iload X3.here hx rfl (hb hby d1_23) rfl ?_
    show Steps p.tables e below (T3.setTop (mkF m 25 #[.val (.long q0), .second, .val (.int (5 : Int32)), .val (.ref b1), .val (.int (3 : Int32))] [(.int (3 : Int32)), (.int (4 : Int32)), (.int (8 : Int32)), (.long q0), (.int (3 : Int32)), (.ref b1)])) _
    refine XS.isub X3.here hx rfl (hb hby d1_25) rfl ?_
    show Steps p.tables e below (T3.setTop (mkF m 26 #[.val (.long q0), .second, .val (.int (5 : Int32)), .val (.ref b1), .val (.int (3 : Int32))] [(.int (1 : Int32)), (.int (8 : Int32)), (.long q0), (.int (3 : Int32)), (.ref b1)])) _
    refine XS.imul X3.here hx rfl (hb hby d1_26) rfl ?_
    show Steps p.tables e below (T3.setTop (mkF m 27 #[.val (.long q0), .second, .val (.int (5 : Int32)), .val (.ref b1), .val (.int (3 : Int32))] [(.int (8 : Int32)), (.long q0), (.int (3 : Int32)), (.ref b1)])) _
    refine XS.lushr X3.here hx rfl (hb hby d1_27) rfl ?_
    show Steps p.tables e below (T3.setTop (mkF m 28 #[.val (.long q0), .second, .val (.int (5 : Int32)), .val (.ref b1), .val (.int (3 : Int32))] [(.long ((q0.toUInt64 >>> ((8 : Int32) &&& 0x3f).toInt64.toUInt64).toInt64)), (.int (3 : Int32)), (.ref b1)])) _
    refine XS.l2i X3.here hx rfl (hb hby d1_28) rfl ?_
    show Steps p.tables e below (T3.setTop (mkF m 29 #[.val (.long q0), .second, .val (.int (5 : Int32)), .val (.ref b1), .val (.int (3 : Int32))] [(.int (((q0.toUInt64 >>> ((8 : Int32) &&& 0x3f).toInt64.toUInt64).toInt64).toInt32)), (.int (3 : Int32)), (.ref b1)])) _
    refine XS.i2b X3.here hx rfl (hb hby d1_29) rfl ?_
    show Steps p.tables e below (T3.setTop (mkF m 30 #[.val (.long q0), .second, .val (.int (5 : Int32)), .val (.ref b1), .val (.int (3 : Int32))] [(.int ((((q0.toUInt64 >>> ((8 : Int32) &&& 0x3f).toInt64.toUInt64).toInt64).toInt32).toInt8.toInt32)), (.int (3 : Int32)), (.ref b1)])) _
    refine st5 _ ?_
    show Steps p.tables e below (T5.setTop (mkF m 31 #[.val (.long q0), .second, .val (.int (5 : Int32)), .val (.ref b1), .val (.int (3 : Int32))] [])) _
    refine XS.iinc X5.here hx rfl (hb hby d1_31) rfl (l' := #[.val (.long q0), .second, .val (.int (5 : Int32)), .val (.ref b1), .val (.int (2 : Int32))]) rfl ?_
    show Steps p.tables e below (T5.setTop (mkF m 34 #[.val (.long q0), .second, .val (.int (5 : Int32)), .val (.ref b1), .val (.int (2 : Int32))] [])) _
    refine XS.goto X5.here hx rfl (pc0 := 34) (pc' := 9) rfl (hb hby d1_34) (by decide) (by decide) ?_
    show Steps p.tables e below (T5.setTop (mkF m 9 #[.val (.long q0), .second, .val (.int (5 : Int32)), .val (.ref b1), .val (.int (2 : Int32))] [])) _
    refine XS.iload X5.here hx rfl (hb hby d1_9) rfl ?_
    show Steps p.tables e below (T5.setTop (mkF m 11 #[.val (.long q0), .second, .val (.int (5 : Int32)), .val (.ref b1), .val (.int (2 : Int32))] [(.int (2 : Int32))])) _
    refine XS.ifNo X5.here hx rfl (hb hby d1_11) rfl ((if0 _ _).trans (flt (by decide : ¬ ((2 : Int32) < (0 : Int32)))).1) ?_
    show Steps p.tables e below (T5.setTop (mkF m 14 #[.val (.long q0), .second, .val (.int (5 : Int32)), .val (.ref b1), .val (.int (2 : Int32))] [])) _
    refine XS.aloadN X5.here hx rfl (hb hby d1_14) rfl rfl ?_
    show Steps p.tables e below (T5.setTop (mkF m 15 #[.val (.long q0), .second, .val (.int (5 : Int32)), .val (.ref b1), .val (.int (2 : Int32))] [(.ref b1)])) _
    refine XS.iload X5.here hx rfl (hb hby d1_15) rfl ?_
    show Steps p.tables e below (T5.setTop (mkF m 17 #[.val (.long q0), .second, .val (.int (5 : Int32)), .val (.ref b1), .val (.int (2 : Int32))] [(.int (2 : Int32)), (.ref b1)])) _
    refine XS.lloadN X5.here hx rfl (hb hby d1_17) rfl ?_
    show Steps p.tables e below (T5.setTop (mkF m 18 #[.val (.long q0), .second, .val (.int (5 : Int32)), .val (.ref b1), .val (.int (2 : Int32))] [(.long q0), (.int (2 : Int32)), (.ref b1)])) _
    refine XS.bipush X5.here hx rfl (hb hby d1_18) ?_
    show Steps p.tables e below (T5.setTop (mkF m 20 #[.val (.long q0), .second, .val (.int (5 : Int32)), .val (.ref b1), .val (.int (2 : Int32))] [(.int (8 : Int32)), (.long q0), (.int (2 : Int32)), (.ref b1)])) _
    refine XS.iloadN X5.here hx rfl (hb hby d1_20) rfl ?_
    show Steps p.tables e below (T5.setTop (mkF m 21 #[.val (.long q0), .second, .val (.int (5 : Int32)), .val (.ref b1), .val (.int (2 : Int32))] [(.int (5 : Int32)), (.int (8 : Int32)), (.long q0), (.int (2 : Int32)), (.ref b1)])) _
    refine XS.iconst X5.here hx rfl (hb hby d1_21) ?_
    show Steps p.tables e below (T5.setTop (mkF m 22 #[.val (.long q0), .second, .val (.int (5 : Int32)), .val (.ref b1), .val (.int (2 : Int32))] [(.int (1 : Int32)), (.int (5 : Int32)), (.int (8 : Int32)), (.long q0), (.int (2 : Int32)), (.ref b1)])) _
    refine XS.isub X5.here hx rfl (hb hby d1_22) rfl ?_
    show Steps p.tables e below (T5.setTop (mkF m 23 #[.val (.long q0), .second, .val (.int (5 : Int32)), .val (.ref b1), .val (.int (2 : Int32))] [(.int (4 : Int32)), (.int (8 : Int32)), (.long q0), (.int (2 : Int32)), (.ref b1)])) _
    refine XS.iload X5.here hx rfl (hb hby d1_23) rfl ?_
    show Steps p.tables e below (T5.setTop (mkF m 25 #[.val (.long q0), .second, .val (.int (5 : Int32)), .val (.ref b1), .val (.int (2 : Int32))] [(.int (2 : Int32)), (.int (4 : Int32)), (.int (8 : Int32)), (.long q0), (.int (2 : Int32)), (.ref b1)])) _
    refine XS.isub X5.here hx rfl (hb hby d1_25) rfl ?_
    show Steps p.tables e below (T5.setTop (mkF m 26 #[.val (.long q0), .second, .val (.int (5 : Int32)), .val (.ref b1), .val (.int (2 : Int32))] [(.int (2 : Int32)), (.int (8 : Int32)), (.long q0), (.int (2 : Int32)), (.ref b1)])) _
    refine XS.imul X5.here hx rfl (hb hby d1_26) rfl ?_
    show Steps p.tables e below (T5.setTop (mkF m 27 #[.val (.long q0), .second, .val (.int (5 : Int32)), .val (.ref b1), .val (.int (2 : Int32))] [(.int (16 : Int32)), (.long q0), (.int (2 : Int32)), (.ref b1)])) _
    refine XS.lushr X5.here hx rfl (hb hby d1_27) rfl ?_
    show Steps p.tables e below (T5.setTop (mkF m 28 #[.val (.long q0), .second, .val (.int (5 : Int32)), .val (.ref b1), .val (.int (2 : Int32))] [(.long ((q0.toUInt64 >>> ((16 : Int32) &&& 0x3f).toInt64.toUInt64).toInt64)), (.int (2 : Int32)), (.ref b1)])) _
    refine XS.l2i X5.here hx rfl (hb hby d1_28) rfl ?_
    show Steps p.tables e below (T5.setTop (mkF m 29 #[.val (.long q0), .second, .val (.int (5 : Int32)), .val (.ref b1), .val (.int (2 : Int32))] [(.int (((q0.toUInt64 >>> ((16 : Int32) &&& 0x3f).toInt64.toUInt64).toInt64).toInt32)), (.int (2 : Int32)), (.ref b1)])) _
    refine XS.i2b X5.here hx rfl (hb hby d1_29) rfl ?_
    show Steps p.tables e below (T5.setTop (mkF m 30 #[.val (.long q0), .second, .val (.int (5 : Int32)), .val (.ref b1), .val (.int (2 : Int32))] [(.int ((((q0.toUInt64 >>> ((16 : Int32) &&& 0x3f).toInt64.toUInt64).toInt64).toInt32).toInt8.toInt32)), (.int (2 : Int32)), (.ref b1)])) _
    refine st7 _ ?_
    show Steps p.tables e below (T7.setTop (mkF m 31 #[.val (.long q0), .second, .val (.int (5 : Int32)), .val (.ref b1), .val (.int (2 : Int32))] [])) _
    refine XS.iinc X7.here hx rfl (hb hby d1_31) rfl (l' := #[.val (.long q0), .second, .val (.int (5 : Int32)), .val (.ref b1), .val (.int (1 : Int32))]) rfl ?_
    show Steps p.tables e below (T7.setTop (mkF m 34 #[.val (.long q0), .second, .val (.int (5 : Int32)), .val (.ref b1), .val (.int (1 : Int32))] [])) _
    refine XS.goto X7.here hx rfl (pc0 := 34) (pc' := 9) rfl (hb hby d1_34) (by decide) (by decide) ?_
    show Steps p.tables e below (T7.setTop (mkF m 9 #[.val (.long q0), .second, .val (.int (5 : Int32)), .val (.ref b1), .val (.int (1 : Int32))] [])) _
    refine XS.iload X7.here hx rfl (hb hby d1_9) rfl ?_
    show Steps p.tables e below (T7.setTop (mkF m 11 #[.val (.long q0), .second, .val (.int (5 : Int32)), .val (.ref b1), .val (.int (1 : Int32))] [(.int (1 : Int32))])) _
    refine XS.ifNo X7.here hx rfl (hb hby d1_11) rfl ((if0 _ _).trans (flt (by decide : ¬ ((1 : Int32) < (0 : Int32)))).1) ?_
    show Steps p.tables e below (T7.setTop (mkF m 14 #[.val (.long q0), .second, .val (.int (5 : Int32)), .val (.ref b1), .val (.int (1 : Int32))] [])) _
    refine XS.aloadN X7.here hx rfl (hb hby d1_14) rfl rfl ?_
    show Steps p.tables e below (T7.setTop (mkF m 15 #[.val (.long q0), .second, .val (.int (5 : Int32)), .val (.ref b1), .val (.int (1 : Int32))] [(.ref b1)])) _
    refine XS.iload X7.here hx rfl (hb hby d1_15) rfl ?_
    show Steps p.tables e below (T7.setTop (mkF m 17 #[.val (.long q0), .second, .val (.int (5 : Int32)), .val (.ref b1), .val (.int (1 : Int32))] [(.int (1 : Int32)), (.ref b1)])) _
    refine XS.lloadN X7.here hx rfl (hb hby d1_17) rfl ?_
    show Steps p.tables e below (T7.setTop (mkF m 18 #[.val (.long q0), .second, .val (.int (5 : Int32)), .val (.ref b1), .val (.int (1 : Int32))] [(.long q0), (.int (1 : Int32)), (.ref b1)])) _
    refine XS.bipush X7.here hx rfl (hb hby d1_18) ?_
    show Steps p.tables e below (T7.setTop (mkF m 20 #[.val (.long q0), .second, .val (.int (5 : Int32)), .val (.ref b1), .val (.int (1 : Int32))] [(.int (8 : Int32)), (.long q0), (.int (1 : Int32)), (.ref b1)])) _
    refine XS.iloadN X7.here hx rfl (hb hby d1_20) rfl ?_
    show Steps p.tables e below (T7.setTop (mkF m 21 #[.val (.long q0), .second, .val (.int (5 : Int32)), .val (.ref b1), .val (.int (1 : Int32))] [(.int (5 : Int32)), (.int (8 : Int32)), (.long q0), (.int (1 : Int32)), (.ref b1)])) _
    refine XS.iconst X7.here hx rfl (hb hby d1_21) ?_
    show Steps p.tables e below (T7.setTop (mkF m 22 #[.val (.long q0), .second, .val (.int (5 : Int32)), .val (.ref b1), .val (.int (1 : Int32))] [(.int (1 : Int32)), (.int (5 : Int32)), (.int (8 : Int32)), (.long q0), (.int (1 : Int32)), (.ref b1)])) _
    refine XS.isub X7.here hx rfl (hb hby d1_22) rfl ?_
    show Steps p.tables e below (T7.setTop (mkF m 23 #[.val (.long q0), .second, .val (.int (5 : Int32)), .val (.ref b1), .val (.int (1 : Int32))] [(.int (4 : Int32)), (.int (8 : Int32)), (.long q0), (.int (1 : Int32)), (.ref b1)])) _
    refine XS.iload X7.here hx rfl (hb hby d1_23) rfl ?_
    show Steps p.tables e below (T7.setTop (mkF m 25 #[.val (.long q0), .second, .val (.int (5 : Int32)), .val (.ref b1), .val (.int (1 : Int32))] [(.int (1 : Int32)), (.int (4 : Int32)), (.int (8 : Int32)), (.long q0), (.int (1 : Int32)), (.ref b1)])) _
    refine XS.isub X7.here hx rfl (hb hby d1_25) rfl ?_
    show Steps p.tables e below (T7.setTop (mkF m 26 #[.val (.long q0), .second, .val (.int (5 : Int32)), .val (.ref b1), .val (.int (1 : Int32))] [(.int (3 : Int32)), (.int (8 : Int32)), (.long q0), (.int (1 : Int32)), (.ref b1)])) _
    refine XS.imul X7.here hx rfl (hb hby d1_26) rfl ?_
    show Steps p.tables e below (T7.setTop (mkF m 27 #[.val (.long q0), .second, .val (.int (5 : Int32)), .val (.ref b1), .val (.int (1 : Int32))] [(.int (24 : Int32)), (.long q0), (.int (1 : Int32)), (.ref b1)])) _
    refine XS.lushr X7.here hx rfl (hb hby d1_27) rfl ?_
    show Steps p.tables e below (T7.setTop (mkF m 28 #[.val (.long q0), .second, .val (.int (5 : Int32)), .val (.ref b1), .val (.int (1 : Int32))] [(.long ((q0.toUInt64 >>> ((24 : Int32) &&& 0x3f).toInt64.toUInt64).toInt64)), (.int (1 : Int32)), (.ref b1)])) _
    refine XS.l2i X7.here hx rfl (hb hby d1_28) rfl ?_
    show Steps p.tables e below (T7.setTop (mkF m 29 #[.val (.long q0), .second, .val (.int (5 : Int32)), .val (.ref b1), .val (.int (1 : Int32))] [(.int (((q0.toUInt64 >>> ((24 : Int32) &&& 0x3f).toInt64.toUInt64).toInt64).toInt32)), (.int (1 : Int32)), (.ref b1)])) _
    refine XS.i2b X7.here hx rfl (hb hby d1_29) rfl ?_
    show Steps p.tables e below (T7.setTop (mkF m 30 #[.val (.long q0), .second, .val (.int (5 : Int32)), .val (.ref b1), .val (.int (1 : Int32))] [(.int ((((q0.toUInt64 >>> ((24 : Int32) &&& 0x3f).toInt64.toUInt64).toInt64).toInt32).toInt8.toInt32)), (.int (1 : Int32)), (.ref b1)])) _
    refine st9 _ ?_
    show Steps p.tables e below (T9.setTop (mkF m 31 #[.val (.long q0), .second, .val (.int (5 : Int32)), .val (.ref b1), .val (.int (1 : Int32))] [])) _
    refine XS.iinc X9.here hx rfl (hb hby d1_31) rfl (l' := #[.val (.long q0), .second, .val (.int (5 : Int32)), .val (.ref b1), .val (.int (0 : Int32))]) rfl ?_
    show Steps p.tables e below (T9.setTop (mkF m 34 #[.val (.long q0), .second, .val (.int (5 : Int32)), .val (.ref b1), .val (.int (0 : Int32))] [])) _
    refine XS.goto X9.here hx rfl (pc0 := 34) (pc' := 9) rfl (hb hby d1_34) (by decide) (by decide) ?_
    show Steps p.tables e below (T9.setTop (mkF m 9 #[.val (.long q0), .second, .val (.int (5 : Int32)), .val (.ref b1), .val (.int (0 : Int32))] [])) _
    refine XS.iload X9.here hx rfl (hb hby d1_9) rfl ?_
    show Steps p.tables e below (T9.setTop (mkF m 11 #[.val (.long q0), .second, .val (.int (5 : Int32)), .val (.ref b1), .val (.int (0 : Int32))] [(.int (0 : Int32))])) _
    refine XS.ifNo X9.here hx rfl (hb hby d1_11) rfl ((if0 _ _).trans (flt (by decide : ¬ ((0 : Int32) < (0 : Int32)))).1) ?_
    show Steps p.tables e below (T9.setTop (mkF m 14 #[.val (.long q0), .second, .val (.int (5 : Int32)), .val (.ref b1), .val (.int (0 : Int32))] [])) _
    refine XS.aloadN X9.here hx rfl (hb hby d1_14) rfl rfl ?_
    show Steps p.tables e below (T9.setTop (mkF m 15 #[.val (.long q0), .second, .val (.int (5 : Int32)), .val (.ref b1), .val (.int (0 : Int32))] [(.ref b1)])) _
    refine XS.iload X9.here hx rfl (hb hby d1_15) rfl ?_
    show Steps p.tables e below (T9.setTop (mkF m 17 #[.val (.long q0), .second, .val (.int (5 : Int32)), .val (.ref b1), .val (.int (0 : Int32))] [(.int (0 : Int32)), (.ref b1)])) _
    refine XS.lloadN X9.here hx rfl (hb hby d1_17) rfl ?_
    show Steps p.tables e below (T9.setTop (mkF m 18 #[.val (.long q0), .second, .val (.int (5 : Int32)), .val (.ref b1), .val (.int (0 : Int32))] [(.long q0), (.int (0 : Int32)), (.ref b1)])) _
    refine XS.bipush X9.here hx rfl (hb hby d1_18) ?_
    show Steps p.tables e below (T9.setTop (mkF m 20 #[.val (.long q0), .second, .val (.int (5 : Int32)), .val (.ref b1), .val (.int (0 : Int32))] [(.int (8 : Int32)), (.long q0), (.int (0 : Int32)), (.ref b1)])) _
    refine XS.iloadN X9.here hx rfl (hb hby d1_20) rfl ?_
    show Steps p.tables e below (T9.setTop (mkF m 21 #[.val (.long q0), .second, .val (.int (5 : Int32)), .val (.ref b1), .val (.int (0 : Int32))] [(.int (5 : Int32)), (.int (8 : Int32)), (.long q0), (.int (0 : Int32)), (.ref b1)])) _
    refine XS.iconst X9.here hx rfl (hb hby d1_21) ?_
    show Steps p.tables e below (T9.setTop (mkF m 22 #[.val (.long q0), .second, .val (.int (5 : Int32)), .val (.ref b1), .val (.int (0 : Int32))] [(.int (1 : Int32)), (.int (5 : Int32)), (.int (8 : Int32)), (.long q0), (.int (0 : Int32)), (.ref b1)])) _
    refine XS.isub X9.here hx rfl (hb hby d1_22) rfl ?_
    show Steps p.tables e below (T9.setTop (mkF m 23 #[.val (.long q0), .second, .val (.int (5 : Int32)), .val (.ref b1), .val (.int (0 : Int32))] [(.int (4 : Int32)), (.int (8 : Int32)), (.long q0), (.int (0 : Int32)), (.ref b1)])) _
    refine XS.iload X9.here hx rfl (hb hby d1_23) rfl ?_
    show Steps p.tables e below (T9.setTop (mkF m 25 #[.val (.long q0), .second, .val (.int (5 : Int32)), .val (.ref b1), .val (.int (0 : Int32))] [(.int (0 : Int32)), (.int (4 : Int32)), (.int (8 : Int32)), (.long q0), (.int (0 : Int32)), (.ref b1)])) _
    refine XS.isub X9.here hx rfl (hb hby d1_25) rfl ?_
    show Steps p.tables e below (T9.setTop (mkF m 26 #[.val (.long q0), .second, .val (.int (5 : Int32)), .val (.ref b1), .val (.int (0 : Int32))] [(.int (4 : Int32)), (.int (8 : Int32)), (.long q0), (.int (0 : Int32)), (.ref b1)])) _
    refine XS.imul X9.here hx rfl (hb hby d1_26) rfl ?_
    show Steps p.tables e below (T9.setTop (mkF m 27 #[.val (.long q0), .second, .val (.int (5 : Int32)), .val (.ref b1), .val (.int (0 : Int32))] [(.int (32 : Int32)), (.long q0), (.int (0 : Int32)), (.ref b1)])) _
    refine XS.lushr X9.here hx rfl (hb hby d1_27) rfl ?_
    show Steps p.tables e below (T9.setTop (mkF m 28 #[.val (.long q0), .second, .val (.int (5 : Int32)), .val (.ref b1), .val (.int (0 : Int32))] [(.long ((q0.toUInt64 >>> ((32 : Int32) &&& 0x3f).toInt64.toUInt64).toInt64)), (.int (0 : Int32)), (.ref b1)])) _
    refine XS.l2i X9.here hx rfl (hb hby d1_28) rfl ?_
    show Steps p.tables e below (T9.setTop (mkF m 29 #[.val (.long q0), .second, .val (.int (5 : Int32)), .val (.ref b1), .val (.int (0 : Int32))] [(.int (((q0.toUInt64 >>> ((32 : Int32) &&& 0x3f).toInt64.toUInt64).toInt64).toInt32)), (.int (0 : Int32)), (.ref b1)])) _
    refine XS.i2b X9.here hx rfl (hb hby d1_29) rfl ?_
    show Steps p.tables e below (T9.setTop (mkF m 30 #[.val (.long q0), .second, .val (.int (5 : Int32)), .val (.ref b1), .val (.int (0 : Int32))] [(.int ((((q0.toUInt64 >>> ((32 : Int32) &&& 0x3f).toInt64.toUInt64).toInt64).toInt32).toInt8.toInt32)), (.int (0 : Int32)), (.ref b1)])) _
    refine st11 _ ?_
    show Steps p.tables e below (T11.setTop (mkF m 31 #[.val (.long q0), .second, .val (.int (5 : Int32)), .val (.ref b1), .val (.int (0 : Int32))] [])) _
    refine XS.iinc X11.here hx rfl (hb hby d1_31) rfl (l' := #[.val (.long q0), .second, .val (.int (5 : Int32)), .val (.ref b1), .val (.int (-1 : Int32))]) rfl ?_
    show Steps p.tables e below (T11.setTop (mkF m 34 #[.val (.long q0), .second, .val (.int (5 : Int32)), .val (.ref b1), .val (.int (-1 : Int32))] [])) _
    refine XS.goto X11.here hx rfl (pc0 := 34) (pc' := 9) rfl (hb hby d1_34) (by decide) (by decide) ?_
    show Steps p.tables e below (T11.setTop (mkF m 9 #[.val (.long q0), .second, .val (.int (5 : Int32)), .val (.ref b1), .val (.int (-1 : Int32))] [])) _
    refine XS.iload X11.here hx rfl (hb hby d1_9) rfl ?_
    show Steps p.tables e below (T11.setTop (mkF m 11 #[.val (.long q0), .second, .val (.int (5 : Int32)), .val (.ref b1), .val (.int (-1 : Int32))] [(.int (-1 : Int32))])) _
    refine XS.ifYes X11.here hx rfl (pc0 := 11) (pc' := 37) rfl (hb hby d1_11) rfl ((if0 _ _).trans (tlt (by decide : (-1 : Int32) < (0 : Int32))).1) (by decide) (by decide) ?_
    show Steps p.tables e below (T11.setTop (mkF m 37 #[.val (.long q0), .second, .val (.int (5 : Int32)), .val (.ref b1), .val (.int (-1 : Int32))] [])) _
    refine XS.aloadN X11.here hx rfl (hb hby d1_37) rfl rfl ?_
    show Steps p.tables e below (T11.setTop (mkF m 38 #[.val (.long q0), .second, .val (.int (5 : Int32)), .val (.ref b1), .val (.int (-1 : Int32))] [(.ref b1)])) _
    exact retOut X11 hx Bd.returns rfl (Or.inr (Or.inr (Or.inr (Or.inr ⟨rfl, rfl, rfl⟩)))) (hb hby d1_38) hr
  · show Qb5 Z q0 h0 n0 _ T11.heap _
    rw [e11]
    exact ⟨_, _, rfl, N11, K11, V11⟩
theorem ef_rmb6 (m : MethodId) (q0 : Int64) : entryFrame m #[(.long q0), (.int (6 : Int32))] 5 = mkF m 0 #[.val (.long q0), .second, .val (.int (6 : Int32)), .unset, .unset] [] := by first | (simp [entryFrame, mkF, argsToLocals, Value.category]; done) | rfl
def Qb6 (Z : State) (q0 : Int64) (h0 : Heap) (n0 : Nat) (v : Option Value) (h : Heap) (L : List Loc) : Prop := ∃ (b : Addr) (k : ClassId), v = some (.ref b) ∧ Fr n0 L ∧ Keep h0 h [] ∧ Arv Z h b k .byte (6 : Int32) [(.int (own_byte q0 (40 : Int32))), (.int (own_byte q0 (32 : Int32))), (.int (own_byte q0 (24 : Int32))), (.int (own_byte q0 (16 : Int32))), (.int (own_byte q0 (8 : Int32))), (.int (own_byte q0 (0 : Int32)))] (.int (0 : Int32))
set_option maxRecDepth 65536 in
set_option maxHeartbeats 40000000 in
theorem rmb6 (l : Launch) (Z : State) (a0 : Array Value) (hw : ∀ d ∈ tables_1, d.before a0 Z = true) (ws : List Jvm.Cond) (q0 : Int64) (h0 : Heap) (n0 : Nat) (Z0 : n0 ≤ h0.size) :
    MetFree l (⟨"shale/ValueType", "bigEndian", "(JI)[B"⟩ : MethodName) (head1 (Jvm.Cond.code (⟨"shale/ValueType", "bigEndian", "(JI)[B"⟩ : MethodName) prog_227_method_42_code 5 (some (.array .byte)) :: ws) ({ frames := 0, cells := 1, slots := 6, locals := 0 } : Room)) (fun a U => a = #[(.long q0), (.int (6 : Int32))] ∧ Z.Warmed39 U.vm ∧ U.heap = h0) (fun _ _ _ _ _ => True) (fun _ U o U' => ∃ v L, o = .returned v ∧ Qb6 Z q0 h0 n0 v U'.heap L ∧ FrameEnd U o U' L ({ frames := 0, cells := 1, slots := 6, locals := 0 } : Room).cells ({ frames := 0, cells := 1, slots := 6, locals := 0 } : Room).slots) := by
  refine MetFree.of_bodySF (plainFor_of_name pn_0) hisR ?_
  intro p e s m args below meth c s₁ Bd hml0 hP hK
  obtain ⟨rfl, hZ, hh⟩ := hP
  have hx := Bd.exec
  have hby := Bd.bytes
  have hml : c.maxLocals = 5 := hml0
  have hown : s.vm.findClass "shale/ValueType" = some m.cls := findClass_of_methodNamed Bd.named
  have hnm := (name_of_methodNamed Bd.named Bd.method).1
  have X0 : Stand p l e ({ frames := 0, cells := 1, slots := 6, locals := 0 } : Room) s m #[(.long q0), (.int (6 : Int32))] below meth c s₁ [] 0 0 := Stand.of_body Bd
  have e0 : s₁.heap = h0 := by rw [← hh, Bd.state]; rfl
  have N0 := Fr.nil n0
  have pre0 : ∀ t, Steps p.tables e below (s₁.setTop (mkF m 0 #[.val (.long q0), .second, .val (.int (6 : Int32)), .unset, .unset] [])) t → Steps p.tables e below (s₁.setTop (entryFrame m #[(.long q0), (.int (6 : Int32))] 5)) t := fun t k => castTop (ef_rmb6 m q0) k
  obtain ⟨T1, h1, k1, X1, e1, E1, A1, st1⟩ := newP X0 hx hZ (hw _ (List.mem_of_getElem? (i := 5) rfl)) e0 (g := (mkF m 1 #[.val (.long q0), .second, .val (.int (6 : Int32)), .unset, .unset] [(.int (6 : Int32))])) rfl (hb hby d1_1) rfl (by decide) (cap := 6) (by decide) (by decide) (by decide) (by decide)
  obtain ⟨b1, g1⟩ : ∃ z, z = h0.size := ⟨_, rfl⟩
  rw [← g1] at A1 st1
  have gn1 : n0 ≤ b1 := Nat.le_trans Z0 (Nat.le_of_eq g1.symm)
  have sz1 : h0.size ≤ b1 := Nat.le_trans (Keep.refl h0 []).1 (Nat.le_of_eq g1.symm)
  have Z2 : n0 ≤ h1.size := Nat.le_trans Z0 E1.1
  have K1 : Keep h0 h1 [] := (Keep.refl h0 []).ext E1
  have V1 : Arv Z h1 b1 k1 .byte (6 : Int32) [(.int (0 : Int32)), (.int (0 : Int32)), (.int (0 : Int32)), (.int (0 : Int32)), (.int (0 : Int32)), (.int (0 : Int32))] (.int (0 : Int32)) := (Arv.new A1 (by decide)).pad (pad_rep [] (.int (0 : Int32)) 6)
  obtain ⟨cl3, Ar3, qa3, Sa3, Na3, Ha3, Ga3⟩ := V1
  have hin3 : ¬ ((5 : Int32) < 0 ∨ cl3.slots.size ≤ (5 : Int32).toNatClampNeg) := inb_of Sa3 ⟨by decide, by decide⟩
  obtain ⟨T3, h3, X3, e3, W3, st3⟩ := stB X1 hx hZ e1 Ar3 (j := (5 : Int32)) hin3 (g := (mkF m 30 #[.val (.long q0), .second, .val (.int (6 : Int32)), .val (.ref b1), .val (.int (5 : Int32))] [(.int ((((q0.toUInt64 >>> ((0 : Int32) &&& 0x3f).toInt64.toUInt64).toInt64).toInt32).toInt8.toInt32)), (.int (5 : Int32)), (.ref b1)])) rfl rfl (hb hby d1_30)
  have Z4 : n0 ≤ h3.size := Nat.le_trans Z2 (Keep.of_wr W3).1
  have V3 : Arv Z h3 b1 k1 .byte (6 : Int32) [(.int (0 : Int32)), (.int (0 : Int32)), (.int (0 : Int32)), (.int (0 : Int32)), (.int (0 : Int32)), (.int (own_byte q0 (0 : Int32)))] (.int (0 : Int32)) := Arv.set Ar3 qa3 Sa3 Na3 Ha3 Ga3 (fits_nar_byte _) W3 5 rfl (Nat.le_of_ble_eq_true rfl)
  have K3 : Keep h0 h3 [] := K1.wr W3 (Or.inr sz1)
  have N3 := Fr.snoc X3 N0 gn1
  obtain ⟨cl5, Ar5, qa5, Sa5, Na5, Ha5, Ga5⟩ := V3
  have hin5 : ¬ ((4 : Int32) < 0 ∨ cl5.slots.size ≤ (4 : Int32).toNatClampNeg) := inb_of Sa5 ⟨by decide, by decide⟩
  obtain ⟨T5, h5, X5, e5, W5, st5⟩ := stB X3 hx hZ e3 Ar5 (j := (4 : Int32)) hin5 (g := (mkF m 30 #[.val (.long q0), .second, .val (.int (6 : Int32)), .val (.ref b1), .val (.int (4 : Int32))] [(.int ((((q0.toUInt64 >>> ((8 : Int32) &&& 0x3f).toInt64.toUInt64).toInt64).toInt32).toInt8.toInt32)), (.int (4 : Int32)), (.ref b1)])) rfl rfl (hb hby d1_30)
  have Z6 : n0 ≤ h5.size := Nat.le_trans Z4 (Keep.of_wr W5).1
  have V5 : Arv Z h5 b1 k1 .byte (6 : Int32) [(.int (0 : Int32)), (.int (0 : Int32)), (.int (0 : Int32)), (.int (0 : Int32)), (.int (own_byte q0 (8 : Int32))), (.int (own_byte q0 (0 : Int32)))] (.int (0 : Int32)) := Arv.set Ar5 qa5 Sa5 Na5 Ha5 Ga5 (fits_nar_byte _) W5 4 rfl (Nat.le_of_ble_eq_true rfl)
  have K5 : Keep h0 h5 [] := K3.wr W5 (Or.inr sz1)
  have N5 := Fr.snoc X5 N3 gn1
  obtain ⟨cl7, Ar7, qa7, Sa7, Na7, Ha7, Ga7⟩ := V5
  have hin7 : ¬ ((3 : Int32) < 0 ∨ cl7.slots.size ≤ (3 : Int32).toNatClampNeg) := inb_of Sa7 ⟨by decide, by decide⟩
  obtain ⟨T7, h7, X7, e7, W7, st7⟩ := stB X5 hx hZ e5 Ar7 (j := (3 : Int32)) hin7 (g := (mkF m 30 #[.val (.long q0), .second, .val (.int (6 : Int32)), .val (.ref b1), .val (.int (3 : Int32))] [(.int ((((q0.toUInt64 >>> ((16 : Int32) &&& 0x3f).toInt64.toUInt64).toInt64).toInt32).toInt8.toInt32)), (.int (3 : Int32)), (.ref b1)])) rfl rfl (hb hby d1_30)
  have Z8 : n0 ≤ h7.size := Nat.le_trans Z6 (Keep.of_wr W7).1
  have V7 : Arv Z h7 b1 k1 .byte (6 : Int32) [(.int (0 : Int32)), (.int (0 : Int32)), (.int (0 : Int32)), (.int (own_byte q0 (16 : Int32))), (.int (own_byte q0 (8 : Int32))), (.int (own_byte q0 (0 : Int32)))] (.int (0 : Int32)) := Arv.set Ar7 qa7 Sa7 Na7 Ha7 Ga7 (fits_nar_byte _) W7 3 rfl (Nat.le_of_ble_eq_true rfl)
  have K7 : Keep h0 h7 [] := K5.wr W7 (Or.inr sz1)
  have N7 := Fr.snoc X7 N5 gn1
  obtain ⟨cl9, Ar9, qa9, Sa9, Na9, Ha9, Ga9⟩ := V7
  have hin9 : ¬ ((2 : Int32) < 0 ∨ cl9.slots.size ≤ (2 : Int32).toNatClampNeg) := inb_of Sa9 ⟨by decide, by decide⟩
  obtain ⟨T9, h9, X9, e9, W9, st9⟩ := stB X7 hx hZ e7 Ar9 (j := (2 : Int32)) hin9 (g := (mkF m 30 #[.val (.long q0), .second, .val (.int (6 : Int32)), .val (.ref b1), .val (.int (2 : Int32))] [(.int ((((q0.toUInt64 >>> ((24 : Int32) &&& 0x3f).toInt64.toUInt64).toInt64).toInt32).toInt8.toInt32)), (.int (2 : Int32)), (.ref b1)])) rfl rfl (hb hby d1_30)
  have Z10 : n0 ≤ h9.size := Nat.le_trans Z8 (Keep.of_wr W9).1
  have V9 : Arv Z h9 b1 k1 .byte (6 : Int32) [(.int (0 : Int32)), (.int (0 : Int32)), (.int (own_byte q0 (24 : Int32))), (.int (own_byte q0 (16 : Int32))), (.int (own_byte q0 (8 : Int32))), (.int (own_byte q0 (0 : Int32)))] (.int (0 : Int32)) := Arv.set Ar9 qa9 Sa9 Na9 Ha9 Ga9 (fits_nar_byte _) W9 2 rfl (Nat.le_of_ble_eq_true rfl)
  have K9 : Keep h0 h9 [] := K7.wr W9 (Or.inr sz1)
  have N9 := Fr.snoc X9 N7 gn1
  obtain ⟨cl11, Ar11, qa11, Sa11, Na11, Ha11, Ga11⟩ := V9
  have hin11 : ¬ ((1 : Int32) < 0 ∨ cl11.slots.size ≤ (1 : Int32).toNatClampNeg) := inb_of Sa11 ⟨by decide, by decide⟩
  obtain ⟨T11, h11, X11, e11, W11, st11⟩ := stB X9 hx hZ e9 Ar11 (j := (1 : Int32)) hin11 (g := (mkF m 30 #[.val (.long q0), .second, .val (.int (6 : Int32)), .val (.ref b1), .val (.int (1 : Int32))] [(.int ((((q0.toUInt64 >>> ((32 : Int32) &&& 0x3f).toInt64.toUInt64).toInt64).toInt32).toInt8.toInt32)), (.int (1 : Int32)), (.ref b1)])) rfl rfl (hb hby d1_30)
  have Z12 : n0 ≤ h11.size := Nat.le_trans Z10 (Keep.of_wr W11).1
  have V11 : Arv Z h11 b1 k1 .byte (6 : Int32) [(.int (0 : Int32)), (.int (own_byte q0 (32 : Int32))), (.int (own_byte q0 (24 : Int32))), (.int (own_byte q0 (16 : Int32))), (.int (own_byte q0 (8 : Int32))), (.int (own_byte q0 (0 : Int32)))] (.int (0 : Int32)) := Arv.set Ar11 qa11 Sa11 Na11 Ha11 Ga11 (fits_nar_byte _) W11 1 rfl (Nat.le_of_ble_eq_true rfl)
  have K11 : Keep h0 h11 [] := K9.wr W11 (Or.inr sz1)
  have N11 := Fr.snoc X11 N9 gn1
  obtain ⟨cl13, Ar13, qa13, Sa13, Na13, Ha13, Ga13⟩ := V11
  have hin13 : ¬ ((0 : Int32) < 0 ∨ cl13.slots.size ≤ (0 : Int32).toNatClampNeg) := inb_of Sa13 ⟨by decide, by decide⟩
  obtain ⟨T13, h13, X13, e13, W13, st13⟩ := stB X11 hx hZ e11 Ar13 (j := (0 : Int32)) hin13 (g := (mkF m 30 #[.val (.long q0), .second, .val (.int (6 : Int32)), .val (.ref b1), .val (.int (0 : Int32))] [(.int ((((q0.toUInt64 >>> ((40 : Int32) &&& 0x3f).toInt64.toUInt64).toInt64).toInt32).toInt8.toInt32)), (.int (0 : Int32)), (.ref b1)])) rfl rfl (hb hby d1_30)
  have Z14 : n0 ≤ h13.size := Nat.le_trans Z12 (Keep.of_wr W13).1
  have V13 : Arv Z h13 b1 k1 .byte (6 : Int32) [(.int (own_byte q0 (40 : Int32))), (.int (own_byte q0 (32 : Int32))), (.int (own_byte q0 (24 : Int32))), (.int (own_byte q0 (16 : Int32))), (.int (own_byte q0 (8 : Int32))), (.int (own_byte q0 (0 : Int32)))] (.int (0 : Int32)) := Arv.set Ar13 qa13 Sa13 Na13 Ha13 Ga13 (fits_nar_byte _) W13 0 rfl (Nat.le_of_ble_eq_true rfl)
  have K13 : Keep h0 h13 [] := K11.wr W13 (Or.inr sz1)
  have N13 := Fr.snoc X13 N11 gn1
  obtain ⟨fs, hr, hrun, hended, hW, hsame⟩ := X13.leave (v := some (.ref b1)) (fun h => by rw [Bd.returns] at h; cases h)
  refine ⟨_, _, pre0 _ ?_, hrun, hended, _, _, rfl, ?_, ⟨_, rfl⟩, hW, hsame.mono (by decide) (by decide)⟩
  · show Steps p.tables e below (s₁.setTop (mkF m 0 #[.val (.long q0), .second, .val (.int (6 : Int32)), .unset, .unset] [])) _
    refine XS.iloadN X0.here hx rfl (hb hby d1_0) rfl ?_
    show Steps p.tables e below (s₁.setTop (mkF m 1 #[.val (.long q0), .second, .val (.int (6 : Int32)), .unset, .unset] [(.int (6 : Int32))])) _
    refine st1 _ ?_
    show Steps p.tables e below (T1.setTop (mkF m 3 #[.val (.long q0), .second, .val (.int (6 : Int32)), .unset, .unset] [(.ref b1)])) _
    refine XS.astoreN X1.here hx rfl (hb hby d1_3) rfl rfl (l' := #[.val (.long q0), .second, .val (.int (6 : Int32)), .val (.ref b1), .unset]) rfl ?_
    show Steps p.tables e below (T1.setTop (mkF m 4 #[.val (.long q0), .second, .val (.int (6 : Int32)), .val (.ref b1), .unset] [])) _
    refine XS.iloadN X1.here hx rfl (hb hby d1_4) rfl ?_
    show Steps p.tables e below (T1.setTop (mkF m 5 #[.val (.long q0), .second, .val (.int (6 : Int32)), .val (.ref b1), .unset] [(.int (6 : Int32))])) _
    refine XS.iconst X1.here hx rfl (hb hby d1_5) ?_
    show Steps p.tables e below (T1.setTop (mkF m 6 #[.val (.long q0), .second, .val (.int (6 : Int32)), .val (.ref b1), .unset] [(.int (1 : Int32)), (.int (6 : Int32))])) _
    refine XS.isub X1.here hx rfl (hb hby d1_6) rfl ?_
    show Steps p.tables e below (T1.setTop (mkF m 7 #[.val (.long q0), .second, .val (.int (6 : Int32)), .val (.ref b1), .unset] [(.int (5 : Int32))])) _
    refine XS.istore X1.here hx rfl (hb hby d1_7) rfl (l' := #[.val (.long q0), .second, .val (.int (6 : Int32)), .val (.ref b1), .val (.int (5 : Int32))]) rfl ?_
    show Steps p.tables e below (T1.setTop (mkF m 9 #[.val (.long q0), .second, .val (.int (6 : Int32)), .val (.ref b1), .val (.int (5 : Int32))] [])) _
    refine XS.iload X1.here hx rfl (hb hby d1_9) rfl ?_
    show Steps p.tables e below (T1.setTop (mkF m 11 #[.val (.long q0), .second, .val (.int (6 : Int32)), .val (.ref b1), .val (.int (5 : Int32))] [(.int (5 : Int32))])) _
    refine XS.ifNo X1.here hx rfl (hb hby d1_11) rfl ((if0 _ _).trans (flt (by decide : ¬ ((5 : Int32) < (0 : Int32)))).1) ?_
    show Steps p.tables e below (T1.setTop (mkF m 14 #[.val (.long q0), .second, .val (.int (6 : Int32)), .val (.ref b1), .val (.int (5 : Int32))] [])) _
    refine XS.aloadN X1.here hx rfl (hb hby d1_14) rfl rfl ?_
    show Steps p.tables e below (T1.setTop (mkF m 15 #[.val (.long q0), .second, .val (.int (6 : Int32)), .val (.ref b1), .val (.int (5 : Int32))] [(.ref b1)])) _
    refine XS.iload X1.here hx rfl (hb hby d1_15) rfl ?_
    show Steps p.tables e below (T1.setTop (mkF m 17 #[.val (.long q0), .second, .val (.int (6 : Int32)), .val (.ref b1), .val (.int (5 : Int32))] [(.int (5 : Int32)), (.ref b1)])) _
    refine XS.lloadN X1.here hx rfl (hb hby d1_17) rfl ?_
    show Steps p.tables e below (T1.setTop (mkF m 18 #[.val (.long q0), .second, .val (.int (6 : Int32)), .val (.ref b1), .val (.int (5 : Int32))] [(.long q0), (.int (5 : Int32)), (.ref b1)])) _
    refine XS.bipush X1.here hx rfl (hb hby d1_18) ?_
    show Steps p.tables e below (T1.setTop (mkF m 20 #[.val (.long q0), .second, .val (.int (6 : Int32)), .val (.ref b1), .val (.int (5 : Int32))] [(.int (8 : Int32)), (.long q0), (.int (5 : Int32)), (.ref b1)])) _
    refine XS.iloadN X1.here hx rfl (hb hby d1_20) rfl ?_
    show Steps p.tables e below (T1.setTop (mkF m 21 #[.val (.long q0), .second, .val (.int (6 : Int32)), .val (.ref b1), .val (.int (5 : Int32))] [(.int (6 : Int32)), (.int (8 : Int32)), (.long q0), (.int (5 : Int32)), (.ref b1)])) _
    refine XS.iconst X1.here hx rfl (hb hby d1_21) ?_
    show Steps p.tables e below (T1.setTop (mkF m 22 #[.val (.long q0), .second, .val (.int (6 : Int32)), .val (.ref b1), .val (.int (5 : Int32))] [(.int (1 : Int32)), (.int (6 : Int32)), (.int (8 : Int32)), (.long q0), (.int (5 : Int32)), (.ref b1)])) _
    refine XS.isub X1.here hx rfl (hb hby d1_22) rfl ?_
    show Steps p.tables e below (T1.setTop (mkF m 23 #[.val (.long q0), .second, .val (.int (6 : Int32)), .val (.ref b1), .val (.int (5 : Int32))] [(.int (5 : Int32)), (.int (8 : Int32)), (.long q0), (.int (5 : Int32)), (.ref b1)])) _
    refine XS.iload X1.here hx rfl (hb hby d1_23) rfl ?_
    show Steps p.tables e below (T1.setTop (mkF m 25 #[.val (.long q0), .second, .val (.int (6 : Int32)), .val (.ref b1), .val (.int (5 : Int32))] [(.int (5 : Int32)), (.int (5 : Int32)), (.int (8 : Int32)), (.long q0), (.int (5 : Int32)), (.ref b1)])) _
    refine XS.isub X1.here hx rfl (hb hby d1_25) rfl ?_
    show Steps p.tables e below (T1.setTop (mkF m 26 #[.val (.long q0), .second, .val (.int (6 : Int32)), .val (.ref b1), .val (.int (5 : Int32))] [(.int (0 : Int32)), (.int (8 : Int32)), (.long q0), (.int (5 : Int32)), (.ref b1)])) _
    refine XS.imul X1.here hx rfl (hb hby d1_26) rfl ?_
    show Steps p.tables e below (T1.setTop (mkF m 27 #[.val (.long q0), .second, .val (.int (6 : Int32)), .val (.ref b1), .val (.int (5 : Int32))] [(.int (0 : Int32)), (.long q0), (.int (5 : Int32)), (.ref b1)])) _
    refine XS.lushr X1.here hx rfl (hb hby d1_27) rfl ?_
    show Steps p.tables e below (T1.setTop (mkF m 28 #[.val (.long q0), .second, .val (.int (6 : Int32)), .val (.ref b1), .val (.int (5 : Int32))] [(.long ((q0.toUInt64 >>> ((0 : Int32) &&& 0x3f).toInt64.toUInt64).toInt64)), (.int (5 : Int32)), (.ref b1)])) _
    refine XS.l2i X1.here hx rfl (hb hby d1_28) rfl ?_
    show Steps p.tables e below (T1.setTop (mkF m 29 #[.val (.long q0), .second, .val (.int (6 : Int32)), .val (.ref b1), .val (.int (5 : Int32))] [(.int (((q0.toUInt64 >>> ((0 : Int32) &&& 0x3f).toInt64.toUInt64).toInt64).toInt32)), (.int (5 : Int32)), (.ref b1)])) _
    refine XS.i2b X1.here hx rfl (hb hby d1_29) rfl ?_
    show Steps p.tables e below (T1.setTop (mkF m 30 #[.val (.long q0), .second, .val (.int (6 : Int32)), .val (.ref b1), .val (.int (5 : Int32))] [(.int ((((q0.toUInt64 >>> ((0 : Int32) &&& 0x3f).toInt64.toUInt64).toInt64).toInt32).toInt8.toInt32)), (.int (5 : Int32)), (.ref b1)])) _
    refine st3 _ ?_
    show Steps p.tables e below (T3.setTop (mkF m 31 #[.val (.long q0), .second, .val (.int (6 : Int32)), .val (.ref b1), .val (.int (5 : Int32))] [])) _
    refine XS.iinc X3.here hx rfl (hb hby d1_31) rfl (l' := #[.val (.long q0), .second, .val (.int (6 : Int32)), .val (.ref b1), .val (.int (4 : Int32))]) rfl ?_
    show Steps p.tables e below (T3.setTop (mkF m 34 #[.val (.long q0), .second, .val (.int (6 : Int32)), .val (.ref b1), .val (.int (4 : Int32))] [])) _
    refine XS.goto X3.here hx rfl (pc0 := 34) (pc' := 9) rfl (hb hby d1_34) (by decide) (by decide) ?_
    show Steps p.tables e below (T3.setTop (mkF m 9 #[.val (.long q0), .second, .val (.int (6 : Int32)), .val (.ref b1), .val (.int (4 : Int32))] [])) _
    refine XS.iload X3.here hx rfl (hb hby d1_9) rfl ?_
    show Steps p.tables e below (T3.setTop (mkF m 11 #[.val (.long q0), .second, .val (.int (6 : Int32)), .val (.ref b1), .val (.int (4 : Int32))] [(.int (4 : Int32))])) _
    refine XS.ifNo X3.here hx rfl (hb hby d1_11) rfl ((if0 _ _).trans (flt (by decide : ¬ ((4 : Int32) < (0 : Int32)))).1) ?_
    show Steps p.tables e below (T3.setTop (mkF m 14 #[.val (.long q0), .second, .val (.int (6 : Int32)), .val (.ref b1), .val (.int (4 : Int32))] [])) _
    refine XS.aloadN X3.here hx rfl (hb hby d1_14) rfl rfl ?_
    show Steps p.tables e below (T3.setTop (mkF m 15 #[.val (.long q0), .second, .val (.int (6 : Int32)), .val (.ref b1), .val (.int (4 : Int32))] [(.ref b1)])) _
    refine XS.iload X3.here hx rfl (hb hby d1_15) rfl ?_
    show Steps p.tables e below (T3.setTop (mkF m 17 #[.val (.long q0), .second, .val (.int (6 : Int32)), .val (.ref b1), .val (.int (4 : Int32))] [(.int (4 : Int32)), (.ref b1)])) _
    refine XS.lloadN X3.here hx rfl (hb hby d1_17) rfl ?_
    show Steps p.tables e below (T3.setTop (mkF m 18 #[.val (.long q0), .second, .val (.int (6 : Int32)), .val (.ref b1), .val (.int (4 : Int32))] [(.long q0), (.int (4 : Int32)), (.ref b1)])) _
    refine XS.bipush X3.here hx rfl (hb hby d1_18) ?_
    show Steps p.tables e below (T3.setTop (mkF m 20 #[.val (.long q0), .second, .val (.int (6 : Int32)), .val (.ref b1), .val (.int (4 : Int32))] [(.int (8 : Int32)), (.long q0), (.int (4 : Int32)), (.ref b1)])) _
    refine XS.iloadN X3.here hx rfl (hb hby d1_20) rfl ?_
    show Steps p.tables e below (T3.setTop (mkF m 21 #[.val (.long q0), .second, .val (.int (6 : Int32)), .val (.ref b1), .val (.int (4 : Int32))] [(.int (6 : Int32)), (.int (8 : Int32)), (.long q0), (.int (4 : Int32)), (.ref b1)])) _
    refine XS.iconst X3.here hx rfl (hb hby d1_21) ?_
    show Steps p.tables e below (T3.setTop (mkF m 22 #[.val (.long q0), .second, .val (.int (6 : Int32)), .val (.ref b1), .val (.int (4 : Int32))] [(.int (1 : Int32)), (.int (6 : Int32)), (.int (8 : Int32)), (.long q0), (.int (4 : Int32)), (.ref b1)])) _
    refine XS.isub X3.here hx rfl (hb hby d1_22) rfl ?_
    show Steps p.tables e below (T3.setTop (mkF m 23 #[.val (.long q0), .second, .val (.int (6 : Int32)), .val (.ref b1), .val (.int (4 : Int32))] [(.int (5 : Int32)), (.int (8 : Int32)), (.long q0), (.int (4 : Int32)), (.ref b1)])) _
    refine XS.iload X3.here hx rfl (hb hby d1_23) rfl ?_
    show Steps p.tables e below (T3.setTop (mkF m 25 #[.val (.long q0), .second, .val (.int (6 : Int32)), .val (.ref b1), .val (.int (4 : Int32))] [(.int (4 : Int32)), (.int (5 : Int32)), (.int (8 : Int32)), (.long q0), (.int (4 : Int32)), (.ref b1)])) _
    refine XS.isub X3.here hx rfl (hb hby d1_25) rfl ?_
    show Steps p.tables e below (T3.setTop (mkF m 26 #[.val (.long q0), .second, .val (.int (6 : Int32)), .val (.ref b1), .val (.int (4 : Int32))] [(.int (1 : Int32)), (.int (8 : Int32)), (.long q0), (.int (4 : Int32)), (.ref b1)])) _
    refine XS.imul X3.here hx rfl (hb hby d1_26) rfl ?_
    show Steps p.tables e below (T3.setTop (mkF m 27 #[.val (.long q0), .second, .val (.int (6 : Int32)), .val (.ref b1), .val (.int (4 : Int32))] [(.int (8 : Int32)), (.long q0), (.int (4 : Int32)), (.ref b1)])) _
    refine XS.lushr X3.here hx rfl (hb hby d1_27) rfl ?_
    show Steps p.tables e below (T3.setTop (mkF m 28 #[.val (.long q0), .second, .val (.int (6 : Int32)), .val (.ref b1), .val (.int (4 : Int32))] [(.long ((q0.toUInt64 >>> ((8 : Int32) &&& 0x3f).toInt64.toUInt64).toInt64)), (.int (4 : Int32)), (.ref b1)])) _
    refine XS.l2i X3.here hx rfl (hb hby d1_28) rfl ?_
    show Steps p.tables e below (T3.setTop (mkF m 29 #[.val (.long q0), .second, .val (.int (6 : Int32)), .val (.ref b1), .val (.int (4 : Int32))] [(.int (((q0.toUInt64 >>> ((8 : Int32) &&& 0x3f).toInt64.toUInt64).toInt64).toInt32)), (.int (4 : Int32)), (.ref b1)])) _
    refine XS.i2b X3.here hx rfl (hb hby d1_29) rfl ?_
    show Steps p.tables e below (T3.setTop (mkF m 30 #[.val (.long q0), .second, .val (.int (6 : Int32)), .val (.ref b1), .val (.int (4 : Int32))] [(.int ((((q0.toUInt64 >>> ((8 : Int32) &&& 0x3f).toInt64.toUInt64).toInt64).toInt32).toInt8.toInt32)), (.int (4 : Int32)), (.ref b1)])) _
    refine st5 _ ?_
    show Steps p.tables e below (T5.setTop (mkF m 31 #[.val (.long q0), .second, .val (.int (6 : Int32)), .val (.ref b1), .val (.int (4 : Int32))] [])) _
    refine XS.iinc X5.here hx rfl (hb hby d1_31) rfl (l' := #[.val (.long q0), .second, .val (.int (6 : Int32)), .val (.ref b1), .val (.int (3 : Int32))]) rfl ?_
    show Steps p.tables e below (T5.setTop (mkF m 34 #[.val (.long q0), .second, .val (.int (6 : Int32)), .val (.ref b1), .val (.int (3 : Int32))] [])) _
    refine XS.goto X5.here hx rfl (pc0 := 34) (pc' := 9) rfl (hb hby d1_34) (by decide) (by decide) ?_
    show Steps p.tables e below (T5.setTop (mkF m 9 #[.val (.long q0), .second, .val (.int (6 : Int32)), .val (.ref b1), .val (.int (3 : Int32))] [])) _
    refine XS.iload X5.here hx rfl (hb hby d1_9) rfl ?_
    show Steps p.tables e below (T5.setTop (mkF m 11 #[.val (.long q0), .second, .val (.int (6 : Int32)), .val (.ref b1), .val (.int (3 : Int32))] [(.int (3 : Int32))])) _
    refine XS.ifNo X5.here hx rfl (hb hby d1_11) rfl ((if0 _ _).trans (flt (by decide : ¬ ((3 : Int32) < (0 : Int32)))).1) ?_
    show Steps p.tables e below (T5.setTop (mkF m 14 #[.val (.long q0), .second, .val (.int (6 : Int32)), .val (.ref b1), .val (.int (3 : Int32))] [])) _
    refine XS.aloadN X5.here hx rfl (hb hby d1_14) rfl rfl ?_
    show Steps p.tables e below (T5.setTop (mkF m 15 #[.val (.long q0), .second, .val (.int (6 : Int32)), .val (.ref b1), .val (.int (3 : Int32))] [(.ref b1)])) _
    refine XS.iload X5.here hx rfl (hb hby d1_15) rfl ?_
    show Steps p.tables e below (T5.setTop (mkF m 17 #[.val (.long q0), .second, .val (.int (6 : Int32)), .val (.ref b1), .val (.int (3 : Int32))] [(.int (3 : Int32)), (.ref b1)])) _
    refine XS.lloadN X5.here hx rfl (hb hby d1_17) rfl ?_
    show Steps p.tables e below (T5.setTop (mkF m 18 #[.val (.long q0), .second, .val (.int (6 : Int32)), .val (.ref b1), .val (.int (3 : Int32))] [(.long q0), (.int (3 : Int32)), (.ref b1)])) _
    refine XS.bipush X5.here hx rfl (hb hby d1_18) ?_
    show Steps p.tables e below (T5.setTop (mkF m 20 #[.val (.long q0), .second, .val (.int (6 : Int32)), .val (.ref b1), .val (.int (3 : Int32))] [(.int (8 : Int32)), (.long q0), (.int (3 : Int32)), (.ref b1)])) _
    refine XS.iloadN X5.here hx rfl (hb hby d1_20) rfl ?_
    show Steps p.tables e below (T5.setTop (mkF m 21 #[.val (.long q0), .second, .val (.int (6 : Int32)), .val (.ref b1), .val (.int (3 : Int32))] [(.int (6 : Int32)), (.int (8 : Int32)), (.long q0), (.int (3 : Int32)), (.ref b1)])) _
    refine XS.iconst X5.here hx rfl (hb hby d1_21) ?_
    show Steps p.tables e below (T5.setTop (mkF m 22 #[.val (.long q0), .second, .val (.int (6 : Int32)), .val (.ref b1), .val (.int (3 : Int32))] [(.int (1 : Int32)), (.int (6 : Int32)), (.int (8 : Int32)), (.long q0), (.int (3 : Int32)), (.ref b1)])) _
    refine XS.isub X5.here hx rfl (hb hby d1_22) rfl ?_
    show Steps p.tables e below (T5.setTop (mkF m 23 #[.val (.long q0), .second, .val (.int (6 : Int32)), .val (.ref b1), .val (.int (3 : Int32))] [(.int (5 : Int32)), (.int (8 : Int32)), (.long q0), (.int (3 : Int32)), (.ref b1)])) _
    refine XS.iload X5.here hx rfl (hb hby d1_23) rfl ?_
    show Steps p.tables e below (T5.setTop (mkF m 25 #[.val (.long q0), .second, .val (.int (6 : Int32)), .val (.ref b1), .val (.int (3 : Int32))] [(.int (3 : Int32)), (.int (5 : Int32)), (.int (8 : Int32)), (.long q0), (.int (3 : Int32)), (.ref b1)])) _
    refine XS.isub X5.here hx rfl (hb hby d1_25) rfl ?_
    show Steps p.tables e below (T5.setTop (mkF m 26 #[.val (.long q0), .second, .val (.int (6 : Int32)), .val (.ref b1), .val (.int (3 : Int32))] [(.int (2 : Int32)), (.int (8 : Int32)), (.long q0), (.int (3 : Int32)), (.ref b1)])) _
    refine XS.imul X5.here hx rfl (hb hby d1_26) rfl ?_
    show Steps p.tables e below (T5.setTop (mkF m 27 #[.val (.long q0), .second, .val (.int (6 : Int32)), .val (.ref b1), .val (.int (3 : Int32))] [(.int (16 : Int32)), (.long q0), (.int (3 : Int32)), (.ref b1)])) _
    refine XS.lushr X5.here hx rfl (hb hby d1_27) rfl ?_
    show Steps p.tables e below (T5.setTop (mkF m 28 #[.val (.long q0), .second, .val (.int (6 : Int32)), .val (.ref b1), .val (.int (3 : Int32))] [(.long ((q0.toUInt64 >>> ((16 : Int32) &&& 0x3f).toInt64.toUInt64).toInt64)), (.int (3 : Int32)), (.ref b1)])) _
    refine XS.l2i X5.here hx rfl (hb hby d1_28) rfl ?_
    show Steps p.tables e below (T5.setTop (mkF m 29 #[.val (.long q0), .second, .val (.int (6 : Int32)), .val (.ref b1), .val (.int (3 : Int32))] [(.int (((q0.toUInt64 >>> ((16 : Int32) &&& 0x3f).toInt64.toUInt64).toInt64).toInt32)), (.int (3 : Int32)), (.ref b1)])) _
    refine XS.i2b X5.here hx rfl (hb hby d1_29) rfl ?_
    show Steps p.tables e below (T5.setTop (mkF m 30 #[.val (.long q0), .second, .val (.int (6 : Int32)), .val (.ref b1), .val (.int (3 : Int32))] [(.int ((((q0.toUInt64 >>> ((16 : Int32) &&& 0x3f).toInt64.toUInt64).toInt64).toInt32).toInt8.toInt32)), (.int (3 : Int32)), (.ref b1)])) _
    refine st7 _ ?_
    show Steps p.tables e below (T7.setTop (mkF m 31 #[.val (.long q0), .second, .val (.int (6 : Int32)), .val (.ref b1), .val (.int (3 : Int32))] [])) _
    refine XS.iinc X7.here hx rfl (hb hby d1_31) rfl (l' := #[.val (.long q0), .second, .val (.int (6 : Int32)), .val (.ref b1), .val (.int (2 : Int32))]) rfl ?_
    show Steps p.tables e below (T7.setTop (mkF m 34 #[.val (.long q0), .second, .val (.int (6 : Int32)), .val (.ref b1), .val (.int (2 : Int32))] [])) _
    refine XS.goto X7.here hx rfl (pc0 := 34) (pc' := 9) rfl (hb hby d1_34) (by decide) (by decide) ?_
    show Steps p.tables e below (T7.setTop (mkF m 9 #[.val (.long q0), .second, .val (.int (6 : Int32)), .val (.ref b1), .val (.int (2 : Int32))] [])) _
    refine XS.iload X7.here hx rfl (hb hby d1_9) rfl ?_
    show Steps p.tables e below (T7.setTop (mkF m 11 #[.val (.long q0), .second, .val (.int (6 : Int32)), .val (.ref b1), .val (.int (2 : Int32))] [(.int (2 : Int32))])) _
    refine XS.ifNo X7.here hx rfl (hb hby d1_11) rfl ((if0 _ _).trans (flt (by decide : ¬ ((2 : Int32) < (0 : Int32)))).1) ?_
    show Steps p.tables e below (T7.setTop (mkF m 14 #[.val (.long q0), .second, .val (.int (6 : Int32)), .val (.ref b1), .val (.int (2 : Int32))] [])) _
    refine XS.aloadN X7.here hx rfl (hb hby d1_14) rfl rfl ?_
    show Steps p.tables e below (T7.setTop (mkF m 15 #[.val (.long q0), .second, .val (.int (6 : Int32)), .val (.ref b1), .val (.int (2 : Int32))] [(.ref b1)])) _
    refine XS.iload X7.here hx rfl (hb hby d1_15) rfl ?_
    show Steps p.tables e below (T7.setTop (mkF m 17 #[.val (.long q0), .second, .val (.int (6 : Int32)), .val (.ref b1), .val (.int (2 : Int32))] [(.int (2 : Int32)), (.ref b1)])) _
    refine XS.lloadN X7.here hx rfl (hb hby d1_17) rfl ?_
    show Steps p.tables e below (T7.setTop (mkF m 18 #[.val (.long q0), .second, .val (.int (6 : Int32)), .val (.ref b1), .val (.int (2 : Int32))] [(.long q0), (.int (2 : Int32)), (.ref b1)])) _
    refine XS.bipush X7.here hx rfl (hb hby d1_18) ?_
    show Steps p.tables e below (T7.setTop (mkF m 20 #[.val (.long q0), .second, .val (.int (6 : Int32)), .val (.ref b1), .val (.int (2 : Int32))] [(.int (8 : Int32)), (.long q0), (.int (2 : Int32)), (.ref b1)])) _
    refine XS.iloadN X7.here hx rfl (hb hby d1_20) rfl ?_
    show Steps p.tables e below (T7.setTop (mkF m 21 #[.val (.long q0), .second, .val (.int (6 : Int32)), .val (.ref b1), .val (.int (2 : Int32))] [(.int (6 : Int32)), (.int (8 : Int32)), (.long q0), (.int (2 : Int32)), (.ref b1)])) _
    refine XS.iconst X7.here hx rfl (hb hby d1_21) ?_
    show Steps p.tables e below (T7.setTop (mkF m 22 #[.val (.long q0), .second, .val (.int (6 : Int32)), .val (.ref b1), .val (.int (2 : Int32))] [(.int (1 : Int32)), (.int (6 : Int32)), (.int (8 : Int32)), (.long q0), (.int (2 : Int32)), (.ref b1)])) _
    refine XS.isub X7.here hx rfl (hb hby d1_22) rfl ?_
    show Steps p.tables e below (T7.setTop (mkF m 23 #[.val (.long q0), .second, .val (.int (6 : Int32)), .val (.ref b1), .val (.int (2 : Int32))] [(.int (5 : Int32)), (.int (8 : Int32)), (.long q0), (.int (2 : Int32)), (.ref b1)])) _
    refine XS.iload X7.here hx rfl (hb hby d1_23) rfl ?_
    show Steps p.tables e below (T7.setTop (mkF m 25 #[.val (.long q0), .second, .val (.int (6 : Int32)), .val (.ref b1), .val (.int (2 : Int32))] [(.int (2 : Int32)), (.int (5 : Int32)), (.int (8 : Int32)), (.long q0), (.int (2 : Int32)), (.ref b1)])) _
    refine XS.isub X7.here hx rfl (hb hby d1_25) rfl ?_
    show Steps p.tables e below (T7.setTop (mkF m 26 #[.val (.long q0), .second, .val (.int (6 : Int32)), .val (.ref b1), .val (.int (2 : Int32))] [(.int (3 : Int32)), (.int (8 : Int32)), (.long q0), (.int (2 : Int32)), (.ref b1)])) _
    refine XS.imul X7.here hx rfl (hb hby d1_26) rfl ?_
    show Steps p.tables e below (T7.setTop (mkF m 27 #[.val (.long q0), .second, .val (.int (6 : Int32)), .val (.ref b1), .val (.int (2 : Int32))] [(.int (24 : Int32)), (.long q0), (.int (2 : Int32)), (.ref b1)])) _
    refine XS.lushr X7.here hx rfl (hb hby d1_27) rfl ?_
    show Steps p.tables e below (T7.setTop (mkF m 28 #[.val (.long q0), .second, .val (.int (6 : Int32)), .val (.ref b1), .val (.int (2 : Int32))] [(.long ((q0.toUInt64 >>> ((24 : Int32) &&& 0x3f).toInt64.toUInt64).toInt64)), (.int (2 : Int32)), (.ref b1)])) _
    refine XS.l2i X7.here hx rfl (hb hby d1_28) rfl ?_
    show Steps p.tables e below (T7.setTop (mkF m 29 #[.val (.long q0), .second, .val (.int (6 : Int32)), .val (.ref b1), .val (.int (2 : Int32))] [(.int (((q0.toUInt64 >>> ((24 : Int32) &&& 0x3f).toInt64.toUInt64).toInt64).toInt32)), (.int (2 : Int32)), (.ref b1)])) _
    refine XS.i2b X7.here hx rfl (hb hby d1_29) rfl ?_
    show Steps p.tables e below (T7.setTop (mkF m 30 #[.val (.long q0), .second, .val (.int (6 : Int32)), .val (.ref b1), .val (.int (2 : Int32))] [(.int ((((q0.toUInt64 >>> ((24 : Int32) &&& 0x3f).toInt64.toUInt64).toInt64).toInt32).toInt8.toInt32)), (.int (2 : Int32)), (.ref b1)])) _
    refine st9 _ ?_
    show Steps p.tables e below (T9.setTop (mkF m 31 #[.val (.long q0), .second, .val (.int (6 : Int32)), .val (.ref b1), .val (.int (2 : Int32))] [])) _
    refine XS.iinc X9.here hx rfl (hb hby d1_31) rfl (l' := #[.val (.long q0), .second, .val (.int (6 : Int32)), .val (.ref b1), .val (.int (1 : Int32))]) rfl ?_
    show Steps p.tables e below (T9.setTop (mkF m 34 #[.val (.long q0), .second, .val (.int (6 : Int32)), .val (.ref b1), .val (.int (1 : Int32))] [])) _
    refine XS.goto X9.here hx rfl (pc0 := 34) (pc' := 9) rfl (hb hby d1_34) (by decide) (by decide) ?_
    show Steps p.tables e below (T9.setTop (mkF m 9 #[.val (.long q0), .second, .val (.int (6 : Int32)), .val (.ref b1), .val (.int (1 : Int32))] [])) _
    refine XS.iload X9.here hx rfl (hb hby d1_9) rfl ?_
    show Steps p.tables e below (T9.setTop (mkF m 11 #[.val (.long q0), .second, .val (.int (6 : Int32)), .val (.ref b1), .val (.int (1 : Int32))] [(.int (1 : Int32))])) _
    refine XS.ifNo X9.here hx rfl (hb hby d1_11) rfl ((if0 _ _).trans (flt (by decide : ¬ ((1 : Int32) < (0 : Int32)))).1) ?_
    show Steps p.tables e below (T9.setTop (mkF m 14 #[.val (.long q0), .second, .val (.int (6 : Int32)), .val (.ref b1), .val (.int (1 : Int32))] [])) _
    refine XS.aloadN X9.here hx rfl (hb hby d1_14) rfl rfl ?_
    show Steps p.tables e below (T9.setTop (mkF m 15 #[.val (.long q0), .second, .val (.int (6 : Int32)), .val (.ref b1), .val (.int (1 : Int32))] [(.ref b1)])) _
    refine XS.iload X9.here hx rfl (hb hby d1_15) rfl ?_
    show Steps p.tables e below (T9.setTop (mkF m 17 #[.val (.long q0), .second, .val (.int (6 : Int32)), .val (.ref b1), .val (.int (1 : Int32))] [(.int (1 : Int32)), (.ref b1)])) _
    refine XS.lloadN X9.here hx rfl (hb hby d1_17) rfl ?_
    show Steps p.tables e below (T9.setTop (mkF m 18 #[.val (.long q0), .second, .val (.int (6 : Int32)), .val (.ref b1), .val (.int (1 : Int32))] [(.long q0), (.int (1 : Int32)), (.ref b1)])) _
    refine XS.bipush X9.here hx rfl (hb hby d1_18) ?_
    show Steps p.tables e below (T9.setTop (mkF m 20 #[.val (.long q0), .second, .val (.int (6 : Int32)), .val (.ref b1), .val (.int (1 : Int32))] [(.int (8 : Int32)), (.long q0), (.int (1 : Int32)), (.ref b1)])) _
    refine XS.iloadN X9.here hx rfl (hb hby d1_20) rfl ?_
    show Steps p.tables e below (T9.setTop (mkF m 21 #[.val (.long q0), .second, .val (.int (6 : Int32)), .val (.ref b1), .val (.int (1 : Int32))] [(.int (6 : Int32)), (.int (8 : Int32)), (.long q0), (.int (1 : Int32)), (.ref b1)])) _
    refine XS.iconst X9.here hx rfl (hb hby d1_21) ?_
    show Steps p.tables e below (T9.setTop (mkF m 22 #[.val (.long q0), .second, .val (.int (6 : Int32)), .val (.ref b1), .val (.int (1 : Int32))] [(.int (1 : Int32)), (.int (6 : Int32)), (.int (8 : Int32)), (.long q0), (.int (1 : Int32)), (.ref b1)])) _
    refine XS.isub X9.here hx rfl (hb hby d1_22) rfl ?_
    show Steps p.tables e below (T9.setTop (mkF m 23 #[.val (.long q0), .second, .val (.int (6 : Int32)), .val (.ref b1), .val (.int (1 : Int32))] [(.int (5 : Int32)), (.int (8 : Int32)), (.long q0), (.int (1 : Int32)), (.ref b1)])) _
    refine XS.iload X9.here hx rfl (hb hby d1_23) rfl ?_
    show Steps p.tables e below (T9.setTop (mkF m 25 #[.val (.long q0), .second, .val (.int (6 : Int32)), .val (.ref b1), .val (.int (1 : Int32))] [(.int (1 : Int32)), (.int (5 : Int32)), (.int (8 : Int32)), (.long q0), (.int (1 : Int32)), (.ref b1)])) _
    refine XS.isub X9.here hx rfl (hb hby d1_25) rfl ?_
    show Steps p.tables e below (T9.setTop (mkF m 26 #[.val (.long q0), .second, .val (.int (6 : Int32)), .val (.ref b1), .val (.int (1 : Int32))] [(.int (4 : Int32)), (.int (8 : Int32)), (.long q0), (.int (1 : Int32)), (.ref b1)])) _
    refine XS.imul X9.here hx rfl (hb hby d1_26) rfl ?_
    show Steps p.tables e below (T9.setTop (mkF m 27 #[.val (.long q0), .second, .val (.int (6 : Int32)), .val (.ref b1), .val (.int (1 : Int32))] [(.int (32 : Int32)), (.long q0), (.int (1 : Int32)), (.ref b1)])) _
    refine XS.lushr X9.here hx rfl (hb hby d1_27) rfl ?_
    show Steps p.tables e below (T9.setTop (mkF m 28 #[.val (.long q0), .second, .val (.int (6 : Int32)), .val (.ref b1), .val (.int (1 : Int32))] [(.long ((q0.toUInt64 >>> ((32 : Int32) &&& 0x3f).toInt64.toUInt64).toInt64)), (.int (1 : Int32)), (.ref b1)])) _
    refine XS.l2i X9.here hx rfl (hb hby d1_28) rfl ?_
    show Steps p.tables e below (T9.setTop (mkF m 29 #[.val (.long q0), .second, .val (.int (6 : Int32)), .val (.ref b1), .val (.int (1 : Int32))] [(.int (((q0.toUInt64 >>> ((32 : Int32) &&& 0x3f).toInt64.toUInt64).toInt64).toInt32)), (.int (1 : Int32)), (.ref b1)])) _
    refine XS.i2b X9.here hx rfl (hb hby d1_29) rfl ?_
    show Steps p.tables e below (T9.setTop (mkF m 30 #[.val (.long q0), .second, .val (.int (6 : Int32)), .val (.ref b1), .val (.int (1 : Int32))] [(.int ((((q0.toUInt64 >>> ((32 : Int32) &&& 0x3f).toInt64.toUInt64).toInt64).toInt32).toInt8.toInt32)), (.int (1 : Int32)), (.ref b1)])) _
    refine st11 _ ?_
    show Steps p.tables e below (T11.setTop (mkF m 31 #[.val (.long q0), .second, .val (.int (6 : Int32)), .val (.ref b1), .val (.int (1 : Int32))] [])) _
    refine XS.iinc X11.here hx rfl (hb hby d1_31) rfl (l' := #[.val (.long q0), .second, .val (.int (6 : Int32)), .val (.ref b1), .val (.int (0 : Int32))]) rfl ?_
    show Steps p.tables e below (T11.setTop (mkF m 34 #[.val (.long q0), .second, .val (.int (6 : Int32)), .val (.ref b1), .val (.int (0 : Int32))] [])) _
    refine XS.goto X11.here hx rfl (pc0 := 34) (pc' := 9) rfl (hb hby d1_34) (by decide) (by decide) ?_
    show Steps p.tables e below (T11.setTop (mkF m 9 #[.val (.long q0), .second, .val (.int (6 : Int32)), .val (.ref b1), .val (.int (0 : Int32))] [])) _
    refine XS.iload X11.here hx rfl (hb hby d1_9) rfl ?_
    show Steps p.tables e below (T11.setTop (mkF m 11 #[.val (.long q0), .second, .val (.int (6 : Int32)), .val (.ref b1), .val (.int (0 : Int32))] [(.int (0 : Int32))])) _
    refine XS.ifNo X11.here hx rfl (hb hby d1_11) rfl ((if0 _ _).trans (flt (by decide : ¬ ((0 : Int32) < (0 : Int32)))).1) ?_
    show Steps p.tables e below (T11.setTop (mkF m 14 #[.val (.long q0), .second, .val (.int (6 : Int32)), .val (.ref b1), .val (.int (0 : Int32))] [])) _
    refine XS.aloadN X11.here hx rfl (hb hby d1_14) rfl rfl ?_
    show Steps p.tables e below (T11.setTop (mkF m 15 #[.val (.long q0), .second, .val (.int (6 : Int32)), .val (.ref b1), .val (.int (0 : Int32))] [(.ref b1)])) _
    refine XS.iload X11.here hx rfl (hb hby d1_15) rfl ?_
    show Steps p.tables e below (T11.setTop (mkF m 17 #[.val (.long q0), .second, .val (.int (6 : Int32)), .val (.ref b1), .val (.int (0 : Int32))] [(.int (0 : Int32)), (.ref b1)])) _
    refine XS.lloadN X11.here hx rfl (hb hby d1_17) rfl ?_
    show Steps p.tables e below (T11.setTop (mkF m 18 #[.val (.long q0), .second, .val (.int (6 : Int32)), .val (.ref b1), .val (.int (0 : Int32))] [(.long q0), (.int (0 : Int32)), (.ref b1)])) _
    refine XS.bipush X11.here hx rfl (hb hby d1_18) ?_
    show Steps p.tables e below (T11.setTop (mkF m 20 #[.val (.long q0), .second, .val (.int (6 : Int32)), .val (.ref b1), .val (.int (0 : Int32))] [(.int (8 : Int32)), (.long q0), (.int (0 : Int32)), (.ref b1)])) _
    refine XS.iloadN X11.here hx rfl (hb hby d1_20) rfl ?_
    show Steps p.tables e below (T11.setTop (mkF m 21 #[.val (.long q0), .second, .val (.int (6 : Int32)), .val (.ref b1), .val (.int (0 : Int32))] [(.int (6 : Int32)), (.int (8 : Int32)), (.long q0), (.int (0 : Int32)), (.ref b1)])) _
    refine XS.iconst X11.here hx rfl (hb hby d1_21) ?_
    show Steps p.tables e below (T11.setTop (mkF m 22 #[.val (.long q0), .second, .val (.int (6 : Int32)), .val (.ref b1), .val (.int (0 : Int32))] [(.int (1 : Int32)), (.int (6 : Int32)), (.int (8 : Int32)), (.long q0), (.int (0 : Int32)), (.ref b1)])) _
    refine XS.isub X11.here hx rfl (hb hby d1_22) rfl ?_
    show Steps p.tables e below (T11.setTop (mkF m 23 #[.val (.long q0), .second, .val (.int (6 : Int32)), .val (.ref b1), .val (.int (0 : Int32))] [(.int (5 : Int32)), (.int (8 : Int32)), (.long q0), (.int (0 : Int32)), (.ref b1)])) _
    refine XS.iload X11.here hx rfl (hb hby d1_23) rfl ?_
    show Steps p.tables e below (T11.setTop (mkF m 25 #[.val (.long q0), .second, .val (.int (6 : Int32)), .val (.ref b1), .val (.int (0 : Int32))] [(.int (0 : Int32)), (.int (5 : Int32)), (.int (8 : Int32)), (.long q0), (.int (0 : Int32)), (.ref b1)])) _
    refine XS.isub X11.here hx rfl (hb hby d1_25) rfl ?_
    show Steps p.tables e below (T11.setTop (mkF m 26 #[.val (.long q0), .second, .val (.int (6 : Int32)), .val (.ref b1), .val (.int (0 : Int32))] [(.int (5 : Int32)), (.int (8 : Int32)), (.long q0), (.int (0 : Int32)), (.ref b1)])) _
    refine XS.imul X11.here hx rfl (hb hby d1_26) rfl ?_
    show Steps p.tables e below (T11.setTop (mkF m 27 #[.val (.long q0), .second, .val (.int (6 : Int32)), .val (.ref b1), .val (.int (0 : Int32))] [(.int (40 : Int32)), (.long q0), (.int (0 : Int32)), (.ref b1)])) _
    refine XS.lushr X11.here hx rfl (hb hby d1_27) rfl ?_
    show Steps p.tables e below (T11.setTop (mkF m 28 #[.val (.long q0), .second, .val (.int (6 : Int32)), .val (.ref b1), .val (.int (0 : Int32))] [(.long ((q0.toUInt64 >>> ((40 : Int32) &&& 0x3f).toInt64.toUInt64).toInt64)), (.int (0 : Int32)), (.ref b1)])) _
    refine XS.l2i X11.here hx rfl (hb hby d1_28) rfl ?_
    show Steps p.tables e below (T11.setTop (mkF m 29 #[.val (.long q0), .second, .val (.int (6 : Int32)), .val (.ref b1), .val (.int (0 : Int32))] [(.int (((q0.toUInt64 >>> ((40 : Int32) &&& 0x3f).toInt64.toUInt64).toInt64).toInt32)), (.int (0 : Int32)), (.ref b1)])) _
    refine XS.i2b X11.here hx rfl (hb hby d1_29) rfl ?_
    show Steps p.tables e below (T11.setTop (mkF m 30 #[.val (.long q0), .second, .val (.int (6 : Int32)), .val (.ref b1), .val (.int (0 : Int32))] [(.int ((((q0.toUInt64 >>> ((40 : Int32) &&& 0x3f).toInt64.toUInt64).toInt64).toInt32).toInt8.toInt32)), (.int (0 : Int32)), (.ref b1)])) _
    refine st13 _ ?_
    show Steps p.tables e below (T13.setTop (mkF m 31 #[.val (.long q0), .second, .val (.int (6 : Int32)), .val (.ref b1), .val (.int (0 : Int32))] [])) _
    refine XS.iinc X13.here hx rfl (hb hby d1_31) rfl (l' := #[.val (.long q0), .second, .val (.int (6 : Int32)), .val (.ref b1), .val (.int (-1 : Int32))]) rfl ?_
    show Steps p.tables e below (T13.setTop (mkF m 34 #[.val (.long q0), .second, .val (.int (6 : Int32)), .val (.ref b1), .val (.int (-1 : Int32))] [])) _
    refine XS.goto X13.here hx rfl (pc0 := 34) (pc' := 9) rfl (hb hby d1_34) (by decide) (by decide) ?_
    show Steps p.tables e below (T13.setTop (mkF m 9 #[.val (.long q0), .second, .val (.int (6 : Int32)), .val (.ref b1), .val (.int (-1 : Int32))] [])) _
    refine XS.iload X13.here hx rfl (hb hby d1_9) rfl ?_
    show Steps p.tables e below (T13.setTop (mkF m 11 #[.val (.long q0), .second, .val (.int (6 : Int32)), .val (.ref b1), .val (.int (-1 : Int32))] [(.int (-1 : Int32))])) _
    refine XS.ifYes X13.here hx rfl (pc0 := 11) (pc' := 37) rfl (hb hby d1_11) rfl ((if0 _ _).trans (tlt (by decide : (-1 : Int32) < (0 : Int32))).1) (by decide) (by decide) ?_
    show Steps p.tables e below (T13.setTop (mkF m 37 #[.val (.long q0), .second, .val (.int (6 : Int32)), .val (.ref b1), .val (.int (-1 : Int32))] [])) _
    refine XS.aloadN X13.here hx rfl (hb hby d1_37) rfl rfl ?_
    show Steps p.tables e below (T13.setTop (mkF m 38 #[.val (.long q0), .second, .val (.int (6 : Int32)), .val (.ref b1), .val (.int (-1 : Int32))] [(.ref b1)])) _
    exact retOut X13 hx Bd.returns rfl (Or.inr (Or.inr (Or.inr (Or.inr ⟨rfl, rfl, rfl⟩)))) (hb hby d1_38) hr
  · show Qb6 Z q0 h0 n0 _ T13.heap _
    rw [e13]
    exact ⟨_, _, rfl, N13, K13, V13⟩
theorem ef_rmb7 (m : MethodId) (q0 : Int64) : entryFrame m #[(.long q0), (.int (7 : Int32))] 5 = mkF m 0 #[.val (.long q0), .second, .val (.int (7 : Int32)), .unset, .unset] [] := by first | (simp [entryFrame, mkF, argsToLocals, Value.category]; done) | rfl
def Qb7 (Z : State) (q0 : Int64) (h0 : Heap) (n0 : Nat) (v : Option Value) (h : Heap) (L : List Loc) : Prop := ∃ (b : Addr) (k : ClassId), v = some (.ref b) ∧ Fr n0 L ∧ Keep h0 h [] ∧ Arv Z h b k .byte (7 : Int32) [(.int (own_byte q0 (48 : Int32))), (.int (own_byte q0 (40 : Int32))), (.int (own_byte q0 (32 : Int32))), (.int (own_byte q0 (24 : Int32))), (.int (own_byte q0 (16 : Int32))), (.int (own_byte q0 (8 : Int32))), (.int (own_byte q0 (0 : Int32)))] (.int (0 : Int32))
set_option maxRecDepth 65536 in
set_option maxHeartbeats 40000000 in
theorem rmb7 (l : Launch) (Z : State) (a0 : Array Value) (hw : ∀ d ∈ tables_1, d.before a0 Z = true) (ws : List Jvm.Cond) (q0 : Int64) (h0 : Heap) (n0 : Nat) (Z0 : n0 ≤ h0.size) :
    MetFree l (⟨"shale/ValueType", "bigEndian", "(JI)[B"⟩ : MethodName) (head1 (Jvm.Cond.code (⟨"shale/ValueType", "bigEndian", "(JI)[B"⟩ : MethodName) prog_227_method_42_code 5 (some (.array .byte)) :: ws) ({ frames := 0, cells := 1, slots := 7, locals := 0 } : Room)) (fun a U => a = #[(.long q0), (.int (7 : Int32))] ∧ Z.Warmed39 U.vm ∧ U.heap = h0) (fun _ _ _ _ _ => True) (fun _ U o U' => ∃ v L, o = .returned v ∧ Qb7 Z q0 h0 n0 v U'.heap L ∧ FrameEnd U o U' L ({ frames := 0, cells := 1, slots := 7, locals := 0 } : Room).cells ({ frames := 0, cells := 1, slots := 7, locals := 0 } : Room).slots) := by
  refine MetFree.of_bodySF (plainFor_of_name pn_0) hisR ?_
  intro p e s m args below meth c s₁ Bd hml0 hP hK
  obtain ⟨rfl, hZ, hh⟩ := hP
  have hx := Bd.exec
  have hby := Bd.bytes
  have hml : c.maxLocals = 5 := hml0
  have hown : s.vm.findClass "shale/ValueType" = some m.cls := findClass_of_methodNamed Bd.named
  have hnm := (name_of_methodNamed Bd.named Bd.method).1
  have X0 : Stand p l e ({ frames := 0, cells := 1, slots := 7, locals := 0 } : Room) s m #[(.long q0), (.int (7 : Int32))] below meth c s₁ [] 0 0 := Stand.of_body Bd
  have e0 : s₁.heap = h0 := by rw [← hh, Bd.state]; rfl
  have N0 := Fr.nil n0
  have pre0 : ∀ t, Steps p.tables e below (s₁.setTop (mkF m 0 #[.val (.long q0), .second, .val (.int (7 : Int32)), .unset, .unset] [])) t → Steps p.tables e below (s₁.setTop (entryFrame m #[(.long q0), (.int (7 : Int32))] 5)) t := fun t k => castTop (ef_rmb7 m q0) k
  obtain ⟨T1, h1, k1, X1, e1, E1, A1, st1⟩ := newP X0 hx hZ (hw _ (List.mem_of_getElem? (i := 5) rfl)) e0 (g := (mkF m 1 #[.val (.long q0), .second, .val (.int (7 : Int32)), .unset, .unset] [(.int (7 : Int32))])) rfl (hb hby d1_1) rfl (by decide) (cap := 7) (by decide) (by decide) (by decide) (by decide)
  obtain ⟨b1, g1⟩ : ∃ z, z = h0.size := ⟨_, rfl⟩
  rw [← g1] at A1 st1
  have gn1 : n0 ≤ b1 := Nat.le_trans Z0 (Nat.le_of_eq g1.symm)
  have sz1 : h0.size ≤ b1 := Nat.le_trans (Keep.refl h0 []).1 (Nat.le_of_eq g1.symm)
  have Z2 : n0 ≤ h1.size := Nat.le_trans Z0 E1.1
  have K1 : Keep h0 h1 [] := (Keep.refl h0 []).ext E1
  have V1 : Arv Z h1 b1 k1 .byte (7 : Int32) [(.int (0 : Int32)), (.int (0 : Int32)), (.int (0 : Int32)), (.int (0 : Int32)), (.int (0 : Int32)), (.int (0 : Int32)), (.int (0 : Int32))] (.int (0 : Int32)) := (Arv.new A1 (by decide)).pad (pad_rep [] (.int (0 : Int32)) 7)
  obtain ⟨cl3, Ar3, qa3, Sa3, Na3, Ha3, Ga3⟩ := V1
  have hin3 : ¬ ((6 : Int32) < 0 ∨ cl3.slots.size ≤ (6 : Int32).toNatClampNeg) := inb_of Sa3 ⟨by decide, by decide⟩
  obtain ⟨T3, h3, X3, e3, W3, st3⟩ := stB X1 hx hZ e1 Ar3 (j := (6 : Int32)) hin3 (g := (mkF m 30 #[.val (.long q0), .second, .val (.int (7 : Int32)), .val (.ref b1), .val (.int (6 : Int32))] [(.int ((((q0.toUInt64 >>> ((0 : Int32) &&& 0x3f).toInt64.toUInt64).toInt64).toInt32).toInt8.toInt32)), (.int (6 : Int32)), (.ref b1)])) rfl rfl (hb hby d1_30)
  have Z4 : n0 ≤ h3.size := Nat.le_trans Z2 (Keep.of_wr W3).1
  have V3 : Arv Z h3 b1 k1 .byte (7 : Int32) [(.int (0 : Int32)), (.int (0 : Int32)), (.int (0 : Int32)), (.int (0 : Int32)), (.int (0 : Int32)), (.int (0 : Int32)), (.int (own_byte q0 (0 : Int32)))] (.int (0 : Int32)) := Arv.set Ar3 qa3 Sa3 Na3 Ha3 Ga3 (fits_nar_byte _) W3 6 rfl (Nat.le_of_ble_eq_true rfl)
  have K3 : Keep h0 h3 [] := K1.wr W3 (Or.inr sz1)
  have N3 := Fr.snoc X3 N0 gn1
  obtain ⟨cl5, Ar5, qa5, Sa5, Na5, Ha5, Ga5⟩ := V3
  have hin5 : ¬ ((5 : Int32) < 0 ∨ cl5.slots.size ≤ (5 : Int32).toNatClampNeg) := inb_of Sa5 ⟨by decide, by decide⟩
  obtain ⟨T5, h5, X5, e5, W5, st5⟩ := stB X3 hx hZ e3 Ar5 (j := (5 : Int32)) hin5 (g := (mkF m 30 #[.val (.long q0), .second, .val (.int (7 : Int32)), .val (.ref b1), .val (.int (5 : Int32))] [(.int ((((q0.toUInt64 >>> ((8 : Int32) &&& 0x3f).toInt64.toUInt64).toInt64).toInt32).toInt8.toInt32)), (.int (5 : Int32)), (.ref b1)])) rfl rfl (hb hby d1_30)
  have Z6 : n0 ≤ h5.size := Nat.le_trans Z4 (Keep.of_wr W5).1
  have V5 : Arv Z h5 b1 k1 .byte (7 : Int32) [(.int (0 : Int32)), (.int (0 : Int32)), (.int (0 : Int32)), (.int (0 : Int32)), (.int (0 : Int32)), (.int (own_byte q0 (8 : Int32))), (.int (own_byte q0 (0 : Int32)))] (.int (0 : Int32)) := Arv.set Ar5 qa5 Sa5 Na5 Ha5 Ga5 (fits_nar_byte _) W5 5 rfl (Nat.le_of_ble_eq_true rfl)
  have K5 : Keep h0 h5 [] := K3.wr W5 (Or.inr sz1)
  have N5 := Fr.snoc X5 N3 gn1
  obtain ⟨cl7, Ar7, qa7, Sa7, Na7, Ha7, Ga7⟩ := V5
  have hin7 : ¬ ((4 : Int32) < 0 ∨ cl7.slots.size ≤ (4 : Int32).toNatClampNeg) := inb_of Sa7 ⟨by decide, by decide⟩
  obtain ⟨T7, h7, X7, e7, W7, st7⟩ := stB X5 hx hZ e5 Ar7 (j := (4 : Int32)) hin7 (g := (mkF m 30 #[.val (.long q0), .second, .val (.int (7 : Int32)), .val (.ref b1), .val (.int (4 : Int32))] [(.int ((((q0.toUInt64 >>> ((16 : Int32) &&& 0x3f).toInt64.toUInt64).toInt64).toInt32).toInt8.toInt32)), (.int (4 : Int32)), (.ref b1)])) rfl rfl (hb hby d1_30)
  have Z8 : n0 ≤ h7.size := Nat.le_trans Z6 (Keep.of_wr W7).1
  have V7 : Arv Z h7 b1 k1 .byte (7 : Int32) [(.int (0 : Int32)), (.int (0 : Int32)), (.int (0 : Int32)), (.int (0 : Int32)), (.int (own_byte q0 (16 : Int32))), (.int (own_byte q0 (8 : Int32))), (.int (own_byte q0 (0 : Int32)))] (.int (0 : Int32)) := Arv.set Ar7 qa7 Sa7 Na7 Ha7 Ga7 (fits_nar_byte _) W7 4 rfl (Nat.le_of_ble_eq_true rfl)
  have K7 : Keep h0 h7 [] := K5.wr W7 (Or.inr sz1)
  have N7 := Fr.snoc X7 N5 gn1
  obtain ⟨cl9, Ar9, qa9, Sa9, Na9, Ha9, Ga9⟩ := V7
  have hin9 : ¬ ((3 : Int32) < 0 ∨ cl9.slots.size ≤ (3 : Int32).toNatClampNeg) := inb_of Sa9 ⟨by decide, by decide⟩
  obtain ⟨T9, h9, X9, e9, W9, st9⟩ := stB X7 hx hZ e7 Ar9 (j := (3 : Int32)) hin9 (g := (mkF m 30 #[.val (.long q0), .second, .val (.int (7 : Int32)), .val (.ref b1), .val (.int (3 : Int32))] [(.int ((((q0.toUInt64 >>> ((24 : Int32) &&& 0x3f).toInt64.toUInt64).toInt64).toInt32).toInt8.toInt32)), (.int (3 : Int32)), (.ref b1)])) rfl rfl (hb hby d1_30)
  have Z10 : n0 ≤ h9.size := Nat.le_trans Z8 (Keep.of_wr W9).1
  have V9 : Arv Z h9 b1 k1 .byte (7 : Int32) [(.int (0 : Int32)), (.int (0 : Int32)), (.int (0 : Int32)), (.int (own_byte q0 (24 : Int32))), (.int (own_byte q0 (16 : Int32))), (.int (own_byte q0 (8 : Int32))), (.int (own_byte q0 (0 : Int32)))] (.int (0 : Int32)) := Arv.set Ar9 qa9 Sa9 Na9 Ha9 Ga9 (fits_nar_byte _) W9 3 rfl (Nat.le_of_ble_eq_true rfl)
  have K9 : Keep h0 h9 [] := K7.wr W9 (Or.inr sz1)
  have N9 := Fr.snoc X9 N7 gn1
  obtain ⟨cl11, Ar11, qa11, Sa11, Na11, Ha11, Ga11⟩ := V9
  have hin11 : ¬ ((2 : Int32) < 0 ∨ cl11.slots.size ≤ (2 : Int32).toNatClampNeg) := inb_of Sa11 ⟨by decide, by decide⟩
  obtain ⟨T11, h11, X11, e11, W11, st11⟩ := stB X9 hx hZ e9 Ar11 (j := (2 : Int32)) hin11 (g := (mkF m 30 #[.val (.long q0), .second, .val (.int (7 : Int32)), .val (.ref b1), .val (.int (2 : Int32))] [(.int ((((q0.toUInt64 >>> ((32 : Int32) &&& 0x3f).toInt64.toUInt64).toInt64).toInt32).toInt8.toInt32)), (.int (2 : Int32)), (.ref b1)])) rfl rfl (hb hby d1_30)
  have Z12 : n0 ≤ h11.size := Nat.le_trans Z10 (Keep.of_wr W11).1
  have V11 : Arv Z h11 b1 k1 .byte (7 : Int32) [(.int (0 : Int32)), (.int (0 : Int32)), (.int (own_byte q0 (32 : Int32))), (.int (own_byte q0 (24 : Int32))), (.int (own_byte q0 (16 : Int32))), (.int (own_byte q0 (8 : Int32))), (.int (own_byte q0 (0 : Int32)))] (.int (0 : Int32)) := Arv.set Ar11 qa11 Sa11 Na11 Ha11 Ga11 (fits_nar_byte _) W11 2 rfl (Nat.le_of_ble_eq_true rfl)
  have K11 : Keep h0 h11 [] := K9.wr W11 (Or.inr sz1)
  have N11 := Fr.snoc X11 N9 gn1
  obtain ⟨cl13, Ar13, qa13, Sa13, Na13, Ha13, Ga13⟩ := V11
  have hin13 : ¬ ((1 : Int32) < 0 ∨ cl13.slots.size ≤ (1 : Int32).toNatClampNeg) := inb_of Sa13 ⟨by decide, by decide⟩
  obtain ⟨T13, h13, X13, e13, W13, st13⟩ := stB X11 hx hZ e11 Ar13 (j := (1 : Int32)) hin13 (g := (mkF m 30 #[.val (.long q0), .second, .val (.int (7 : Int32)), .val (.ref b1), .val (.int (1 : Int32))] [(.int ((((q0.toUInt64 >>> ((40 : Int32) &&& 0x3f).toInt64.toUInt64).toInt64).toInt32).toInt8.toInt32)), (.int (1 : Int32)), (.ref b1)])) rfl rfl (hb hby d1_30)
  have Z14 : n0 ≤ h13.size := Nat.le_trans Z12 (Keep.of_wr W13).1
  have V13 : Arv Z h13 b1 k1 .byte (7 : Int32) [(.int (0 : Int32)), (.int (own_byte q0 (40 : Int32))), (.int (own_byte q0 (32 : Int32))), (.int (own_byte q0 (24 : Int32))), (.int (own_byte q0 (16 : Int32))), (.int (own_byte q0 (8 : Int32))), (.int (own_byte q0 (0 : Int32)))] (.int (0 : Int32)) := Arv.set Ar13 qa13 Sa13 Na13 Ha13 Ga13 (fits_nar_byte _) W13 1 rfl (Nat.le_of_ble_eq_true rfl)
  have K13 : Keep h0 h13 [] := K11.wr W13 (Or.inr sz1)
  have N13 := Fr.snoc X13 N11 gn1
  obtain ⟨cl15, Ar15, qa15, Sa15, Na15, Ha15, Ga15⟩ := V13
  have hin15 : ¬ ((0 : Int32) < 0 ∨ cl15.slots.size ≤ (0 : Int32).toNatClampNeg) := inb_of Sa15 ⟨by decide, by decide⟩
  obtain ⟨T15, h15, X15, e15, W15, st15⟩ := stB X13 hx hZ e13 Ar15 (j := (0 : Int32)) hin15 (g := (mkF m 30 #[.val (.long q0), .second, .val (.int (7 : Int32)), .val (.ref b1), .val (.int (0 : Int32))] [(.int ((((q0.toUInt64 >>> ((48 : Int32) &&& 0x3f).toInt64.toUInt64).toInt64).toInt32).toInt8.toInt32)), (.int (0 : Int32)), (.ref b1)])) rfl rfl (hb hby d1_30)
  have Z16 : n0 ≤ h15.size := Nat.le_trans Z14 (Keep.of_wr W15).1
  have V15 : Arv Z h15 b1 k1 .byte (7 : Int32) [(.int (own_byte q0 (48 : Int32))), (.int (own_byte q0 (40 : Int32))), (.int (own_byte q0 (32 : Int32))), (.int (own_byte q0 (24 : Int32))), (.int (own_byte q0 (16 : Int32))), (.int (own_byte q0 (8 : Int32))), (.int (own_byte q0 (0 : Int32)))] (.int (0 : Int32)) := Arv.set Ar15 qa15 Sa15 Na15 Ha15 Ga15 (fits_nar_byte _) W15 0 rfl (Nat.le_of_ble_eq_true rfl)
  have K15 : Keep h0 h15 [] := K13.wr W15 (Or.inr sz1)
  have N15 := Fr.snoc X15 N13 gn1
  obtain ⟨fs, hr, hrun, hended, hW, hsame⟩ := X15.leave (v := some (.ref b1)) (fun h => by rw [Bd.returns] at h; cases h)
  refine ⟨_, _, pre0 _ ?_, hrun, hended, _, _, rfl, ?_, ⟨_, rfl⟩, hW, hsame.mono (by decide) (by decide)⟩
  · show Steps p.tables e below (s₁.setTop (mkF m 0 #[.val (.long q0), .second, .val (.int (7 : Int32)), .unset, .unset] [])) _
    refine XS.iloadN X0.here hx rfl (hb hby d1_0) rfl ?_
    show Steps p.tables e below (s₁.setTop (mkF m 1 #[.val (.long q0), .second, .val (.int (7 : Int32)), .unset, .unset] [(.int (7 : Int32))])) _
    refine st1 _ ?_
    show Steps p.tables e below (T1.setTop (mkF m 3 #[.val (.long q0), .second, .val (.int (7 : Int32)), .unset, .unset] [(.ref b1)])) _
    refine XS.astoreN X1.here hx rfl (hb hby d1_3) rfl rfl (l' := #[.val (.long q0), .second, .val (.int (7 : Int32)), .val (.ref b1), .unset]) rfl ?_
    show Steps p.tables e below (T1.setTop (mkF m 4 #[.val (.long q0), .second, .val (.int (7 : Int32)), .val (.ref b1), .unset] [])) _
    refine XS.iloadN X1.here hx rfl (hb hby d1_4) rfl ?_
    show Steps p.tables e below (T1.setTop (mkF m 5 #[.val (.long q0), .second, .val (.int (7 : Int32)), .val (.ref b1), .unset] [(.int (7 : Int32))])) _
    refine XS.iconst X1.here hx rfl (hb hby d1_5) ?_
    show Steps p.tables e below (T1.setTop (mkF m 6 #[.val (.long q0), .second, .val (.int (7 : Int32)), .val (.ref b1), .unset] [(.int (1 : Int32)), (.int (7 : Int32))])) _
    refine XS.isub X1.here hx rfl (hb hby d1_6) rfl ?_
    show Steps p.tables e below (T1.setTop (mkF m 7 #[.val (.long q0), .second, .val (.int (7 : Int32)), .val (.ref b1), .unset] [(.int (6 : Int32))])) _
    refine XS.istore X1.here hx rfl (hb hby d1_7) rfl (l' := #[.val (.long q0), .second, .val (.int (7 : Int32)), .val (.ref b1), .val (.int (6 : Int32))]) rfl ?_
    show Steps p.tables e below (T1.setTop (mkF m 9 #[.val (.long q0), .second, .val (.int (7 : Int32)), .val (.ref b1), .val (.int (6 : Int32))] [])) _
    refine XS.iload X1.here hx rfl (hb hby d1_9) rfl ?_
    show Steps p.tables e below (T1.setTop (mkF m 11 #[.val (.long q0), .second, .val (.int (7 : Int32)), .val (.ref b1), .val (.int (6 : Int32))] [(.int (6 : Int32))])) _
    refine XS.ifNo X1.here hx rfl (hb hby d1_11) rfl ((if0 _ _).trans (flt (by decide : ¬ ((6 : Int32) < (0 : Int32)))).1) ?_
    show Steps p.tables e below (T1.setTop (mkF m 14 #[.val (.long q0), .second, .val (.int (7 : Int32)), .val (.ref b1), .val (.int (6 : Int32))] [])) _
    refine XS.aloadN X1.here hx rfl (hb hby d1_14) rfl rfl ?_
    show Steps p.tables e below (T1.setTop (mkF m 15 #[.val (.long q0), .second, .val (.int (7 : Int32)), .val (.ref b1), .val (.int (6 : Int32))] [(.ref b1)])) _
    refine XS.iload X1.here hx rfl (hb hby d1_15) rfl ?_
    show Steps p.tables e below (T1.setTop (mkF m 17 #[.val (.long q0), .second, .val (.int (7 : Int32)), .val (.ref b1), .val (.int (6 : Int32))] [(.int (6 : Int32)), (.ref b1)])) _
    refine XS.lloadN X1.here hx rfl (hb hby d1_17) rfl ?_
    show Steps p.tables e below (T1.setTop (mkF m 18 #[.val (.long q0), .second, .val (.int (7 : Int32)), .val (.ref b1), .val (.int (6 : Int32))] [(.long q0), (.int (6 : Int32)), (.ref b1)])) _
    refine XS.bipush X1.here hx rfl (hb hby d1_18) ?_
    show Steps p.tables e below (T1.setTop (mkF m 20 #[.val (.long q0), .second, .val (.int (7 : Int32)), .val (.ref b1), .val (.int (6 : Int32))] [(.int (8 : Int32)), (.long q0), (.int (6 : Int32)), (.ref b1)])) _
    refine XS.iloadN X1.here hx rfl (hb hby d1_20) rfl ?_
    show Steps p.tables e below (T1.setTop (mkF m 21 #[.val (.long q0), .second, .val (.int (7 : Int32)), .val (.ref b1), .val (.int (6 : Int32))] [(.int (7 : Int32)), (.int (8 : Int32)), (.long q0), (.int (6 : Int32)), (.ref b1)])) _
    refine XS.iconst X1.here hx rfl (hb hby d1_21) ?_
    show Steps p.tables e below (T1.setTop (mkF m 22 #[.val (.long q0), .second, .val (.int (7 : Int32)), .val (.ref b1), .val (.int (6 : Int32))] [(.int (1 : Int32)), (.int (7 : Int32)), (.int (8 : Int32)), (.long q0), (.int (6 : Int32)), (.ref b1)])) _
    refine XS.isub X1.here hx rfl (hb hby d1_22) rfl ?_
    show Steps p.tables e below (T1.setTop (mkF m 23 #[.val (.long q0), .second, .val (.int (7 : Int32)), .val (.ref b1), .val (.int (6 : Int32))] [(.int (6 : Int32)), (.int (8 : Int32)), (.long q0), (.int (6 : Int32)), (.ref b1)])) _
    refine XS.iload X1.here hx rfl (hb hby d1_23) rfl ?_
    show Steps p.tables e below (T1.setTop (mkF m 25 #[.val (.long q0), .second, .val (.int (7 : Int32)), .val (.ref b1), .val (.int (6 : Int32))] [(.int (6 : Int32)), (.int (6 : Int32)), (.int (8 : Int32)), (.long q0), (.int (6 : Int32)), (.ref b1)])) _
    refine XS.isub X1.here hx rfl (hb hby d1_25) rfl ?_
    show Steps p.tables e below (T1.setTop (mkF m 26 #[.val (.long q0), .second, .val (.int (7 : Int32)), .val (.ref b1), .val (.int (6 : Int32))] [(.int (0 : Int32)), (.int (8 : Int32)), (.long q0), (.int (6 : Int32)), (.ref b1)])) _
    refine XS.imul X1.here hx rfl (hb hby d1_26) rfl ?_
    show Steps p.tables e below (T1.setTop (mkF m 27 #[.val (.long q0), .second, .val (.int (7 : Int32)), .val (.ref b1), .val (.int (6 : Int32))] [(.int (0 : Int32)), (.long q0), (.int (6 : Int32)), (.ref b1)])) _
    refine XS.lushr X1.here hx rfl (hb hby d1_27) rfl ?_
    show Steps p.tables e below (T1.setTop (mkF m 28 #[.val (.long q0), .second, .val (.int (7 : Int32)), .val (.ref b1), .val (.int (6 : Int32))] [(.long ((q0.toUInt64 >>> ((0 : Int32) &&& 0x3f).toInt64.toUInt64).toInt64)), (.int (6 : Int32)), (.ref b1)])) _
    refine XS.l2i X1.here hx rfl (hb hby d1_28) rfl ?_
    show Steps p.tables e below (T1.setTop (mkF m 29 #[.val (.long q0), .second, .val (.int (7 : Int32)), .val (.ref b1), .val (.int (6 : Int32))] [(.int (((q0.toUInt64 >>> ((0 : Int32) &&& 0x3f).toInt64.toUInt64).toInt64).toInt32)), (.int (6 : Int32)), (.ref b1)])) _
    refine XS.i2b X1.here hx rfl (hb hby d1_29) rfl ?_
    show Steps p.tables e below (T1.setTop (mkF m 30 #[.val (.long q0), .second, .val (.int (7 : Int32)), .val (.ref b1), .val (.int (6 : Int32))] [(.int ((((q0.toUInt64 >>> ((0 : Int32) &&& 0x3f).toInt64.toUInt64).toInt64).toInt32).toInt8.toInt32)), (.int (6 : Int32)), (.ref b1)])) _
    refine st3 _ ?_
    show Steps p.tables e below (T3.setTop (mkF m 31 #[.val (.long q0), .second, .val (.int (7 : Int32)), .val (.ref b1), .val (.int (6 : Int32))] [])) _
    refine XS.iinc X3.here hx rfl (hb hby d1_31) rfl (l' := #[.val (.long q0), .second, .val (.int (7 : Int32)), .val (.ref b1), .val (.int (5 : Int32))]) rfl ?_
    show Steps p.tables e below (T3.setTop (mkF m 34 #[.val (.long q0), .second, .val (.int (7 : Int32)), .val (.ref b1), .val (.int (5 : Int32))] [])) _
    refine XS.goto X3.here hx rfl (pc0 := 34) (pc' := 9) rfl (hb hby d1_34) (by decide) (by decide) ?_
    show Steps p.tables e below (T3.setTop (mkF m 9 #[.val (.long q0), .second, .val (.int (7 : Int32)), .val (.ref b1), .val (.int (5 : Int32))] [])) _
    refine XS.iload X3.here hx rfl (hb hby d1_9) rfl ?_
    show Steps p.tables e below (T3.setTop (mkF m 11 #[.val (.long q0), .second, .val (.int (7 : Int32)), .val (.ref b1), .val (.int (5 : Int32))] [(.int (5 : Int32))])) _
    refine XS.ifNo X3.here hx rfl (hb hby d1_11) rfl ((if0 _ _).trans (flt (by decide : ¬ ((5 : Int32) < (0 : Int32)))).1) ?_
    show Steps p.tables e below (T3.setTop (mkF m 14 #[.val (.long q0), .second, .val (.int (7 : Int32)), .val (.ref b1), .val (.int (5 : Int32))] [])) _
    refine XS.aloadN X3.here hx rfl (hb hby d1_14) rfl rfl ?_
    show Steps p.tables e below (T3.setTop (mkF m 15 #[.val (.long q0), .second, .val (.int (7 : Int32)), .val (.ref b1), .val (.int (5 : Int32))] [(.ref b1)])) _
    refine XS.iload X3.here hx rfl (hb hby d1_15) rfl ?_
    show Steps p.tables e below (T3.setTop (mkF m 17 #[.val (.long q0), .second, .val (.int (7 : Int32)), .val (.ref b1), .val (.int (5 : Int32))] [(.int (5 : Int32)), (.ref b1)])) _
    refine XS.lloadN X3.here hx rfl (hb hby d1_17) rfl ?_
    show Steps p.tables e below (T3.setTop (mkF m 18 #[.val (.long q0), .second, .val (.int (7 : Int32)), .val (.ref b1), .val (.int (5 : Int32))] [(.long q0), (.int (5 : Int32)), (.ref b1)])) _
    refine XS.bipush X3.here hx rfl (hb hby d1_18) ?_
    show Steps p.tables e below (T3.setTop (mkF m 20 #[.val (.long q0), .second, .val (.int (7 : Int32)), .val (.ref b1), .val (.int (5 : Int32))] [(.int (8 : Int32)), (.long q0), (.int (5 : Int32)), (.ref b1)])) _
    refine XS.iloadN X3.here hx rfl (hb hby d1_20) rfl ?_
    show Steps p.tables e below (T3.setTop (mkF m 21 #[.val (.long q0), .second, .val (.int (7 : Int32)), .val (.ref b1), .val (.int (5 : Int32))] [(.int (7 : Int32)), (.int (8 : Int32)), (.long q0), (.int (5 : Int32)), (.ref b1)])) _
    refine XS.iconst X3.here hx rfl (hb hby d1_21) ?_
    show Steps p.tables e below (T3.setTop (mkF m 22 #[.val (.long q0), .second, .val (.int (7 : Int32)), .val (.ref b1), .val (.int (5 : Int32))] [(.int (1 : Int32)), (.int (7 : Int32)), (.int (8 : Int32)), (.long q0), (.int (5 : Int32)), (.ref b1)])) _
    refine XS.isub X3.here hx rfl (hb hby d1_22) rfl ?_
    show Steps p.tables e below (T3.setTop (mkF m 23 #[.val (.long q0), .second, .val (.int (7 : Int32)), .val (.ref b1), .val (.int (5 : Int32))] [(.int (6 : Int32)), (.int (8 : Int32)), (.long q0), (.int (5 : Int32)), (.ref b1)])) _
    refine XS.iload X3.here hx rfl (hb hby d1_23) rfl ?_
    show Steps p.tables e below (T3.setTop (mkF m 25 #[.val (.long q0), .second, .val (.int (7 : Int32)), .val (.ref b1), .val (.int (5 : Int32))] [(.int (5 : Int32)), (.int (6 : Int32)), (.int (8 : Int32)), (.long q0), (.int (5 : Int32)), (.ref b1)])) _
    refine XS.isub X3.here hx rfl (hb hby d1_25) rfl ?_
    show Steps p.tables e below (T3.setTop (mkF m 26 #[.val (.long q0), .second, .val (.int (7 : Int32)), .val (.ref b1), .val (.int (5 : Int32))] [(.int (1 : Int32)), (.int (8 : Int32)), (.long q0), (.int (5 : Int32)), (.ref b1)])) _
    refine XS.imul X3.here hx rfl (hb hby d1_26) rfl ?_
    show Steps p.tables e below (T3.setTop (mkF m 27 #[.val (.long q0), .second, .val (.int (7 : Int32)), .val (.ref b1), .val (.int (5 : Int32))] [(.int (8 : Int32)), (.long q0), (.int (5 : Int32)), (.ref b1)])) _
    refine XS.lushr X3.here hx rfl (hb hby d1_27) rfl ?_
    show Steps p.tables e below (T3.setTop (mkF m 28 #[.val (.long q0), .second, .val (.int (7 : Int32)), .val (.ref b1), .val (.int (5 : Int32))] [(.long ((q0.toUInt64 >>> ((8 : Int32) &&& 0x3f).toInt64.toUInt64).toInt64)), (.int (5 : Int32)), (.ref b1)])) _
    refine XS.l2i X3.here hx rfl (hb hby d1_28) rfl ?_
    show Steps p.tables e below (T3.setTop (mkF m 29 #[.val (.long q0), .second, .val (.int (7 : Int32)), .val (.ref b1), .val (.int (5 : Int32))] [(.int (((q0.toUInt64 >>> ((8 : Int32) &&& 0x3f).toInt64.toUInt64).toInt64).toInt32)), (.int (5 : Int32)), (.ref b1)])) _
    refine XS.i2b X3.here hx rfl (hb hby d1_29) rfl ?_
    show Steps p.tables e below (T3.setTop (mkF m 30 #[.val (.long q0), .second, .val (.int (7 : Int32)), .val (.ref b1), .val (.int (5 : Int32))] [(.int ((((q0.toUInt64 >>> ((8 : Int32) &&& 0x3f).toInt64.toUInt64).toInt64).toInt32).toInt8.toInt32)), (.int (5 : Int32)), (.ref b1)])) _
    refine st5 _ ?_
    show Steps p.tables e below (T5.setTop (mkF m 31 #[.val (.long q0), .second, .val (.int (7 : Int32)), .val (.ref b1), .val (.int (5 : Int32))] [])) _
    refine XS.iinc X5.here hx rfl (hb hby d1_31) rfl (l' := #[.val (.long q0), .second, .val (.int (7 : Int32)), .val (.ref b1), .val (.int (4 : Int32))]) rfl ?_
    show Steps p.tables e below (T5.setTop (mkF m 34 #[.val (.long q0), .second, .val (.int (7 : Int32)), .val (.ref b1), .val (.int (4 : Int32))] [])) _
    refine XS.goto X5.here hx rfl (pc0 := 34) (pc' := 9) rfl (hb hby d1_34) (by decide) (by decide) ?_
    show Steps p.tables e below (T5.setTop (mkF m 9 #[.val (.long q0), .second, .val (.int (7 : Int32)), .val (.ref b1), .val (.int (4 : Int32))] [])) _
    refine XS.iload X5.here hx rfl (hb hby d1_9) rfl ?_
    show Steps p.tables e below (T5.setTop (mkF m 11 #[.val (.long q0), .second, .val (.int (7 : Int32)), .val (.ref b1), .val (.int (4 : Int32))] [(.int (4 : Int32))])) _
    refine XS.ifNo X5.here hx rfl (hb hby d1_11) rfl ((if0 _ _).trans (flt (by decide : ¬ ((4 : Int32) < (0 : Int32)))).1) ?_
    show Steps p.tables e below (T5.setTop (mkF m 14 #[.val (.long q0), .second, .val (.int (7 : Int32)), .val (.ref b1), .val (.int (4 : Int32))] [])) _
    refine XS.aloadN X5.here hx rfl (hb hby d1_14) rfl rfl ?_
    show Steps p.tables e below (T5.setTop (mkF m 15 #[.val (.long q0), .second, .val (.int (7 : Int32)), .val (.ref b1), .val (.int (4 : Int32))] [(.ref b1)])) _
    refine XS.iload X5.here hx rfl (hb hby d1_15) rfl ?_
    show Steps p.tables e below (T5.setTop (mkF m 17 #[.val (.long q0), .second, .val (.int (7 : Int32)), .val (.ref b1), .val (.int (4 : Int32))] [(.int (4 : Int32)), (.ref b1)])) _
    refine XS.lloadN X5.here hx rfl (hb hby d1_17) rfl ?_
    show Steps p.tables e below (T5.setTop (mkF m 18 #[.val (.long q0), .second, .val (.int (7 : Int32)), .val (.ref b1), .val (.int (4 : Int32))] [(.long q0), (.int (4 : Int32)), (.ref b1)])) _
    refine XS.bipush X5.here hx rfl (hb hby d1_18) ?_
    show Steps p.tables e below (T5.setTop (mkF m 20 #[.val (.long q0), .second, .val (.int (7 : Int32)), .val (.ref b1), .val (.int (4 : Int32))] [(.int (8 : Int32)), (.long q0), (.int (4 : Int32)), (.ref b1)])) _
    refine XS.iloadN X5.here hx rfl (hb hby d1_20) rfl ?_
    show Steps p.tables e below (T5.setTop (mkF m 21 #[.val (.long q0), .second, .val (.int (7 : Int32)), .val (.ref b1), .val (.int (4 : Int32))] [(.int (7 : Int32)), (.int (8 : Int32)), (.long q0), (.int (4 : Int32)), (.ref b1)])) _
    refine XS.iconst X5.here hx rfl (hb hby d1_21) ?_
    show Steps p.tables e below (T5.setTop (mkF m 22 #[.val (.long q0), .second, .val (.int (7 : Int32)), .val (.ref b1), .val (.int (4 : Int32))] [(.int (1 : Int32)), (.int (7 : Int32)), (.int (8 : Int32)), (.long q0), (.int (4 : Int32)), (.ref b1)])) _
    refine XS.isub X5.here hx rfl (hb hby d1_22) rfl ?_
    show Steps p.tables e below (T5.setTop (mkF m 23 #[.val (.long q0), .second, .val (.int (7 : Int32)), .val (.ref b1), .val (.int (4 : Int32))] [(.int (6 : Int32)), (.int (8 : Int32)), (.long q0), (.int (4 : Int32)), (.ref b1)])) _
    refine XS.iload X5.here hx rfl (hb hby d1_23) rfl ?_
    show Steps p.tables e below (T5.setTop (mkF m 25 #[.val (.long q0), .second, .val (.int (7 : Int32)), .val (.ref b1), .val (.int (4 : Int32))] [(.int (4 : Int32)), (.int (6 : Int32)), (.int (8 : Int32)), (.long q0), (.int (4 : Int32)), (.ref b1)])) _
    refine XS.isub X5.here hx rfl (hb hby d1_25) rfl ?_
    show Steps p.tables e below (T5.setTop (mkF m 26 #[.val (.long q0), .second, .val (.int (7 : Int32)), .val (.ref b1), .val (.int (4 : Int32))] [(.int (2 : Int32)), (.int (8 : Int32)), (.long q0), (.int (4 : Int32)), (.ref b1)])) _
    refine XS.imul X5.here hx rfl (hb hby d1_26) rfl ?_
    show Steps p.tables e below (T5.setTop (mkF m 27 #[.val (.long q0), .second, .val (.int (7 : Int32)), .val (.ref b1), .val (.int (4 : Int32))] [(.int (16 : Int32)), (.long q0), (.int (4 : Int32)), (.ref b1)])) _
    refine XS.lushr X5.here hx rfl (hb hby d1_27) rfl ?_
    show Steps p.tables e below (T5.setTop (mkF m 28 #[.val (.long q0), .second, .val (.int (7 : Int32)), .val (.ref b1), .val (.int (4 : Int32))] [(.long ((q0.toUInt64 >>> ((16 : Int32) &&& 0x3f).toInt64.toUInt64).toInt64)), (.int (4 : Int32)), (.ref b1)])) _
    refine XS.l2i X5.here hx rfl (hb hby d1_28) rfl ?_
    show Steps p.tables e below (T5.setTop (mkF m 29 #[.val (.long q0), .second, .val (.int (7 : Int32)), .val (.ref b1), .val (.int (4 : Int32))] [(.int (((q0.toUInt64 >>> ((16 : Int32) &&& 0x3f).toInt64.toUInt64).toInt64).toInt32)), (.int (4 : Int32)), (.ref b1)])) _
    refine XS.i2b X5.here hx rfl (hb hby d1_29) rfl ?_
    show Steps p.tables e below (T5.setTop (mkF m 30 #[.val (.long q0), .second, .val (.int (7 : Int32)), .val (.ref b1), .val (.int (4 : Int32))] [(.int ((((q0.toUInt64 >>> ((16 : Int32) &&& 0x3f).toInt64.toUInt64).toInt64).toInt32).toInt8.toInt32)), (.int (4 : Int32)), (.ref b1)])) _
    refine st7 _ ?_
    show Steps p.tables e below (T7.setTop (mkF m 31 #[.val (.long q0), .second, .val (.int (7 : Int32)), .val (.ref b1), .val (.int (4 : Int32))] [])) _
    refine XS.iinc X7.here hx rfl (hb hby d1_31) rfl (l' := #[.val (.long q0), .second, .val (.int (7 : Int32)), .val (.ref b1), .val (.int (3 : Int32))]) rfl ?_
    show Steps p.tables e below (T7.setTop (mkF m 34 #[.val (.long q0), .second, .val (.int (7 : Int32)), .val (.ref b1), .val (.int (3 : Int32))] [])) _
    refine XS.goto X7.here hx rfl (pc0 := 34) (pc' := 9) rfl (hb hby d1_34) (by decide) (by decide) ?_
    show Steps p.tables e below (T7.setTop (mkF m 9 #[.val (.long q0), .second, .val (.int (7 : Int32)), .val (.ref b1), .val (.int (3 : Int32))] [])) _
    refine XS.iload X7.here hx rfl (hb hby d1_9) rfl ?_
    show Steps p.tables e below (T7.setTop (mkF m 11 #[.val (.long q0), .second, .val (.int (7 : Int32)), .val (.ref b1), .val (.int (3 : Int32))] [(.int (3 : Int32))])) _
    refine XS.ifNo X7.here hx rfl (hb hby d1_11) rfl ((if0 _ _).trans (flt (by decide : ¬ ((3 : Int32) < (0 : Int32)))).1) ?_
    show Steps p.tables e below (T7.setTop (mkF m 14 #[.val (.long q0), .second, .val (.int (7 : Int32)), .val (.ref b1), .val (.int (3 : Int32))] [])) _
    refine XS.aloadN X7.here hx rfl (hb hby d1_14) rfl rfl ?_
    show Steps p.tables e below (T7.setTop (mkF m 15 #[.val (.long q0), .second, .val (.int (7 : Int32)), .val (.ref b1), .val (.int (3 : Int32))] [(.ref b1)])) _
    refine XS.iload X7.here hx rfl (hb hby d1_15) rfl ?_
    show Steps p.tables e below (T7.setTop (mkF m 17 #[.val (.long q0), .second, .val (.int (7 : Int32)), .val (.ref b1), .val (.int (3 : Int32))] [(.int (3 : Int32)), (.ref b1)])) _
    refine XS.lloadN X7.here hx rfl (hb hby d1_17) rfl ?_
    show Steps p.tables e below (T7.setTop (mkF m 18 #[.val (.long q0), .second, .val (.int (7 : Int32)), .val (.ref b1), .val (.int (3 : Int32))] [(.long q0), (.int (3 : Int32)), (.ref b1)])) _
    refine XS.bipush X7.here hx rfl (hb hby d1_18) ?_
    show Steps p.tables e below (T7.setTop (mkF m 20 #[.val (.long q0), .second, .val (.int (7 : Int32)), .val (.ref b1), .val (.int (3 : Int32))] [(.int (8 : Int32)), (.long q0), (.int (3 : Int32)), (.ref b1)])) _
    refine XS.iloadN X7.here hx rfl (hb hby d1_20) rfl ?_
    show Steps p.tables e below (T7.setTop (mkF m 21 #[.val (.long q0), .second, .val (.int (7 : Int32)), .val (.ref b1), .val (.int (3 : Int32))] [(.int (7 : Int32)), (.int (8 : Int32)), (.long q0), (.int (3 : Int32)), (.ref b1)])) _
    refine XS.iconst X7.here hx rfl (hb hby d1_21) ?_
    show Steps p.tables e below (T7.setTop (mkF m 22 #[.val (.long q0), .second, .val (.int (7 : Int32)), .val (.ref b1), .val (.int (3 : Int32))] [(.int (1 : Int32)), (.int (7 : Int32)), (.int (8 : Int32)), (.long q0), (.int (3 : Int32)), (.ref b1)])) _
    refine XS.isub X7.here hx rfl (hb hby d1_22) rfl ?_
    show Steps p.tables e below (T7.setTop (mkF m 23 #[.val (.long q0), .second, .val (.int (7 : Int32)), .val (.ref b1), .val (.int (3 : Int32))] [(.int (6 : Int32)), (.int (8 : Int32)), (.long q0), (.int (3 : Int32)), (.ref b1)])) _
    refine XS.iload X7.here hx rfl (hb hby d1_23) rfl ?_
    show Steps p.tables e below (T7.setTop (mkF m 25 #[.val (.long q0), .second, .val (.int (7 : Int32)), .val (.ref b1), .val (.int (3 : Int32))] [(.int (3 : Int32)), (.int (6 : Int32)), (.int (8 : Int32)), (.long q0), (.int (3 : Int32)), (.ref b1)])) _
    refine XS.isub X7.here hx rfl (hb hby d1_25) rfl ?_
    show Steps p.tables e below (T7.setTop (mkF m 26 #[.val (.long q0), .second, .val (.int (7 : Int32)), .val (.ref b1), .val (.int (3 : Int32))] [(.int (3 : Int32)), (.int (8 : Int32)), (.long q0), (.int (3 : Int32)), (.ref b1)])) _
    refine XS.imul X7.here hx rfl (hb hby d1_26) rfl ?_
    show Steps p.tables e below (T7.setTop (mkF m 27 #[.val (.long q0), .second, .val (.int (7 : Int32)), .val (.ref b1), .val (.int (3 : Int32))] [(.int (24 : Int32)), (.long q0), (.int (3 : Int32)), (.ref b1)])) _
    refine XS.lushr X7.here hx rfl (hb hby d1_27) rfl ?_
    show Steps p.tables e below (T7.setTop (mkF m 28 #[.val (.long q0), .second, .val (.int (7 : Int32)), .val (.ref b1), .val (.int (3 : Int32))] [(.long ((q0.toUInt64 >>> ((24 : Int32) &&& 0x3f).toInt64.toUInt64).toInt64)), (.int (3 : Int32)), (.ref b1)])) _
    refine XS.l2i X7.here hx rfl (hb hby d1_28) rfl ?_
    show Steps p.tables e below (T7.setTop (mkF m 29 #[.val (.long q0), .second, .val (.int (7 : Int32)), .val (.ref b1), .val (.int (3 : Int32))] [(.int (((q0.toUInt64 >>> ((24 : Int32) &&& 0x3f).toInt64.toUInt64).toInt64).toInt32)), (.int (3 : Int32)), (.ref b1)])) _
    refine XS.i2b X7.here hx rfl (hb hby d1_29) rfl ?_
    show Steps p.tables e below (T7.setTop (mkF m 30 #[.val (.long q0), .second, .val (.int (7 : Int32)), .val (.ref b1), .val (.int (3 : Int32))] [(.int ((((q0.toUInt64 >>> ((24 : Int32) &&& 0x3f).toInt64.toUInt64).toInt64).toInt32).toInt8.toInt32)), (.int (3 : Int32)), (.ref b1)])) _
    refine st9 _ ?_
    show Steps p.tables e below (T9.setTop (mkF m 31 #[.val (.long q0), .second, .val (.int (7 : Int32)), .val (.ref b1), .val (.int (3 : Int32))] [])) _
    refine XS.iinc X9.here hx rfl (hb hby d1_31) rfl (l' := #[.val (.long q0), .second, .val (.int (7 : Int32)), .val (.ref b1), .val (.int (2 : Int32))]) rfl ?_
    show Steps p.tables e below (T9.setTop (mkF m 34 #[.val (.long q0), .second, .val (.int (7 : Int32)), .val (.ref b1), .val (.int (2 : Int32))] [])) _
    refine XS.goto X9.here hx rfl (pc0 := 34) (pc' := 9) rfl (hb hby d1_34) (by decide) (by decide) ?_
    show Steps p.tables e below (T9.setTop (mkF m 9 #[.val (.long q0), .second, .val (.int (7 : Int32)), .val (.ref b1), .val (.int (2 : Int32))] [])) _
    refine XS.iload X9.here hx rfl (hb hby d1_9) rfl ?_
    show Steps p.tables e below (T9.setTop (mkF m 11 #[.val (.long q0), .second, .val (.int (7 : Int32)), .val (.ref b1), .val (.int (2 : Int32))] [(.int (2 : Int32))])) _
    refine XS.ifNo X9.here hx rfl (hb hby d1_11) rfl ((if0 _ _).trans (flt (by decide : ¬ ((2 : Int32) < (0 : Int32)))).1) ?_
    show Steps p.tables e below (T9.setTop (mkF m 14 #[.val (.long q0), .second, .val (.int (7 : Int32)), .val (.ref b1), .val (.int (2 : Int32))] [])) _
    refine XS.aloadN X9.here hx rfl (hb hby d1_14) rfl rfl ?_
    show Steps p.tables e below (T9.setTop (mkF m 15 #[.val (.long q0), .second, .val (.int (7 : Int32)), .val (.ref b1), .val (.int (2 : Int32))] [(.ref b1)])) _
    refine XS.iload X9.here hx rfl (hb hby d1_15) rfl ?_
    show Steps p.tables e below (T9.setTop (mkF m 17 #[.val (.long q0), .second, .val (.int (7 : Int32)), .val (.ref b1), .val (.int (2 : Int32))] [(.int (2 : Int32)), (.ref b1)])) _
    refine XS.lloadN X9.here hx rfl (hb hby d1_17) rfl ?_
    show Steps p.tables e below (T9.setTop (mkF m 18 #[.val (.long q0), .second, .val (.int (7 : Int32)), .val (.ref b1), .val (.int (2 : Int32))] [(.long q0), (.int (2 : Int32)), (.ref b1)])) _
    refine XS.bipush X9.here hx rfl (hb hby d1_18) ?_
    show Steps p.tables e below (T9.setTop (mkF m 20 #[.val (.long q0), .second, .val (.int (7 : Int32)), .val (.ref b1), .val (.int (2 : Int32))] [(.int (8 : Int32)), (.long q0), (.int (2 : Int32)), (.ref b1)])) _
    refine XS.iloadN X9.here hx rfl (hb hby d1_20) rfl ?_
    show Steps p.tables e below (T9.setTop (mkF m 21 #[.val (.long q0), .second, .val (.int (7 : Int32)), .val (.ref b1), .val (.int (2 : Int32))] [(.int (7 : Int32)), (.int (8 : Int32)), (.long q0), (.int (2 : Int32)), (.ref b1)])) _
    refine XS.iconst X9.here hx rfl (hb hby d1_21) ?_
    show Steps p.tables e below (T9.setTop (mkF m 22 #[.val (.long q0), .second, .val (.int (7 : Int32)), .val (.ref b1), .val (.int (2 : Int32))] [(.int (1 : Int32)), (.int (7 : Int32)), (.int (8 : Int32)), (.long q0), (.int (2 : Int32)), (.ref b1)])) _
    refine XS.isub X9.here hx rfl (hb hby d1_22) rfl ?_
    show Steps p.tables e below (T9.setTop (mkF m 23 #[.val (.long q0), .second, .val (.int (7 : Int32)), .val (.ref b1), .val (.int (2 : Int32))] [(.int (6 : Int32)), (.int (8 : Int32)), (.long q0), (.int (2 : Int32)), (.ref b1)])) _
    refine XS.iload X9.here hx rfl (hb hby d1_23) rfl ?_
    show Steps p.tables e below (T9.setTop (mkF m 25 #[.val (.long q0), .second, .val (.int (7 : Int32)), .val (.ref b1), .val (.int (2 : Int32))] [(.int (2 : Int32)), (.int (6 : Int32)), (.int (8 : Int32)), (.long q0), (.int (2 : Int32)), (.ref b1)])) _
    refine XS.isub X9.here hx rfl (hb hby d1_25) rfl ?_
    show Steps p.tables e below (T9.setTop (mkF m 26 #[.val (.long q0), .second, .val (.int (7 : Int32)), .val (.ref b1), .val (.int (2 : Int32))] [(.int (4 : Int32)), (.int (8 : Int32)), (.long q0), (.int (2 : Int32)), (.ref b1)])) _
    refine XS.imul X9.here hx rfl (hb hby d1_26) rfl ?_
    show Steps p.tables e below (T9.setTop (mkF m 27 #[.val (.long q0), .second, .val (.int (7 : Int32)), .val (.ref b1), .val (.int (2 : Int32))] [(.int (32 : Int32)), (.long q0), (.int (2 : Int32)), (.ref b1)])) _
    refine XS.lushr X9.here hx rfl (hb hby d1_27) rfl ?_
    show Steps p.tables e below (T9.setTop (mkF m 28 #[.val (.long q0), .second, .val (.int (7 : Int32)), .val (.ref b1), .val (.int (2 : Int32))] [(.long ((q0.toUInt64 >>> ((32 : Int32) &&& 0x3f).toInt64.toUInt64).toInt64)), (.int (2 : Int32)), (.ref b1)])) _
    refine XS.l2i X9.here hx rfl (hb hby d1_28) rfl ?_
    show Steps p.tables e below (T9.setTop (mkF m 29 #[.val (.long q0), .second, .val (.int (7 : Int32)), .val (.ref b1), .val (.int (2 : Int32))] [(.int (((q0.toUInt64 >>> ((32 : Int32) &&& 0x3f).toInt64.toUInt64).toInt64).toInt32)), (.int (2 : Int32)), (.ref b1)])) _
    refine XS.i2b X9.here hx rfl (hb hby d1_29) rfl ?_
    show Steps p.tables e below (T9.setTop (mkF m 30 #[.val (.long q0), .second, .val (.int (7 : Int32)), .val (.ref b1), .val (.int (2 : Int32))] [(.int ((((q0.toUInt64 >>> ((32 : Int32) &&& 0x3f).toInt64.toUInt64).toInt64).toInt32).toInt8.toInt32)), (.int (2 : Int32)), (.ref b1)])) _
    refine st11 _ ?_
    show Steps p.tables e below (T11.setTop (mkF m 31 #[.val (.long q0), .second, .val (.int (7 : Int32)), .val (.ref b1), .val (.int (2 : Int32))] [])) _
    refine XS.iinc X11.here hx rfl (hb hby d1_31) rfl (l' := #[.val (.long q0), .second, .val (.int (7 : Int32)), .val (.ref b1), .val (.int (1 : Int32))]) rfl ?_
    show Steps p.tables e below (T11.setTop (mkF m 34 #[.val (.long q0), .second, .val (.int (7 : Int32)), .val (.ref b1), .val (.int (1 : Int32))] [])) _
    refine XS.goto X11.here hx rfl (pc0 := 34) (pc' := 9) rfl (hb hby d1_34) (by decide) (by decide) ?_
    show Steps p.tables e below (T11.setTop (mkF m 9 #[.val (.long q0), .second, .val (.int (7 : Int32)), .val (.ref b1), .val (.int (1 : Int32))] [])) _
    refine XS.iload X11.here hx rfl (hb hby d1_9) rfl ?_
    show Steps p.tables e below (T11.setTop (mkF m 11 #[.val (.long q0), .second, .val (.int (7 : Int32)), .val (.ref b1), .val (.int (1 : Int32))] [(.int (1 : Int32))])) _
    refine XS.ifNo X11.here hx rfl (hb hby d1_11) rfl ((if0 _ _).trans (flt (by decide : ¬ ((1 : Int32) < (0 : Int32)))).1) ?_
    show Steps p.tables e below (T11.setTop (mkF m 14 #[.val (.long q0), .second, .val (.int (7 : Int32)), .val (.ref b1), .val (.int (1 : Int32))] [])) _
    refine XS.aloadN X11.here hx rfl (hb hby d1_14) rfl rfl ?_
    show Steps p.tables e below (T11.setTop (mkF m 15 #[.val (.long q0), .second, .val (.int (7 : Int32)), .val (.ref b1), .val (.int (1 : Int32))] [(.ref b1)])) _
    refine XS.iload X11.here hx rfl (hb hby d1_15) rfl ?_
    show Steps p.tables e below (T11.setTop (mkF m 17 #[.val (.long q0), .second, .val (.int (7 : Int32)), .val (.ref b1), .val (.int (1 : Int32))] [(.int (1 : Int32)), (.ref b1)])) _
    refine XS.lloadN X11.here hx rfl (hb hby d1_17) rfl ?_
    show Steps p.tables e below (T11.setTop (mkF m 18 #[.val (.long q0), .second, .val (.int (7 : Int32)), .val (.ref b1), .val (.int (1 : Int32))] [(.long q0), (.int (1 : Int32)), (.ref b1)])) _
    refine XS.bipush X11.here hx rfl (hb hby d1_18) ?_
    show Steps p.tables e below (T11.setTop (mkF m 20 #[.val (.long q0), .second, .val (.int (7 : Int32)), .val (.ref b1), .val (.int (1 : Int32))] [(.int (8 : Int32)), (.long q0), (.int (1 : Int32)), (.ref b1)])) _
    refine XS.iloadN X11.here hx rfl (hb hby d1_20) rfl ?_
    show Steps p.tables e below (T11.setTop (mkF m 21 #[.val (.long q0), .second, .val (.int (7 : Int32)), .val (.ref b1), .val (.int (1 : Int32))] [(.int (7 : Int32)), (.int (8 : Int32)), (.long q0), (.int (1 : Int32)), (.ref b1)])) _
    refine XS.iconst X11.here hx rfl (hb hby d1_21) ?_
    show Steps p.tables e below (T11.setTop (mkF m 22 #[.val (.long q0), .second, .val (.int (7 : Int32)), .val (.ref b1), .val (.int (1 : Int32))] [(.int (1 : Int32)), (.int (7 : Int32)), (.int (8 : Int32)), (.long q0), (.int (1 : Int32)), (.ref b1)])) _
    refine XS.isub X11.here hx rfl (hb hby d1_22) rfl ?_
    show Steps p.tables e below (T11.setTop (mkF m 23 #[.val (.long q0), .second, .val (.int (7 : Int32)), .val (.ref b1), .val (.int (1 : Int32))] [(.int (6 : Int32)), (.int (8 : Int32)), (.long q0), (.int (1 : Int32)), (.ref b1)])) _
    refine XS.iload X11.here hx rfl (hb hby d1_23) rfl ?_
    show Steps p.tables e below (T11.setTop (mkF m 25 #[.val (.long q0), .second, .val (.int (7 : Int32)), .val (.ref b1), .val (.int (1 : Int32))] [(.int (1 : Int32)), (.int (6 : Int32)), (.int (8 : Int32)), (.long q0), (.int (1 : Int32)), (.ref b1)])) _
    refine XS.isub X11.here hx rfl (hb hby d1_25) rfl ?_
    show Steps p.tables e below (T11.setTop (mkF m 26 #[.val (.long q0), .second, .val (.int (7 : Int32)), .val (.ref b1), .val (.int (1 : Int32))] [(.int (5 : Int32)), (.int (8 : Int32)), (.long q0), (.int (1 : Int32)), (.ref b1)])) _
    refine XS.imul X11.here hx rfl (hb hby d1_26) rfl ?_
    show Steps p.tables e below (T11.setTop (mkF m 27 #[.val (.long q0), .second, .val (.int (7 : Int32)), .val (.ref b1), .val (.int (1 : Int32))] [(.int (40 : Int32)), (.long q0), (.int (1 : Int32)), (.ref b1)])) _
    refine XS.lushr X11.here hx rfl (hb hby d1_27) rfl ?_
    show Steps p.tables e below (T11.setTop (mkF m 28 #[.val (.long q0), .second, .val (.int (7 : Int32)), .val (.ref b1), .val (.int (1 : Int32))] [(.long ((q0.toUInt64 >>> ((40 : Int32) &&& 0x3f).toInt64.toUInt64).toInt64)), (.int (1 : Int32)), (.ref b1)])) _
    refine XS.l2i X11.here hx rfl (hb hby d1_28) rfl ?_
    show Steps p.tables e below (T11.setTop (mkF m 29 #[.val (.long q0), .second, .val (.int (7 : Int32)), .val (.ref b1), .val (.int (1 : Int32))] [(.int (((q0.toUInt64 >>> ((40 : Int32) &&& 0x3f).toInt64.toUInt64).toInt64).toInt32)), (.int (1 : Int32)), (.ref b1)])) _
    refine XS.i2b X11.here hx rfl (hb hby d1_29) rfl ?_
    show Steps p.tables e below (T11.setTop (mkF m 30 #[.val (.long q0), .second, .val (.int (7 : Int32)), .val (.ref b1), .val (.int (1 : Int32))] [(.int ((((q0.toUInt64 >>> ((40 : Int32) &&& 0x3f).toInt64.toUInt64).toInt64).toInt32).toInt8.toInt32)), (.int (1 : Int32)), (.ref b1)])) _
    refine st13 _ ?_
    show Steps p.tables e below (T13.setTop (mkF m 31 #[.val (.long q0), .second, .val (.int (7 : Int32)), .val (.ref b1), .val (.int (1 : Int32))] [])) _
    refine XS.iinc X13.here hx rfl (hb hby d1_31) rfl (l' := #[.val (.long q0), .second, .val (.int (7 : Int32)), .val (.ref b1), .val (.int (0 : Int32))]) rfl ?_
    show Steps p.tables e below (T13.setTop (mkF m 34 #[.val (.long q0), .second, .val (.int (7 : Int32)), .val (.ref b1), .val (.int (0 : Int32))] [])) _
    refine XS.goto X13.here hx rfl (pc0 := 34) (pc' := 9) rfl (hb hby d1_34) (by decide) (by decide) ?_
    show Steps p.tables e below (T13.setTop (mkF m 9 #[.val (.long q0), .second, .val (.int (7 : Int32)), .val (.ref b1), .val (.int (0 : Int32))] [])) _
    refine XS.iload X13.here hx rfl (hb hby d1_9) rfl ?_
    show Steps p.tables e below (T13.setTop (mkF m 11 #[.val (.long q0), .second, .val (.int (7 : Int32)), .val (.ref b1), .val (.int (0 : Int32))] [(.int (0 : Int32))])) _
    refine XS.ifNo X13.here hx rfl (hb hby d1_11) rfl ((if0 _ _).trans (flt (by decide : ¬ ((0 : Int32) < (0 : Int32)))).1) ?_
    show Steps p.tables e below (T13.setTop (mkF m 14 #[.val (.long q0), .second, .val (.int (7 : Int32)), .val (.ref b1), .val (.int (0 : Int32))] [])) _
    refine XS.aloadN X13.here hx rfl (hb hby d1_14) rfl rfl ?_
    show Steps p.tables e below (T13.setTop (mkF m 15 #[.val (.long q0), .second, .val (.int (7 : Int32)), .val (.ref b1), .val (.int (0 : Int32))] [(.ref b1)])) _
    refine XS.iload X13.here hx rfl (hb hby d1_15) rfl ?_
    show Steps p.tables e below (T13.setTop (mkF m 17 #[.val (.long q0), .second, .val (.int (7 : Int32)), .val (.ref b1), .val (.int (0 : Int32))] [(.int (0 : Int32)), (.ref b1)])) _
    refine XS.lloadN X13.here hx rfl (hb hby d1_17) rfl ?_
    show Steps p.tables e below (T13.setTop (mkF m 18 #[.val (.long q0), .second, .val (.int (7 : Int32)), .val (.ref b1), .val (.int (0 : Int32))] [(.long q0), (.int (0 : Int32)), (.ref b1)])) _
    refine XS.bipush X13.here hx rfl (hb hby d1_18) ?_
    show Steps p.tables e below (T13.setTop (mkF m 20 #[.val (.long q0), .second, .val (.int (7 : Int32)), .val (.ref b1), .val (.int (0 : Int32))] [(.int (8 : Int32)), (.long q0), (.int (0 : Int32)), (.ref b1)])) _
    refine XS.iloadN X13.here hx rfl (hb hby d1_20) rfl ?_
    show Steps p.tables e below (T13.setTop (mkF m 21 #[.val (.long q0), .second, .val (.int (7 : Int32)), .val (.ref b1), .val (.int (0 : Int32))] [(.int (7 : Int32)), (.int (8 : Int32)), (.long q0), (.int (0 : Int32)), (.ref b1)])) _
    refine XS.iconst X13.here hx rfl (hb hby d1_21) ?_
    show Steps p.tables e below (T13.setTop (mkF m 22 #[.val (.long q0), .second, .val (.int (7 : Int32)), .val (.ref b1), .val (.int (0 : Int32))] [(.int (1 : Int32)), (.int (7 : Int32)), (.int (8 : Int32)), (.long q0), (.int (0 : Int32)), (.ref b1)])) _
    refine XS.isub X13.here hx rfl (hb hby d1_22) rfl ?_
    show Steps p.tables e below (T13.setTop (mkF m 23 #[.val (.long q0), .second, .val (.int (7 : Int32)), .val (.ref b1), .val (.int (0 : Int32))] [(.int (6 : Int32)), (.int (8 : Int32)), (.long q0), (.int (0 : Int32)), (.ref b1)])) _
    refine XS.iload X13.here hx rfl (hb hby d1_23) rfl ?_
    show Steps p.tables e below (T13.setTop (mkF m 25 #[.val (.long q0), .second, .val (.int (7 : Int32)), .val (.ref b1), .val (.int (0 : Int32))] [(.int (0 : Int32)), (.int (6 : Int32)), (.int (8 : Int32)), (.long q0), (.int (0 : Int32)), (.ref b1)])) _
    refine XS.isub X13.here hx rfl (hb hby d1_25) rfl ?_
    show Steps p.tables e below (T13.setTop (mkF m 26 #[.val (.long q0), .second, .val (.int (7 : Int32)), .val (.ref b1), .val (.int (0 : Int32))] [(.int (6 : Int32)), (.int (8 : Int32)), (.long q0), (.int (0 : Int32)), (.ref b1)])) _
    refine XS.imul X13.here hx rfl (hb hby d1_26) rfl ?_
    show Steps p.tables e below (T13.setTop (mkF m 27 #[.val (.long q0), .second, .val (.int (7 : Int32)), .val (.ref b1), .val (.int (0 : Int32))] [(.int (48 : Int32)), (.long q0), (.int (0 : Int32)), (.ref b1)])) _
    refine XS.lushr X13.here hx rfl (hb hby d1_27) rfl ?_
    show Steps p.tables e below (T13.setTop (mkF m 28 #[.val (.long q0), .second, .val (.int (7 : Int32)), .val (.ref b1), .val (.int (0 : Int32))] [(.long ((q0.toUInt64 >>> ((48 : Int32) &&& 0x3f).toInt64.toUInt64).toInt64)), (.int (0 : Int32)), (.ref b1)])) _
    refine XS.l2i X13.here hx rfl (hb hby d1_28) rfl ?_
    show Steps p.tables e below (T13.setTop (mkF m 29 #[.val (.long q0), .second, .val (.int (7 : Int32)), .val (.ref b1), .val (.int (0 : Int32))] [(.int (((q0.toUInt64 >>> ((48 : Int32) &&& 0x3f).toInt64.toUInt64).toInt64).toInt32)), (.int (0 : Int32)), (.ref b1)])) _
    refine XS.i2b X13.here hx rfl (hb hby d1_29) rfl ?_
    show Steps p.tables e below (T13.setTop (mkF m 30 #[.val (.long q0), .second, .val (.int (7 : Int32)), .val (.ref b1), .val (.int (0 : Int32))] [(.int ((((q0.toUInt64 >>> ((48 : Int32) &&& 0x3f).toInt64.toUInt64).toInt64).toInt32).toInt8.toInt32)), (.int (0 : Int32)), (.ref b1)])) _
    refine st15 _ ?_
    show Steps p.tables e below (T15.setTop (mkF m 31 #[.val (.long q0), .second, .val (.int (7 : Int32)), .val (.ref b1), .val (.int (0 : Int32))] [])) _
    refine XS.iinc X15.here hx rfl (hb hby d1_31) rfl (l' := #[.val (.long q0), .second, .val (.int (7 : Int32)), .val (.ref b1), .val (.int (-1 : Int32))]) rfl ?_
    show Steps p.tables e below (T15.setTop (mkF m 34 #[.val (.long q0), .second, .val (.int (7 : Int32)), .val (.ref b1), .val (.int (-1 : Int32))] [])) _
    refine XS.goto X15.here hx rfl (pc0 := 34) (pc' := 9) rfl (hb hby d1_34) (by decide) (by decide) ?_
    show Steps p.tables e below (T15.setTop (mkF m 9 #[.val (.long q0), .second, .val (.int (7 : Int32)), .val (.ref b1), .val (.int (-1 : Int32))] [])) _
    refine XS.iload X15.here hx rfl (hb hby d1_9) rfl ?_
    show Steps p.tables e below (T15.setTop (mkF m 11 #[.val (.long q0), .second, .val (.int (7 : Int32)), .val (.ref b1), .val (.int (-1 : Int32))] [(.int (-1 : Int32))])) _
    refine XS.ifYes X15.here hx rfl (pc0 := 11) (pc' := 37) rfl (hb hby d1_11) rfl ((if0 _ _).trans (tlt (by decide : (-1 : Int32) < (0 : Int32))).1) (by decide) (by decide) ?_
    show Steps p.tables e below (T15.setTop (mkF m 37 #[.val (.long q0), .second, .val (.int (7 : Int32)), .val (.ref b1), .val (.int (-1 : Int32))] [])) _
    refine XS.aloadN X15.here hx rfl (hb hby d1_37) rfl rfl ?_
    show Steps p.tables e below (T15.setTop (mkF m 38 #[.val (.long q0), .second, .val (.int (7 : Int32)), .val (.ref b1), .val (.int (-1 : Int32))] [(.ref b1)])) _
    exact retOut X15 hx Bd.returns rfl (Or.inr (Or.inr (Or.inr (Or.inr ⟨rfl, rfl, rfl⟩)))) (hb hby d1_38) hr
  · show Qb7 Z q0 h0 n0 _ T15.heap _
    rw [e15]
    exact ⟨_, _, rfl, N15, K15, V15⟩
theorem ef_rmb8 (m : MethodId) (q0 : Int64) : entryFrame m #[(.long q0), (.int (8 : Int32))] 5 = mkF m 0 #[.val (.long q0), .second, .val (.int (8 : Int32)), .unset, .unset] [] := by first | (simp [entryFrame, mkF, argsToLocals, Value.category]; done) | rfl
def Qb8 (Z : State) (q0 : Int64) (h0 : Heap) (n0 : Nat) (v : Option Value) (h : Heap) (L : List Loc) : Prop := ∃ (b : Addr) (k : ClassId), v = some (.ref b) ∧ Fr n0 L ∧ Keep h0 h [] ∧ Arv Z h b k .byte (8 : Int32) [(.int (own_byte q0 (56 : Int32))), (.int (own_byte q0 (48 : Int32))), (.int (own_byte q0 (40 : Int32))), (.int (own_byte q0 (32 : Int32))), (.int (own_byte q0 (24 : Int32))), (.int (own_byte q0 (16 : Int32))), (.int (own_byte q0 (8 : Int32))), (.int (own_byte q0 (0 : Int32)))] (.int (0 : Int32))
set_option maxRecDepth 65536 in
set_option maxHeartbeats 40000000 in
theorem rmb8 (l : Launch) (Z : State) (a0 : Array Value) (hw : ∀ d ∈ tables_1, d.before a0 Z = true) (ws : List Jvm.Cond) (q0 : Int64) (h0 : Heap) (n0 : Nat) (Z0 : n0 ≤ h0.size) :
    MetFree l (⟨"shale/ValueType", "bigEndian", "(JI)[B"⟩ : MethodName) (head1 (Jvm.Cond.code (⟨"shale/ValueType", "bigEndian", "(JI)[B"⟩ : MethodName) prog_227_method_42_code 5 (some (.array .byte)) :: ws) ({ frames := 0, cells := 1, slots := 8, locals := 0 } : Room)) (fun a U => a = #[(.long q0), (.int (8 : Int32))] ∧ Z.Warmed39 U.vm ∧ U.heap = h0) (fun _ _ _ _ _ => True) (fun _ U o U' => ∃ v L, o = .returned v ∧ Qb8 Z q0 h0 n0 v U'.heap L ∧ FrameEnd U o U' L ({ frames := 0, cells := 1, slots := 8, locals := 0 } : Room).cells ({ frames := 0, cells := 1, slots := 8, locals := 0 } : Room).slots) := by
  refine MetFree.of_bodySF (plainFor_of_name pn_0) hisR ?_
  intro p e s m args below meth c s₁ Bd hml0 hP hK
  obtain ⟨rfl, hZ, hh⟩ := hP
  have hx := Bd.exec
  have hby := Bd.bytes
  have hml : c.maxLocals = 5 := hml0
  have hown : s.vm.findClass "shale/ValueType" = some m.cls := findClass_of_methodNamed Bd.named
  have hnm := (name_of_methodNamed Bd.named Bd.method).1
  have X0 : Stand p l e ({ frames := 0, cells := 1, slots := 8, locals := 0 } : Room) s m #[(.long q0), (.int (8 : Int32))] below meth c s₁ [] 0 0 := Stand.of_body Bd
  have e0 : s₁.heap = h0 := by rw [← hh, Bd.state]; rfl
  have N0 := Fr.nil n0
  have pre0 : ∀ t, Steps p.tables e below (s₁.setTop (mkF m 0 #[.val (.long q0), .second, .val (.int (8 : Int32)), .unset, .unset] [])) t → Steps p.tables e below (s₁.setTop (entryFrame m #[(.long q0), (.int (8 : Int32))] 5)) t := fun t k => castTop (ef_rmb8 m q0) k
  obtain ⟨T1, h1, k1, X1, e1, E1, A1, st1⟩ := newP X0 hx hZ (hw _ (List.mem_of_getElem? (i := 5) rfl)) e0 (g := (mkF m 1 #[.val (.long q0), .second, .val (.int (8 : Int32)), .unset, .unset] [(.int (8 : Int32))])) rfl (hb hby d1_1) rfl (by decide) (cap := 8) (by decide) (by decide) (by decide) (by decide)
  obtain ⟨b1, g1⟩ : ∃ z, z = h0.size := ⟨_, rfl⟩
  rw [← g1] at A1 st1
  have gn1 : n0 ≤ b1 := Nat.le_trans Z0 (Nat.le_of_eq g1.symm)
  have sz1 : h0.size ≤ b1 := Nat.le_trans (Keep.refl h0 []).1 (Nat.le_of_eq g1.symm)
  have Z2 : n0 ≤ h1.size := Nat.le_trans Z0 E1.1
  have K1 : Keep h0 h1 [] := (Keep.refl h0 []).ext E1
  have V1 : Arv Z h1 b1 k1 .byte (8 : Int32) [(.int (0 : Int32)), (.int (0 : Int32)), (.int (0 : Int32)), (.int (0 : Int32)), (.int (0 : Int32)), (.int (0 : Int32)), (.int (0 : Int32)), (.int (0 : Int32))] (.int (0 : Int32)) := (Arv.new A1 (by decide)).pad (pad_rep [] (.int (0 : Int32)) 8)
  obtain ⟨cl3, Ar3, qa3, Sa3, Na3, Ha3, Ga3⟩ := V1
  have hin3 : ¬ ((7 : Int32) < 0 ∨ cl3.slots.size ≤ (7 : Int32).toNatClampNeg) := inb_of Sa3 ⟨by decide, by decide⟩
  obtain ⟨T3, h3, X3, e3, W3, st3⟩ := stB X1 hx hZ e1 Ar3 (j := (7 : Int32)) hin3 (g := (mkF m 30 #[.val (.long q0), .second, .val (.int (8 : Int32)), .val (.ref b1), .val (.int (7 : Int32))] [(.int ((((q0.toUInt64 >>> ((0 : Int32) &&& 0x3f).toInt64.toUInt64).toInt64).toInt32).toInt8.toInt32)), (.int (7 : Int32)), (.ref b1)])) rfl rfl (hb hby d1_30)
  have Z4 : n0 ≤ h3.size := Nat.le_trans Z2 (Keep.of_wr W3).1
  have V3 : Arv Z h3 b1 k1 .byte (8 : Int32) [(.int (0 : Int32)), (.int (0 : Int32)), (.int (0 : Int32)), (.int (0 : Int32)), (.int (0 : Int32)), (.int (0 : Int32)), (.int (0 : Int32)), (.int (own_byte q0 (0 : Int32)))] (.int (0 : Int32)) := Arv.set Ar3 qa3 Sa3 Na3 Ha3 Ga3 (fits_nar_byte _) W3 7 rfl (Nat.le_of_ble_eq_true rfl)
  have K3 : Keep h0 h3 [] := K1.wr W3 (Or.inr sz1)
  have N3 := Fr.snoc X3 N0 gn1
  obtain ⟨cl5, Ar5, qa5, Sa5, Na5, Ha5, Ga5⟩ := V3
  have hin5 : ¬ ((6 : Int32) < 0 ∨ cl5.slots.size ≤ (6 : Int32).toNatClampNeg) := inb_of Sa5 ⟨by decide, by decide⟩
  obtain ⟨T5, h5, X5, e5, W5, st5⟩ := stB X3 hx hZ e3 Ar5 (j := (6 : Int32)) hin5 (g := (mkF m 30 #[.val (.long q0), .second, .val (.int (8 : Int32)), .val (.ref b1), .val (.int (6 : Int32))] [(.int ((((q0.toUInt64 >>> ((8 : Int32) &&& 0x3f).toInt64.toUInt64).toInt64).toInt32).toInt8.toInt32)), (.int (6 : Int32)), (.ref b1)])) rfl rfl (hb hby d1_30)
  have Z6 : n0 ≤ h5.size := Nat.le_trans Z4 (Keep.of_wr W5).1
  have V5 : Arv Z h5 b1 k1 .byte (8 : Int32) [(.int (0 : Int32)), (.int (0 : Int32)), (.int (0 : Int32)), (.int (0 : Int32)), (.int (0 : Int32)), (.int (0 : Int32)), (.int (own_byte q0 (8 : Int32))), (.int (own_byte q0 (0 : Int32)))] (.int (0 : Int32)) := Arv.set Ar5 qa5 Sa5 Na5 Ha5 Ga5 (fits_nar_byte _) W5 6 rfl (Nat.le_of_ble_eq_true rfl)
  have K5 : Keep h0 h5 [] := K3.wr W5 (Or.inr sz1)
  have N5 := Fr.snoc X5 N3 gn1
  obtain ⟨cl7, Ar7, qa7, Sa7, Na7, Ha7, Ga7⟩ := V5
  have hin7 : ¬ ((5 : Int32) < 0 ∨ cl7.slots.size ≤ (5 : Int32).toNatClampNeg) := inb_of Sa7 ⟨by decide, by decide⟩
  obtain ⟨T7, h7, X7, e7, W7, st7⟩ := stB X5 hx hZ e5 Ar7 (j := (5 : Int32)) hin7 (g := (mkF m 30 #[.val (.long q0), .second, .val (.int (8 : Int32)), .val (.ref b1), .val (.int (5 : Int32))] [(.int ((((q0.toUInt64 >>> ((16 : Int32) &&& 0x3f).toInt64.toUInt64).toInt64).toInt32).toInt8.toInt32)), (.int (5 : Int32)), (.ref b1)])) rfl rfl (hb hby d1_30)
  have Z8 : n0 ≤ h7.size := Nat.le_trans Z6 (Keep.of_wr W7).1
  have V7 : Arv Z h7 b1 k1 .byte (8 : Int32) [(.int (0 : Int32)), (.int (0 : Int32)), (.int (0 : Int32)), (.int (0 : Int32)), (.int (0 : Int32)), (.int (own_byte q0 (16 : Int32))), (.int (own_byte q0 (8 : Int32))), (.int (own_byte q0 (0 : Int32)))] (.int (0 : Int32)) := Arv.set Ar7 qa7 Sa7 Na7 Ha7 Ga7 (fits_nar_byte _) W7 5 rfl (Nat.le_of_ble_eq_true rfl)
  have K7 : Keep h0 h7 [] := K5.wr W7 (Or.inr sz1)
  have N7 := Fr.snoc X7 N5 gn1
  obtain ⟨cl9, Ar9, qa9, Sa9, Na9, Ha9, Ga9⟩ := V7
  have hin9 : ¬ ((4 : Int32) < 0 ∨ cl9.slots.size ≤ (4 : Int32).toNatClampNeg) := inb_of Sa9 ⟨by decide, by decide⟩
  obtain ⟨T9, h9, X9, e9, W9, st9⟩ := stB X7 hx hZ e7 Ar9 (j := (4 : Int32)) hin9 (g := (mkF m 30 #[.val (.long q0), .second, .val (.int (8 : Int32)), .val (.ref b1), .val (.int (4 : Int32))] [(.int ((((q0.toUInt64 >>> ((24 : Int32) &&& 0x3f).toInt64.toUInt64).toInt64).toInt32).toInt8.toInt32)), (.int (4 : Int32)), (.ref b1)])) rfl rfl (hb hby d1_30)
  have Z10 : n0 ≤ h9.size := Nat.le_trans Z8 (Keep.of_wr W9).1
  have V9 : Arv Z h9 b1 k1 .byte (8 : Int32) [(.int (0 : Int32)), (.int (0 : Int32)), (.int (0 : Int32)), (.int (0 : Int32)), (.int (own_byte q0 (24 : Int32))), (.int (own_byte q0 (16 : Int32))), (.int (own_byte q0 (8 : Int32))), (.int (own_byte q0 (0 : Int32)))] (.int (0 : Int32)) := Arv.set Ar9 qa9 Sa9 Na9 Ha9 Ga9 (fits_nar_byte _) W9 4 rfl (Nat.le_of_ble_eq_true rfl)
  have K9 : Keep h0 h9 [] := K7.wr W9 (Or.inr sz1)
  have N9 := Fr.snoc X9 N7 gn1
  obtain ⟨cl11, Ar11, qa11, Sa11, Na11, Ha11, Ga11⟩ := V9
  have hin11 : ¬ ((3 : Int32) < 0 ∨ cl11.slots.size ≤ (3 : Int32).toNatClampNeg) := inb_of Sa11 ⟨by decide, by decide⟩
  obtain ⟨T11, h11, X11, e11, W11, st11⟩ := stB X9 hx hZ e9 Ar11 (j := (3 : Int32)) hin11 (g := (mkF m 30 #[.val (.long q0), .second, .val (.int (8 : Int32)), .val (.ref b1), .val (.int (3 : Int32))] [(.int ((((q0.toUInt64 >>> ((32 : Int32) &&& 0x3f).toInt64.toUInt64).toInt64).toInt32).toInt8.toInt32)), (.int (3 : Int32)), (.ref b1)])) rfl rfl (hb hby d1_30)
  have Z12 : n0 ≤ h11.size := Nat.le_trans Z10 (Keep.of_wr W11).1
  have V11 : Arv Z h11 b1 k1 .byte (8 : Int32) [(.int (0 : Int32)), (.int (0 : Int32)), (.int (0 : Int32)), (.int (own_byte q0 (32 : Int32))), (.int (own_byte q0 (24 : Int32))), (.int (own_byte q0 (16 : Int32))), (.int (own_byte q0 (8 : Int32))), (.int (own_byte q0 (0 : Int32)))] (.int (0 : Int32)) := Arv.set Ar11 qa11 Sa11 Na11 Ha11 Ga11 (fits_nar_byte _) W11 3 rfl (Nat.le_of_ble_eq_true rfl)
  have K11 : Keep h0 h11 [] := K9.wr W11 (Or.inr sz1)
  have N11 := Fr.snoc X11 N9 gn1
  obtain ⟨cl13, Ar13, qa13, Sa13, Na13, Ha13, Ga13⟩ := V11
  have hin13 : ¬ ((2 : Int32) < 0 ∨ cl13.slots.size ≤ (2 : Int32).toNatClampNeg) := inb_of Sa13 ⟨by decide, by decide⟩
  obtain ⟨T13, h13, X13, e13, W13, st13⟩ := stB X11 hx hZ e11 Ar13 (j := (2 : Int32)) hin13 (g := (mkF m 30 #[.val (.long q0), .second, .val (.int (8 : Int32)), .val (.ref b1), .val (.int (2 : Int32))] [(.int ((((q0.toUInt64 >>> ((40 : Int32) &&& 0x3f).toInt64.toUInt64).toInt64).toInt32).toInt8.toInt32)), (.int (2 : Int32)), (.ref b1)])) rfl rfl (hb hby d1_30)
  have Z14 : n0 ≤ h13.size := Nat.le_trans Z12 (Keep.of_wr W13).1
  have V13 : Arv Z h13 b1 k1 .byte (8 : Int32) [(.int (0 : Int32)), (.int (0 : Int32)), (.int (own_byte q0 (40 : Int32))), (.int (own_byte q0 (32 : Int32))), (.int (own_byte q0 (24 : Int32))), (.int (own_byte q0 (16 : Int32))), (.int (own_byte q0 (8 : Int32))), (.int (own_byte q0 (0 : Int32)))] (.int (0 : Int32)) := Arv.set Ar13 qa13 Sa13 Na13 Ha13 Ga13 (fits_nar_byte _) W13 2 rfl (Nat.le_of_ble_eq_true rfl)
  have K13 : Keep h0 h13 [] := K11.wr W13 (Or.inr sz1)
  have N13 := Fr.snoc X13 N11 gn1
  obtain ⟨cl15, Ar15, qa15, Sa15, Na15, Ha15, Ga15⟩ := V13
  have hin15 : ¬ ((1 : Int32) < 0 ∨ cl15.slots.size ≤ (1 : Int32).toNatClampNeg) := inb_of Sa15 ⟨by decide, by decide⟩
  obtain ⟨T15, h15, X15, e15, W15, st15⟩ := stB X13 hx hZ e13 Ar15 (j := (1 : Int32)) hin15 (g := (mkF m 30 #[.val (.long q0), .second, .val (.int (8 : Int32)), .val (.ref b1), .val (.int (1 : Int32))] [(.int ((((q0.toUInt64 >>> ((48 : Int32) &&& 0x3f).toInt64.toUInt64).toInt64).toInt32).toInt8.toInt32)), (.int (1 : Int32)), (.ref b1)])) rfl rfl (hb hby d1_30)
  have Z16 : n0 ≤ h15.size := Nat.le_trans Z14 (Keep.of_wr W15).1
  have V15 : Arv Z h15 b1 k1 .byte (8 : Int32) [(.int (0 : Int32)), (.int (own_byte q0 (48 : Int32))), (.int (own_byte q0 (40 : Int32))), (.int (own_byte q0 (32 : Int32))), (.int (own_byte q0 (24 : Int32))), (.int (own_byte q0 (16 : Int32))), (.int (own_byte q0 (8 : Int32))), (.int (own_byte q0 (0 : Int32)))] (.int (0 : Int32)) := Arv.set Ar15 qa15 Sa15 Na15 Ha15 Ga15 (fits_nar_byte _) W15 1 rfl (Nat.le_of_ble_eq_true rfl)
  have K15 : Keep h0 h15 [] := K13.wr W15 (Or.inr sz1)
  have N15 := Fr.snoc X15 N13 gn1
  obtain ⟨cl17, Ar17, qa17, Sa17, Na17, Ha17, Ga17⟩ := V15
  have hin17 : ¬ ((0 : Int32) < 0 ∨ cl17.slots.size ≤ (0 : Int32).toNatClampNeg) := inb_of Sa17 ⟨by decide, by decide⟩
  obtain ⟨T17, h17, X17, e17, W17, st17⟩ := stB X15 hx hZ e15 Ar17 (j := (0 : Int32)) hin17 (g := (mkF m 30 #[.val (.long q0), .second, .val (.int (8 : Int32)), .val (.ref b1), .val (.int (0 : Int32))] [(.int ((((q0.toUInt64 >>> ((56 : Int32) &&& 0x3f).toInt64.toUInt64).toInt64).toInt32).toInt8.toInt32)), (.int (0 : Int32)), (.ref b1)])) rfl rfl (hb hby d1_30)
  have Z18 : n0 ≤ h17.size := Nat.le_trans Z16 (Keep.of_wr W17).1
  have V17 : Arv Z h17 b1 k1 .byte (8 : Int32) [(.int (own_byte q0 (56 : Int32))), (.int (own_byte q0 (48 : Int32))), (.int (own_byte q0 (40 : Int32))), (.int (own_byte q0 (32 : Int32))), (.int (own_byte q0 (24 : Int32))), (.int (own_byte q0 (16 : Int32))), (.int (own_byte q0 (8 : Int32))), (.int (own_byte q0 (0 : Int32)))] (.int (0 : Int32)) := Arv.set Ar17 qa17 Sa17 Na17 Ha17 Ga17 (fits_nar_byte _) W17 0 rfl (Nat.le_of_ble_eq_true rfl)
  have K17 : Keep h0 h17 [] := K15.wr W17 (Or.inr sz1)
  have N17 := Fr.snoc X17 N15 gn1
  obtain ⟨fs, hr, hrun, hended, hW, hsame⟩ := X17.leave (v := some (.ref b1)) (fun h => by rw [Bd.returns] at h; cases h)
  refine ⟨_, _, pre0 _ ?_, hrun, hended, _, _, rfl, ?_, ⟨_, rfl⟩, hW, hsame.mono (by decide) (by decide)⟩
  · show Steps p.tables e below (s₁.setTop (mkF m 0 #[.val (.long q0), .second, .val (.int (8 : Int32)), .unset, .unset] [])) _
    refine XS.iloadN X0.here hx rfl (hb hby d1_0) rfl ?_
    show Steps p.tables e below (s₁.setTop (mkF m 1 #[.val (.long q0), .second, .val (.int (8 : Int32)), .unset, .unset] [(.int (8 : Int32))])) _
    refine st1 _ ?_
    show Steps p.tables e below (T1.setTop (mkF m 3 #[.val (.long q0), .second, .val (.int (8 : Int32)), .unset, .unset] [(.ref b1)])) _
    refine XS.astoreN X1.here hx rfl (hb hby d1_3) rfl rfl (l' := #[.val (.long q0), .second, .val (.int (8 : Int32)), .val (.ref b1), .unset]) rfl ?_
    show Steps p.tables e below (T1.setTop (mkF m 4 #[.val (.long q0), .second, .val (.int (8 : Int32)), .val (.ref b1), .unset] [])) _
    refine XS.iloadN X1.here hx rfl (hb hby d1_4) rfl ?_
    show Steps p.tables e below (T1.setTop (mkF m 5 #[.val (.long q0), .second, .val (.int (8 : Int32)), .val (.ref b1), .unset] [(.int (8 : Int32))])) _
    refine XS.iconst X1.here hx rfl (hb hby d1_5) ?_
    show Steps p.tables e below (T1.setTop (mkF m 6 #[.val (.long q0), .second, .val (.int (8 : Int32)), .val (.ref b1), .unset] [(.int (1 : Int32)), (.int (8 : Int32))])) _
    refine XS.isub X1.here hx rfl (hb hby d1_6) rfl ?_
    show Steps p.tables e below (T1.setTop (mkF m 7 #[.val (.long q0), .second, .val (.int (8 : Int32)), .val (.ref b1), .unset] [(.int (7 : Int32))])) _
    refine XS.istore X1.here hx rfl (hb hby d1_7) rfl (l' := #[.val (.long q0), .second, .val (.int (8 : Int32)), .val (.ref b1), .val (.int (7 : Int32))]) rfl ?_
    show Steps p.tables e below (T1.setTop (mkF m 9 #[.val (.long q0), .second, .val (.int (8 : Int32)), .val (.ref b1), .val (.int (7 : Int32))] [])) _
    refine XS.iload X1.here hx rfl (hb hby d1_9) rfl ?_
    show Steps p.tables e below (T1.setTop (mkF m 11 #[.val (.long q0), .second, .val (.int (8 : Int32)), .val (.ref b1), .val (.int (7 : Int32))] [(.int (7 : Int32))])) _
    refine XS.ifNo X1.here hx rfl (hb hby d1_11) rfl ((if0 _ _).trans (flt (by decide : ¬ ((7 : Int32) < (0 : Int32)))).1) ?_
    show Steps p.tables e below (T1.setTop (mkF m 14 #[.val (.long q0), .second, .val (.int (8 : Int32)), .val (.ref b1), .val (.int (7 : Int32))] [])) _
    refine XS.aloadN X1.here hx rfl (hb hby d1_14) rfl rfl ?_
    show Steps p.tables e below (T1.setTop (mkF m 15 #[.val (.long q0), .second, .val (.int (8 : Int32)), .val (.ref b1), .val (.int (7 : Int32))] [(.ref b1)])) _
    refine XS.iload X1.here hx rfl (hb hby d1_15) rfl ?_
    show Steps p.tables e below (T1.setTop (mkF m 17 #[.val (.long q0), .second, .val (.int (8 : Int32)), .val (.ref b1), .val (.int (7 : Int32))] [(.int (7 : Int32)), (.ref b1)])) _
    refine XS.lloadN X1.here hx rfl (hb hby d1_17) rfl ?_
    show Steps p.tables e below (T1.setTop (mkF m 18 #[.val (.long q0), .second, .val (.int (8 : Int32)), .val (.ref b1), .val (.int (7 : Int32))] [(.long q0), (.int (7 : Int32)), (.ref b1)])) _
    refine XS.bipush X1.here hx rfl (hb hby d1_18) ?_
    show Steps p.tables e below (T1.setTop (mkF m 20 #[.val (.long q0), .second, .val (.int (8 : Int32)), .val (.ref b1), .val (.int (7 : Int32))] [(.int (8 : Int32)), (.long q0), (.int (7 : Int32)), (.ref b1)])) _
    refine XS.iloadN X1.here hx rfl (hb hby d1_20) rfl ?_
    show Steps p.tables e below (T1.setTop (mkF m 21 #[.val (.long q0), .second, .val (.int (8 : Int32)), .val (.ref b1), .val (.int (7 : Int32))] [(.int (8 : Int32)), (.int (8 : Int32)), (.long q0), (.int (7 : Int32)), (.ref b1)])) _
    refine XS.iconst X1.here hx rfl (hb hby d1_21) ?_
    show Steps p.tables e below (T1.setTop (mkF m 22 #[.val (.long q0), .second, .val (.int (8 : Int32)), .val (.ref b1), .val (.int (7 : Int32))] [(.int (1 : Int32)), (.int (8 : Int32)), (.int (8 : Int32)), (.long q0), (.int (7 : Int32)), (.ref b1)])) _
    refine XS.isub X1.here hx rfl (hb hby d1_22) rfl ?_
    show Steps p.tables e below (T1.setTop (mkF m 23 #[.val (.long q0), .second, .val (.int (8 : Int32)), .val (.ref b1), .val (.int (7 : Int32))] [(.int (7 : Int32)), (.int (8 : Int32)), (.long q0), (.int (7 : Int32)), (.ref b1)])) _
    refine XS.iload X1.here hx rfl (hb hby d1_23) rfl ?_
    show Steps p.tables e below (T1.setTop (mkF m 25 #[.val (.long q0), .second, .val (.int (8 : Int32)), .val (.ref b1), .val (.int (7 : Int32))] [(.int (7 : Int32)), (.int (7 : Int32)), (.int (8 : Int32)), (.long q0), (.int (7 : Int32)), (.ref b1)])) _
    refine XS.isub X1.here hx rfl (hb hby d1_25) rfl ?_
    show Steps p.tables e below (T1.setTop (mkF m 26 #[.val (.long q0), .second, .val (.int (8 : Int32)), .val (.ref b1), .val (.int (7 : Int32))] [(.int (0 : Int32)), (.int (8 : Int32)), (.long q0), (.int (7 : Int32)), (.ref b1)])) _
    refine XS.imul X1.here hx rfl (hb hby d1_26) rfl ?_
    show Steps p.tables e below (T1.setTop (mkF m 27 #[.val (.long q0), .second, .val (.int (8 : Int32)), .val (.ref b1), .val (.int (7 : Int32))] [(.int (0 : Int32)), (.long q0), (.int (7 : Int32)), (.ref b1)])) _
    refine XS.lushr X1.here hx rfl (hb hby d1_27) rfl ?_
    show Steps p.tables e below (T1.setTop (mkF m 28 #[.val (.long q0), .second, .val (.int (8 : Int32)), .val (.ref b1), .val (.int (7 : Int32))] [(.long ((q0.toUInt64 >>> ((0 : Int32) &&& 0x3f).toInt64.toUInt64).toInt64)), (.int (7 : Int32)), (.ref b1)])) _
    refine XS.l2i X1.here hx rfl (hb hby d1_28) rfl ?_
    show Steps p.tables e below (T1.setTop (mkF m 29 #[.val (.long q0), .second, .val (.int (8 : Int32)), .val (.ref b1), .val (.int (7 : Int32))] [(.int (((q0.toUInt64 >>> ((0 : Int32) &&& 0x3f).toInt64.toUInt64).toInt64).toInt32)), (.int (7 : Int32)), (.ref b1)])) _
    refine XS.i2b X1.here hx rfl (hb hby d1_29) rfl ?_
    show Steps p.tables e below (T1.setTop (mkF m 30 #[.val (.long q0), .second, .val (.int (8 : Int32)), .val (.ref b1), .val (.int (7 : Int32))] [(.int ((((q0.toUInt64 >>> ((0 : Int32) &&& 0x3f).toInt64.toUInt64).toInt64).toInt32).toInt8.toInt32)), (.int (7 : Int32)), (.ref b1)])) _
    refine st3 _ ?_
    show Steps p.tables e below (T3.setTop (mkF m 31 #[.val (.long q0), .second, .val (.int (8 : Int32)), .val (.ref b1), .val (.int (7 : Int32))] [])) _
    refine XS.iinc X3.here hx rfl (hb hby d1_31) rfl (l' := #[.val (.long q0), .second, .val (.int (8 : Int32)), .val (.ref b1), .val (.int (6 : Int32))]) rfl ?_
    show Steps p.tables e below (T3.setTop (mkF m 34 #[.val (.long q0), .second, .val (.int (8 : Int32)), .val (.ref b1), .val (.int (6 : Int32))] [])) _
    refine XS.goto X3.here hx rfl (pc0 := 34) (pc' := 9) rfl (hb hby d1_34) (by decide) (by decide) ?_
    show Steps p.tables e below (T3.setTop (mkF m 9 #[.val (.long q0), .second, .val (.int (8 : Int32)), .val (.ref b1), .val (.int (6 : Int32))] [])) _
    refine XS.iload X3.here hx rfl (hb hby d1_9) rfl ?_
    show Steps p.tables e below (T3.setTop (mkF m 11 #[.val (.long q0), .second, .val (.int (8 : Int32)), .val (.ref b1), .val (.int (6 : Int32))] [(.int (6 : Int32))])) _
    refine XS.ifNo X3.here hx rfl (hb hby d1_11) rfl ((if0 _ _).trans (flt (by decide : ¬ ((6 : Int32) < (0 : Int32)))).1) ?_
    show Steps p.tables e below (T3.setTop (mkF m 14 #[.val (.long q0), .second, .val (.int (8 : Int32)), .val (.ref b1), .val (.int (6 : Int32))] [])) _
    refine XS.aloadN X3.here hx rfl (hb hby d1_14) rfl rfl ?_
    show Steps p.tables e below (T3.setTop (mkF m 15 #[.val (.long q0), .second, .val (.int (8 : Int32)), .val (.ref b1), .val (.int (6 : Int32))] [(.ref b1)])) _
    refine XS.iload X3.here hx rfl (hb hby d1_15) rfl ?_
    show Steps p.tables e below (T3.setTop (mkF m 17 #[.val (.long q0), .second, .val (.int (8 : Int32)), .val (.ref b1), .val (.int (6 : Int32))] [(.int (6 : Int32)), (.ref b1)])) _
    refine XS.lloadN X3.here hx rfl (hb hby d1_17) rfl ?_
    show Steps p.tables e below (T3.setTop (mkF m 18 #[.val (.long q0), .second, .val (.int (8 : Int32)), .val (.ref b1), .val (.int (6 : Int32))] [(.long q0), (.int (6 : Int32)), (.ref b1)])) _
    refine XS.bipush X3.here hx rfl (hb hby d1_18) ?_
    show Steps p.tables e below (T3.setTop (mkF m 20 #[.val (.long q0), .second, .val (.int (8 : Int32)), .val (.ref b1), .val (.int (6 : Int32))] [(.int (8 : Int32)), (.long q0), (.int (6 : Int32)), (.ref b1)])) _
    refine XS.iloadN X3.here hx rfl (hb hby d1_20) rfl ?_
    show Steps p.tables e below (T3.setTop (mkF m 21 #[.val (.long q0), .second, .val (.int (8 : Int32)), .val (.ref b1), .val (.int (6 : Int32))] [(.int (8 : Int32)), (.int (8 : Int32)), (.long q0), (.int (6 : Int32)), (.ref b1)])) _
    refine XS.iconst X3.here hx rfl (hb hby d1_21) ?_
    show Steps p.tables e below (T3.setTop (mkF m 22 #[.val (.long q0), .second, .val (.int (8 : Int32)), .val (.ref b1), .val (.int (6 : Int32))] [(.int (1 : Int32)), (.int (8 : Int32)), (.int (8 : Int32)), (.long q0), (.int (6 : Int32)), (.ref b1)])) _
    refine XS.isub X3.here hx rfl (hb hby d1_22) rfl ?_
    show Steps p.tables e below (T3.setTop (mkF m 23 #[.val (.long q0), .second, .val (.int (8 : Int32)), .val (.ref b1), .val (.int (6 : Int32))] [(.int (7 : Int32)), (.int (8 : Int32)), (.long q0), (.int (6 : Int32)), (.ref b1)])) _
    refine XS.iload X3.here hx rfl (hb hby d1_23) rfl ?_
    show Steps p.tables e below (T3.setTop (mkF m 25 #[.val (.long q0), .second, .val (.int (8 : Int32)), .val (.ref b1), .val (.int (6 : Int32))] [(.int (6 : Int32)), (.int (7 : Int32)), (.int (8 : Int32)), (.long q0), (.int (6 : Int32)), (.ref b1)])) _
    refine XS.isub X3.here hx rfl (hb hby d1_25) rfl ?_
    show Steps p.tables e below (T3.setTop (mkF m 26 #[.val (.long q0), .second, .val (.int (8 : Int32)), .val (.ref b1), .val (.int (6 : Int32))] [(.int (1 : Int32)), (.int (8 : Int32)), (.long q0), (.int (6 : Int32)), (.ref b1)])) _
    refine XS.imul X3.here hx rfl (hb hby d1_26) rfl ?_
    show Steps p.tables e below (T3.setTop (mkF m 27 #[.val (.long q0), .second, .val (.int (8 : Int32)), .val (.ref b1), .val (.int (6 : Int32))] [(.int (8 : Int32)), (.long q0), (.int (6 : Int32)), (.ref b1)])) _
    refine XS.lushr X3.here hx rfl (hb hby d1_27) rfl ?_
    show Steps p.tables e below (T3.setTop (mkF m 28 #[.val (.long q0), .second, .val (.int (8 : Int32)), .val (.ref b1), .val (.int (6 : Int32))] [(.long ((q0.toUInt64 >>> ((8 : Int32) &&& 0x3f).toInt64.toUInt64).toInt64)), (.int (6 : Int32)), (.ref b1)])) _
    refine XS.l2i X3.here hx rfl (hb hby d1_28) rfl ?_
    show Steps p.tables e below (T3.setTop (mkF m 29 #[.val (.long q0), .second, .val (.int (8 : Int32)), .val (.ref b1), .val (.int (6 : Int32))] [(.int (((q0.toUInt64 >>> ((8 : Int32) &&& 0x3f).toInt64.toUInt64).toInt64).toInt32)), (.int (6 : Int32)), (.ref b1)])) _
    refine XS.i2b X3.here hx rfl (hb hby d1_29) rfl ?_
    show Steps p.tables e below (T3.setTop (mkF m 30 #[.val (.long q0), .second, .val (.int (8 : Int32)), .val (.ref b1), .val (.int (6 : Int32))] [(.int ((((q0.toUInt64 >>> ((8 : Int32) &&& 0x3f).toInt64.toUInt64).toInt64).toInt32).toInt8.toInt32)), (.int (6 : Int32)), (.ref b1)])) _
    refine st5 _ ?_
    show Steps p.tables e below (T5.setTop (mkF m 31 #[.val (.long q0), .second, .val (.int (8 : Int32)), .val (.ref b1), .val (.int (6 : Int32))] [])) _
    refine XS.iinc X5.here hx rfl (hb hby d1_31) rfl (l' := #[.val (.long q0), .second, .val (.int (8 : Int32)), .val (.ref b1), .val (.int (5 : Int32))]) rfl ?_
    show Steps p.tables e below (T5.setTop (mkF m 34 #[.val (.long q0), .second, .val (.int (8 : Int32)), .val (.ref b1), .val (.int (5 : Int32))] [])) _
    refine XS.goto X5.here hx rfl (pc0 := 34) (pc' := 9) rfl (hb hby d1_34) (by decide) (by decide) ?_
    show Steps p.tables e below (T5.setTop (mkF m 9 #[.val (.long q0), .second, .val (.int (8 : Int32)), .val (.ref b1), .val (.int (5 : Int32))] [])) _
    refine XS.iload X5.here hx rfl (hb hby d1_9) rfl ?_
    show Steps p.tables e below (T5.setTop (mkF m 11 #[.val (.long q0), .second, .val (.int (8 : Int32)), .val (.ref b1), .val (.int (5 : Int32))] [(.int (5 : Int32))])) _
    refine XS.ifNo X5.here hx rfl (hb hby d1_11) rfl ((if0 _ _).trans (flt (by decide : ¬ ((5 : Int32) < (0 : Int32)))).1) ?_
    show Steps p.tables e below (T5.setTop (mkF m 14 #[.val (.long q0), .second, .val (.int (8 : Int32)), .val (.ref b1), .val (.int (5 : Int32))] [])) _
    refine XS.aloadN X5.here hx rfl (hb hby d1_14) rfl rfl ?_
    show Steps p.tables e below (T5.setTop (mkF m 15 #[.val (.long q0), .second, .val (.int (8 : Int32)), .val (.ref b1), .val (.int (5 : Int32))] [(.ref b1)])) _
    refine XS.iload X5.here hx rfl (hb hby d1_15) rfl ?_
    show Steps p.tables e below (T5.setTop (mkF m 17 #[.val (.long q0), .second, .val (.int (8 : Int32)), .val (.ref b1), .val (.int (5 : Int32))] [(.int (5 : Int32)), (.ref b1)])) _
    refine XS.lloadN X5.here hx rfl (hb hby d1_17) rfl ?_
    show Steps p.tables e below (T5.setTop (mkF m 18 #[.val (.long q0), .second, .val (.int (8 : Int32)), .val (.ref b1), .val (.int (5 : Int32))] [(.long q0), (.int (5 : Int32)), (.ref b1)])) _
    refine XS.bipush X5.here hx rfl (hb hby d1_18) ?_
    show Steps p.tables e below (T5.setTop (mkF m 20 #[.val (.long q0), .second, .val (.int (8 : Int32)), .val (.ref b1), .val (.int (5 : Int32))] [(.int (8 : Int32)), (.long q0), (.int (5 : Int32)), (.ref b1)])) _
    refine XS.iloadN X5.here hx rfl (hb hby d1_20) rfl ?_
    show Steps p.tables e below (T5.setTop (mkF m 21 #[.val (.long q0), .second, .val (.int (8 : Int32)), .val (.ref b1), .val (.int (5 : Int32))] [(.int (8 : Int32)), (.int (8 : Int32)), (.long q0), (.int (5 : Int32)), (.ref b1)])) _
    refine XS.iconst X5.here hx rfl (hb hby d1_21) ?_
    show Steps p.tables e below (T5.setTop (mkF m 22 #[.val (.long q0), .second, .val (.int (8 : Int32)), .val (.ref b1), .val (.int (5 : Int32))] [(.int (1 : Int32)), (.int (8 : Int32)), (.int (8 : Int32)), (.long q0), (.int (5 : Int32)), (.ref b1)])) _
    refine XS.isub X5.here hx rfl (hb hby d1_22) rfl ?_
    show Steps p.tables e below (T5.setTop (mkF m 23 #[.val (.long q0), .second, .val (.int (8 : Int32)), .val (.ref b1), .val (.int (5 : Int32))] [(.int (7 : Int32)), (.int (8 : Int32)), (.long q0), (.int (5 : Int32)), (.ref b1)])) _
    refine XS.iload X5.here hx rfl (hb hby d1_23) rfl ?_
    show Steps p.tables e below (T5.setTop (mkF m 25 #[.val (.long q0), .second, .val (.int (8 : Int32)), .val (.ref b1), .val (.int (5 : Int32))] [(.int (5 : Int32)), (.int (7 : Int32)), (.int (8 : Int32)), (.long q0), (.int (5 : Int32)), (.ref b1)])) _
    refine XS.isub X5.here hx rfl (hb hby d1_25) rfl ?_
    show Steps p.tables e below (T5.setTop (mkF m 26 #[.val (.long q0), .second, .val (.int (8 : Int32)), .val (.ref b1), .val (.int (5 : Int32))] [(.int (2 : Int32)), (.int (8 : Int32)), (.long q0), (.int (5 : Int32)), (.ref b1)])) _
    refine XS.imul X5.here hx rfl (hb hby d1_26) rfl ?_
    show Steps p.tables e below (T5.setTop (mkF m 27 #[.val (.long q0), .second, .val (.int (8 : Int32)), .val (.ref b1), .val (.int (5 : Int32))] [(.int (16 : Int32)), (.long q0), (.int (5 : Int32)), (.ref b1)])) _
    refine XS.lushr X5.here hx rfl (hb hby d1_27) rfl ?_
    show Steps p.tables e below (T5.setTop (mkF m 28 #[.val (.long q0), .second, .val (.int (8 : Int32)), .val (.ref b1), .val (.int (5 : Int32))] [(.long ((q0.toUInt64 >>> ((16 : Int32) &&& 0x3f).toInt64.toUInt64).toInt64)), (.int (5 : Int32)), (.ref b1)])) _
    refine XS.l2i X5.here hx rfl (hb hby d1_28) rfl ?_
    show Steps p.tables e below (T5.setTop (mkF m 29 #[.val (.long q0), .second, .val (.int (8 : Int32)), .val (.ref b1), .val (.int (5 : Int32))] [(.int (((q0.toUInt64 >>> ((16 : Int32) &&& 0x3f).toInt64.toUInt64).toInt64).toInt32)), (.int (5 : Int32)), (.ref b1)])) _
    refine XS.i2b X5.here hx rfl (hb hby d1_29) rfl ?_
    show Steps p.tables e below (T5.setTop (mkF m 30 #[.val (.long q0), .second, .val (.int (8 : Int32)), .val (.ref b1), .val (.int (5 : Int32))] [(.int ((((q0.toUInt64 >>> ((16 : Int32) &&& 0x3f).toInt64.toUInt64).toInt64).toInt32).toInt8.toInt32)), (.int (5 : Int32)), (.ref b1)])) _
    refine st7 _ ?_
    show Steps p.tables e below (T7.setTop (mkF m 31 #[.val (.long q0), .second, .val (.int (8 : Int32)), .val (.ref b1), .val (.int (5 : Int32))] [])) _
    refine XS.iinc X7.here hx rfl (hb hby d1_31) rfl (l' := #[.val (.long q0), .second, .val (.int (8 : Int32)), .val (.ref b1), .val (.int (4 : Int32))]) rfl ?_
    show Steps p.tables e below (T7.setTop (mkF m 34 #[.val (.long q0), .second, .val (.int (8 : Int32)), .val (.ref b1), .val (.int (4 : Int32))] [])) _
    refine XS.goto X7.here hx rfl (pc0 := 34) (pc' := 9) rfl (hb hby d1_34) (by decide) (by decide) ?_
    show Steps p.tables e below (T7.setTop (mkF m 9 #[.val (.long q0), .second, .val (.int (8 : Int32)), .val (.ref b1), .val (.int (4 : Int32))] [])) _
    refine XS.iload X7.here hx rfl (hb hby d1_9) rfl ?_
    show Steps p.tables e below (T7.setTop (mkF m 11 #[.val (.long q0), .second, .val (.int (8 : Int32)), .val (.ref b1), .val (.int (4 : Int32))] [(.int (4 : Int32))])) _
    refine XS.ifNo X7.here hx rfl (hb hby d1_11) rfl ((if0 _ _).trans (flt (by decide : ¬ ((4 : Int32) < (0 : Int32)))).1) ?_
    show Steps p.tables e below (T7.setTop (mkF m 14 #[.val (.long q0), .second, .val (.int (8 : Int32)), .val (.ref b1), .val (.int (4 : Int32))] [])) _
    refine XS.aloadN X7.here hx rfl (hb hby d1_14) rfl rfl ?_
    show Steps p.tables e below (T7.setTop (mkF m 15 #[.val (.long q0), .second, .val (.int (8 : Int32)), .val (.ref b1), .val (.int (4 : Int32))] [(.ref b1)])) _
    refine XS.iload X7.here hx rfl (hb hby d1_15) rfl ?_
    show Steps p.tables e below (T7.setTop (mkF m 17 #[.val (.long q0), .second, .val (.int (8 : Int32)), .val (.ref b1), .val (.int (4 : Int32))] [(.int (4 : Int32)), (.ref b1)])) _
    refine XS.lloadN X7.here hx rfl (hb hby d1_17) rfl ?_
    show Steps p.tables e below (T7.setTop (mkF m 18 #[.val (.long q0), .second, .val (.int (8 : Int32)), .val (.ref b1), .val (.int (4 : Int32))] [(.long q0), (.int (4 : Int32)), (.ref b1)])) _
    refine XS.bipush X7.here hx rfl (hb hby d1_18) ?_
    show Steps p.tables e below (T7.setTop (mkF m 20 #[.val (.long q0), .second, .val (.int (8 : Int32)), .val (.ref b1), .val (.int (4 : Int32))] [(.int (8 : Int32)), (.long q0), (.int (4 : Int32)), (.ref b1)])) _
    refine XS.iloadN X7.here hx rfl (hb hby d1_20) rfl ?_
    show Steps p.tables e below (T7.setTop (mkF m 21 #[.val (.long q0), .second, .val (.int (8 : Int32)), .val (.ref b1), .val (.int (4 : Int32))] [(.int (8 : Int32)), (.int (8 : Int32)), (.long q0), (.int (4 : Int32)), (.ref b1)])) _
    refine XS.iconst X7.here hx rfl (hb hby d1_21) ?_
    show Steps p.tables e below (T7.setTop (mkF m 22 #[.val (.long q0), .second, .val (.int (8 : Int32)), .val (.ref b1), .val (.int (4 : Int32))] [(.int (1 : Int32)), (.int (8 : Int32)), (.int (8 : Int32)), (.long q0), (.int (4 : Int32)), (.ref b1)])) _
    refine XS.isub X7.here hx rfl (hb hby d1_22) rfl ?_
    show Steps p.tables e below (T7.setTop (mkF m 23 #[.val (.long q0), .second, .val (.int (8 : Int32)), .val (.ref b1), .val (.int (4 : Int32))] [(.int (7 : Int32)), (.int (8 : Int32)), (.long q0), (.int (4 : Int32)), (.ref b1)])) _
    refine XS.iload X7.here hx rfl (hb hby d1_23) rfl ?_
    show Steps p.tables e below (T7.setTop (mkF m 25 #[.val (.long q0), .second, .val (.int (8 : Int32)), .val (.ref b1), .val (.int (4 : Int32))] [(.int (4 : Int32)), (.int (7 : Int32)), (.int (8 : Int32)), (.long q0), (.int (4 : Int32)), (.ref b1)])) _
    refine XS.isub X7.here hx rfl (hb hby d1_25) rfl ?_
    show Steps p.tables e below (T7.setTop (mkF m 26 #[.val (.long q0), .second, .val (.int (8 : Int32)), .val (.ref b1), .val (.int (4 : Int32))] [(.int (3 : Int32)), (.int (8 : Int32)), (.long q0), (.int (4 : Int32)), (.ref b1)])) _
    refine XS.imul X7.here hx rfl (hb hby d1_26) rfl ?_
    show Steps p.tables e below (T7.setTop (mkF m 27 #[.val (.long q0), .second, .val (.int (8 : Int32)), .val (.ref b1), .val (.int (4 : Int32))] [(.int (24 : Int32)), (.long q0), (.int (4 : Int32)), (.ref b1)])) _
    refine XS.lushr X7.here hx rfl (hb hby d1_27) rfl ?_
    show Steps p.tables e below (T7.setTop (mkF m 28 #[.val (.long q0), .second, .val (.int (8 : Int32)), .val (.ref b1), .val (.int (4 : Int32))] [(.long ((q0.toUInt64 >>> ((24 : Int32) &&& 0x3f).toInt64.toUInt64).toInt64)), (.int (4 : Int32)), (.ref b1)])) _
    refine XS.l2i X7.here hx rfl (hb hby d1_28) rfl ?_
    show Steps p.tables e below (T7.setTop (mkF m 29 #[.val (.long q0), .second, .val (.int (8 : Int32)), .val (.ref b1), .val (.int (4 : Int32))] [(.int (((q0.toUInt64 >>> ((24 : Int32) &&& 0x3f).toInt64.toUInt64).toInt64).toInt32)), (.int (4 : Int32)), (.ref b1)])) _
    refine XS.i2b X7.here hx rfl (hb hby d1_29) rfl ?_
    show Steps p.tables e below (T7.setTop (mkF m 30 #[.val (.long q0), .second, .val (.int (8 : Int32)), .val (.ref b1), .val (.int (4 : Int32))] [(.int ((((q0.toUInt64 >>> ((24 : Int32) &&& 0x3f).toInt64.toUInt64).toInt64).toInt32).toInt8.toInt32)), (.int (4 : Int32)), (.ref b1)])) _
    refine st9 _ ?_
    show Steps p.tables e below (T9.setTop (mkF m 31 #[.val (.long q0), .second, .val (.int (8 : Int32)), .val (.ref b1), .val (.int (4 : Int32))] [])) _
    refine XS.iinc X9.here hx rfl (hb hby d1_31) rfl (l' := #[.val (.long q0), .second, .val (.int (8 : Int32)), .val (.ref b1), .val (.int (3 : Int32))]) rfl ?_
    show Steps p.tables e below (T9.setTop (mkF m 34 #[.val (.long q0), .second, .val (.int (8 : Int32)), .val (.ref b1), .val (.int (3 : Int32))] [])) _
    refine XS.goto X9.here hx rfl (pc0 := 34) (pc' := 9) rfl (hb hby d1_34) (by decide) (by decide) ?_
    show Steps p.tables e below (T9.setTop (mkF m 9 #[.val (.long q0), .second, .val (.int (8 : Int32)), .val (.ref b1), .val (.int (3 : Int32))] [])) _
    refine XS.iload X9.here hx rfl (hb hby d1_9) rfl ?_
    show Steps p.tables e below (T9.setTop (mkF m 11 #[.val (.long q0), .second, .val (.int (8 : Int32)), .val (.ref b1), .val (.int (3 : Int32))] [(.int (3 : Int32))])) _
    refine XS.ifNo X9.here hx rfl (hb hby d1_11) rfl ((if0 _ _).trans (flt (by decide : ¬ ((3 : Int32) < (0 : Int32)))).1) ?_
    show Steps p.tables e below (T9.setTop (mkF m 14 #[.val (.long q0), .second, .val (.int (8 : Int32)), .val (.ref b1), .val (.int (3 : Int32))] [])) _
    refine XS.aloadN X9.here hx rfl (hb hby d1_14) rfl rfl ?_
    show Steps p.tables e below (T9.setTop (mkF m 15 #[.val (.long q0), .second, .val (.int (8 : Int32)), .val (.ref b1), .val (.int (3 : Int32))] [(.ref b1)])) _
    refine XS.iload X9.here hx rfl (hb hby d1_15) rfl ?_
    show Steps p.tables e below (T9.setTop (mkF m 17 #[.val (.long q0), .second, .val (.int (8 : Int32)), .val (.ref b1), .val (.int (3 : Int32))] [(.int (3 : Int32)), (.ref b1)])) _
    refine XS.lloadN X9.here hx rfl (hb hby d1_17) rfl ?_
    show Steps p.tables e below (T9.setTop (mkF m 18 #[.val (.long q0), .second, .val (.int (8 : Int32)), .val (.ref b1), .val (.int (3 : Int32))] [(.long q0), (.int (3 : Int32)), (.ref b1)])) _
    refine XS.bipush X9.here hx rfl (hb hby d1_18) ?_
    show Steps p.tables e below (T9.setTop (mkF m 20 #[.val (.long q0), .second, .val (.int (8 : Int32)), .val (.ref b1), .val (.int (3 : Int32))] [(.int (8 : Int32)), (.long q0), (.int (3 : Int32)), (.ref b1)])) _
    refine XS.iloadN X9.here hx rfl (hb hby d1_20) rfl ?_
    show Steps p.tables e below (T9.setTop (mkF m 21 #[.val (.long q0), .second, .val (.int (8 : Int32)), .val (.ref b1), .val (.int (3 : Int32))] [(.int (8 : Int32)), (.int (8 : Int32)), (.long q0), (.int (3 : Int32)), (.ref b1)])) _
    refine XS.iconst X9.here hx rfl (hb hby d1_21) ?_
    show Steps p.tables e below (T9.setTop (mkF m 22 #[.val (.long q0), .second, .val (.int (8 : Int32)), .val (.ref b1), .val (.int (3 : Int32))] [(.int (1 : Int32)), (.int (8 : Int32)), (.int (8 : Int32)), (.long q0), (.int (3 : Int32)), (.ref b1)])) _
    refine XS.isub X9.here hx rfl (hb hby d1_22) rfl ?_
    show Steps p.tables e below (T9.setTop (mkF m 23 #[.val (.long q0), .second, .val (.int (8 : Int32)), .val (.ref b1), .val (.int (3 : Int32))] [(.int (7 : Int32)), (.int (8 : Int32)), (.long q0), (.int (3 : Int32)), (.ref b1)])) _
    refine XS.iload X9.here hx rfl (hb hby d1_23) rfl ?_
    show Steps p.tables e below (T9.setTop (mkF m 25 #[.val (.long q0), .second, .val (.int (8 : Int32)), .val (.ref b1), .val (.int (3 : Int32))] [(.int (3 : Int32)), (.int (7 : Int32)), (.int (8 : Int32)), (.long q0), (.int (3 : Int32)), (.ref b1)])) _
    refine XS.isub X9.here hx rfl (hb hby d1_25) rfl ?_
    show Steps p.tables e below (T9.setTop (mkF m 26 #[.val (.long q0), .second, .val (.int (8 : Int32)), .val (.ref b1), .val (.int (3 : Int32))] [(.int (4 : Int32)), (.int (8 : Int32)), (.long q0), (.int (3 : Int32)), (.ref b1)])) _
    refine XS.imul X9.here hx rfl (hb hby d1_26) rfl ?_
    show Steps p.tables e below (T9.setTop (mkF m 27 #[.val (.long q0), .second, .val (.int (8 : Int32)), .val (.ref b1), .val (.int (3 : Int32))] [(.int (32 : Int32)), (.long q0), (.int (3 : Int32)), (.ref b1)])) _
    refine XS.lushr X9.here hx rfl (hb hby d1_27) rfl ?_
    show Steps p.tables e below (T9.setTop (mkF m 28 #[.val (.long q0), .second, .val (.int (8 : Int32)), .val (.ref b1), .val (.int (3 : Int32))] [(.long ((q0.toUInt64 >>> ((32 : Int32) &&& 0x3f).toInt64.toUInt64).toInt64)), (.int (3 : Int32)), (.ref b1)])) _
    refine XS.l2i X9.here hx rfl (hb hby d1_28) rfl ?_
    show Steps p.tables e below (T9.setTop (mkF m 29 #[.val (.long q0), .second, .val (.int (8 : Int32)), .val (.ref b1), .val (.int (3 : Int32))] [(.int (((q0.toUInt64 >>> ((32 : Int32) &&& 0x3f).toInt64.toUInt64).toInt64).toInt32)), (.int (3 : Int32)), (.ref b1)])) _
    refine XS.i2b X9.here hx rfl (hb hby d1_29) rfl ?_
    show Steps p.tables e below (T9.setTop (mkF m 30 #[.val (.long q0), .second, .val (.int (8 : Int32)), .val (.ref b1), .val (.int (3 : Int32))] [(.int ((((q0.toUInt64 >>> ((32 : Int32) &&& 0x3f).toInt64.toUInt64).toInt64).toInt32).toInt8.toInt32)), (.int (3 : Int32)), (.ref b1)])) _
    refine st11 _ ?_
    show Steps p.tables e below (T11.setTop (mkF m 31 #[.val (.long q0), .second, .val (.int (8 : Int32)), .val (.ref b1), .val (.int (3 : Int32))] [])) _
    refine XS.iinc X11.here hx rfl (hb hby d1_31) rfl (l' := #[.val (.long q0), .second, .val (.int (8 : Int32)), .val (.ref b1), .val (.int (2 : Int32))]) rfl ?_
    show Steps p.tables e below (T11.setTop (mkF m 34 #[.val (.long q0), .second, .val (.int (8 : Int32)), .val (.ref b1), .val (.int (2 : Int32))] [])) _
    refine XS.goto X11.here hx rfl (pc0 := 34) (pc' := 9) rfl (hb hby d1_34) (by decide) (by decide) ?_
    show Steps p.tables e below (T11.setTop (mkF m 9 #[.val (.long q0), .second, .val (.int (8 : Int32)), .val (.ref b1), .val (.int (2 : Int32))] [])) _
    refine XS.iload X11.here hx rfl (hb hby d1_9) rfl ?_
    show Steps p.tables e below (T11.setTop (mkF m 11 #[.val (.long q0), .second, .val (.int (8 : Int32)), .val (.ref b1), .val (.int (2 : Int32))] [(.int (2 : Int32))])) _
    refine XS.ifNo X11.here hx rfl (hb hby d1_11) rfl ((if0 _ _).trans (flt (by decide : ¬ ((2 : Int32) < (0 : Int32)))).1) ?_
    show Steps p.tables e below (T11.setTop (mkF m 14 #[.val (.long q0), .second, .val (.int (8 : Int32)), .val (.ref b1), .val (.int (2 : Int32))] [])) _
    refine XS.aloadN X11.here hx rfl (hb hby d1_14) rfl rfl ?_
    show Steps p.tables e below (T11.setTop (mkF m 15 #[.val (.long q0), .second, .val (.int (8 : Int32)), .val (.ref b1), .val (.int (2 : Int32))] [(.ref b1)])) _
    refine XS.iload X11.here hx rfl (hb hby d1_15) rfl ?_
    show Steps p.tables e below (T11.setTop (mkF m 17 #[.val (.long q0), .second, .val (.int (8 : Int32)), .val (.ref b1), .val (.int (2 : Int32))] [(.int (2 : Int32)), (.ref b1)])) _
    refine XS.lloadN X11.here hx rfl (hb hby d1_17) rfl ?_
    show Steps p.tables e below (T11.setTop (mkF m 18 #[.val (.long q0), .second, .val (.int (8 : Int32)), .val (.ref b1), .val (.int (2 : Int32))] [(.long q0), (.int (2 : Int32)), (.ref b1)])) _
    refine XS.bipush X11.here hx rfl (hb hby d1_18) ?_
    show Steps p.tables e below (T11.setTop (mkF m 20 #[.val (.long q0), .second, .val (.int (8 : Int32)), .val (.ref b1), .val (.int (2 : Int32))] [(.int (8 : Int32)), (.long q0), (.int (2 : Int32)), (.ref b1)])) _
    refine XS.iloadN X11.here hx rfl (hb hby d1_20) rfl ?_
    show Steps p.tables e below (T11.setTop (mkF m 21 #[.val (.long q0), .second, .val (.int (8 : Int32)), .val (.ref b1), .val (.int (2 : Int32))] [(.int (8 : Int32)), (.int (8 : Int32)), (.long q0), (.int (2 : Int32)), (.ref b1)])) _
    refine XS.iconst X11.here hx rfl (hb hby d1_21) ?_
    show Steps p.tables e below (T11.setTop (mkF m 22 #[.val (.long q0), .second, .val (.int (8 : Int32)), .val (.ref b1), .val (.int (2 : Int32))] [(.int (1 : Int32)), (.int (8 : Int32)), (.int (8 : Int32)), (.long q0), (.int (2 : Int32)), (.ref b1)])) _
    refine XS.isub X11.here hx rfl (hb hby d1_22) rfl ?_
    show Steps p.tables e below (T11.setTop (mkF m 23 #[.val (.long q0), .second, .val (.int (8 : Int32)), .val (.ref b1), .val (.int (2 : Int32))] [(.int (7 : Int32)), (.int (8 : Int32)), (.long q0), (.int (2 : Int32)), (.ref b1)])) _
    refine XS.iload X11.here hx rfl (hb hby d1_23) rfl ?_
    show Steps p.tables e below (T11.setTop (mkF m 25 #[.val (.long q0), .second, .val (.int (8 : Int32)), .val (.ref b1), .val (.int (2 : Int32))] [(.int (2 : Int32)), (.int (7 : Int32)), (.int (8 : Int32)), (.long q0), (.int (2 : Int32)), (.ref b1)])) _
    refine XS.isub X11.here hx rfl (hb hby d1_25) rfl ?_
    show Steps p.tables e below (T11.setTop (mkF m 26 #[.val (.long q0), .second, .val (.int (8 : Int32)), .val (.ref b1), .val (.int (2 : Int32))] [(.int (5 : Int32)), (.int (8 : Int32)), (.long q0), (.int (2 : Int32)), (.ref b1)])) _
    refine XS.imul X11.here hx rfl (hb hby d1_26) rfl ?_
    show Steps p.tables e below (T11.setTop (mkF m 27 #[.val (.long q0), .second, .val (.int (8 : Int32)), .val (.ref b1), .val (.int (2 : Int32))] [(.int (40 : Int32)), (.long q0), (.int (2 : Int32)), (.ref b1)])) _
    refine XS.lushr X11.here hx rfl (hb hby d1_27) rfl ?_
    show Steps p.tables e below (T11.setTop (mkF m 28 #[.val (.long q0), .second, .val (.int (8 : Int32)), .val (.ref b1), .val (.int (2 : Int32))] [(.long ((q0.toUInt64 >>> ((40 : Int32) &&& 0x3f).toInt64.toUInt64).toInt64)), (.int (2 : Int32)), (.ref b1)])) _
    refine XS.l2i X11.here hx rfl (hb hby d1_28) rfl ?_
    show Steps p.tables e below (T11.setTop (mkF m 29 #[.val (.long q0), .second, .val (.int (8 : Int32)), .val (.ref b1), .val (.int (2 : Int32))] [(.int (((q0.toUInt64 >>> ((40 : Int32) &&& 0x3f).toInt64.toUInt64).toInt64).toInt32)), (.int (2 : Int32)), (.ref b1)])) _
    refine XS.i2b X11.here hx rfl (hb hby d1_29) rfl ?_
    show Steps p.tables e below (T11.setTop (mkF m 30 #[.val (.long q0), .second, .val (.int (8 : Int32)), .val (.ref b1), .val (.int (2 : Int32))] [(.int ((((q0.toUInt64 >>> ((40 : Int32) &&& 0x3f).toInt64.toUInt64).toInt64).toInt32).toInt8.toInt32)), (.int (2 : Int32)), (.ref b1)])) _
    refine st13 _ ?_
    show Steps p.tables e below (T13.setTop (mkF m 31 #[.val (.long q0), .second, .val (.int (8 : Int32)), .val (.ref b1), .val (.int (2 : Int32))] [])) _
    refine XS.iinc X13.here hx rfl (hb hby d1_31) rfl (l' := #[.val (.long q0), .second, .val (.int (8 : Int32)), .val (.ref b1), .val (.int (1 : Int32))]) rfl ?_
    show Steps p.tables e below (T13.setTop (mkF m 34 #[.val (.long q0), .second, .val (.int (8 : Int32)), .val (.ref b1), .val (.int (1 : Int32))] [])) _
    refine XS.goto X13.here hx rfl (pc0 := 34) (pc' := 9) rfl (hb hby d1_34) (by decide) (by decide) ?_
    show Steps p.tables e below (T13.setTop (mkF m 9 #[.val (.long q0), .second, .val (.int (8 : Int32)), .val (.ref b1), .val (.int (1 : Int32))] [])) _
    refine XS.iload X13.here hx rfl (hb hby d1_9) rfl ?_
    show Steps p.tables e below (T13.setTop (mkF m 11 #[.val (.long q0), .second, .val (.int (8 : Int32)), .val (.ref b1), .val (.int (1 : Int32))] [(.int (1 : Int32))])) _
    refine XS.ifNo X13.here hx rfl (hb hby d1_11) rfl ((if0 _ _).trans (flt (by decide : ¬ ((1 : Int32) < (0 : Int32)))).1) ?_
    show Steps p.tables e below (T13.setTop (mkF m 14 #[.val (.long q0), .second, .val (.int (8 : Int32)), .val (.ref b1), .val (.int (1 : Int32))] [])) _
    refine XS.aloadN X13.here hx rfl (hb hby d1_14) rfl rfl ?_
    show Steps p.tables e below (T13.setTop (mkF m 15 #[.val (.long q0), .second, .val (.int (8 : Int32)), .val (.ref b1), .val (.int (1 : Int32))] [(.ref b1)])) _
    refine XS.iload X13.here hx rfl (hb hby d1_15) rfl ?_
    show Steps p.tables e below (T13.setTop (mkF m 17 #[.val (.long q0), .second, .val (.int (8 : Int32)), .val (.ref b1), .val (.int (1 : Int32))] [(.int (1 : Int32)), (.ref b1)])) _
    refine XS.lloadN X13.here hx rfl (hb hby d1_17) rfl ?_
    show Steps p.tables e below (T13.setTop (mkF m 18 #[.val (.long q0), .second, .val (.int (8 : Int32)), .val (.ref b1), .val (.int (1 : Int32))] [(.long q0), (.int (1 : Int32)), (.ref b1)])) _
    refine XS.bipush X13.here hx rfl (hb hby d1_18) ?_
    show Steps p.tables e below (T13.setTop (mkF m 20 #[.val (.long q0), .second, .val (.int (8 : Int32)), .val (.ref b1), .val (.int (1 : Int32))] [(.int (8 : Int32)), (.long q0), (.int (1 : Int32)), (.ref b1)])) _
    refine XS.iloadN X13.here hx rfl (hb hby d1_20) rfl ?_
    show Steps p.tables e below (T13.setTop (mkF m 21 #[.val (.long q0), .second, .val (.int (8 : Int32)), .val (.ref b1), .val (.int (1 : Int32))] [(.int (8 : Int32)), (.int (8 : Int32)), (.long q0), (.int (1 : Int32)), (.ref b1)])) _
    refine XS.iconst X13.here hx rfl (hb hby d1_21) ?_
    show Steps p.tables e below (T13.setTop (mkF m 22 #[.val (.long q0), .second, .val (.int (8 : Int32)), .val (.ref b1), .val (.int (1 : Int32))] [(.int (1 : Int32)), (.int (8 : Int32)), (.int (8 : Int32)), (.long q0), (.int (1 : Int32)), (.ref b1)])) _
    refine XS.isub X13.here hx rfl (hb hby d1_22) rfl ?_
    show Steps p.tables e below (T13.setTop (mkF m 23 #[.val (.long q0), .second, .val (.int (8 : Int32)), .val (.ref b1), .val (.int (1 : Int32))] [(.int (7 : Int32)), (.int (8 : Int32)), (.long q0), (.int (1 : Int32)), (.ref b1)])) _
    refine XS.iload X13.here hx rfl (hb hby d1_23) rfl ?_
    show Steps p.tables e below (T13.setTop (mkF m 25 #[.val (.long q0), .second, .val (.int (8 : Int32)), .val (.ref b1), .val (.int (1 : Int32))] [(.int (1 : Int32)), (.int (7 : Int32)), (.int (8 : Int32)), (.long q0), (.int (1 : Int32)), (.ref b1)])) _
    refine XS.isub X13.here hx rfl (hb hby d1_25) rfl ?_
    show Steps p.tables e below (T13.setTop (mkF m 26 #[.val (.long q0), .second, .val (.int (8 : Int32)), .val (.ref b1), .val (.int (1 : Int32))] [(.int (6 : Int32)), (.int (8 : Int32)), (.long q0), (.int (1 : Int32)), (.ref b1)])) _
    refine XS.imul X13.here hx rfl (hb hby d1_26) rfl ?_
    show Steps p.tables e below (T13.setTop (mkF m 27 #[.val (.long q0), .second, .val (.int (8 : Int32)), .val (.ref b1), .val (.int (1 : Int32))] [(.int (48 : Int32)), (.long q0), (.int (1 : Int32)), (.ref b1)])) _
    refine XS.lushr X13.here hx rfl (hb hby d1_27) rfl ?_
    show Steps p.tables e below (T13.setTop (mkF m 28 #[.val (.long q0), .second, .val (.int (8 : Int32)), .val (.ref b1), .val (.int (1 : Int32))] [(.long ((q0.toUInt64 >>> ((48 : Int32) &&& 0x3f).toInt64.toUInt64).toInt64)), (.int (1 : Int32)), (.ref b1)])) _
    refine XS.l2i X13.here hx rfl (hb hby d1_28) rfl ?_
    show Steps p.tables e below (T13.setTop (mkF m 29 #[.val (.long q0), .second, .val (.int (8 : Int32)), .val (.ref b1), .val (.int (1 : Int32))] [(.int (((q0.toUInt64 >>> ((48 : Int32) &&& 0x3f).toInt64.toUInt64).toInt64).toInt32)), (.int (1 : Int32)), (.ref b1)])) _
    refine XS.i2b X13.here hx rfl (hb hby d1_29) rfl ?_
    show Steps p.tables e below (T13.setTop (mkF m 30 #[.val (.long q0), .second, .val (.int (8 : Int32)), .val (.ref b1), .val (.int (1 : Int32))] [(.int ((((q0.toUInt64 >>> ((48 : Int32) &&& 0x3f).toInt64.toUInt64).toInt64).toInt32).toInt8.toInt32)), (.int (1 : Int32)), (.ref b1)])) _
    refine st15 _ ?_
    show Steps p.tables e below (T15.setTop (mkF m 31 #[.val (.long q0), .second, .val (.int (8 : Int32)), .val (.ref b1), .val (.int (1 : Int32))] [])) _
    refine XS.iinc X15.here hx rfl (hb hby d1_31) rfl (l' := #[.val (.long q0), .second, .val (.int (8 : Int32)), .val (.ref b1), .val (.int (0 : Int32))]) rfl ?_
    show Steps p.tables e below (T15.setTop (mkF m 34 #[.val (.long q0), .second, .val (.int (8 : Int32)), .val (.ref b1), .val (.int (0 : Int32))] [])) _
    refine XS.goto X15.here hx rfl (pc0 := 34) (pc' := 9) rfl (hb hby d1_34) (by decide) (by decide) ?_
    show Steps p.tables e below (T15.setTop (mkF m 9 #[.val (.long q0), .second, .val (.int (8 : Int32)), .val (.ref b1), .val (.int (0 : Int32))] [])) _
    refine XS.iload X15.here hx rfl (hb hby d1_9) rfl ?_
    show Steps p.tables e below (T15.setTop (mkF m 11 #[.val (.long q0), .second, .val (.int (8 : Int32)), .val (.ref b1), .val (.int (0 : Int32))] [(.int (0 : Int32))])) _
    refine XS.ifNo X15.here hx rfl (hb hby d1_11) rfl ((if0 _ _).trans (flt (by decide : ¬ ((0 : Int32) < (0 : Int32)))).1) ?_
    show Steps p.tables e below (T15.setTop (mkF m 14 #[.val (.long q0), .second, .val (.int (8 : Int32)), .val (.ref b1), .val (.int (0 : Int32))] [])) _
    refine XS.aloadN X15.here hx rfl (hb hby d1_14) rfl rfl ?_
    show Steps p.tables e below (T15.setTop (mkF m 15 #[.val (.long q0), .second, .val (.int (8 : Int32)), .val (.ref b1), .val (.int (0 : Int32))] [(.ref b1)])) _
    refine XS.iload X15.here hx rfl (hb hby d1_15) rfl ?_
    show Steps p.tables e below (T15.setTop (mkF m 17 #[.val (.long q0), .second, .val (.int (8 : Int32)), .val (.ref b1), .val (.int (0 : Int32))] [(.int (0 : Int32)), (.ref b1)])) _
    refine XS.lloadN X15.here hx rfl (hb hby d1_17) rfl ?_
    show Steps p.tables e below (T15.setTop (mkF m 18 #[.val (.long q0), .second, .val (.int (8 : Int32)), .val (.ref b1), .val (.int (0 : Int32))] [(.long q0), (.int (0 : Int32)), (.ref b1)])) _
    refine XS.bipush X15.here hx rfl (hb hby d1_18) ?_
    show Steps p.tables e below (T15.setTop (mkF m 20 #[.val (.long q0), .second, .val (.int (8 : Int32)), .val (.ref b1), .val (.int (0 : Int32))] [(.int (8 : Int32)), (.long q0), (.int (0 : Int32)), (.ref b1)])) _
    refine XS.iloadN X15.here hx rfl (hb hby d1_20) rfl ?_
    show Steps p.tables e below (T15.setTop (mkF m 21 #[.val (.long q0), .second, .val (.int (8 : Int32)), .val (.ref b1), .val (.int (0 : Int32))] [(.int (8 : Int32)), (.int (8 : Int32)), (.long q0), (.int (0 : Int32)), (.ref b1)])) _
    refine XS.iconst X15.here hx rfl (hb hby d1_21) ?_
    show Steps p.tables e below (T15.setTop (mkF m 22 #[.val (.long q0), .second, .val (.int (8 : Int32)), .val (.ref b1), .val (.int (0 : Int32))] [(.int (1 : Int32)), (.int (8 : Int32)), (.int (8 : Int32)), (.long q0), (.int (0 : Int32)), (.ref b1)])) _
    refine XS.isub X15.here hx rfl (hb hby d1_22) rfl ?_
    show Steps p.tables e below (T15.setTop (mkF m 23 #[.val (.long q0), .second, .val (.int (8 : Int32)), .val (.ref b1), .val (.int (0 : Int32))] [(.int (7 : Int32)), (.int (8 : Int32)), (.long q0), (.int (0 : Int32)), (.ref b1)])) _
    refine XS.iload X15.here hx rfl (hb hby d1_23) rfl ?_
    show Steps p.tables e below (T15.setTop (mkF m 25 #[.val (.long q0), .second, .val (.int (8 : Int32)), .val (.ref b1), .val (.int (0 : Int32))] [(.int (0 : Int32)), (.int (7 : Int32)), (.int (8 : Int32)), (.long q0), (.int (0 : Int32)), (.ref b1)])) _
    refine XS.isub X15.here hx rfl (hb hby d1_25) rfl ?_
    show Steps p.tables e below (T15.setTop (mkF m 26 #[.val (.long q0), .second, .val (.int (8 : Int32)), .val (.ref b1), .val (.int (0 : Int32))] [(.int (7 : Int32)), (.int (8 : Int32)), (.long q0), (.int (0 : Int32)), (.ref b1)])) _
    refine XS.imul X15.here hx rfl (hb hby d1_26) rfl ?_
    show Steps p.tables e below (T15.setTop (mkF m 27 #[.val (.long q0), .second, .val (.int (8 : Int32)), .val (.ref b1), .val (.int (0 : Int32))] [(.int (56 : Int32)), (.long q0), (.int (0 : Int32)), (.ref b1)])) _
    refine XS.lushr X15.here hx rfl (hb hby d1_27) rfl ?_
    show Steps p.tables e below (T15.setTop (mkF m 28 #[.val (.long q0), .second, .val (.int (8 : Int32)), .val (.ref b1), .val (.int (0 : Int32))] [(.long ((q0.toUInt64 >>> ((56 : Int32) &&& 0x3f).toInt64.toUInt64).toInt64)), (.int (0 : Int32)), (.ref b1)])) _
    refine XS.l2i X15.here hx rfl (hb hby d1_28) rfl ?_
    show Steps p.tables e below (T15.setTop (mkF m 29 #[.val (.long q0), .second, .val (.int (8 : Int32)), .val (.ref b1), .val (.int (0 : Int32))] [(.int (((q0.toUInt64 >>> ((56 : Int32) &&& 0x3f).toInt64.toUInt64).toInt64).toInt32)), (.int (0 : Int32)), (.ref b1)])) _
    refine XS.i2b X15.here hx rfl (hb hby d1_29) rfl ?_
    show Steps p.tables e below (T15.setTop (mkF m 30 #[.val (.long q0), .second, .val (.int (8 : Int32)), .val (.ref b1), .val (.int (0 : Int32))] [(.int ((((q0.toUInt64 >>> ((56 : Int32) &&& 0x3f).toInt64.toUInt64).toInt64).toInt32).toInt8.toInt32)), (.int (0 : Int32)), (.ref b1)])) _
    refine st17 _ ?_
    show Steps p.tables e below (T17.setTop (mkF m 31 #[.val (.long q0), .second, .val (.int (8 : Int32)), .val (.ref b1), .val (.int (0 : Int32))] [])) _
    refine XS.iinc X17.here hx rfl (hb hby d1_31) rfl (l' := #[.val (.long q0), .second, .val (.int (8 : Int32)), .val (.ref b1), .val (.int (-1 : Int32))]) rfl ?_
    show Steps p.tables e below (T17.setTop (mkF m 34 #[.val (.long q0), .second, .val (.int (8 : Int32)), .val (.ref b1), .val (.int (-1 : Int32))] [])) _
    refine XS.goto X17.here hx rfl (pc0 := 34) (pc' := 9) rfl (hb hby d1_34) (by decide) (by decide) ?_
    show Steps p.tables e below (T17.setTop (mkF m 9 #[.val (.long q0), .second, .val (.int (8 : Int32)), .val (.ref b1), .val (.int (-1 : Int32))] [])) _
    refine XS.iload X17.here hx rfl (hb hby d1_9) rfl ?_
    show Steps p.tables e below (T17.setTop (mkF m 11 #[.val (.long q0), .second, .val (.int (8 : Int32)), .val (.ref b1), .val (.int (-1 : Int32))] [(.int (-1 : Int32))])) _
    refine XS.ifYes X17.here hx rfl (pc0 := 11) (pc' := 37) rfl (hb hby d1_11) rfl ((if0 _ _).trans (tlt (by decide : (-1 : Int32) < (0 : Int32))).1) (by decide) (by decide) ?_
    show Steps p.tables e below (T17.setTop (mkF m 37 #[.val (.long q0), .second, .val (.int (8 : Int32)), .val (.ref b1), .val (.int (-1 : Int32))] [])) _
    refine XS.aloadN X17.here hx rfl (hb hby d1_37) rfl rfl ?_
    show Steps p.tables e below (T17.setTop (mkF m 38 #[.val (.long q0), .second, .val (.int (8 : Int32)), .val (.ref b1), .val (.int (-1 : Int32))] [(.ref b1)])) _
    exact retOut X17 hx Bd.returns rfl (Or.inr (Or.inr (Or.inr (Or.inr ⟨rfl, rfl, rfl⟩)))) (hb hby d1_38) hr
  · show Qb8 Z q0 h0 n0 _ T17.heap _
    rw [e17]
    exact ⟨_, _, rfl, N17, K17, V17⟩
theorem d2_0 : decode method_2_code 0 = .ok (.iload_n 3, 1) := by decide +kernel
theorem d2_1 : decode method_2_code 1 = .ok (.aload_n 2, 1) := by decide +kernel
theorem d2_2 : decode method_2_code 2 = .ok (.arraylength, 1) := by decide +kernel
theorem d2_3 : decode method_2_code 3 = .ok (.if_icmp .ge 19, 3) := by decide +kernel
theorem d2_6 : decode method_2_code 6 = .ok (.lload_n 0, 1) := by decide +kernel
theorem d2_7 : decode method_2_code 7 = .ok (.bipush 8, 2) := by decide +kernel
theorem d2_9 : decode method_2_code 9 = .ok (.lshl, 1) := by decide +kernel
theorem d2_10 : decode method_2_code 10 = .ok (.aload_n 2, 1) := by decide +kernel
theorem d2_11 : decode method_2_code 11 = .ok (.iload_n 3, 1) := by decide +kernel
theorem d2_12 : decode method_2_code 12 = .ok (.baload, 1) := by decide +kernel
theorem d2_13 : decode method_2_code 13 = .ok (.i2l, 1) := by decide +kernel
theorem d2_14 : decode method_2_code 14 = .ok (.ldc2_w 7, 3) := by decide +kernel
theorem d2_17 : decode method_2_code 17 = .ok (.land, 1) := by decide +kernel
theorem d2_18 : decode method_2_code 18 = .ok (.lor, 1) := by decide +kernel
theorem d2_19 : decode method_2_code 19 = .ok (.goto 4, 3) := by decide +kernel
theorem d2_23 : decode method_2_code 23 = .ok (.lreturn, 1) := by decide +kernel
theorem ef_rmsi (m : MethodId) (q0 : Int64) (o1 : Addr) (p2 : Int32) : entryFrame m #[(.long q0), (.ref o1), (.int p2)] 4 = mkF m 0 #[.val (.long q0), .second, .val (.ref o1), .val (.int p2)] [] := by first | (simp [entryFrame, mkF, argsToLocals, Value.category]; done) | rfl
def Qsi (Z : State) (q0 : Int64) (o1 : Addr) (p2 : Int32) (cl : Cell) (z : Int32) (w : Int32) (h0 : Heap) (n0 : Nat) (v : Option Value) (h : Heap) (L : List Loc) : Prop := v = some (.long (own_st q0 w)) ∧ Fr n0 L ∧ h = h0
set_option maxRecDepth 65536 in
set_option maxHeartbeats 40000000 in
theorem rmsi (l : Launch) (Z : State) (a0 : Array Value) (hw : ∀ d ∈ tables_1, d.before a0 Z = true) (ws : List Jvm.Cond) (q0 : Int64) (o1 : Addr) (p2 : Int32) (cl : Cell) (z : Int32) (w : Int32) (h0 : Heap) (n0 : Nat) (Z0 : n0 ≤ h0.size) (Ar : Arr Z h0 o1 cl .byte) (S : cl.slots.size = z.toNatClampNeg) (M : ¬ z < 0) (hc : p2 < z) (hin : ¬ (p2 < 0 ∨ cl.slots.size ≤ p2.toNatClampNeg)) (hat : cl.slots[p2.toNatClampNeg]? = some (.int w)) :
    MetFree l (⟨"shale/ValueTypeBigEndianPinLaw", "step", "(J[BI)J"⟩ : MethodName) (head1 (Jvm.Cond.code (⟨"shale/ValueTypeBigEndianPinLaw", "step", "(J[BI)J"⟩ : MethodName) method_2_code 4 (some .long) :: ws) ({ frames := 0, cells := 0, slots := 0, locals := 0 } : Room)) (fun a U => a = #[(.long q0), (.ref o1), (.int p2)] ∧ Z.Warmed39 U.vm ∧ U.heap = h0) (fun _ _ _ _ _ => True) (fun _ U o U' => ∃ v L, o = .returned v ∧ Qsi Z q0 o1 p2 cl z w h0 n0 v U'.heap L ∧ FrameEnd U o U' L ({ frames := 0, cells := 0, slots := 0, locals := 0 } : Room).cells ({ frames := 0, cells := 0, slots := 0, locals := 0 } : Room).slots) := by
  refine MetFree.of_bodySF (plainFor_of_name pn_1) hisR ?_
  intro p e s m args below meth c s₁ Bd hml0 hP hK
  obtain ⟨rfl, hZ, hh⟩ := hP
  have hx := Bd.exec
  have hby := Bd.bytes
  have hml : c.maxLocals = 4 := hml0
  have hown : s.vm.findClass "shale/ValueTypeBigEndianPinLaw" = some m.cls := findClass_of_methodNamed Bd.named
  have hnm := (name_of_methodNamed Bd.named Bd.method).1
  have X0 : Stand p l e ({ frames := 0, cells := 0, slots := 0, locals := 0 } : Room) s m #[(.long q0), (.ref o1), (.int p2)] below meth c s₁ [] 0 0 := Stand.of_body Bd
  have e0 : s₁.heap = h0 := by rw [← hh, Bd.state]; rfl
  have N0 := Fr.nil n0
  have pre0 : ∀ t, Steps p.tables e below (s₁.setTop (mkF m 0 #[.val (.long q0), .second, .val (.ref o1), .val (.int p2)] [])) t → Steps p.tables e below (s₁.setTop (entryFrame m #[(.long q0), (.ref o1), (.int p2)] 4)) t := fun t k => castTop (ef_rmsi m q0 o1 p2) k
  obtain ⟨fs, hr, hrun, hended, hW, hsame⟩ := X0.leave (v := some (.long ((q0 <<< ((8 : Int32) &&& 0x3f).toInt64) ||| ((w.toInt64) &&& (255 : Int64))))) (fun h => by rw [Bd.returns] at h; cases h)
  refine ⟨_, _, pre0 _ ?_, hrun, hended, _, _, rfl, ?_, ⟨_, rfl⟩, hW, hsame.mono (by decide) (by decide)⟩
  · show Steps p.tables e below (s₁.setTop (mkF m 0 #[.val (.long q0), .second, .val (.ref o1), .val (.int p2)] [])) _
    refine XS.iloadN X0.here hx rfl (hb hby d2_0) rfl ?_
    show Steps p.tables e below (s₁.setTop (mkF m 1 #[.val (.long q0), .second, .val (.ref o1), .val (.int p2)] [(.int p2)])) _
    refine XS.aloadN X0.here hx rfl (hb hby d2_1) rfl rfl ?_
    show Steps p.tables e below (s₁.setTop (mkF m 2 #[.val (.long q0), .second, .val (.ref o1), .val (.int p2)] [(.ref o1), (.int p2)])) _
    refine X0.arraylength hx (by rw [e0]; exact Ar.1) (State.isArrayOf_alike hZ.alike Ar.2.1) (g := (mkF m 2 #[.val (.long q0), .second, .val (.ref o1), .val (.int p2)] [(.ref o1), (.int p2)])) rfl rfl (hb hby d2_2) _ ?_
    rw [len_of S M]
    show Steps p.tables e below (s₁.setTop (mkF m 3 #[.val (.long q0), .second, .val (.ref o1), .val (.int p2)] [(.int z), (.int p2)])) _
    refine XS.icmpNo X0.here hx rfl (hb hby d2_3) rfl (tlt hc).2.1 ?_
    show Steps p.tables e below (s₁.setTop (mkF m 6 #[.val (.long q0), .second, .val (.ref o1), .val (.int p2)] [])) _
    refine XS.lloadN X0.here hx rfl (hb hby d2_6) rfl ?_
    show Steps p.tables e below (s₁.setTop (mkF m 7 #[.val (.long q0), .second, .val (.ref o1), .val (.int p2)] [(.long q0)])) _
    refine XS.bipush X0.here hx rfl (hb hby d2_7) ?_
    show Steps p.tables e below (s₁.setTop (mkF m 9 #[.val (.long q0), .second, .val (.ref o1), .val (.int p2)] [(.int (8 : Int32)), (.long q0)])) _
    refine XS.lshl X0.here hx rfl (hb hby d2_9) rfl ?_
    show Steps p.tables e below (s₁.setTop (mkF m 10 #[.val (.long q0), .second, .val (.ref o1), .val (.int p2)] [(.long (q0 <<< ((8 : Int32) &&& 0x3f).toInt64))])) _
    refine XS.aloadN X0.here hx rfl (hb hby d2_10) rfl rfl ?_
    show Steps p.tables e below (s₁.setTop (mkF m 11 #[.val (.long q0), .second, .val (.ref o1), .val (.int p2)] [(.ref o1), (.long (q0 <<< ((8 : Int32) &&& 0x3f).toInt64))])) _
    refine XS.iloadN X0.here hx rfl (hb hby d2_11) rfl ?_
    show Steps p.tables e below (s₁.setTop (mkF m 12 #[.val (.long q0), .second, .val (.ref o1), .val (.int p2)] [(.int p2), (.ref o1), (.long (q0 <<< ((8 : Int32) &&& 0x3f).toInt64))])) _
    refine X0.baloadBytes hx (j := p2) (v := (.int w)) (by rw [e0]; exact Ar.1) (State.isArrayOf_alike hZ.alike Ar.2.1) Ar.2.2 hin hat (g := (mkF m 12 #[.val (.long q0), .second, .val (.ref o1), .val (.int p2)] [(.int p2), (.ref o1), (.long (q0 <<< ((8 : Int32) &&& 0x3f).toInt64))])) rfl rfl (hb hby d2_12) _ ?_
    show Steps p.tables e below (s₁.setTop (mkF m 13 #[.val (.long q0), .second, .val (.ref o1), .val (.int p2)] [(.int w), (.long (q0 <<< ((8 : Int32) &&& 0x3f).toInt64))])) _
    refine XS.i2l X0.here hx rfl (hb hby d2_13) rfl ?_
    show Steps p.tables e below (s₁.setTop (mkF m 14 #[.val (.long q0), .second, .val (.ref o1), .val (.int p2)] [(.long (w.toInt64)), (.long (q0 <<< ((8 : Int32) &&& 0x3f).toInt64))])) _
    refine X0.ldc2Long hx hown (mvT hZ (hw _ (List.mem_of_getElem? (i := 10) rfl))) (g := (mkF m 14 #[.val (.long q0), .second, .val (.ref o1), .val (.int p2)] [(.long (w.toInt64)), (.long (q0 <<< ((8 : Int32) &&& 0x3f).toInt64))])) rfl (hb hby d2_14) _ ?_
    show Steps p.tables e below (s₁.setTop (mkF m 17 #[.val (.long q0), .second, .val (.ref o1), .val (.int p2)] [(.long (255 : Int64)), (.long (w.toInt64)), (.long (q0 <<< ((8 : Int32) &&& 0x3f).toInt64))])) _
    refine XS.land X0.here hx rfl (hb hby d2_17) rfl ?_
    show Steps p.tables e below (s₁.setTop (mkF m 18 #[.val (.long q0), .second, .val (.ref o1), .val (.int p2)] [(.long ((w.toInt64) &&& (255 : Int64))), (.long (q0 <<< ((8 : Int32) &&& 0x3f).toInt64))])) _
    refine XS.lor X0.here hx rfl (hb hby d2_18) rfl ?_
    show Steps p.tables e below (s₁.setTop (mkF m 19 #[.val (.long q0), .second, .val (.ref o1), .val (.int p2)] [(.long ((q0 <<< ((8 : Int32) &&& 0x3f).toInt64) ||| ((w.toInt64) &&& (255 : Int64))))])) _
    refine XS.goto X0.here hx rfl (pc0 := 19) (pc' := 23) rfl (hb hby d2_19) (by decide) (by decide) ?_
    show Steps p.tables e below (s₁.setTop (mkF m 23 #[.val (.long q0), .second, .val (.ref o1), .val (.int p2)] [(.long ((q0 <<< ((8 : Int32) &&& 0x3f).toInt64) ||| ((w.toInt64) &&& (255 : Int64))))])) _
    exact retOut X0 hx (t := .long) Bd.returns rfl (Or.inr (Or.inl ⟨rfl, rfl, _, rfl⟩)) (hb hby d2_23) hr
  · show Qsi Z q0 o1 p2 cl z w h0 n0 _ s₁.heap _
    rw [e0]
    exact ⟨rfl, N0, rfl⟩
theorem d2_22 : decode method_2_code 22 = .ok (.lload_n 0, 1) := by decide +kernel
theorem ef_rmso (m : MethodId) (q0 : Int64) (o1 : Addr) (p2 : Int32) : entryFrame m #[(.long q0), (.ref o1), (.int p2)] 4 = mkF m 0 #[.val (.long q0), .second, .val (.ref o1), .val (.int p2)] [] := by first | (simp [entryFrame, mkF, argsToLocals, Value.category]; done) | rfl
def Qso (Z : State) (q0 : Int64) (o1 : Addr) (p2 : Int32) (cl : Cell) (z : Int32) (h0 : Heap) (n0 : Nat) (v : Option Value) (h : Heap) (L : List Loc) : Prop := v = some (.long q0) ∧ Fr n0 L ∧ h = h0
set_option maxRecDepth 65536 in
set_option maxHeartbeats 40000000 in
theorem rmso (l : Launch) (Z : State) (a0 : Array Value) (hw : ∀ d ∈ tables_1, d.before a0 Z = true) (ws : List Jvm.Cond) (q0 : Int64) (o1 : Addr) (p2 : Int32) (cl : Cell) (z : Int32) (h0 : Heap) (n0 : Nat) (Z0 : n0 ≤ h0.size) (Ar : Arr Z h0 o1 cl .byte) (S : cl.slots.size = z.toNatClampNeg) (M : ¬ z < 0) (hc : ¬ p2 < z) :
    MetFree l (⟨"shale/ValueTypeBigEndianPinLaw", "step", "(J[BI)J"⟩ : MethodName) (head1 (Jvm.Cond.code (⟨"shale/ValueTypeBigEndianPinLaw", "step", "(J[BI)J"⟩ : MethodName) method_2_code 4 (some .long) :: ws) ({ frames := 0, cells := 0, slots := 0, locals := 0 } : Room)) (fun a U => a = #[(.long q0), (.ref o1), (.int p2)] ∧ Z.Warmed39 U.vm ∧ U.heap = h0) (fun _ _ _ _ _ => True) (fun _ U o U' => ∃ v L, o = .returned v ∧ Qso Z q0 o1 p2 cl z h0 n0 v U'.heap L ∧ FrameEnd U o U' L ({ frames := 0, cells := 0, slots := 0, locals := 0 } : Room).cells ({ frames := 0, cells := 0, slots := 0, locals := 0 } : Room).slots) := by
  refine MetFree.of_bodySF (plainFor_of_name pn_1) hisR ?_
  intro p e s m args below meth c s₁ Bd hml0 hP hK
  obtain ⟨rfl, hZ, hh⟩ := hP
  have hx := Bd.exec
  have hby := Bd.bytes
  have hml : c.maxLocals = 4 := hml0
  have hown : s.vm.findClass "shale/ValueTypeBigEndianPinLaw" = some m.cls := findClass_of_methodNamed Bd.named
  have hnm := (name_of_methodNamed Bd.named Bd.method).1
  have X0 : Stand p l e ({ frames := 0, cells := 0, slots := 0, locals := 0 } : Room) s m #[(.long q0), (.ref o1), (.int p2)] below meth c s₁ [] 0 0 := Stand.of_body Bd
  have e0 : s₁.heap = h0 := by rw [← hh, Bd.state]; rfl
  have N0 := Fr.nil n0
  have pre0 : ∀ t, Steps p.tables e below (s₁.setTop (mkF m 0 #[.val (.long q0), .second, .val (.ref o1), .val (.int p2)] [])) t → Steps p.tables e below (s₁.setTop (entryFrame m #[(.long q0), (.ref o1), (.int p2)] 4)) t := fun t k => castTop (ef_rmso m q0 o1 p2) k
  obtain ⟨fs, hr, hrun, hended, hW, hsame⟩ := X0.leave (v := some (.long q0)) (fun h => by rw [Bd.returns] at h; cases h)
  refine ⟨_, _, pre0 _ ?_, hrun, hended, _, _, rfl, ?_, ⟨_, rfl⟩, hW, hsame.mono (by decide) (by decide)⟩
  · show Steps p.tables e below (s₁.setTop (mkF m 0 #[.val (.long q0), .second, .val (.ref o1), .val (.int p2)] [])) _
    refine XS.iloadN X0.here hx rfl (hb hby d2_0) rfl ?_
    show Steps p.tables e below (s₁.setTop (mkF m 1 #[.val (.long q0), .second, .val (.ref o1), .val (.int p2)] [(.int p2)])) _
    refine XS.aloadN X0.here hx rfl (hb hby d2_1) rfl rfl ?_
    show Steps p.tables e below (s₁.setTop (mkF m 2 #[.val (.long q0), .second, .val (.ref o1), .val (.int p2)] [(.ref o1), (.int p2)])) _
    refine X0.arraylength hx (by rw [e0]; exact Ar.1) (State.isArrayOf_alike hZ.alike Ar.2.1) (g := (mkF m 2 #[.val (.long q0), .second, .val (.ref o1), .val (.int p2)] [(.ref o1), (.int p2)])) rfl rfl (hb hby d2_2) _ ?_
    rw [len_of S M]
    show Steps p.tables e below (s₁.setTop (mkF m 3 #[.val (.long q0), .second, .val (.ref o1), .val (.int p2)] [(.int z), (.int p2)])) _
    refine XS.icmpYes X0.here hx rfl (pc0 := 3) (pc' := 22) rfl (hb hby d2_3) rfl (flt hc).2.1 (by decide) (by decide) ?_
    show Steps p.tables e below (s₁.setTop (mkF m 22 #[.val (.long q0), .second, .val (.ref o1), .val (.int p2)] [])) _
    refine XS.lloadN X0.here hx rfl (hb hby d2_22) rfl ?_
    show Steps p.tables e below (s₁.setTop (mkF m 23 #[.val (.long q0), .second, .val (.ref o1), .val (.int p2)] [(.long q0)])) _
    exact retOut X0 hx (t := .long) Bd.returns rfl (Or.inr (Or.inl ⟨rfl, rfl, _, rfl⟩)) (hb hby d2_23) hr
  · show Qso Z q0 o1 p2 cl z h0 n0 _ s₁.heap _
    rw [e0]
    exact ⟨rfl, N0, rfl⟩
theorem ef_rm0_0 (m : MethodId) (q0 : Int64) (p1 : Int32) : entryFrame m #[(.long q0), (.int p1)] maxLocals = mkF m 0 #[.val (.long q0), .second, .val (.int p1), .unset, .unset, .unset, .unset, .unset, .unset] [] := by first | (simp [entryFrame, mkF, argsToLocals, Value.category, maxLocals]; done) | rfl
def Q0_0 (Z : State) (q0 : Int64) (p1 : Int32) (h0 : Heap) (n0 : Nat) (v : Option Value) (h : Heap) (L : List Loc) : Prop := v = some (.int (1 : Int32)) ∧ Fr n0 L
set_option maxRecDepth 65536 in
set_option maxHeartbeats 40000000 in
theorem rm0_0 (l : Launch) (Z : State) (a0 : Array Value) (hw : ∀ d ∈ tables_1, d.before a0 Z = true) (ws : List Jvm.Cond) (q0 : Int64) (p1 : Int32) (h0 : Heap) (n0 : Nat) (Z0 : n0 ≤ h0.size) (hwid : ((p1 &&& (2147483647 : Int32)) % (9 : Int32)) = (0 : Int32)) :
    MetFree l x (head1 (Jvm.Cond.code x code maxLocals ret :: ws) room_1) (fun a U => a = #[(.long q0), (.int p1)] ∧ Z.Warmed39 U.vm ∧ U.heap = h0) (fun _ _ _ _ _ => True) (fun _ U o U' => ∃ v L, o = .returned v ∧ Q0_0 Z q0 p1 h0 n0 v U'.heap L ∧ FrameEnd U o U' L room_1.cells room_1.slots) := by
  refine MetFree.of_bodySF (plainFor_of_name pn_1) hisR ?_
  intro p e s m args below meth c s₁ Bd hml0 hP hK
  obtain ⟨rfl, hZ, hh⟩ := hP
  have hx := Bd.exec
  have hby := Bd.bytes
  have hml : c.maxLocals = 9 := hml0
  have hown : s.vm.findClass "shale/ValueTypeBigEndianPinLaw" = some m.cls := findClass_of_methodNamed Bd.named
  have hnm := (name_of_methodNamed Bd.named Bd.method).1
  have X0 : Stand p l e room_1 s m #[(.long q0), (.int p1)] below meth c s₁ [] 0 0 := Stand.of_body Bd
  have e0 : s₁.heap = h0 := by rw [← hh, Bd.state]; rfl
  have N0 := Fr.nil n0
  have pre0 : ∀ t, Steps p.tables e below (s₁.setTop (mkF m 0 #[.val (.long q0), .second, .val (.int p1), .unset, .unset, .unset, .unset, .unset, .unset] [])) t → Steps p.tables e below (s₁.setTop (entryFrame m #[(.long q0), (.int p1)] maxLocals)) t := fun t k => castTop (ef_rm0_0 m q0 p1) k
  obtain ⟨wd, hm1, pre2⟩ : ∃ (wd : Int32), (wd = (0 : Int32)) ∧ ∀ t, Steps p.tables e below (s₁.setTop (mkF m 7 #[.val (.long q0), .second, .val (.int p1), .unset, .unset, .unset, .unset, .unset, .unset] [(.int wd)])) t → Steps p.tables e below (s₁.setTop (entryFrame m #[(.long q0), (.int p1)] maxLocals)) t := by
    refine ⟨((p1 &&& (2147483647 : Int32)) % (9 : Int32)), hwid, fun t kt => ?_⟩
    refine pre0 _ ?_
    show Steps p.tables e below (s₁.setTop (mkF m 0 #[.val (.long q0), .second, .val (.int p1), .unset, .unset, .unset, .unset, .unset, .unset] [])) _
    refine XS.iloadN X0.here hx rfl (hb hby at_0) rfl ?_
    show Steps p.tables e below (s₁.setTop (mkF m 1 #[.val (.long q0), .second, .val (.int p1), .unset, .unset, .unset, .unset, .unset, .unset] [(.int p1)])) _
    refine X0.ldcInt hx hown (mvT hZ (hw _ (List.mem_of_getElem? (i := 0) rfl))) (g := (mkF m 1 #[.val (.long q0), .second, .val (.int p1), .unset, .unset, .unset, .unset, .unset, .unset] [(.int p1)])) rfl (hb hby at_1) _ ?_
    show Steps p.tables e below (s₁.setTop (mkF m 3 #[.val (.long q0), .second, .val (.int p1), .unset, .unset, .unset, .unset, .unset, .unset] [(.int (2147483647 : Int32)), (.int p1)])) _
    refine XS.iand X0.here hx rfl (hb hby at_3) rfl ?_
    show Steps p.tables e below (s₁.setTop (mkF m 4 #[.val (.long q0), .second, .val (.int p1), .unset, .unset, .unset, .unset, .unset, .unset] [(.int (p1 &&& (2147483647 : Int32)))])) _
    refine XS.bipush X0.here hx rfl (hb hby at_4) ?_
    show Steps p.tables e below (s₁.setTop (mkF m 6 #[.val (.long q0), .second, .val (.int p1), .unset, .unset, .unset, .unset, .unset, .unset] [(.int (9 : Int32)), (.int (p1 &&& (2147483647 : Int32)))])) _
    refine iremM X0 hx rfl (hb hby at_6) rfl (by decide) ?_
    exact kt
  subst hm1
  obtain ⟨_, _, ⟨T3, L3, k3, n3⟩, -, X3, ⟨Lc3, hQ3, l3, y3, z3⟩, st3⟩ := Jvm.LawKit.callS X0 hx (y := (⟨"shale/ValueType", "bigEndian", "(JI)[B"⟩ : MethodName)) hown (mvT hZ (hw _ (List.mem_of_getElem? (i := 1) rfl))) (mvT hZ (hw _ (List.mem_of_getElem? (i := 2) rfl))) (mvT hZ (hw _ (List.mem_of_getElem? (i := 3) rfl))) (mvT hZ (hw _ (List.mem_of_getElem? (i := 4) rfl))) (by decide) (backOf (W := 0) (rmb0 l Z a0 hw [] q0 h0 n0 Z0 ) hZ (hw _ (List.mem_of_getElem? (i := 4) rfl)) (hw _ (List.mem_of_getElem? (i := 3) rfl)) (by decide) (by decide)) (g := (mkF m 10 #[.val (.long q0), .second, .val (.int p1), .val (.int (0 : Int32)), .unset, .unset, .unset, .unset, .unset] [(.int (0 : Int32)), (.long q0)])) rfl (by rw [hml]; rfl) (argsL := [(.long q0), (.int (0 : Int32))]) (rest := []) (lenOf pd_0 rfl) rfl (by show 2 * 0 + _ ≤ _; exact Nat.le_of_eq rfl) (hb hby at_10) (fun _ _ => ⟨rfl, e0, (by decide : 0 + 1 ≤ _), (by decide : 0 + 0 ≤ _)⟩)
  dsimp only [Pt.U, Pt.locs, Pt.cells, Pt.slots] at X3 l3 y3 z3 st3 hQ3
  subst l3 y3 z3
  obtain ⟨b3, kk3, rfl, N3q, K3, V3⟩ := hQ3
  have N3 := Fr.app N0 N3q
  have Z4 : n0 ≤ T3.heap.size := Nat.le_trans Z0 K3.1
  obtain ⟨cl3, Ar3, -, Sa3, Ma3, Ha3, -⟩ := V3
  obtain ⟨_, _, ⟨T5, L5, k5, n5⟩, -, X5, ⟨Lc5, hQ5, l5, y5, z5⟩, st5⟩ := Jvm.LawKit.callS X3 hx (y := (⟨"shale/ValueTypeBigEndianPinLaw", "step", "(J[BI)J"⟩ : MethodName)) hown (mvT hZ (hw _ (List.mem_of_getElem? (i := 6) rfl))) (mvT hZ (hw _ (List.mem_of_getElem? (i := 7) rfl))) (mvT hZ (hw _ (List.mem_of_getElem? (i := 8) rfl))) (mvT hZ (hw _ (List.mem_of_getElem? (i := 9) rfl))) (by decide) (backOf (W := 0) (rmso l Z a0 hw [] (0 : Int64) b3 (0 : Int32) cl3 (0 : Int32) T3.heap n0 Z4 Ar3 Sa3 Ma3 (by decide)) hZ (hw _ (List.mem_of_getElem? (i := 9) rfl)) (hw _ (List.mem_of_getElem? (i := 8) rfl)) (by decide) (by decide)) (g := (mkF m 32 #[.val (.long q0), .second, .val (.int p1), .val (.int (0 : Int32)), .val (.ref b3), .val (.long (0 : Int64)), .second, .unset, .unset] [(.int (0 : Int32)), (.ref b3), (.long (0 : Int64))])) rfl (by rw [hml]; rfl) (argsL := [(.long (0 : Int64)), (.ref b3), (.int (0 : Int32))]) (rest := []) (lenOf pd_1 rfl) rfl (by show 2 * 0 + _ ≤ _; exact Nat.le_of_eq rfl) (hb hby at_32) (fun _ _ => ⟨rfl, rfl, (by decide : 1 + 0 ≤ _), (by decide : 0 + 0 ≤ _)⟩)
  dsimp only [Pt.U, Pt.locs, Pt.cells, Pt.slots] at X5 l5 y5 z5 st5 hQ5
  subst l5 y5 z5
  obtain ⟨rfl, N5q, e5q⟩ := hQ5
  have N5 := Fr.app N3 N5q
  obtain ⟨_, _, ⟨T6, L6, k6, n6⟩, -, X6, ⟨Lc6, hQ6, l6, y6, z6⟩, st6⟩ := Jvm.LawKit.callS X5 hx (y := (⟨"shale/ValueTypeBigEndianPinLaw", "step", "(J[BI)J"⟩ : MethodName)) hown (mvT hZ (hw _ (List.mem_of_getElem? (i := 6) rfl))) (mvT hZ (hw _ (List.mem_of_getElem? (i := 7) rfl))) (mvT hZ (hw _ (List.mem_of_getElem? (i := 8) rfl))) (mvT hZ (hw _ (List.mem_of_getElem? (i := 9) rfl))) (by decide) (backOf (W := 0) (rmso l Z a0 hw [] (0 : Int64) b3 (1 : Int32) cl3 (0 : Int32) T3.heap n0 Z4 Ar3 Sa3 Ma3 (by decide)) hZ (hw _ (List.mem_of_getElem? (i := 9) rfl)) (hw _ (List.mem_of_getElem? (i := 8) rfl)) (by decide) (by decide)) (g := (mkF m 42 #[.val (.long q0), .second, .val (.int p1), .val (.int (0 : Int32)), .val (.ref b3), .val (.long (0 : Int64)), .second, .unset, .unset] [(.int (1 : Int32)), (.ref b3), (.long (0 : Int64))])) rfl (by rw [hml]; rfl) (argsL := [(.long (0 : Int64)), (.ref b3), (.int (1 : Int32))]) (rest := []) (lenOf pd_1 rfl) rfl (by show 2 * 0 + _ ≤ _; exact Nat.le_of_eq rfl) (hb hby at_42) (fun _ _ => ⟨rfl, e5q, (by decide : 1 + 0 ≤ _), (by decide : 0 + 0 ≤ _)⟩)
  dsimp only [Pt.U, Pt.locs, Pt.cells, Pt.slots] at X6 l6 y6 z6 st6 hQ6
  subst l6 y6 z6
  obtain ⟨rfl, N6q, e6q⟩ := hQ6
  have N6 := Fr.app N5 N6q
  obtain ⟨_, _, ⟨T7, L7, k7, n7⟩, -, X7, ⟨Lc7, hQ7, l7, y7, z7⟩, st7⟩ := Jvm.LawKit.callS X6 hx (y := (⟨"shale/ValueTypeBigEndianPinLaw", "step", "(J[BI)J"⟩ : MethodName)) hown (mvT hZ (hw _ (List.mem_of_getElem? (i := 6) rfl))) (mvT hZ (hw _ (List.mem_of_getElem? (i := 7) rfl))) (mvT hZ (hw _ (List.mem_of_getElem? (i := 8) rfl))) (mvT hZ (hw _ (List.mem_of_getElem? (i := 9) rfl))) (by decide) (backOf (W := 0) (rmso l Z a0 hw [] (0 : Int64) b3 (2 : Int32) cl3 (0 : Int32) T3.heap n0 Z4 Ar3 Sa3 Ma3 (by decide)) hZ (hw _ (List.mem_of_getElem? (i := 9) rfl)) (hw _ (List.mem_of_getElem? (i := 8) rfl)) (by decide) (by decide)) (g := (mkF m 52 #[.val (.long q0), .second, .val (.int p1), .val (.int (0 : Int32)), .val (.ref b3), .val (.long (0 : Int64)), .second, .unset, .unset] [(.int (2 : Int32)), (.ref b3), (.long (0 : Int64))])) rfl (by rw [hml]; rfl) (argsL := [(.long (0 : Int64)), (.ref b3), (.int (2 : Int32))]) (rest := []) (lenOf pd_1 rfl) rfl (by show 2 * 0 + _ ≤ _; exact Nat.le_of_eq rfl) (hb hby at_52) (fun _ _ => ⟨rfl, e6q, (by decide : 1 + 0 ≤ _), (by decide : 0 + 0 ≤ _)⟩)
  dsimp only [Pt.U, Pt.locs, Pt.cells, Pt.slots] at X7 l7 y7 z7 st7 hQ7
  subst l7 y7 z7
  obtain ⟨rfl, N7q, e7q⟩ := hQ7
  have N7 := Fr.app N6 N7q
  obtain ⟨_, _, ⟨T8, L8, k8, n8⟩, -, X8, ⟨Lc8, hQ8, l8, y8, z8⟩, st8⟩ := Jvm.LawKit.callS X7 hx (y := (⟨"shale/ValueTypeBigEndianPinLaw", "step", "(J[BI)J"⟩ : MethodName)) hown (mvT hZ (hw _ (List.mem_of_getElem? (i := 6) rfl))) (mvT hZ (hw _ (List.mem_of_getElem? (i := 7) rfl))) (mvT hZ (hw _ (List.mem_of_getElem? (i := 8) rfl))) (mvT hZ (hw _ (List.mem_of_getElem? (i := 9) rfl))) (by decide) (backOf (W := 0) (rmso l Z a0 hw [] (0 : Int64) b3 (3 : Int32) cl3 (0 : Int32) T3.heap n0 Z4 Ar3 Sa3 Ma3 (by decide)) hZ (hw _ (List.mem_of_getElem? (i := 9) rfl)) (hw _ (List.mem_of_getElem? (i := 8) rfl)) (by decide) (by decide)) (g := (mkF m 62 #[.val (.long q0), .second, .val (.int p1), .val (.int (0 : Int32)), .val (.ref b3), .val (.long (0 : Int64)), .second, .unset, .unset] [(.int (3 : Int32)), (.ref b3), (.long (0 : Int64))])) rfl (by rw [hml]; rfl) (argsL := [(.long (0 : Int64)), (.ref b3), (.int (3 : Int32))]) (rest := []) (lenOf pd_1 rfl) rfl (by show 2 * 0 + _ ≤ _; exact Nat.le_of_eq rfl) (hb hby at_62) (fun _ _ => ⟨rfl, e7q, (by decide : 1 + 0 ≤ _), (by decide : 0 + 0 ≤ _)⟩)
  dsimp only [Pt.U, Pt.locs, Pt.cells, Pt.slots] at X8 l8 y8 z8 st8 hQ8
  subst l8 y8 z8
  obtain ⟨rfl, N8q, e8q⟩ := hQ8
  have N8 := Fr.app N7 N8q
  obtain ⟨_, _, ⟨T9, L9, k9, n9⟩, -, X9, ⟨Lc9, hQ9, l9, y9, z9⟩, st9⟩ := Jvm.LawKit.callS X8 hx (y := (⟨"shale/ValueTypeBigEndianPinLaw", "step", "(J[BI)J"⟩ : MethodName)) hown (mvT hZ (hw _ (List.mem_of_getElem? (i := 6) rfl))) (mvT hZ (hw _ (List.mem_of_getElem? (i := 7) rfl))) (mvT hZ (hw _ (List.mem_of_getElem? (i := 8) rfl))) (mvT hZ (hw _ (List.mem_of_getElem? (i := 9) rfl))) (by decide) (backOf (W := 0) (rmso l Z a0 hw [] (0 : Int64) b3 (4 : Int32) cl3 (0 : Int32) T3.heap n0 Z4 Ar3 Sa3 Ma3 (by decide)) hZ (hw _ (List.mem_of_getElem? (i := 9) rfl)) (hw _ (List.mem_of_getElem? (i := 8) rfl)) (by decide) (by decide)) (g := (mkF m 72 #[.val (.long q0), .second, .val (.int p1), .val (.int (0 : Int32)), .val (.ref b3), .val (.long (0 : Int64)), .second, .unset, .unset] [(.int (4 : Int32)), (.ref b3), (.long (0 : Int64))])) rfl (by rw [hml]; rfl) (argsL := [(.long (0 : Int64)), (.ref b3), (.int (4 : Int32))]) (rest := []) (lenOf pd_1 rfl) rfl (by show 2 * 0 + _ ≤ _; exact Nat.le_of_eq rfl) (hb hby at_72) (fun _ _ => ⟨rfl, e8q, (by decide : 1 + 0 ≤ _), (by decide : 0 + 0 ≤ _)⟩)
  dsimp only [Pt.U, Pt.locs, Pt.cells, Pt.slots] at X9 l9 y9 z9 st9 hQ9
  subst l9 y9 z9
  obtain ⟨rfl, N9q, e9q⟩ := hQ9
  have N9 := Fr.app N8 N9q
  obtain ⟨_, _, ⟨T10, L10, k10, n10⟩, -, X10, ⟨Lc10, hQ10, l10, y10, z10⟩, st10⟩ := Jvm.LawKit.callS X9 hx (y := (⟨"shale/ValueTypeBigEndianPinLaw", "step", "(J[BI)J"⟩ : MethodName)) hown (mvT hZ (hw _ (List.mem_of_getElem? (i := 6) rfl))) (mvT hZ (hw _ (List.mem_of_getElem? (i := 7) rfl))) (mvT hZ (hw _ (List.mem_of_getElem? (i := 8) rfl))) (mvT hZ (hw _ (List.mem_of_getElem? (i := 9) rfl))) (by decide) (backOf (W := 0) (rmso l Z a0 hw [] (0 : Int64) b3 (5 : Int32) cl3 (0 : Int32) T3.heap n0 Z4 Ar3 Sa3 Ma3 (by decide)) hZ (hw _ (List.mem_of_getElem? (i := 9) rfl)) (hw _ (List.mem_of_getElem? (i := 8) rfl)) (by decide) (by decide)) (g := (mkF m 82 #[.val (.long q0), .second, .val (.int p1), .val (.int (0 : Int32)), .val (.ref b3), .val (.long (0 : Int64)), .second, .unset, .unset] [(.int (5 : Int32)), (.ref b3), (.long (0 : Int64))])) rfl (by rw [hml]; rfl) (argsL := [(.long (0 : Int64)), (.ref b3), (.int (5 : Int32))]) (rest := []) (lenOf pd_1 rfl) rfl (by show 2 * 0 + _ ≤ _; exact Nat.le_of_eq rfl) (hb hby at_82) (fun _ _ => ⟨rfl, e9q, (by decide : 1 + 0 ≤ _), (by decide : 0 + 0 ≤ _)⟩)
  dsimp only [Pt.U, Pt.locs, Pt.cells, Pt.slots] at X10 l10 y10 z10 st10 hQ10
  subst l10 y10 z10
  obtain ⟨rfl, N10q, e10q⟩ := hQ10
  have N10 := Fr.app N9 N10q
  obtain ⟨_, _, ⟨T11, L11, k11, n11⟩, -, X11, ⟨Lc11, hQ11, l11, y11, z11⟩, st11⟩ := Jvm.LawKit.callS X10 hx (y := (⟨"shale/ValueTypeBigEndianPinLaw", "step", "(J[BI)J"⟩ : MethodName)) hown (mvT hZ (hw _ (List.mem_of_getElem? (i := 6) rfl))) (mvT hZ (hw _ (List.mem_of_getElem? (i := 7) rfl))) (mvT hZ (hw _ (List.mem_of_getElem? (i := 8) rfl))) (mvT hZ (hw _ (List.mem_of_getElem? (i := 9) rfl))) (by decide) (backOf (W := 0) (rmso l Z a0 hw [] (0 : Int64) b3 (6 : Int32) cl3 (0 : Int32) T3.heap n0 Z4 Ar3 Sa3 Ma3 (by decide)) hZ (hw _ (List.mem_of_getElem? (i := 9) rfl)) (hw _ (List.mem_of_getElem? (i := 8) rfl)) (by decide) (by decide)) (g := (mkF m 93 #[.val (.long q0), .second, .val (.int p1), .val (.int (0 : Int32)), .val (.ref b3), .val (.long (0 : Int64)), .second, .unset, .unset] [(.int (6 : Int32)), (.ref b3), (.long (0 : Int64))])) rfl (by rw [hml]; rfl) (argsL := [(.long (0 : Int64)), (.ref b3), (.int (6 : Int32))]) (rest := []) (lenOf pd_1 rfl) rfl (by show 2 * 0 + _ ≤ _; exact Nat.le_of_eq rfl) (hb hby at_93) (fun _ _ => ⟨rfl, e10q, (by decide : 1 + 0 ≤ _), (by decide : 0 + 0 ≤ _)⟩)
  dsimp only [Pt.U, Pt.locs, Pt.cells, Pt.slots] at X11 l11 y11 z11 st11 hQ11
  subst l11 y11 z11
  obtain ⟨rfl, N11q, e11q⟩ := hQ11
  have N11 := Fr.app N10 N11q
  obtain ⟨_, _, ⟨T12, L12, k12, n12⟩, -, X12, ⟨Lc12, hQ12, l12, y12, z12⟩, st12⟩ := Jvm.LawKit.callS X11 hx (y := (⟨"shale/ValueTypeBigEndianPinLaw", "step", "(J[BI)J"⟩ : MethodName)) hown (mvT hZ (hw _ (List.mem_of_getElem? (i := 6) rfl))) (mvT hZ (hw _ (List.mem_of_getElem? (i := 7) rfl))) (mvT hZ (hw _ (List.mem_of_getElem? (i := 8) rfl))) (mvT hZ (hw _ (List.mem_of_getElem? (i := 9) rfl))) (by decide) (backOf (W := 0) (rmso l Z a0 hw [] (0 : Int64) b3 (7 : Int32) cl3 (0 : Int32) T3.heap n0 Z4 Ar3 Sa3 Ma3 (by decide)) hZ (hw _ (List.mem_of_getElem? (i := 9) rfl)) (hw _ (List.mem_of_getElem? (i := 8) rfl)) (by decide) (by decide)) (g := (mkF m 104 #[.val (.long q0), .second, .val (.int p1), .val (.int (0 : Int32)), .val (.ref b3), .val (.long (0 : Int64)), .second, .unset, .unset] [(.int (7 : Int32)), (.ref b3), (.long (0 : Int64))])) rfl (by rw [hml]; rfl) (argsL := [(.long (0 : Int64)), (.ref b3), (.int (7 : Int32))]) (rest := []) (lenOf pd_1 rfl) rfl (by show 2 * 0 + _ ≤ _; exact Nat.le_of_eq rfl) (hb hby at_104) (fun _ _ => ⟨rfl, e11q, (by decide : 1 + 0 ≤ _), (by decide : 0 + 0 ≤ _)⟩)
  dsimp only [Pt.U, Pt.locs, Pt.cells, Pt.slots] at X12 l12 y12 z12 st12 hQ12
  subst l12 y12 z12
  obtain ⟨rfl, N12q, e12q⟩ := hQ12
  have N12 := Fr.app N11 N12q
  obtain ⟨fs, hr, hrun, hended, hW, hsame⟩ := X12.leave (v := some (.int (1 : Int32))) (fun h => by rw [Bd.returns] at h; cases h)
  refine ⟨_, _, pre2 _ ?_, hrun, hended, _, _, rfl, ?_, ⟨_, rfl⟩, hW, hsame.mono (by decide) (by decide)⟩
  · show Steps p.tables e below (s₁.setTop (mkF m 7 #[.val (.long q0), .second, .val (.int p1), .unset, .unset, .unset, .unset, .unset, .unset] [(.int (0 : Int32))])) _
    refine XS.istoreN X0.here hx rfl (hb hby at_7) rfl (l' := #[.val (.long q0), .second, .val (.int p1), .val (.int (0 : Int32)), .unset, .unset, .unset, .unset, .unset]) rfl ?_
    show Steps p.tables e below (s₁.setTop (mkF m 8 #[.val (.long q0), .second, .val (.int p1), .val (.int (0 : Int32)), .unset, .unset, .unset, .unset, .unset] [])) _
    refine XS.lloadN X0.here hx rfl (hb hby at_8) rfl ?_
    show Steps p.tables e below (s₁.setTop (mkF m 9 #[.val (.long q0), .second, .val (.int p1), .val (.int (0 : Int32)), .unset, .unset, .unset, .unset, .unset] [(.long q0)])) _
    refine XS.iloadN X0.here hx rfl (hb hby at_9) rfl ?_
    show Steps p.tables e below (s₁.setTop (mkF m 10 #[.val (.long q0), .second, .val (.int p1), .val (.int (0 : Int32)), .unset, .unset, .unset, .unset, .unset] [(.int (0 : Int32)), (.long q0)])) _
    refine st3 _ ?_
    show Steps p.tables e below (T3.setTop (mkF m 13 #[.val (.long q0), .second, .val (.int p1), .val (.int (0 : Int32)), .unset, .unset, .unset, .unset, .unset] [(.ref b3)])) _
    refine XS.astore X3.here hx rfl (hb hby at_13) rfl rfl (l' := #[.val (.long q0), .second, .val (.int p1), .val (.int (0 : Int32)), .val (.ref b3), .unset, .unset, .unset, .unset]) rfl ?_
    show Steps p.tables e below (T3.setTop (mkF m 15 #[.val (.long q0), .second, .val (.int p1), .val (.int (0 : Int32)), .val (.ref b3), .unset, .unset, .unset, .unset] [])) _
    refine XS.aload X3.here hx rfl (hb hby at_15) rfl rfl ?_
    show Steps p.tables e below (T3.setTop (mkF m 17 #[.val (.long q0), .second, .val (.int p1), .val (.int (0 : Int32)), .val (.ref b3), .unset, .unset, .unset, .unset] [(.ref b3)])) _
    refine X3.arraylength hx Ar3.1 (State.isArrayOf_alike hZ.alike Ar3.2.1) (g := (mkF m 17 #[.val (.long q0), .second, .val (.int p1), .val (.int (0 : Int32)), .val (.ref b3), .unset, .unset, .unset, .unset] [(.ref b3)])) rfl rfl (hb hby at_17) _ ?_
    rw [len_of Sa3 Ma3]
    show Steps p.tables e below (T3.setTop (mkF m 18 #[.val (.long q0), .second, .val (.int p1), .val (.int (0 : Int32)), .val (.ref b3), .unset, .unset, .unset, .unset] [(.int (0 : Int32))])) _
    refine XS.iloadN X3.here hx rfl (hb hby at_18) rfl ?_
    show Steps p.tables e below (T3.setTop (mkF m 19 #[.val (.long q0), .second, .val (.int p1), .val (.int (0 : Int32)), .val (.ref b3), .unset, .unset, .unset, .unset] [(.int (0 : Int32)), (.int (0 : Int32))])) _
    refine XS.icmpYes X3.here hx rfl (pc0 := 19) (pc' := 24) rfl (hb hby at_19) rfl (teq (by decide : (0 : Int32) = (0 : Int32))).1 (by decide) (by decide) ?_
    show Steps p.tables e below (T3.setTop (mkF m 24 #[.val (.long q0), .second, .val (.int p1), .val (.int (0 : Int32)), .val (.ref b3), .unset, .unset, .unset, .unset] [])) _
    refine XS.lconst X3.here hx rfl (hb hby at_24) ?_
    show Steps p.tables e below (T3.setTop (mkF m 25 #[.val (.long q0), .second, .val (.int p1), .val (.int (0 : Int32)), .val (.ref b3), .unset, .unset, .unset, .unset] [(.long (0 : Int64))])) _
    refine XS.lstore X3.here hx rfl (hb hby at_25) rfl (l' := #[.val (.long q0), .second, .val (.int p1), .val (.int (0 : Int32)), .val (.ref b3), .val (.long (0 : Int64)), .second, .unset, .unset]) rfl ?_
    show Steps p.tables e below (T3.setTop (mkF m 27 #[.val (.long q0), .second, .val (.int p1), .val (.int (0 : Int32)), .val (.ref b3), .val (.long (0 : Int64)), .second, .unset, .unset] [])) _
    refine XS.lload X3.here hx rfl (hb hby at_27) rfl ?_
    show Steps p.tables e below (T3.setTop (mkF m 29 #[.val (.long q0), .second, .val (.int p1), .val (.int (0 : Int32)), .val (.ref b3), .val (.long (0 : Int64)), .second, .unset, .unset] [(.long (0 : Int64))])) _
    refine XS.aload X3.here hx rfl (hb hby at_29) rfl rfl ?_
    show Steps p.tables e below (T3.setTop (mkF m 31 #[.val (.long q0), .second, .val (.int p1), .val (.int (0 : Int32)), .val (.ref b3), .val (.long (0 : Int64)), .second, .unset, .unset] [(.ref b3), (.long (0 : Int64))])) _
    refine XS.iconst X3.here hx rfl (hb hby at_31) ?_
    show Steps p.tables e below (T3.setTop (mkF m 32 #[.val (.long q0), .second, .val (.int p1), .val (.int (0 : Int32)), .val (.ref b3), .val (.long (0 : Int64)), .second, .unset, .unset] [(.int (0 : Int32)), (.ref b3), (.long (0 : Int64))])) _
    refine st5 _ ?_
    show Steps p.tables e below (T5.setTop (mkF m 35 #[.val (.long q0), .second, .val (.int p1), .val (.int (0 : Int32)), .val (.ref b3), .val (.long (0 : Int64)), .second, .unset, .unset] [(.long (0 : Int64))])) _
    refine XS.lstore X5.here hx rfl (hb hby at_35) rfl (l' := #[.val (.long q0), .second, .val (.int p1), .val (.int (0 : Int32)), .val (.ref b3), .val (.long (0 : Int64)), .second, .unset, .unset]) rfl ?_
    show Steps p.tables e below (T5.setTop (mkF m 37 #[.val (.long q0), .second, .val (.int p1), .val (.int (0 : Int32)), .val (.ref b3), .val (.long (0 : Int64)), .second, .unset, .unset] [])) _
    refine XS.lload X5.here hx rfl (hb hby at_37) rfl ?_
    show Steps p.tables e below (T5.setTop (mkF m 39 #[.val (.long q0), .second, .val (.int p1), .val (.int (0 : Int32)), .val (.ref b3), .val (.long (0 : Int64)), .second, .unset, .unset] [(.long (0 : Int64))])) _
    refine XS.aload X5.here hx rfl (hb hby at_39) rfl rfl ?_
    show Steps p.tables e below (T5.setTop (mkF m 41 #[.val (.long q0), .second, .val (.int p1), .val (.int (0 : Int32)), .val (.ref b3), .val (.long (0 : Int64)), .second, .unset, .unset] [(.ref b3), (.long (0 : Int64))])) _
    refine XS.iconst X5.here hx rfl (hb hby at_41) ?_
    show Steps p.tables e below (T5.setTop (mkF m 42 #[.val (.long q0), .second, .val (.int p1), .val (.int (0 : Int32)), .val (.ref b3), .val (.long (0 : Int64)), .second, .unset, .unset] [(.int (1 : Int32)), (.ref b3), (.long (0 : Int64))])) _
    refine st6 _ ?_
    show Steps p.tables e below (T6.setTop (mkF m 45 #[.val (.long q0), .second, .val (.int p1), .val (.int (0 : Int32)), .val (.ref b3), .val (.long (0 : Int64)), .second, .unset, .unset] [(.long (0 : Int64))])) _
    refine XS.lstore X6.here hx rfl (hb hby at_45) rfl (l' := #[.val (.long q0), .second, .val (.int p1), .val (.int (0 : Int32)), .val (.ref b3), .val (.long (0 : Int64)), .second, .unset, .unset]) rfl ?_
    show Steps p.tables e below (T6.setTop (mkF m 47 #[.val (.long q0), .second, .val (.int p1), .val (.int (0 : Int32)), .val (.ref b3), .val (.long (0 : Int64)), .second, .unset, .unset] [])) _
    refine XS.lload X6.here hx rfl (hb hby at_47) rfl ?_
    show Steps p.tables e below (T6.setTop (mkF m 49 #[.val (.long q0), .second, .val (.int p1), .val (.int (0 : Int32)), .val (.ref b3), .val (.long (0 : Int64)), .second, .unset, .unset] [(.long (0 : Int64))])) _
    refine XS.aload X6.here hx rfl (hb hby at_49) rfl rfl ?_
    show Steps p.tables e below (T6.setTop (mkF m 51 #[.val (.long q0), .second, .val (.int p1), .val (.int (0 : Int32)), .val (.ref b3), .val (.long (0 : Int64)), .second, .unset, .unset] [(.ref b3), (.long (0 : Int64))])) _
    refine XS.iconst X6.here hx rfl (hb hby at_51) ?_
    show Steps p.tables e below (T6.setTop (mkF m 52 #[.val (.long q0), .second, .val (.int p1), .val (.int (0 : Int32)), .val (.ref b3), .val (.long (0 : Int64)), .second, .unset, .unset] [(.int (2 : Int32)), (.ref b3), (.long (0 : Int64))])) _
    refine st7 _ ?_
    show Steps p.tables e below (T7.setTop (mkF m 55 #[.val (.long q0), .second, .val (.int p1), .val (.int (0 : Int32)), .val (.ref b3), .val (.long (0 : Int64)), .second, .unset, .unset] [(.long (0 : Int64))])) _
    refine XS.lstore X7.here hx rfl (hb hby at_55) rfl (l' := #[.val (.long q0), .second, .val (.int p1), .val (.int (0 : Int32)), .val (.ref b3), .val (.long (0 : Int64)), .second, .unset, .unset]) rfl ?_
    show Steps p.tables e below (T7.setTop (mkF m 57 #[.val (.long q0), .second, .val (.int p1), .val (.int (0 : Int32)), .val (.ref b3), .val (.long (0 : Int64)), .second, .unset, .unset] [])) _
    refine XS.lload X7.here hx rfl (hb hby at_57) rfl ?_
    show Steps p.tables e below (T7.setTop (mkF m 59 #[.val (.long q0), .second, .val (.int p1), .val (.int (0 : Int32)), .val (.ref b3), .val (.long (0 : Int64)), .second, .unset, .unset] [(.long (0 : Int64))])) _
    refine XS.aload X7.here hx rfl (hb hby at_59) rfl rfl ?_
    show Steps p.tables e below (T7.setTop (mkF m 61 #[.val (.long q0), .second, .val (.int p1), .val (.int (0 : Int32)), .val (.ref b3), .val (.long (0 : Int64)), .second, .unset, .unset] [(.ref b3), (.long (0 : Int64))])) _
    refine XS.iconst X7.here hx rfl (hb hby at_61) ?_
    show Steps p.tables e below (T7.setTop (mkF m 62 #[.val (.long q0), .second, .val (.int p1), .val (.int (0 : Int32)), .val (.ref b3), .val (.long (0 : Int64)), .second, .unset, .unset] [(.int (3 : Int32)), (.ref b3), (.long (0 : Int64))])) _
    refine st8 _ ?_
    show Steps p.tables e below (T8.setTop (mkF m 65 #[.val (.long q0), .second, .val (.int p1), .val (.int (0 : Int32)), .val (.ref b3), .val (.long (0 : Int64)), .second, .unset, .unset] [(.long (0 : Int64))])) _
    refine XS.lstore X8.here hx rfl (hb hby at_65) rfl (l' := #[.val (.long q0), .second, .val (.int p1), .val (.int (0 : Int32)), .val (.ref b3), .val (.long (0 : Int64)), .second, .unset, .unset]) rfl ?_
    show Steps p.tables e below (T8.setTop (mkF m 67 #[.val (.long q0), .second, .val (.int p1), .val (.int (0 : Int32)), .val (.ref b3), .val (.long (0 : Int64)), .second, .unset, .unset] [])) _
    refine XS.lload X8.here hx rfl (hb hby at_67) rfl ?_
    show Steps p.tables e below (T8.setTop (mkF m 69 #[.val (.long q0), .second, .val (.int p1), .val (.int (0 : Int32)), .val (.ref b3), .val (.long (0 : Int64)), .second, .unset, .unset] [(.long (0 : Int64))])) _
    refine XS.aload X8.here hx rfl (hb hby at_69) rfl rfl ?_
    show Steps p.tables e below (T8.setTop (mkF m 71 #[.val (.long q0), .second, .val (.int p1), .val (.int (0 : Int32)), .val (.ref b3), .val (.long (0 : Int64)), .second, .unset, .unset] [(.ref b3), (.long (0 : Int64))])) _
    refine XS.iconst X8.here hx rfl (hb hby at_71) ?_
    show Steps p.tables e below (T8.setTop (mkF m 72 #[.val (.long q0), .second, .val (.int p1), .val (.int (0 : Int32)), .val (.ref b3), .val (.long (0 : Int64)), .second, .unset, .unset] [(.int (4 : Int32)), (.ref b3), (.long (0 : Int64))])) _
    refine st9 _ ?_
    show Steps p.tables e below (T9.setTop (mkF m 75 #[.val (.long q0), .second, .val (.int p1), .val (.int (0 : Int32)), .val (.ref b3), .val (.long (0 : Int64)), .second, .unset, .unset] [(.long (0 : Int64))])) _
    refine XS.lstore X9.here hx rfl (hb hby at_75) rfl (l' := #[.val (.long q0), .second, .val (.int p1), .val (.int (0 : Int32)), .val (.ref b3), .val (.long (0 : Int64)), .second, .unset, .unset]) rfl ?_
    show Steps p.tables e below (T9.setTop (mkF m 77 #[.val (.long q0), .second, .val (.int p1), .val (.int (0 : Int32)), .val (.ref b3), .val (.long (0 : Int64)), .second, .unset, .unset] [])) _
    refine XS.lload X9.here hx rfl (hb hby at_77) rfl ?_
    show Steps p.tables e below (T9.setTop (mkF m 79 #[.val (.long q0), .second, .val (.int p1), .val (.int (0 : Int32)), .val (.ref b3), .val (.long (0 : Int64)), .second, .unset, .unset] [(.long (0 : Int64))])) _
    refine XS.aload X9.here hx rfl (hb hby at_79) rfl rfl ?_
    show Steps p.tables e below (T9.setTop (mkF m 81 #[.val (.long q0), .second, .val (.int p1), .val (.int (0 : Int32)), .val (.ref b3), .val (.long (0 : Int64)), .second, .unset, .unset] [(.ref b3), (.long (0 : Int64))])) _
    refine XS.iconst X9.here hx rfl (hb hby at_81) ?_
    show Steps p.tables e below (T9.setTop (mkF m 82 #[.val (.long q0), .second, .val (.int p1), .val (.int (0 : Int32)), .val (.ref b3), .val (.long (0 : Int64)), .second, .unset, .unset] [(.int (5 : Int32)), (.ref b3), (.long (0 : Int64))])) _
    refine st10 _ ?_
    show Steps p.tables e below (T10.setTop (mkF m 85 #[.val (.long q0), .second, .val (.int p1), .val (.int (0 : Int32)), .val (.ref b3), .val (.long (0 : Int64)), .second, .unset, .unset] [(.long (0 : Int64))])) _
    refine XS.lstore X10.here hx rfl (hb hby at_85) rfl (l' := #[.val (.long q0), .second, .val (.int p1), .val (.int (0 : Int32)), .val (.ref b3), .val (.long (0 : Int64)), .second, .unset, .unset]) rfl ?_
    show Steps p.tables e below (T10.setTop (mkF m 87 #[.val (.long q0), .second, .val (.int p1), .val (.int (0 : Int32)), .val (.ref b3), .val (.long (0 : Int64)), .second, .unset, .unset] [])) _
    refine XS.lload X10.here hx rfl (hb hby at_87) rfl ?_
    show Steps p.tables e below (T10.setTop (mkF m 89 #[.val (.long q0), .second, .val (.int p1), .val (.int (0 : Int32)), .val (.ref b3), .val (.long (0 : Int64)), .second, .unset, .unset] [(.long (0 : Int64))])) _
    refine XS.aload X10.here hx rfl (hb hby at_89) rfl rfl ?_
    show Steps p.tables e below (T10.setTop (mkF m 91 #[.val (.long q0), .second, .val (.int p1), .val (.int (0 : Int32)), .val (.ref b3), .val (.long (0 : Int64)), .second, .unset, .unset] [(.ref b3), (.long (0 : Int64))])) _
    refine XS.bipush X10.here hx rfl (hb hby at_91) ?_
    show Steps p.tables e below (T10.setTop (mkF m 93 #[.val (.long q0), .second, .val (.int p1), .val (.int (0 : Int32)), .val (.ref b3), .val (.long (0 : Int64)), .second, .unset, .unset] [(.int (6 : Int32)), (.ref b3), (.long (0 : Int64))])) _
    refine st11 _ ?_
    show Steps p.tables e below (T11.setTop (mkF m 96 #[.val (.long q0), .second, .val (.int p1), .val (.int (0 : Int32)), .val (.ref b3), .val (.long (0 : Int64)), .second, .unset, .unset] [(.long (0 : Int64))])) _
    refine XS.lstore X11.here hx rfl (hb hby at_96) rfl (l' := #[.val (.long q0), .second, .val (.int p1), .val (.int (0 : Int32)), .val (.ref b3), .val (.long (0 : Int64)), .second, .unset, .unset]) rfl ?_
    show Steps p.tables e below (T11.setTop (mkF m 98 #[.val (.long q0), .second, .val (.int p1), .val (.int (0 : Int32)), .val (.ref b3), .val (.long (0 : Int64)), .second, .unset, .unset] [])) _
    refine XS.lload X11.here hx rfl (hb hby at_98) rfl ?_
    show Steps p.tables e below (T11.setTop (mkF m 100 #[.val (.long q0), .second, .val (.int p1), .val (.int (0 : Int32)), .val (.ref b3), .val (.long (0 : Int64)), .second, .unset, .unset] [(.long (0 : Int64))])) _
    refine XS.aload X11.here hx rfl (hb hby at_100) rfl rfl ?_
    show Steps p.tables e below (T11.setTop (mkF m 102 #[.val (.long q0), .second, .val (.int p1), .val (.int (0 : Int32)), .val (.ref b3), .val (.long (0 : Int64)), .second, .unset, .unset] [(.ref b3), (.long (0 : Int64))])) _
    refine XS.bipush X11.here hx rfl (hb hby at_102) ?_
    show Steps p.tables e below (T11.setTop (mkF m 104 #[.val (.long q0), .second, .val (.int p1), .val (.int (0 : Int32)), .val (.ref b3), .val (.long (0 : Int64)), .second, .unset, .unset] [(.int (7 : Int32)), (.ref b3), (.long (0 : Int64))])) _
    refine st12 _ ?_
    show Steps p.tables e below (T12.setTop (mkF m 107 #[.val (.long q0), .second, .val (.int p1), .val (.int (0 : Int32)), .val (.ref b3), .val (.long (0 : Int64)), .second, .unset, .unset] [(.long (0 : Int64))])) _
    refine XS.lstore X12.here hx rfl (hb hby at_107) rfl (l' := #[.val (.long q0), .second, .val (.int p1), .val (.int (0 : Int32)), .val (.ref b3), .val (.long (0 : Int64)), .second, .unset, .unset]) rfl ?_
    show Steps p.tables e below (T12.setTop (mkF m 109 #[.val (.long q0), .second, .val (.int p1), .val (.int (0 : Int32)), .val (.ref b3), .val (.long (0 : Int64)), .second, .unset, .unset] [])) _
    refine XS.iloadN X12.here hx rfl (hb hby at_109) rfl ?_
    show Steps p.tables e below (T12.setTop (mkF m 110 #[.val (.long q0), .second, .val (.int p1), .val (.int (0 : Int32)), .val (.ref b3), .val (.long (0 : Int64)), .second, .unset, .unset] [(.int (0 : Int32))])) _
    refine XS.bipush X12.here hx rfl (hb hby at_110) ?_
    show Steps p.tables e below (T12.setTop (mkF m 112 #[.val (.long q0), .second, .val (.int p1), .val (.int (0 : Int32)), .val (.ref b3), .val (.long (0 : Int64)), .second, .unset, .unset] [(.int (8 : Int32)), (.int (0 : Int32))])) _
    refine XS.icmpYes X12.here hx rfl (pc0 := 112) (pc' := 121) rfl (hb hby at_112) rfl (feq (by decide : ¬ ((0 : Int32) = (8 : Int32)))).2 (by decide) (by decide) ?_
    show Steps p.tables e below (T12.setTop (mkF m 121 #[.val (.long q0), .second, .val (.int p1), .val (.int (0 : Int32)), .val (.ref b3), .val (.long (0 : Int64)), .second, .unset, .unset] [])) _
    refine XS.lloadN X12.here hx rfl (hb hby at_121) rfl ?_
    show Steps p.tables e below (T12.setTop (mkF m 122 #[.val (.long q0), .second, .val (.int p1), .val (.int (0 : Int32)), .val (.ref b3), .val (.long (0 : Int64)), .second, .unset, .unset] [(.long q0)])) _
    refine XS.lconst X12.here hx rfl (hb hby at_122) ?_
    show Steps p.tables e below (T12.setTop (mkF m 123 #[.val (.long q0), .second, .val (.int p1), .val (.int (0 : Int32)), .val (.ref b3), .val (.long (0 : Int64)), .second, .unset, .unset] [(.long (1 : Int64)), (.long q0)])) _
    refine XS.bipush X12.here hx rfl (hb hby at_123) ?_
    show Steps p.tables e below (T12.setTop (mkF m 125 #[.val (.long q0), .second, .val (.int p1), .val (.int (0 : Int32)), .val (.ref b3), .val (.long (0 : Int64)), .second, .unset, .unset] [(.int (8 : Int32)), (.long (1 : Int64)), (.long q0)])) _
    refine XS.iloadN X12.here hx rfl (hb hby at_125) rfl ?_
    show Steps p.tables e below (T12.setTop (mkF m 126 #[.val (.long q0), .second, .val (.int p1), .val (.int (0 : Int32)), .val (.ref b3), .val (.long (0 : Int64)), .second, .unset, .unset] [(.int (0 : Int32)), (.int (8 : Int32)), (.long (1 : Int64)), (.long q0)])) _
    refine XS.imul X12.here hx rfl (hb hby at_126) rfl ?_
    show Steps p.tables e below (T12.setTop (mkF m 127 #[.val (.long q0), .second, .val (.int p1), .val (.int (0 : Int32)), .val (.ref b3), .val (.long (0 : Int64)), .second, .unset, .unset] [(.int (0 : Int32)), (.long (1 : Int64)), (.long q0)])) _
    refine XS.lshl X12.here hx rfl (hb hby at_127) rfl ?_
    show Steps p.tables e below (T12.setTop (mkF m 128 #[.val (.long q0), .second, .val (.int p1), .val (.int (0 : Int32)), .val (.ref b3), .val (.long (0 : Int64)), .second, .unset, .unset] [(.long ((1 : Int64) <<< ((0 : Int32) &&& 0x3f).toInt64)), (.long q0)])) _
    refine XS.lconst X12.here hx rfl (hb hby at_128) ?_
    show Steps p.tables e below (T12.setTop (mkF m 129 #[.val (.long q0), .second, .val (.int p1), .val (.int (0 : Int32)), .val (.ref b3), .val (.long (0 : Int64)), .second, .unset, .unset] [(.long (1 : Int64)), (.long ((1 : Int64) <<< ((0 : Int32) &&& 0x3f).toInt64)), (.long q0)])) _
    refine XS.lsub X12.here hx rfl (hb hby at_129) rfl ?_
    show Steps p.tables e below (T12.setTop (mkF m 130 #[.val (.long q0), .second, .val (.int p1), .val (.int (0 : Int32)), .val (.ref b3), .val (.long (0 : Int64)), .second, .unset, .unset] [(.long (((1 : Int64) <<< ((0 : Int32) &&& 0x3f).toInt64) - (1 : Int64))), (.long q0)])) _
    refine XS.land X12.here hx rfl (hb hby at_130) rfl ?_
    show Steps p.tables e below (T12.setTop (mkF m 131 #[.val (.long q0), .second, .val (.int p1), .val (.int (0 : Int32)), .val (.ref b3), .val (.long (0 : Int64)), .second, .unset, .unset] [(.long (q0 &&& (((1 : Int64) <<< ((0 : Int32) &&& 0x3f).toInt64) - (1 : Int64))))])) _
    refine XS.lstore X12.here hx rfl (hb hby at_131) rfl (l' := #[.val (.long q0), .second, .val (.int p1), .val (.int (0 : Int32)), .val (.ref b3), .val (.long (0 : Int64)), .second, .val (.long (q0 &&& (((1 : Int64) <<< ((0 : Int32) &&& 0x3f).toInt64) - (1 : Int64)))), .second]) rfl ?_
    show Steps p.tables e below (T12.setTop (mkF m 133 #[.val (.long q0), .second, .val (.int p1), .val (.int (0 : Int32)), .val (.ref b3), .val (.long (0 : Int64)), .second, .val (.long (q0 &&& (((1 : Int64) <<< ((0 : Int32) &&& 0x3f).toInt64) - (1 : Int64)))), .second] [])) _
    refine XS.lload X12.here hx rfl (hb hby at_133) rfl ?_
    show Steps p.tables e below (T12.setTop (mkF m 135 #[.val (.long q0), .second, .val (.int p1), .val (.int (0 : Int32)), .val (.ref b3), .val (.long (0 : Int64)), .second, .val (.long (q0 &&& (((1 : Int64) <<< ((0 : Int32) &&& 0x3f).toInt64) - (1 : Int64)))), .second] [(.long (0 : Int64))])) _
    refine XS.lload X12.here hx rfl (hb hby at_135) rfl ?_
    show Steps p.tables e below (T12.setTop (mkF m 137 #[.val (.long q0), .second, .val (.int p1), .val (.int (0 : Int32)), .val (.ref b3), .val (.long (0 : Int64)), .second, .val (.long (q0 &&& (((1 : Int64) <<< ((0 : Int32) &&& 0x3f).toInt64) - (1 : Int64)))), .second] [(.long (q0 &&& (((1 : Int64) <<< ((0 : Int32) &&& 0x3f).toInt64) - (1 : Int64)))), (.long (0 : Int64))])) _
    refine XS.lcmp X12.here hx rfl (hb hby at_137) rfl ?_
    show Steps p.tables e below (T12.setTop (mkF m 138 #[.val (.long q0), .second, .val (.int p1), .val (.int (0 : Int32)), .val (.ref b3), .val (.long (0 : Int64)), .second, .val (.long (q0 &&& (((1 : Int64) <<< ((0 : Int32) &&& 0x3f).toInt64) - (1 : Int64)))), .second] [(.int (lcmpW (0 : Int64) (q0 &&& (((1 : Int64) <<< ((0 : Int32) &&& 0x3f).toInt64) - (1 : Int64)))))])) _
    refine XS.ifNo X12.here hx rfl (hb hby at_138) rfl ((if0 _ _).trans (teq ((lw_eq _ _).mpr (own_fin0 q0))).2) ?_
    show Steps p.tables e below (T12.setTop (mkF m 141 #[.val (.long q0), .second, .val (.int p1), .val (.int (0 : Int32)), .val (.ref b3), .val (.long (0 : Int64)), .second, .val (.long (q0 &&& (((1 : Int64) <<< ((0 : Int32) &&& 0x3f).toInt64) - (1 : Int64)))), .second] [])) _
    refine XS.iconst X12.here hx rfl (hb hby at_141) ?_
    show Steps p.tables e below (T12.setTop (mkF m 142 #[.val (.long q0), .second, .val (.int p1), .val (.int (0 : Int32)), .val (.ref b3), .val (.long (0 : Int64)), .second, .val (.long (q0 &&& (((1 : Int64) <<< ((0 : Int32) &&& 0x3f).toInt64) - (1 : Int64)))), .second] [(.int (1 : Int32))])) _
    refine XS.goto X12.here hx rfl (pc0 := 142) (pc' := 146) rfl (hb hby at_142) (by decide) (by decide) ?_
    show Steps p.tables e below (T12.setTop (mkF m 146 #[.val (.long q0), .second, .val (.int p1), .val (.int (0 : Int32)), .val (.ref b3), .val (.long (0 : Int64)), .second, .val (.long (q0 &&& (((1 : Int64) <<< ((0 : Int32) &&& 0x3f).toInt64) - (1 : Int64)))), .second] [(.int (1 : Int32))])) _
    exact retN X12 hx (t := .boolean) Bd.returns (by simp) (hb hby at_146) hr
  · show Q0_0 Z q0 p1 h0 n0 _ T12.heap _
    rw [e12q]
    exact ⟨rfl, N12⟩
theorem ef_rm0_1 (m : MethodId) (q0 : Int64) (p1 : Int32) : entryFrame m #[(.long q0), (.int p1)] maxLocals = mkF m 0 #[.val (.long q0), .second, .val (.int p1), .unset, .unset, .unset, .unset, .unset, .unset] [] := by first | (simp [entryFrame, mkF, argsToLocals, Value.category, maxLocals]; done) | rfl
def Q0_1 (Z : State) (q0 : Int64) (p1 : Int32) (h0 : Heap) (n0 : Nat) (v : Option Value) (h : Heap) (L : List Loc) : Prop := v = some (.int (1 : Int32)) ∧ Fr n0 L
set_option maxRecDepth 65536 in
set_option maxHeartbeats 40000000 in
theorem rm0_1 (l : Launch) (Z : State) (a0 : Array Value) (hw : ∀ d ∈ tables_1, d.before a0 Z = true) (ws : List Jvm.Cond) (q0 : Int64) (p1 : Int32) (h0 : Heap) (n0 : Nat) (Z0 : n0 ≤ h0.size) (hwid : ((p1 &&& (2147483647 : Int32)) % (9 : Int32)) = (1 : Int32)) :
    MetFree l x (head1 (Jvm.Cond.code x code maxLocals ret :: ws) room_1) (fun a U => a = #[(.long q0), (.int p1)] ∧ Z.Warmed39 U.vm ∧ U.heap = h0) (fun _ _ _ _ _ => True) (fun _ U o U' => ∃ v L, o = .returned v ∧ Q0_1 Z q0 p1 h0 n0 v U'.heap L ∧ FrameEnd U o U' L room_1.cells room_1.slots) := by
  refine MetFree.of_bodySF (plainFor_of_name pn_1) hisR ?_
  intro p e s m args below meth c s₁ Bd hml0 hP hK
  obtain ⟨rfl, hZ, hh⟩ := hP
  have hx := Bd.exec
  have hby := Bd.bytes
  have hml : c.maxLocals = 9 := hml0
  have hown : s.vm.findClass "shale/ValueTypeBigEndianPinLaw" = some m.cls := findClass_of_methodNamed Bd.named
  have hnm := (name_of_methodNamed Bd.named Bd.method).1
  have X0 : Stand p l e room_1 s m #[(.long q0), (.int p1)] below meth c s₁ [] 0 0 := Stand.of_body Bd
  have e0 : s₁.heap = h0 := by rw [← hh, Bd.state]; rfl
  have N0 := Fr.nil n0
  have pre0 : ∀ t, Steps p.tables e below (s₁.setTop (mkF m 0 #[.val (.long q0), .second, .val (.int p1), .unset, .unset, .unset, .unset, .unset, .unset] [])) t → Steps p.tables e below (s₁.setTop (entryFrame m #[(.long q0), (.int p1)] maxLocals)) t := fun t k => castTop (ef_rm0_1 m q0 p1) k
  obtain ⟨wd, hm1, pre2⟩ : ∃ (wd : Int32), (wd = (1 : Int32)) ∧ ∀ t, Steps p.tables e below (s₁.setTop (mkF m 7 #[.val (.long q0), .second, .val (.int p1), .unset, .unset, .unset, .unset, .unset, .unset] [(.int wd)])) t → Steps p.tables e below (s₁.setTop (entryFrame m #[(.long q0), (.int p1)] maxLocals)) t := by
    refine ⟨((p1 &&& (2147483647 : Int32)) % (9 : Int32)), hwid, fun t kt => ?_⟩
    refine pre0 _ ?_
    show Steps p.tables e below (s₁.setTop (mkF m 0 #[.val (.long q0), .second, .val (.int p1), .unset, .unset, .unset, .unset, .unset, .unset] [])) _
    refine XS.iloadN X0.here hx rfl (hb hby at_0) rfl ?_
    show Steps p.tables e below (s₁.setTop (mkF m 1 #[.val (.long q0), .second, .val (.int p1), .unset, .unset, .unset, .unset, .unset, .unset] [(.int p1)])) _
    refine X0.ldcInt hx hown (mvT hZ (hw _ (List.mem_of_getElem? (i := 0) rfl))) (g := (mkF m 1 #[.val (.long q0), .second, .val (.int p1), .unset, .unset, .unset, .unset, .unset, .unset] [(.int p1)])) rfl (hb hby at_1) _ ?_
    show Steps p.tables e below (s₁.setTop (mkF m 3 #[.val (.long q0), .second, .val (.int p1), .unset, .unset, .unset, .unset, .unset, .unset] [(.int (2147483647 : Int32)), (.int p1)])) _
    refine XS.iand X0.here hx rfl (hb hby at_3) rfl ?_
    show Steps p.tables e below (s₁.setTop (mkF m 4 #[.val (.long q0), .second, .val (.int p1), .unset, .unset, .unset, .unset, .unset, .unset] [(.int (p1 &&& (2147483647 : Int32)))])) _
    refine XS.bipush X0.here hx rfl (hb hby at_4) ?_
    show Steps p.tables e below (s₁.setTop (mkF m 6 #[.val (.long q0), .second, .val (.int p1), .unset, .unset, .unset, .unset, .unset, .unset] [(.int (9 : Int32)), (.int (p1 &&& (2147483647 : Int32)))])) _
    refine iremM X0 hx rfl (hb hby at_6) rfl (by decide) ?_
    exact kt
  subst hm1
  obtain ⟨_, _, ⟨T3, L3, k3, n3⟩, -, X3, ⟨Lc3, hQ3, l3, y3, z3⟩, st3⟩ := Jvm.LawKit.callS X0 hx (y := (⟨"shale/ValueType", "bigEndian", "(JI)[B"⟩ : MethodName)) hown (mvT hZ (hw _ (List.mem_of_getElem? (i := 1) rfl))) (mvT hZ (hw _ (List.mem_of_getElem? (i := 2) rfl))) (mvT hZ (hw _ (List.mem_of_getElem? (i := 3) rfl))) (mvT hZ (hw _ (List.mem_of_getElem? (i := 4) rfl))) (by decide) (backOf (W := 0) (rmb1 l Z a0 hw [] q0 h0 n0 Z0 ) hZ (hw _ (List.mem_of_getElem? (i := 4) rfl)) (hw _ (List.mem_of_getElem? (i := 3) rfl)) (by decide) (by decide)) (g := (mkF m 10 #[.val (.long q0), .second, .val (.int p1), .val (.int (1 : Int32)), .unset, .unset, .unset, .unset, .unset] [(.int (1 : Int32)), (.long q0)])) rfl (by rw [hml]; rfl) (argsL := [(.long q0), (.int (1 : Int32))]) (rest := []) (lenOf pd_0 rfl) rfl (by show 2 * 0 + _ ≤ _; exact Nat.le_of_eq rfl) (hb hby at_10) (fun _ _ => ⟨rfl, e0, (by decide : 0 + 1 ≤ _), (by decide : 0 + 1 ≤ _)⟩)
  dsimp only [Pt.U, Pt.locs, Pt.cells, Pt.slots] at X3 l3 y3 z3 st3 hQ3
  subst l3 y3 z3
  obtain ⟨b3, kk3, rfl, N3q, K3, V3⟩ := hQ3
  have N3 := Fr.app N0 N3q
  have Z4 : n0 ≤ T3.heap.size := Nat.le_trans Z0 K3.1
  obtain ⟨cl3, Ar3, -, Sa3, Ma3, Ha3, -⟩ := V3
  obtain ⟨_, _, ⟨T5, L5, k5, n5⟩, -, X5, ⟨Lc5, hQ5, l5, y5, z5⟩, st5⟩ := Jvm.LawKit.callS X3 hx (y := (⟨"shale/ValueTypeBigEndianPinLaw", "step", "(J[BI)J"⟩ : MethodName)) hown (mvT hZ (hw _ (List.mem_of_getElem? (i := 6) rfl))) (mvT hZ (hw _ (List.mem_of_getElem? (i := 7) rfl))) (mvT hZ (hw _ (List.mem_of_getElem? (i := 8) rfl))) (mvT hZ (hw _ (List.mem_of_getElem? (i := 9) rfl))) (by decide) (backOf (W := 0) (rmsi l Z a0 hw [] (0 : Int64) b3 (0 : Int32) cl3 (1 : Int32) (own_byte q0 (0 : Int32)) T3.heap n0 Z4 Ar3 Sa3 Ma3 (by decide) (inb_of Sa3 ⟨by decide, by decide⟩) (Ha3 0 (by rw [Sa3]; decide))) hZ (hw _ (List.mem_of_getElem? (i := 9) rfl)) (hw _ (List.mem_of_getElem? (i := 8) rfl)) (by decide) (by decide)) (g := (mkF m 32 #[.val (.long q0), .second, .val (.int p1), .val (.int (1 : Int32)), .val (.ref b3), .val (.long (0 : Int64)), .second, .unset, .unset] [(.int (0 : Int32)), (.ref b3), (.long (0 : Int64))])) rfl (by rw [hml]; rfl) (argsL := [(.long (0 : Int64)), (.ref b3), (.int (0 : Int32))]) (rest := []) (lenOf pd_1 rfl) rfl (by show 2 * 0 + _ ≤ _; exact Nat.le_of_eq rfl) (hb hby at_32) (fun _ _ => ⟨rfl, rfl, (by decide : 1 + 0 ≤ _), (by decide : 1 + 0 ≤ _)⟩)
  dsimp only [Pt.U, Pt.locs, Pt.cells, Pt.slots] at X5 l5 y5 z5 st5 hQ5
  subst l5 y5 z5
  obtain ⟨rfl, N5q, e5q⟩ := hQ5
  have N5 := Fr.app N3 N5q
  obtain ⟨_, _, ⟨T6, L6, k6, n6⟩, -, X6, ⟨Lc6, hQ6, l6, y6, z6⟩, st6⟩ := Jvm.LawKit.callS X5 hx (y := (⟨"shale/ValueTypeBigEndianPinLaw", "step", "(J[BI)J"⟩ : MethodName)) hown (mvT hZ (hw _ (List.mem_of_getElem? (i := 6) rfl))) (mvT hZ (hw _ (List.mem_of_getElem? (i := 7) rfl))) (mvT hZ (hw _ (List.mem_of_getElem? (i := 8) rfl))) (mvT hZ (hw _ (List.mem_of_getElem? (i := 9) rfl))) (by decide) (backOf (W := 0) (rmso l Z a0 hw [] (own_st (0 : Int64) (own_byte q0 (0 : Int32))) b3 (1 : Int32) cl3 (1 : Int32) T3.heap n0 Z4 Ar3 Sa3 Ma3 (by decide)) hZ (hw _ (List.mem_of_getElem? (i := 9) rfl)) (hw _ (List.mem_of_getElem? (i := 8) rfl)) (by decide) (by decide)) (g := (mkF m 42 #[.val (.long q0), .second, .val (.int p1), .val (.int (1 : Int32)), .val (.ref b3), .val (.long (own_st (0 : Int64) (own_byte q0 (0 : Int32)))), .second, .unset, .unset] [(.int (1 : Int32)), (.ref b3), (.long (own_st (0 : Int64) (own_byte q0 (0 : Int32))))])) rfl (by rw [hml]; rfl) (argsL := [(.long (own_st (0 : Int64) (own_byte q0 (0 : Int32)))), (.ref b3), (.int (1 : Int32))]) (rest := []) (lenOf pd_1 rfl) rfl (by show 2 * 0 + _ ≤ _; exact Nat.le_of_eq rfl) (hb hby at_42) (fun _ _ => ⟨rfl, e5q, (by decide : 1 + 0 ≤ _), (by decide : 1 + 0 ≤ _)⟩)
  dsimp only [Pt.U, Pt.locs, Pt.cells, Pt.slots] at X6 l6 y6 z6 st6 hQ6
  subst l6 y6 z6
  obtain ⟨rfl, N6q, e6q⟩ := hQ6
  have N6 := Fr.app N5 N6q
  obtain ⟨_, _, ⟨T7, L7, k7, n7⟩, -, X7, ⟨Lc7, hQ7, l7, y7, z7⟩, st7⟩ := Jvm.LawKit.callS X6 hx (y := (⟨"shale/ValueTypeBigEndianPinLaw", "step", "(J[BI)J"⟩ : MethodName)) hown (mvT hZ (hw _ (List.mem_of_getElem? (i := 6) rfl))) (mvT hZ (hw _ (List.mem_of_getElem? (i := 7) rfl))) (mvT hZ (hw _ (List.mem_of_getElem? (i := 8) rfl))) (mvT hZ (hw _ (List.mem_of_getElem? (i := 9) rfl))) (by decide) (backOf (W := 0) (rmso l Z a0 hw [] (own_st (0 : Int64) (own_byte q0 (0 : Int32))) b3 (2 : Int32) cl3 (1 : Int32) T3.heap n0 Z4 Ar3 Sa3 Ma3 (by decide)) hZ (hw _ (List.mem_of_getElem? (i := 9) rfl)) (hw _ (List.mem_of_getElem? (i := 8) rfl)) (by decide) (by decide)) (g := (mkF m 52 #[.val (.long q0), .second, .val (.int p1), .val (.int (1 : Int32)), .val (.ref b3), .val (.long (own_st (0 : Int64) (own_byte q0 (0 : Int32)))), .second, .unset, .unset] [(.int (2 : Int32)), (.ref b3), (.long (own_st (0 : Int64) (own_byte q0 (0 : Int32))))])) rfl (by rw [hml]; rfl) (argsL := [(.long (own_st (0 : Int64) (own_byte q0 (0 : Int32)))), (.ref b3), (.int (2 : Int32))]) (rest := []) (lenOf pd_1 rfl) rfl (by show 2 * 0 + _ ≤ _; exact Nat.le_of_eq rfl) (hb hby at_52) (fun _ _ => ⟨rfl, e6q, (by decide : 1 + 0 ≤ _), (by decide : 1 + 0 ≤ _)⟩)
  dsimp only [Pt.U, Pt.locs, Pt.cells, Pt.slots] at X7 l7 y7 z7 st7 hQ7
  subst l7 y7 z7
  obtain ⟨rfl, N7q, e7q⟩ := hQ7
  have N7 := Fr.app N6 N7q
  obtain ⟨_, _, ⟨T8, L8, k8, n8⟩, -, X8, ⟨Lc8, hQ8, l8, y8, z8⟩, st8⟩ := Jvm.LawKit.callS X7 hx (y := (⟨"shale/ValueTypeBigEndianPinLaw", "step", "(J[BI)J"⟩ : MethodName)) hown (mvT hZ (hw _ (List.mem_of_getElem? (i := 6) rfl))) (mvT hZ (hw _ (List.mem_of_getElem? (i := 7) rfl))) (mvT hZ (hw _ (List.mem_of_getElem? (i := 8) rfl))) (mvT hZ (hw _ (List.mem_of_getElem? (i := 9) rfl))) (by decide) (backOf (W := 0) (rmso l Z a0 hw [] (own_st (0 : Int64) (own_byte q0 (0 : Int32))) b3 (3 : Int32) cl3 (1 : Int32) T3.heap n0 Z4 Ar3 Sa3 Ma3 (by decide)) hZ (hw _ (List.mem_of_getElem? (i := 9) rfl)) (hw _ (List.mem_of_getElem? (i := 8) rfl)) (by decide) (by decide)) (g := (mkF m 62 #[.val (.long q0), .second, .val (.int p1), .val (.int (1 : Int32)), .val (.ref b3), .val (.long (own_st (0 : Int64) (own_byte q0 (0 : Int32)))), .second, .unset, .unset] [(.int (3 : Int32)), (.ref b3), (.long (own_st (0 : Int64) (own_byte q0 (0 : Int32))))])) rfl (by rw [hml]; rfl) (argsL := [(.long (own_st (0 : Int64) (own_byte q0 (0 : Int32)))), (.ref b3), (.int (3 : Int32))]) (rest := []) (lenOf pd_1 rfl) rfl (by show 2 * 0 + _ ≤ _; exact Nat.le_of_eq rfl) (hb hby at_62) (fun _ _ => ⟨rfl, e7q, (by decide : 1 + 0 ≤ _), (by decide : 1 + 0 ≤ _)⟩)
  dsimp only [Pt.U, Pt.locs, Pt.cells, Pt.slots] at X8 l8 y8 z8 st8 hQ8
  subst l8 y8 z8
  obtain ⟨rfl, N8q, e8q⟩ := hQ8
  have N8 := Fr.app N7 N8q
  obtain ⟨_, _, ⟨T9, L9, k9, n9⟩, -, X9, ⟨Lc9, hQ9, l9, y9, z9⟩, st9⟩ := Jvm.LawKit.callS X8 hx (y := (⟨"shale/ValueTypeBigEndianPinLaw", "step", "(J[BI)J"⟩ : MethodName)) hown (mvT hZ (hw _ (List.mem_of_getElem? (i := 6) rfl))) (mvT hZ (hw _ (List.mem_of_getElem? (i := 7) rfl))) (mvT hZ (hw _ (List.mem_of_getElem? (i := 8) rfl))) (mvT hZ (hw _ (List.mem_of_getElem? (i := 9) rfl))) (by decide) (backOf (W := 0) (rmso l Z a0 hw [] (own_st (0 : Int64) (own_byte q0 (0 : Int32))) b3 (4 : Int32) cl3 (1 : Int32) T3.heap n0 Z4 Ar3 Sa3 Ma3 (by decide)) hZ (hw _ (List.mem_of_getElem? (i := 9) rfl)) (hw _ (List.mem_of_getElem? (i := 8) rfl)) (by decide) (by decide)) (g := (mkF m 72 #[.val (.long q0), .second, .val (.int p1), .val (.int (1 : Int32)), .val (.ref b3), .val (.long (own_st (0 : Int64) (own_byte q0 (0 : Int32)))), .second, .unset, .unset] [(.int (4 : Int32)), (.ref b3), (.long (own_st (0 : Int64) (own_byte q0 (0 : Int32))))])) rfl (by rw [hml]; rfl) (argsL := [(.long (own_st (0 : Int64) (own_byte q0 (0 : Int32)))), (.ref b3), (.int (4 : Int32))]) (rest := []) (lenOf pd_1 rfl) rfl (by show 2 * 0 + _ ≤ _; exact Nat.le_of_eq rfl) (hb hby at_72) (fun _ _ => ⟨rfl, e8q, (by decide : 1 + 0 ≤ _), (by decide : 1 + 0 ≤ _)⟩)
  dsimp only [Pt.U, Pt.locs, Pt.cells, Pt.slots] at X9 l9 y9 z9 st9 hQ9
  subst l9 y9 z9
  obtain ⟨rfl, N9q, e9q⟩ := hQ9
  have N9 := Fr.app N8 N9q
  obtain ⟨_, _, ⟨T10, L10, k10, n10⟩, -, X10, ⟨Lc10, hQ10, l10, y10, z10⟩, st10⟩ := Jvm.LawKit.callS X9 hx (y := (⟨"shale/ValueTypeBigEndianPinLaw", "step", "(J[BI)J"⟩ : MethodName)) hown (mvT hZ (hw _ (List.mem_of_getElem? (i := 6) rfl))) (mvT hZ (hw _ (List.mem_of_getElem? (i := 7) rfl))) (mvT hZ (hw _ (List.mem_of_getElem? (i := 8) rfl))) (mvT hZ (hw _ (List.mem_of_getElem? (i := 9) rfl))) (by decide) (backOf (W := 0) (rmso l Z a0 hw [] (own_st (0 : Int64) (own_byte q0 (0 : Int32))) b3 (5 : Int32) cl3 (1 : Int32) T3.heap n0 Z4 Ar3 Sa3 Ma3 (by decide)) hZ (hw _ (List.mem_of_getElem? (i := 9) rfl)) (hw _ (List.mem_of_getElem? (i := 8) rfl)) (by decide) (by decide)) (g := (mkF m 82 #[.val (.long q0), .second, .val (.int p1), .val (.int (1 : Int32)), .val (.ref b3), .val (.long (own_st (0 : Int64) (own_byte q0 (0 : Int32)))), .second, .unset, .unset] [(.int (5 : Int32)), (.ref b3), (.long (own_st (0 : Int64) (own_byte q0 (0 : Int32))))])) rfl (by rw [hml]; rfl) (argsL := [(.long (own_st (0 : Int64) (own_byte q0 (0 : Int32)))), (.ref b3), (.int (5 : Int32))]) (rest := []) (lenOf pd_1 rfl) rfl (by show 2 * 0 + _ ≤ _; exact Nat.le_of_eq rfl) (hb hby at_82) (fun _ _ => ⟨rfl, e9q, (by decide : 1 + 0 ≤ _), (by decide : 1 + 0 ≤ _)⟩)
  dsimp only [Pt.U, Pt.locs, Pt.cells, Pt.slots] at X10 l10 y10 z10 st10 hQ10
  subst l10 y10 z10
  obtain ⟨rfl, N10q, e10q⟩ := hQ10
  have N10 := Fr.app N9 N10q
  obtain ⟨_, _, ⟨T11, L11, k11, n11⟩, -, X11, ⟨Lc11, hQ11, l11, y11, z11⟩, st11⟩ := Jvm.LawKit.callS X10 hx (y := (⟨"shale/ValueTypeBigEndianPinLaw", "step", "(J[BI)J"⟩ : MethodName)) hown (mvT hZ (hw _ (List.mem_of_getElem? (i := 6) rfl))) (mvT hZ (hw _ (List.mem_of_getElem? (i := 7) rfl))) (mvT hZ (hw _ (List.mem_of_getElem? (i := 8) rfl))) (mvT hZ (hw _ (List.mem_of_getElem? (i := 9) rfl))) (by decide) (backOf (W := 0) (rmso l Z a0 hw [] (own_st (0 : Int64) (own_byte q0 (0 : Int32))) b3 (6 : Int32) cl3 (1 : Int32) T3.heap n0 Z4 Ar3 Sa3 Ma3 (by decide)) hZ (hw _ (List.mem_of_getElem? (i := 9) rfl)) (hw _ (List.mem_of_getElem? (i := 8) rfl)) (by decide) (by decide)) (g := (mkF m 93 #[.val (.long q0), .second, .val (.int p1), .val (.int (1 : Int32)), .val (.ref b3), .val (.long (own_st (0 : Int64) (own_byte q0 (0 : Int32)))), .second, .unset, .unset] [(.int (6 : Int32)), (.ref b3), (.long (own_st (0 : Int64) (own_byte q0 (0 : Int32))))])) rfl (by rw [hml]; rfl) (argsL := [(.long (own_st (0 : Int64) (own_byte q0 (0 : Int32)))), (.ref b3), (.int (6 : Int32))]) (rest := []) (lenOf pd_1 rfl) rfl (by show 2 * 0 + _ ≤ _; exact Nat.le_of_eq rfl) (hb hby at_93) (fun _ _ => ⟨rfl, e10q, (by decide : 1 + 0 ≤ _), (by decide : 1 + 0 ≤ _)⟩)
  dsimp only [Pt.U, Pt.locs, Pt.cells, Pt.slots] at X11 l11 y11 z11 st11 hQ11
  subst l11 y11 z11
  obtain ⟨rfl, N11q, e11q⟩ := hQ11
  have N11 := Fr.app N10 N11q
  obtain ⟨_, _, ⟨T12, L12, k12, n12⟩, -, X12, ⟨Lc12, hQ12, l12, y12, z12⟩, st12⟩ := Jvm.LawKit.callS X11 hx (y := (⟨"shale/ValueTypeBigEndianPinLaw", "step", "(J[BI)J"⟩ : MethodName)) hown (mvT hZ (hw _ (List.mem_of_getElem? (i := 6) rfl))) (mvT hZ (hw _ (List.mem_of_getElem? (i := 7) rfl))) (mvT hZ (hw _ (List.mem_of_getElem? (i := 8) rfl))) (mvT hZ (hw _ (List.mem_of_getElem? (i := 9) rfl))) (by decide) (backOf (W := 0) (rmso l Z a0 hw [] (own_st (0 : Int64) (own_byte q0 (0 : Int32))) b3 (7 : Int32) cl3 (1 : Int32) T3.heap n0 Z4 Ar3 Sa3 Ma3 (by decide)) hZ (hw _ (List.mem_of_getElem? (i := 9) rfl)) (hw _ (List.mem_of_getElem? (i := 8) rfl)) (by decide) (by decide)) (g := (mkF m 104 #[.val (.long q0), .second, .val (.int p1), .val (.int (1 : Int32)), .val (.ref b3), .val (.long (own_st (0 : Int64) (own_byte q0 (0 : Int32)))), .second, .unset, .unset] [(.int (7 : Int32)), (.ref b3), (.long (own_st (0 : Int64) (own_byte q0 (0 : Int32))))])) rfl (by rw [hml]; rfl) (argsL := [(.long (own_st (0 : Int64) (own_byte q0 (0 : Int32)))), (.ref b3), (.int (7 : Int32))]) (rest := []) (lenOf pd_1 rfl) rfl (by show 2 * 0 + _ ≤ _; exact Nat.le_of_eq rfl) (hb hby at_104) (fun _ _ => ⟨rfl, e11q, (by decide : 1 + 0 ≤ _), (by decide : 1 + 0 ≤ _)⟩)
  dsimp only [Pt.U, Pt.locs, Pt.cells, Pt.slots] at X12 l12 y12 z12 st12 hQ12
  subst l12 y12 z12
  obtain ⟨rfl, N12q, e12q⟩ := hQ12
  have N12 := Fr.app N11 N12q
  obtain ⟨fs, hr, hrun, hended, hW, hsame⟩ := X12.leave (v := some (.int (1 : Int32))) (fun h => by rw [Bd.returns] at h; cases h)
  refine ⟨_, _, pre2 _ ?_, hrun, hended, _, _, rfl, ?_, ⟨_, rfl⟩, hW, hsame.mono (by decide) (by decide)⟩
  · show Steps p.tables e below (s₁.setTop (mkF m 7 #[.val (.long q0), .second, .val (.int p1), .unset, .unset, .unset, .unset, .unset, .unset] [(.int (1 : Int32))])) _
    refine XS.istoreN X0.here hx rfl (hb hby at_7) rfl (l' := #[.val (.long q0), .second, .val (.int p1), .val (.int (1 : Int32)), .unset, .unset, .unset, .unset, .unset]) rfl ?_
    show Steps p.tables e below (s₁.setTop (mkF m 8 #[.val (.long q0), .second, .val (.int p1), .val (.int (1 : Int32)), .unset, .unset, .unset, .unset, .unset] [])) _
    refine XS.lloadN X0.here hx rfl (hb hby at_8) rfl ?_
    show Steps p.tables e below (s₁.setTop (mkF m 9 #[.val (.long q0), .second, .val (.int p1), .val (.int (1 : Int32)), .unset, .unset, .unset, .unset, .unset] [(.long q0)])) _
    refine XS.iloadN X0.here hx rfl (hb hby at_9) rfl ?_
    show Steps p.tables e below (s₁.setTop (mkF m 10 #[.val (.long q0), .second, .val (.int p1), .val (.int (1 : Int32)), .unset, .unset, .unset, .unset, .unset] [(.int (1 : Int32)), (.long q0)])) _
    refine st3 _ ?_
    show Steps p.tables e below (T3.setTop (mkF m 13 #[.val (.long q0), .second, .val (.int p1), .val (.int (1 : Int32)), .unset, .unset, .unset, .unset, .unset] [(.ref b3)])) _
    refine XS.astore X3.here hx rfl (hb hby at_13) rfl rfl (l' := #[.val (.long q0), .second, .val (.int p1), .val (.int (1 : Int32)), .val (.ref b3), .unset, .unset, .unset, .unset]) rfl ?_
    show Steps p.tables e below (T3.setTop (mkF m 15 #[.val (.long q0), .second, .val (.int p1), .val (.int (1 : Int32)), .val (.ref b3), .unset, .unset, .unset, .unset] [])) _
    refine XS.aload X3.here hx rfl (hb hby at_15) rfl rfl ?_
    show Steps p.tables e below (T3.setTop (mkF m 17 #[.val (.long q0), .second, .val (.int p1), .val (.int (1 : Int32)), .val (.ref b3), .unset, .unset, .unset, .unset] [(.ref b3)])) _
    refine X3.arraylength hx Ar3.1 (State.isArrayOf_alike hZ.alike Ar3.2.1) (g := (mkF m 17 #[.val (.long q0), .second, .val (.int p1), .val (.int (1 : Int32)), .val (.ref b3), .unset, .unset, .unset, .unset] [(.ref b3)])) rfl rfl (hb hby at_17) _ ?_
    rw [len_of Sa3 Ma3]
    show Steps p.tables e below (T3.setTop (mkF m 18 #[.val (.long q0), .second, .val (.int p1), .val (.int (1 : Int32)), .val (.ref b3), .unset, .unset, .unset, .unset] [(.int (1 : Int32))])) _
    refine XS.iloadN X3.here hx rfl (hb hby at_18) rfl ?_
    show Steps p.tables e below (T3.setTop (mkF m 19 #[.val (.long q0), .second, .val (.int p1), .val (.int (1 : Int32)), .val (.ref b3), .unset, .unset, .unset, .unset] [(.int (1 : Int32)), (.int (1 : Int32))])) _
    refine XS.icmpYes X3.here hx rfl (pc0 := 19) (pc' := 24) rfl (hb hby at_19) rfl (teq (by decide : (1 : Int32) = (1 : Int32))).1 (by decide) (by decide) ?_
    show Steps p.tables e below (T3.setTop (mkF m 24 #[.val (.long q0), .second, .val (.int p1), .val (.int (1 : Int32)), .val (.ref b3), .unset, .unset, .unset, .unset] [])) _
    refine XS.lconst X3.here hx rfl (hb hby at_24) ?_
    show Steps p.tables e below (T3.setTop (mkF m 25 #[.val (.long q0), .second, .val (.int p1), .val (.int (1 : Int32)), .val (.ref b3), .unset, .unset, .unset, .unset] [(.long (0 : Int64))])) _
    refine XS.lstore X3.here hx rfl (hb hby at_25) rfl (l' := #[.val (.long q0), .second, .val (.int p1), .val (.int (1 : Int32)), .val (.ref b3), .val (.long (0 : Int64)), .second, .unset, .unset]) rfl ?_
    show Steps p.tables e below (T3.setTop (mkF m 27 #[.val (.long q0), .second, .val (.int p1), .val (.int (1 : Int32)), .val (.ref b3), .val (.long (0 : Int64)), .second, .unset, .unset] [])) _
    refine XS.lload X3.here hx rfl (hb hby at_27) rfl ?_
    show Steps p.tables e below (T3.setTop (mkF m 29 #[.val (.long q0), .second, .val (.int p1), .val (.int (1 : Int32)), .val (.ref b3), .val (.long (0 : Int64)), .second, .unset, .unset] [(.long (0 : Int64))])) _
    refine XS.aload X3.here hx rfl (hb hby at_29) rfl rfl ?_
    show Steps p.tables e below (T3.setTop (mkF m 31 #[.val (.long q0), .second, .val (.int p1), .val (.int (1 : Int32)), .val (.ref b3), .val (.long (0 : Int64)), .second, .unset, .unset] [(.ref b3), (.long (0 : Int64))])) _
    refine XS.iconst X3.here hx rfl (hb hby at_31) ?_
    show Steps p.tables e below (T3.setTop (mkF m 32 #[.val (.long q0), .second, .val (.int p1), .val (.int (1 : Int32)), .val (.ref b3), .val (.long (0 : Int64)), .second, .unset, .unset] [(.int (0 : Int32)), (.ref b3), (.long (0 : Int64))])) _
    refine st5 _ ?_
    show Steps p.tables e below (T5.setTop (mkF m 35 #[.val (.long q0), .second, .val (.int p1), .val (.int (1 : Int32)), .val (.ref b3), .val (.long (0 : Int64)), .second, .unset, .unset] [(.long (own_st (0 : Int64) (own_byte q0 (0 : Int32))))])) _
    refine XS.lstore X5.here hx rfl (hb hby at_35) rfl (l' := #[.val (.long q0), .second, .val (.int p1), .val (.int (1 : Int32)), .val (.ref b3), .val (.long (own_st (0 : Int64) (own_byte q0 (0 : Int32)))), .second, .unset, .unset]) rfl ?_
    show Steps p.tables e below (T5.setTop (mkF m 37 #[.val (.long q0), .second, .val (.int p1), .val (.int (1 : Int32)), .val (.ref b3), .val (.long (own_st (0 : Int64) (own_byte q0 (0 : Int32)))), .second, .unset, .unset] [])) _
    refine XS.lload X5.here hx rfl (hb hby at_37) rfl ?_
    show Steps p.tables e below (T5.setTop (mkF m 39 #[.val (.long q0), .second, .val (.int p1), .val (.int (1 : Int32)), .val (.ref b3), .val (.long (own_st (0 : Int64) (own_byte q0 (0 : Int32)))), .second, .unset, .unset] [(.long (own_st (0 : Int64) (own_byte q0 (0 : Int32))))])) _
    refine XS.aload X5.here hx rfl (hb hby at_39) rfl rfl ?_
    show Steps p.tables e below (T5.setTop (mkF m 41 #[.val (.long q0), .second, .val (.int p1), .val (.int (1 : Int32)), .val (.ref b3), .val (.long (own_st (0 : Int64) (own_byte q0 (0 : Int32)))), .second, .unset, .unset] [(.ref b3), (.long (own_st (0 : Int64) (own_byte q0 (0 : Int32))))])) _
    refine XS.iconst X5.here hx rfl (hb hby at_41) ?_
    show Steps p.tables e below (T5.setTop (mkF m 42 #[.val (.long q0), .second, .val (.int p1), .val (.int (1 : Int32)), .val (.ref b3), .val (.long (own_st (0 : Int64) (own_byte q0 (0 : Int32)))), .second, .unset, .unset] [(.int (1 : Int32)), (.ref b3), (.long (own_st (0 : Int64) (own_byte q0 (0 : Int32))))])) _
    refine st6 _ ?_
    show Steps p.tables e below (T6.setTop (mkF m 45 #[.val (.long q0), .second, .val (.int p1), .val (.int (1 : Int32)), .val (.ref b3), .val (.long (own_st (0 : Int64) (own_byte q0 (0 : Int32)))), .second, .unset, .unset] [(.long (own_st (0 : Int64) (own_byte q0 (0 : Int32))))])) _
    refine XS.lstore X6.here hx rfl (hb hby at_45) rfl (l' := #[.val (.long q0), .second, .val (.int p1), .val (.int (1 : Int32)), .val (.ref b3), .val (.long (own_st (0 : Int64) (own_byte q0 (0 : Int32)))), .second, .unset, .unset]) rfl ?_
    show Steps p.tables e below (T6.setTop (mkF m 47 #[.val (.long q0), .second, .val (.int p1), .val (.int (1 : Int32)), .val (.ref b3), .val (.long (own_st (0 : Int64) (own_byte q0 (0 : Int32)))), .second, .unset, .unset] [])) _
    refine XS.lload X6.here hx rfl (hb hby at_47) rfl ?_
    show Steps p.tables e below (T6.setTop (mkF m 49 #[.val (.long q0), .second, .val (.int p1), .val (.int (1 : Int32)), .val (.ref b3), .val (.long (own_st (0 : Int64) (own_byte q0 (0 : Int32)))), .second, .unset, .unset] [(.long (own_st (0 : Int64) (own_byte q0 (0 : Int32))))])) _
    refine XS.aload X6.here hx rfl (hb hby at_49) rfl rfl ?_
    show Steps p.tables e below (T6.setTop (mkF m 51 #[.val (.long q0), .second, .val (.int p1), .val (.int (1 : Int32)), .val (.ref b3), .val (.long (own_st (0 : Int64) (own_byte q0 (0 : Int32)))), .second, .unset, .unset] [(.ref b3), (.long (own_st (0 : Int64) (own_byte q0 (0 : Int32))))])) _
    refine XS.iconst X6.here hx rfl (hb hby at_51) ?_
    show Steps p.tables e below (T6.setTop (mkF m 52 #[.val (.long q0), .second, .val (.int p1), .val (.int (1 : Int32)), .val (.ref b3), .val (.long (own_st (0 : Int64) (own_byte q0 (0 : Int32)))), .second, .unset, .unset] [(.int (2 : Int32)), (.ref b3), (.long (own_st (0 : Int64) (own_byte q0 (0 : Int32))))])) _
    refine st7 _ ?_
    show Steps p.tables e below (T7.setTop (mkF m 55 #[.val (.long q0), .second, .val (.int p1), .val (.int (1 : Int32)), .val (.ref b3), .val (.long (own_st (0 : Int64) (own_byte q0 (0 : Int32)))), .second, .unset, .unset] [(.long (own_st (0 : Int64) (own_byte q0 (0 : Int32))))])) _
    refine XS.lstore X7.here hx rfl (hb hby at_55) rfl (l' := #[.val (.long q0), .second, .val (.int p1), .val (.int (1 : Int32)), .val (.ref b3), .val (.long (own_st (0 : Int64) (own_byte q0 (0 : Int32)))), .second, .unset, .unset]) rfl ?_
    show Steps p.tables e below (T7.setTop (mkF m 57 #[.val (.long q0), .second, .val (.int p1), .val (.int (1 : Int32)), .val (.ref b3), .val (.long (own_st (0 : Int64) (own_byte q0 (0 : Int32)))), .second, .unset, .unset] [])) _
    refine XS.lload X7.here hx rfl (hb hby at_57) rfl ?_
    show Steps p.tables e below (T7.setTop (mkF m 59 #[.val (.long q0), .second, .val (.int p1), .val (.int (1 : Int32)), .val (.ref b3), .val (.long (own_st (0 : Int64) (own_byte q0 (0 : Int32)))), .second, .unset, .unset] [(.long (own_st (0 : Int64) (own_byte q0 (0 : Int32))))])) _
    refine XS.aload X7.here hx rfl (hb hby at_59) rfl rfl ?_
    show Steps p.tables e below (T7.setTop (mkF m 61 #[.val (.long q0), .second, .val (.int p1), .val (.int (1 : Int32)), .val (.ref b3), .val (.long (own_st (0 : Int64) (own_byte q0 (0 : Int32)))), .second, .unset, .unset] [(.ref b3), (.long (own_st (0 : Int64) (own_byte q0 (0 : Int32))))])) _
    refine XS.iconst X7.here hx rfl (hb hby at_61) ?_
    show Steps p.tables e below (T7.setTop (mkF m 62 #[.val (.long q0), .second, .val (.int p1), .val (.int (1 : Int32)), .val (.ref b3), .val (.long (own_st (0 : Int64) (own_byte q0 (0 : Int32)))), .second, .unset, .unset] [(.int (3 : Int32)), (.ref b3), (.long (own_st (0 : Int64) (own_byte q0 (0 : Int32))))])) _
    refine st8 _ ?_
    show Steps p.tables e below (T8.setTop (mkF m 65 #[.val (.long q0), .second, .val (.int p1), .val (.int (1 : Int32)), .val (.ref b3), .val (.long (own_st (0 : Int64) (own_byte q0 (0 : Int32)))), .second, .unset, .unset] [(.long (own_st (0 : Int64) (own_byte q0 (0 : Int32))))])) _
    refine XS.lstore X8.here hx rfl (hb hby at_65) rfl (l' := #[.val (.long q0), .second, .val (.int p1), .val (.int (1 : Int32)), .val (.ref b3), .val (.long (own_st (0 : Int64) (own_byte q0 (0 : Int32)))), .second, .unset, .unset]) rfl ?_
    show Steps p.tables e below (T8.setTop (mkF m 67 #[.val (.long q0), .second, .val (.int p1), .val (.int (1 : Int32)), .val (.ref b3), .val (.long (own_st (0 : Int64) (own_byte q0 (0 : Int32)))), .second, .unset, .unset] [])) _
    refine XS.lload X8.here hx rfl (hb hby at_67) rfl ?_
    show Steps p.tables e below (T8.setTop (mkF m 69 #[.val (.long q0), .second, .val (.int p1), .val (.int (1 : Int32)), .val (.ref b3), .val (.long (own_st (0 : Int64) (own_byte q0 (0 : Int32)))), .second, .unset, .unset] [(.long (own_st (0 : Int64) (own_byte q0 (0 : Int32))))])) _
    refine XS.aload X8.here hx rfl (hb hby at_69) rfl rfl ?_
    show Steps p.tables e below (T8.setTop (mkF m 71 #[.val (.long q0), .second, .val (.int p1), .val (.int (1 : Int32)), .val (.ref b3), .val (.long (own_st (0 : Int64) (own_byte q0 (0 : Int32)))), .second, .unset, .unset] [(.ref b3), (.long (own_st (0 : Int64) (own_byte q0 (0 : Int32))))])) _
    refine XS.iconst X8.here hx rfl (hb hby at_71) ?_
    show Steps p.tables e below (T8.setTop (mkF m 72 #[.val (.long q0), .second, .val (.int p1), .val (.int (1 : Int32)), .val (.ref b3), .val (.long (own_st (0 : Int64) (own_byte q0 (0 : Int32)))), .second, .unset, .unset] [(.int (4 : Int32)), (.ref b3), (.long (own_st (0 : Int64) (own_byte q0 (0 : Int32))))])) _
    refine st9 _ ?_
    show Steps p.tables e below (T9.setTop (mkF m 75 #[.val (.long q0), .second, .val (.int p1), .val (.int (1 : Int32)), .val (.ref b3), .val (.long (own_st (0 : Int64) (own_byte q0 (0 : Int32)))), .second, .unset, .unset] [(.long (own_st (0 : Int64) (own_byte q0 (0 : Int32))))])) _
    refine XS.lstore X9.here hx rfl (hb hby at_75) rfl (l' := #[.val (.long q0), .second, .val (.int p1), .val (.int (1 : Int32)), .val (.ref b3), .val (.long (own_st (0 : Int64) (own_byte q0 (0 : Int32)))), .second, .unset, .unset]) rfl ?_
    show Steps p.tables e below (T9.setTop (mkF m 77 #[.val (.long q0), .second, .val (.int p1), .val (.int (1 : Int32)), .val (.ref b3), .val (.long (own_st (0 : Int64) (own_byte q0 (0 : Int32)))), .second, .unset, .unset] [])) _
    refine XS.lload X9.here hx rfl (hb hby at_77) rfl ?_
    show Steps p.tables e below (T9.setTop (mkF m 79 #[.val (.long q0), .second, .val (.int p1), .val (.int (1 : Int32)), .val (.ref b3), .val (.long (own_st (0 : Int64) (own_byte q0 (0 : Int32)))), .second, .unset, .unset] [(.long (own_st (0 : Int64) (own_byte q0 (0 : Int32))))])) _
    refine XS.aload X9.here hx rfl (hb hby at_79) rfl rfl ?_
    show Steps p.tables e below (T9.setTop (mkF m 81 #[.val (.long q0), .second, .val (.int p1), .val (.int (1 : Int32)), .val (.ref b3), .val (.long (own_st (0 : Int64) (own_byte q0 (0 : Int32)))), .second, .unset, .unset] [(.ref b3), (.long (own_st (0 : Int64) (own_byte q0 (0 : Int32))))])) _
    refine XS.iconst X9.here hx rfl (hb hby at_81) ?_
    show Steps p.tables e below (T9.setTop (mkF m 82 #[.val (.long q0), .second, .val (.int p1), .val (.int (1 : Int32)), .val (.ref b3), .val (.long (own_st (0 : Int64) (own_byte q0 (0 : Int32)))), .second, .unset, .unset] [(.int (5 : Int32)), (.ref b3), (.long (own_st (0 : Int64) (own_byte q0 (0 : Int32))))])) _
    refine st10 _ ?_
    show Steps p.tables e below (T10.setTop (mkF m 85 #[.val (.long q0), .second, .val (.int p1), .val (.int (1 : Int32)), .val (.ref b3), .val (.long (own_st (0 : Int64) (own_byte q0 (0 : Int32)))), .second, .unset, .unset] [(.long (own_st (0 : Int64) (own_byte q0 (0 : Int32))))])) _
    refine XS.lstore X10.here hx rfl (hb hby at_85) rfl (l' := #[.val (.long q0), .second, .val (.int p1), .val (.int (1 : Int32)), .val (.ref b3), .val (.long (own_st (0 : Int64) (own_byte q0 (0 : Int32)))), .second, .unset, .unset]) rfl ?_
    show Steps p.tables e below (T10.setTop (mkF m 87 #[.val (.long q0), .second, .val (.int p1), .val (.int (1 : Int32)), .val (.ref b3), .val (.long (own_st (0 : Int64) (own_byte q0 (0 : Int32)))), .second, .unset, .unset] [])) _
    refine XS.lload X10.here hx rfl (hb hby at_87) rfl ?_
    show Steps p.tables e below (T10.setTop (mkF m 89 #[.val (.long q0), .second, .val (.int p1), .val (.int (1 : Int32)), .val (.ref b3), .val (.long (own_st (0 : Int64) (own_byte q0 (0 : Int32)))), .second, .unset, .unset] [(.long (own_st (0 : Int64) (own_byte q0 (0 : Int32))))])) _
    refine XS.aload X10.here hx rfl (hb hby at_89) rfl rfl ?_
    show Steps p.tables e below (T10.setTop (mkF m 91 #[.val (.long q0), .second, .val (.int p1), .val (.int (1 : Int32)), .val (.ref b3), .val (.long (own_st (0 : Int64) (own_byte q0 (0 : Int32)))), .second, .unset, .unset] [(.ref b3), (.long (own_st (0 : Int64) (own_byte q0 (0 : Int32))))])) _
    refine XS.bipush X10.here hx rfl (hb hby at_91) ?_
    show Steps p.tables e below (T10.setTop (mkF m 93 #[.val (.long q0), .second, .val (.int p1), .val (.int (1 : Int32)), .val (.ref b3), .val (.long (own_st (0 : Int64) (own_byte q0 (0 : Int32)))), .second, .unset, .unset] [(.int (6 : Int32)), (.ref b3), (.long (own_st (0 : Int64) (own_byte q0 (0 : Int32))))])) _
    refine st11 _ ?_
    show Steps p.tables e below (T11.setTop (mkF m 96 #[.val (.long q0), .second, .val (.int p1), .val (.int (1 : Int32)), .val (.ref b3), .val (.long (own_st (0 : Int64) (own_byte q0 (0 : Int32)))), .second, .unset, .unset] [(.long (own_st (0 : Int64) (own_byte q0 (0 : Int32))))])) _
    refine XS.lstore X11.here hx rfl (hb hby at_96) rfl (l' := #[.val (.long q0), .second, .val (.int p1), .val (.int (1 : Int32)), .val (.ref b3), .val (.long (own_st (0 : Int64) (own_byte q0 (0 : Int32)))), .second, .unset, .unset]) rfl ?_
    show Steps p.tables e below (T11.setTop (mkF m 98 #[.val (.long q0), .second, .val (.int p1), .val (.int (1 : Int32)), .val (.ref b3), .val (.long (own_st (0 : Int64) (own_byte q0 (0 : Int32)))), .second, .unset, .unset] [])) _
    refine XS.lload X11.here hx rfl (hb hby at_98) rfl ?_
    show Steps p.tables e below (T11.setTop (mkF m 100 #[.val (.long q0), .second, .val (.int p1), .val (.int (1 : Int32)), .val (.ref b3), .val (.long (own_st (0 : Int64) (own_byte q0 (0 : Int32)))), .second, .unset, .unset] [(.long (own_st (0 : Int64) (own_byte q0 (0 : Int32))))])) _
    refine XS.aload X11.here hx rfl (hb hby at_100) rfl rfl ?_
    show Steps p.tables e below (T11.setTop (mkF m 102 #[.val (.long q0), .second, .val (.int p1), .val (.int (1 : Int32)), .val (.ref b3), .val (.long (own_st (0 : Int64) (own_byte q0 (0 : Int32)))), .second, .unset, .unset] [(.ref b3), (.long (own_st (0 : Int64) (own_byte q0 (0 : Int32))))])) _
    refine XS.bipush X11.here hx rfl (hb hby at_102) ?_
    show Steps p.tables e below (T11.setTop (mkF m 104 #[.val (.long q0), .second, .val (.int p1), .val (.int (1 : Int32)), .val (.ref b3), .val (.long (own_st (0 : Int64) (own_byte q0 (0 : Int32)))), .second, .unset, .unset] [(.int (7 : Int32)), (.ref b3), (.long (own_st (0 : Int64) (own_byte q0 (0 : Int32))))])) _
    refine st12 _ ?_
    show Steps p.tables e below (T12.setTop (mkF m 107 #[.val (.long q0), .second, .val (.int p1), .val (.int (1 : Int32)), .val (.ref b3), .val (.long (own_st (0 : Int64) (own_byte q0 (0 : Int32)))), .second, .unset, .unset] [(.long (own_st (0 : Int64) (own_byte q0 (0 : Int32))))])) _
    refine XS.lstore X12.here hx rfl (hb hby at_107) rfl (l' := #[.val (.long q0), .second, .val (.int p1), .val (.int (1 : Int32)), .val (.ref b3), .val (.long (own_st (0 : Int64) (own_byte q0 (0 : Int32)))), .second, .unset, .unset]) rfl ?_
    show Steps p.tables e below (T12.setTop (mkF m 109 #[.val (.long q0), .second, .val (.int p1), .val (.int (1 : Int32)), .val (.ref b3), .val (.long (own_st (0 : Int64) (own_byte q0 (0 : Int32)))), .second, .unset, .unset] [])) _
    refine XS.iloadN X12.here hx rfl (hb hby at_109) rfl ?_
    show Steps p.tables e below (T12.setTop (mkF m 110 #[.val (.long q0), .second, .val (.int p1), .val (.int (1 : Int32)), .val (.ref b3), .val (.long (own_st (0 : Int64) (own_byte q0 (0 : Int32)))), .second, .unset, .unset] [(.int (1 : Int32))])) _
    refine XS.bipush X12.here hx rfl (hb hby at_110) ?_
    show Steps p.tables e below (T12.setTop (mkF m 112 #[.val (.long q0), .second, .val (.int p1), .val (.int (1 : Int32)), .val (.ref b3), .val (.long (own_st (0 : Int64) (own_byte q0 (0 : Int32)))), .second, .unset, .unset] [(.int (8 : Int32)), (.int (1 : Int32))])) _
    refine XS.icmpYes X12.here hx rfl (pc0 := 112) (pc' := 121) rfl (hb hby at_112) rfl (feq (by decide : ¬ ((1 : Int32) = (8 : Int32)))).2 (by decide) (by decide) ?_
    show Steps p.tables e below (T12.setTop (mkF m 121 #[.val (.long q0), .second, .val (.int p1), .val (.int (1 : Int32)), .val (.ref b3), .val (.long (own_st (0 : Int64) (own_byte q0 (0 : Int32)))), .second, .unset, .unset] [])) _
    refine XS.lloadN X12.here hx rfl (hb hby at_121) rfl ?_
    show Steps p.tables e below (T12.setTop (mkF m 122 #[.val (.long q0), .second, .val (.int p1), .val (.int (1 : Int32)), .val (.ref b3), .val (.long (own_st (0 : Int64) (own_byte q0 (0 : Int32)))), .second, .unset, .unset] [(.long q0)])) _
    refine XS.lconst X12.here hx rfl (hb hby at_122) ?_
    show Steps p.tables e below (T12.setTop (mkF m 123 #[.val (.long q0), .second, .val (.int p1), .val (.int (1 : Int32)), .val (.ref b3), .val (.long (own_st (0 : Int64) (own_byte q0 (0 : Int32)))), .second, .unset, .unset] [(.long (1 : Int64)), (.long q0)])) _
    refine XS.bipush X12.here hx rfl (hb hby at_123) ?_
    show Steps p.tables e below (T12.setTop (mkF m 125 #[.val (.long q0), .second, .val (.int p1), .val (.int (1 : Int32)), .val (.ref b3), .val (.long (own_st (0 : Int64) (own_byte q0 (0 : Int32)))), .second, .unset, .unset] [(.int (8 : Int32)), (.long (1 : Int64)), (.long q0)])) _
    refine XS.iloadN X12.here hx rfl (hb hby at_125) rfl ?_
    show Steps p.tables e below (T12.setTop (mkF m 126 #[.val (.long q0), .second, .val (.int p1), .val (.int (1 : Int32)), .val (.ref b3), .val (.long (own_st (0 : Int64) (own_byte q0 (0 : Int32)))), .second, .unset, .unset] [(.int (1 : Int32)), (.int (8 : Int32)), (.long (1 : Int64)), (.long q0)])) _
    refine XS.imul X12.here hx rfl (hb hby at_126) rfl ?_
    show Steps p.tables e below (T12.setTop (mkF m 127 #[.val (.long q0), .second, .val (.int p1), .val (.int (1 : Int32)), .val (.ref b3), .val (.long (own_st (0 : Int64) (own_byte q0 (0 : Int32)))), .second, .unset, .unset] [(.int (8 : Int32)), (.long (1 : Int64)), (.long q0)])) _
    refine XS.lshl X12.here hx rfl (hb hby at_127) rfl ?_
    show Steps p.tables e below (T12.setTop (mkF m 128 #[.val (.long q0), .second, .val (.int p1), .val (.int (1 : Int32)), .val (.ref b3), .val (.long (own_st (0 : Int64) (own_byte q0 (0 : Int32)))), .second, .unset, .unset] [(.long ((1 : Int64) <<< ((8 : Int32) &&& 0x3f).toInt64)), (.long q0)])) _
    refine XS.lconst X12.here hx rfl (hb hby at_128) ?_
    show Steps p.tables e below (T12.setTop (mkF m 129 #[.val (.long q0), .second, .val (.int p1), .val (.int (1 : Int32)), .val (.ref b3), .val (.long (own_st (0 : Int64) (own_byte q0 (0 : Int32)))), .second, .unset, .unset] [(.long (1 : Int64)), (.long ((1 : Int64) <<< ((8 : Int32) &&& 0x3f).toInt64)), (.long q0)])) _
    refine XS.lsub X12.here hx rfl (hb hby at_129) rfl ?_
    show Steps p.tables e below (T12.setTop (mkF m 130 #[.val (.long q0), .second, .val (.int p1), .val (.int (1 : Int32)), .val (.ref b3), .val (.long (own_st (0 : Int64) (own_byte q0 (0 : Int32)))), .second, .unset, .unset] [(.long (((1 : Int64) <<< ((8 : Int32) &&& 0x3f).toInt64) - (1 : Int64))), (.long q0)])) _
    refine XS.land X12.here hx rfl (hb hby at_130) rfl ?_
    show Steps p.tables e below (T12.setTop (mkF m 131 #[.val (.long q0), .second, .val (.int p1), .val (.int (1 : Int32)), .val (.ref b3), .val (.long (own_st (0 : Int64) (own_byte q0 (0 : Int32)))), .second, .unset, .unset] [(.long (q0 &&& (((1 : Int64) <<< ((8 : Int32) &&& 0x3f).toInt64) - (1 : Int64))))])) _
    refine XS.lstore X12.here hx rfl (hb hby at_131) rfl (l' := #[.val (.long q0), .second, .val (.int p1), .val (.int (1 : Int32)), .val (.ref b3), .val (.long (own_st (0 : Int64) (own_byte q0 (0 : Int32)))), .second, .val (.long (q0 &&& (((1 : Int64) <<< ((8 : Int32) &&& 0x3f).toInt64) - (1 : Int64)))), .second]) rfl ?_
    show Steps p.tables e below (T12.setTop (mkF m 133 #[.val (.long q0), .second, .val (.int p1), .val (.int (1 : Int32)), .val (.ref b3), .val (.long (own_st (0 : Int64) (own_byte q0 (0 : Int32)))), .second, .val (.long (q0 &&& (((1 : Int64) <<< ((8 : Int32) &&& 0x3f).toInt64) - (1 : Int64)))), .second] [])) _
    refine XS.lload X12.here hx rfl (hb hby at_133) rfl ?_
    show Steps p.tables e below (T12.setTop (mkF m 135 #[.val (.long q0), .second, .val (.int p1), .val (.int (1 : Int32)), .val (.ref b3), .val (.long (own_st (0 : Int64) (own_byte q0 (0 : Int32)))), .second, .val (.long (q0 &&& (((1 : Int64) <<< ((8 : Int32) &&& 0x3f).toInt64) - (1 : Int64)))), .second] [(.long (own_st (0 : Int64) (own_byte q0 (0 : Int32))))])) _
    refine XS.lload X12.here hx rfl (hb hby at_135) rfl ?_
    show Steps p.tables e below (T12.setTop (mkF m 137 #[.val (.long q0), .second, .val (.int p1), .val (.int (1 : Int32)), .val (.ref b3), .val (.long (own_st (0 : Int64) (own_byte q0 (0 : Int32)))), .second, .val (.long (q0 &&& (((1 : Int64) <<< ((8 : Int32) &&& 0x3f).toInt64) - (1 : Int64)))), .second] [(.long (q0 &&& (((1 : Int64) <<< ((8 : Int32) &&& 0x3f).toInt64) - (1 : Int64)))), (.long (own_st (0 : Int64) (own_byte q0 (0 : Int32))))])) _
    refine XS.lcmp X12.here hx rfl (hb hby at_137) rfl ?_
    show Steps p.tables e below (T12.setTop (mkF m 138 #[.val (.long q0), .second, .val (.int p1), .val (.int (1 : Int32)), .val (.ref b3), .val (.long (own_st (0 : Int64) (own_byte q0 (0 : Int32)))), .second, .val (.long (q0 &&& (((1 : Int64) <<< ((8 : Int32) &&& 0x3f).toInt64) - (1 : Int64)))), .second] [(.int (lcmpW (own_st (0 : Int64) (own_byte q0 (0 : Int32))) (q0 &&& (((1 : Int64) <<< ((8 : Int32) &&& 0x3f).toInt64) - (1 : Int64)))))])) _
    refine XS.ifNo X12.here hx rfl (hb hby at_138) rfl ((if0 _ _).trans (teq ((lw_eq _ _).mpr (own_fin1 q0))).2) ?_
    show Steps p.tables e below (T12.setTop (mkF m 141 #[.val (.long q0), .second, .val (.int p1), .val (.int (1 : Int32)), .val (.ref b3), .val (.long (own_st (0 : Int64) (own_byte q0 (0 : Int32)))), .second, .val (.long (q0 &&& (((1 : Int64) <<< ((8 : Int32) &&& 0x3f).toInt64) - (1 : Int64)))), .second] [])) _
    refine XS.iconst X12.here hx rfl (hb hby at_141) ?_
    show Steps p.tables e below (T12.setTop (mkF m 142 #[.val (.long q0), .second, .val (.int p1), .val (.int (1 : Int32)), .val (.ref b3), .val (.long (own_st (0 : Int64) (own_byte q0 (0 : Int32)))), .second, .val (.long (q0 &&& (((1 : Int64) <<< ((8 : Int32) &&& 0x3f).toInt64) - (1 : Int64)))), .second] [(.int (1 : Int32))])) _
    refine XS.goto X12.here hx rfl (pc0 := 142) (pc' := 146) rfl (hb hby at_142) (by decide) (by decide) ?_
    show Steps p.tables e below (T12.setTop (mkF m 146 #[.val (.long q0), .second, .val (.int p1), .val (.int (1 : Int32)), .val (.ref b3), .val (.long (own_st (0 : Int64) (own_byte q0 (0 : Int32)))), .second, .val (.long (q0 &&& (((1 : Int64) <<< ((8 : Int32) &&& 0x3f).toInt64) - (1 : Int64)))), .second] [(.int (1 : Int32))])) _
    exact retN X12 hx (t := .boolean) Bd.returns (by simp) (hb hby at_146) hr
  · show Q0_1 Z q0 p1 h0 n0 _ T12.heap _
    rw [e12q]
    exact ⟨rfl, N12⟩
theorem ef_rm0_2 (m : MethodId) (q0 : Int64) (p1 : Int32) : entryFrame m #[(.long q0), (.int p1)] maxLocals = mkF m 0 #[.val (.long q0), .second, .val (.int p1), .unset, .unset, .unset, .unset, .unset, .unset] [] := by first | (simp [entryFrame, mkF, argsToLocals, Value.category, maxLocals]; done) | rfl
def Q0_2 (Z : State) (q0 : Int64) (p1 : Int32) (h0 : Heap) (n0 : Nat) (v : Option Value) (h : Heap) (L : List Loc) : Prop := v = some (.int (1 : Int32)) ∧ Fr n0 L
set_option maxRecDepth 65536 in
set_option maxHeartbeats 40000000 in
theorem rm0_2 (l : Launch) (Z : State) (a0 : Array Value) (hw : ∀ d ∈ tables_1, d.before a0 Z = true) (ws : List Jvm.Cond) (q0 : Int64) (p1 : Int32) (h0 : Heap) (n0 : Nat) (Z0 : n0 ≤ h0.size) (hwid : ((p1 &&& (2147483647 : Int32)) % (9 : Int32)) = (2 : Int32)) :
    MetFree l x (head1 (Jvm.Cond.code x code maxLocals ret :: ws) room_1) (fun a U => a = #[(.long q0), (.int p1)] ∧ Z.Warmed39 U.vm ∧ U.heap = h0) (fun _ _ _ _ _ => True) (fun _ U o U' => ∃ v L, o = .returned v ∧ Q0_2 Z q0 p1 h0 n0 v U'.heap L ∧ FrameEnd U o U' L room_1.cells room_1.slots) := by
  refine MetFree.of_bodySF (plainFor_of_name pn_1) hisR ?_
  intro p e s m args below meth c s₁ Bd hml0 hP hK
  obtain ⟨rfl, hZ, hh⟩ := hP
  have hx := Bd.exec
  have hby := Bd.bytes
  have hml : c.maxLocals = 9 := hml0
  have hown : s.vm.findClass "shale/ValueTypeBigEndianPinLaw" = some m.cls := findClass_of_methodNamed Bd.named
  have hnm := (name_of_methodNamed Bd.named Bd.method).1
  have X0 : Stand p l e room_1 s m #[(.long q0), (.int p1)] below meth c s₁ [] 0 0 := Stand.of_body Bd
  have e0 : s₁.heap = h0 := by rw [← hh, Bd.state]; rfl
  have N0 := Fr.nil n0
  have pre0 : ∀ t, Steps p.tables e below (s₁.setTop (mkF m 0 #[.val (.long q0), .second, .val (.int p1), .unset, .unset, .unset, .unset, .unset, .unset] [])) t → Steps p.tables e below (s₁.setTop (entryFrame m #[(.long q0), (.int p1)] maxLocals)) t := fun t k => castTop (ef_rm0_2 m q0 p1) k
  obtain ⟨wd, hm1, pre2⟩ : ∃ (wd : Int32), (wd = (2 : Int32)) ∧ ∀ t, Steps p.tables e below (s₁.setTop (mkF m 7 #[.val (.long q0), .second, .val (.int p1), .unset, .unset, .unset, .unset, .unset, .unset] [(.int wd)])) t → Steps p.tables e below (s₁.setTop (entryFrame m #[(.long q0), (.int p1)] maxLocals)) t := by
    refine ⟨((p1 &&& (2147483647 : Int32)) % (9 : Int32)), hwid, fun t kt => ?_⟩
    refine pre0 _ ?_
    show Steps p.tables e below (s₁.setTop (mkF m 0 #[.val (.long q0), .second, .val (.int p1), .unset, .unset, .unset, .unset, .unset, .unset] [])) _
    refine XS.iloadN X0.here hx rfl (hb hby at_0) rfl ?_
    show Steps p.tables e below (s₁.setTop (mkF m 1 #[.val (.long q0), .second, .val (.int p1), .unset, .unset, .unset, .unset, .unset, .unset] [(.int p1)])) _
    refine X0.ldcInt hx hown (mvT hZ (hw _ (List.mem_of_getElem? (i := 0) rfl))) (g := (mkF m 1 #[.val (.long q0), .second, .val (.int p1), .unset, .unset, .unset, .unset, .unset, .unset] [(.int p1)])) rfl (hb hby at_1) _ ?_
    show Steps p.tables e below (s₁.setTop (mkF m 3 #[.val (.long q0), .second, .val (.int p1), .unset, .unset, .unset, .unset, .unset, .unset] [(.int (2147483647 : Int32)), (.int p1)])) _
    refine XS.iand X0.here hx rfl (hb hby at_3) rfl ?_
    show Steps p.tables e below (s₁.setTop (mkF m 4 #[.val (.long q0), .second, .val (.int p1), .unset, .unset, .unset, .unset, .unset, .unset] [(.int (p1 &&& (2147483647 : Int32)))])) _
    refine XS.bipush X0.here hx rfl (hb hby at_4) ?_
    show Steps p.tables e below (s₁.setTop (mkF m 6 #[.val (.long q0), .second, .val (.int p1), .unset, .unset, .unset, .unset, .unset, .unset] [(.int (9 : Int32)), (.int (p1 &&& (2147483647 : Int32)))])) _
    refine iremM X0 hx rfl (hb hby at_6) rfl (by decide) ?_
    exact kt
  subst hm1
  obtain ⟨_, _, ⟨T3, L3, k3, n3⟩, -, X3, ⟨Lc3, hQ3, l3, y3, z3⟩, st3⟩ := Jvm.LawKit.callS X0 hx (y := (⟨"shale/ValueType", "bigEndian", "(JI)[B"⟩ : MethodName)) hown (mvT hZ (hw _ (List.mem_of_getElem? (i := 1) rfl))) (mvT hZ (hw _ (List.mem_of_getElem? (i := 2) rfl))) (mvT hZ (hw _ (List.mem_of_getElem? (i := 3) rfl))) (mvT hZ (hw _ (List.mem_of_getElem? (i := 4) rfl))) (by decide) (backOf (W := 0) (rmb2 l Z a0 hw [] q0 h0 n0 Z0 ) hZ (hw _ (List.mem_of_getElem? (i := 4) rfl)) (hw _ (List.mem_of_getElem? (i := 3) rfl)) (by decide) (by decide)) (g := (mkF m 10 #[.val (.long q0), .second, .val (.int p1), .val (.int (2 : Int32)), .unset, .unset, .unset, .unset, .unset] [(.int (2 : Int32)), (.long q0)])) rfl (by rw [hml]; rfl) (argsL := [(.long q0), (.int (2 : Int32))]) (rest := []) (lenOf pd_0 rfl) rfl (by show 2 * 0 + _ ≤ _; exact Nat.le_of_eq rfl) (hb hby at_10) (fun _ _ => ⟨rfl, e0, (by decide : 0 + 1 ≤ _), (by decide : 0 + 2 ≤ _)⟩)
  dsimp only [Pt.U, Pt.locs, Pt.cells, Pt.slots] at X3 l3 y3 z3 st3 hQ3
  subst l3 y3 z3
  obtain ⟨b3, kk3, rfl, N3q, K3, V3⟩ := hQ3
  have N3 := Fr.app N0 N3q
  have Z4 : n0 ≤ T3.heap.size := Nat.le_trans Z0 K3.1
  obtain ⟨cl3, Ar3, -, Sa3, Ma3, Ha3, -⟩ := V3
  obtain ⟨_, _, ⟨T5, L5, k5, n5⟩, -, X5, ⟨Lc5, hQ5, l5, y5, z5⟩, st5⟩ := Jvm.LawKit.callS X3 hx (y := (⟨"shale/ValueTypeBigEndianPinLaw", "step", "(J[BI)J"⟩ : MethodName)) hown (mvT hZ (hw _ (List.mem_of_getElem? (i := 6) rfl))) (mvT hZ (hw _ (List.mem_of_getElem? (i := 7) rfl))) (mvT hZ (hw _ (List.mem_of_getElem? (i := 8) rfl))) (mvT hZ (hw _ (List.mem_of_getElem? (i := 9) rfl))) (by decide) (backOf (W := 0) (rmsi l Z a0 hw [] (0 : Int64) b3 (0 : Int32) cl3 (2 : Int32) (own_byte q0 (8 : Int32)) T3.heap n0 Z4 Ar3 Sa3 Ma3 (by decide) (inb_of Sa3 ⟨by decide, by decide⟩) (Ha3 0 (by rw [Sa3]; decide))) hZ (hw _ (List.mem_of_getElem? (i := 9) rfl)) (hw _ (List.mem_of_getElem? (i := 8) rfl)) (by decide) (by decide)) (g := (mkF m 32 #[.val (.long q0), .second, .val (.int p1), .val (.int (2 : Int32)), .val (.ref b3), .val (.long (0 : Int64)), .second, .unset, .unset] [(.int (0 : Int32)), (.ref b3), (.long (0 : Int64))])) rfl (by rw [hml]; rfl) (argsL := [(.long (0 : Int64)), (.ref b3), (.int (0 : Int32))]) (rest := []) (lenOf pd_1 rfl) rfl (by show 2 * 0 + _ ≤ _; exact Nat.le_of_eq rfl) (hb hby at_32) (fun _ _ => ⟨rfl, rfl, (by decide : 1 + 0 ≤ _), (by decide : 2 + 0 ≤ _)⟩)
  dsimp only [Pt.U, Pt.locs, Pt.cells, Pt.slots] at X5 l5 y5 z5 st5 hQ5
  subst l5 y5 z5
  obtain ⟨rfl, N5q, e5q⟩ := hQ5
  have N5 := Fr.app N3 N5q
  obtain ⟨_, _, ⟨T6, L6, k6, n6⟩, -, X6, ⟨Lc6, hQ6, l6, y6, z6⟩, st6⟩ := Jvm.LawKit.callS X5 hx (y := (⟨"shale/ValueTypeBigEndianPinLaw", "step", "(J[BI)J"⟩ : MethodName)) hown (mvT hZ (hw _ (List.mem_of_getElem? (i := 6) rfl))) (mvT hZ (hw _ (List.mem_of_getElem? (i := 7) rfl))) (mvT hZ (hw _ (List.mem_of_getElem? (i := 8) rfl))) (mvT hZ (hw _ (List.mem_of_getElem? (i := 9) rfl))) (by decide) (backOf (W := 0) (rmsi l Z a0 hw [] (own_st (0 : Int64) (own_byte q0 (8 : Int32))) b3 (1 : Int32) cl3 (2 : Int32) (own_byte q0 (0 : Int32)) T3.heap n0 Z4 Ar3 Sa3 Ma3 (by decide) (inb_of Sa3 ⟨by decide, by decide⟩) (Ha3 1 (by rw [Sa3]; decide))) hZ (hw _ (List.mem_of_getElem? (i := 9) rfl)) (hw _ (List.mem_of_getElem? (i := 8) rfl)) (by decide) (by decide)) (g := (mkF m 42 #[.val (.long q0), .second, .val (.int p1), .val (.int (2 : Int32)), .val (.ref b3), .val (.long (own_st (0 : Int64) (own_byte q0 (8 : Int32)))), .second, .unset, .unset] [(.int (1 : Int32)), (.ref b3), (.long (own_st (0 : Int64) (own_byte q0 (8 : Int32))))])) rfl (by rw [hml]; rfl) (argsL := [(.long (own_st (0 : Int64) (own_byte q0 (8 : Int32)))), (.ref b3), (.int (1 : Int32))]) (rest := []) (lenOf pd_1 rfl) rfl (by show 2 * 0 + _ ≤ _; exact Nat.le_of_eq rfl) (hb hby at_42) (fun _ _ => ⟨rfl, e5q, (by decide : 1 + 0 ≤ _), (by decide : 2 + 0 ≤ _)⟩)
  dsimp only [Pt.U, Pt.locs, Pt.cells, Pt.slots] at X6 l6 y6 z6 st6 hQ6
  subst l6 y6 z6
  obtain ⟨rfl, N6q, e6q⟩ := hQ6
  have N6 := Fr.app N5 N6q
  obtain ⟨_, _, ⟨T7, L7, k7, n7⟩, -, X7, ⟨Lc7, hQ7, l7, y7, z7⟩, st7⟩ := Jvm.LawKit.callS X6 hx (y := (⟨"shale/ValueTypeBigEndianPinLaw", "step", "(J[BI)J"⟩ : MethodName)) hown (mvT hZ (hw _ (List.mem_of_getElem? (i := 6) rfl))) (mvT hZ (hw _ (List.mem_of_getElem? (i := 7) rfl))) (mvT hZ (hw _ (List.mem_of_getElem? (i := 8) rfl))) (mvT hZ (hw _ (List.mem_of_getElem? (i := 9) rfl))) (by decide) (backOf (W := 0) (rmso l Z a0 hw [] (own_st (own_st (0 : Int64) (own_byte q0 (8 : Int32))) (own_byte q0 (0 : Int32))) b3 (2 : Int32) cl3 (2 : Int32) T3.heap n0 Z4 Ar3 Sa3 Ma3 (by decide)) hZ (hw _ (List.mem_of_getElem? (i := 9) rfl)) (hw _ (List.mem_of_getElem? (i := 8) rfl)) (by decide) (by decide)) (g := (mkF m 52 #[.val (.long q0), .second, .val (.int p1), .val (.int (2 : Int32)), .val (.ref b3), .val (.long (own_st (own_st (0 : Int64) (own_byte q0 (8 : Int32))) (own_byte q0 (0 : Int32)))), .second, .unset, .unset] [(.int (2 : Int32)), (.ref b3), (.long (own_st (own_st (0 : Int64) (own_byte q0 (8 : Int32))) (own_byte q0 (0 : Int32))))])) rfl (by rw [hml]; rfl) (argsL := [(.long (own_st (own_st (0 : Int64) (own_byte q0 (8 : Int32))) (own_byte q0 (0 : Int32)))), (.ref b3), (.int (2 : Int32))]) (rest := []) (lenOf pd_1 rfl) rfl (by show 2 * 0 + _ ≤ _; exact Nat.le_of_eq rfl) (hb hby at_52) (fun _ _ => ⟨rfl, e6q, (by decide : 1 + 0 ≤ _), (by decide : 2 + 0 ≤ _)⟩)
  dsimp only [Pt.U, Pt.locs, Pt.cells, Pt.slots] at X7 l7 y7 z7 st7 hQ7
  subst l7 y7 z7
  obtain ⟨rfl, N7q, e7q⟩ := hQ7
  have N7 := Fr.app N6 N7q
  obtain ⟨_, _, ⟨T8, L8, k8, n8⟩, -, X8, ⟨Lc8, hQ8, l8, y8, z8⟩, st8⟩ := Jvm.LawKit.callS X7 hx (y := (⟨"shale/ValueTypeBigEndianPinLaw", "step", "(J[BI)J"⟩ : MethodName)) hown (mvT hZ (hw _ (List.mem_of_getElem? (i := 6) rfl))) (mvT hZ (hw _ (List.mem_of_getElem? (i := 7) rfl))) (mvT hZ (hw _ (List.mem_of_getElem? (i := 8) rfl))) (mvT hZ (hw _ (List.mem_of_getElem? (i := 9) rfl))) (by decide) (backOf (W := 0) (rmso l Z a0 hw [] (own_st (own_st (0 : Int64) (own_byte q0 (8 : Int32))) (own_byte q0 (0 : Int32))) b3 (3 : Int32) cl3 (2 : Int32) T3.heap n0 Z4 Ar3 Sa3 Ma3 (by decide)) hZ (hw _ (List.mem_of_getElem? (i := 9) rfl)) (hw _ (List.mem_of_getElem? (i := 8) rfl)) (by decide) (by decide)) (g := (mkF m 62 #[.val (.long q0), .second, .val (.int p1), .val (.int (2 : Int32)), .val (.ref b3), .val (.long (own_st (own_st (0 : Int64) (own_byte q0 (8 : Int32))) (own_byte q0 (0 : Int32)))), .second, .unset, .unset] [(.int (3 : Int32)), (.ref b3), (.long (own_st (own_st (0 : Int64) (own_byte q0 (8 : Int32))) (own_byte q0 (0 : Int32))))])) rfl (by rw [hml]; rfl) (argsL := [(.long (own_st (own_st (0 : Int64) (own_byte q0 (8 : Int32))) (own_byte q0 (0 : Int32)))), (.ref b3), (.int (3 : Int32))]) (rest := []) (lenOf pd_1 rfl) rfl (by show 2 * 0 + _ ≤ _; exact Nat.le_of_eq rfl) (hb hby at_62) (fun _ _ => ⟨rfl, e7q, (by decide : 1 + 0 ≤ _), (by decide : 2 + 0 ≤ _)⟩)
  dsimp only [Pt.U, Pt.locs, Pt.cells, Pt.slots] at X8 l8 y8 z8 st8 hQ8
  subst l8 y8 z8
  obtain ⟨rfl, N8q, e8q⟩ := hQ8
  have N8 := Fr.app N7 N8q
  obtain ⟨_, _, ⟨T9, L9, k9, n9⟩, -, X9, ⟨Lc9, hQ9, l9, y9, z9⟩, st9⟩ := Jvm.LawKit.callS X8 hx (y := (⟨"shale/ValueTypeBigEndianPinLaw", "step", "(J[BI)J"⟩ : MethodName)) hown (mvT hZ (hw _ (List.mem_of_getElem? (i := 6) rfl))) (mvT hZ (hw _ (List.mem_of_getElem? (i := 7) rfl))) (mvT hZ (hw _ (List.mem_of_getElem? (i := 8) rfl))) (mvT hZ (hw _ (List.mem_of_getElem? (i := 9) rfl))) (by decide) (backOf (W := 0) (rmso l Z a0 hw [] (own_st (own_st (0 : Int64) (own_byte q0 (8 : Int32))) (own_byte q0 (0 : Int32))) b3 (4 : Int32) cl3 (2 : Int32) T3.heap n0 Z4 Ar3 Sa3 Ma3 (by decide)) hZ (hw _ (List.mem_of_getElem? (i := 9) rfl)) (hw _ (List.mem_of_getElem? (i := 8) rfl)) (by decide) (by decide)) (g := (mkF m 72 #[.val (.long q0), .second, .val (.int p1), .val (.int (2 : Int32)), .val (.ref b3), .val (.long (own_st (own_st (0 : Int64) (own_byte q0 (8 : Int32))) (own_byte q0 (0 : Int32)))), .second, .unset, .unset] [(.int (4 : Int32)), (.ref b3), (.long (own_st (own_st (0 : Int64) (own_byte q0 (8 : Int32))) (own_byte q0 (0 : Int32))))])) rfl (by rw [hml]; rfl) (argsL := [(.long (own_st (own_st (0 : Int64) (own_byte q0 (8 : Int32))) (own_byte q0 (0 : Int32)))), (.ref b3), (.int (4 : Int32))]) (rest := []) (lenOf pd_1 rfl) rfl (by show 2 * 0 + _ ≤ _; exact Nat.le_of_eq rfl) (hb hby at_72) (fun _ _ => ⟨rfl, e8q, (by decide : 1 + 0 ≤ _), (by decide : 2 + 0 ≤ _)⟩)
  dsimp only [Pt.U, Pt.locs, Pt.cells, Pt.slots] at X9 l9 y9 z9 st9 hQ9
  subst l9 y9 z9
  obtain ⟨rfl, N9q, e9q⟩ := hQ9
  have N9 := Fr.app N8 N9q
  obtain ⟨_, _, ⟨T10, L10, k10, n10⟩, -, X10, ⟨Lc10, hQ10, l10, y10, z10⟩, st10⟩ := Jvm.LawKit.callS X9 hx (y := (⟨"shale/ValueTypeBigEndianPinLaw", "step", "(J[BI)J"⟩ : MethodName)) hown (mvT hZ (hw _ (List.mem_of_getElem? (i := 6) rfl))) (mvT hZ (hw _ (List.mem_of_getElem? (i := 7) rfl))) (mvT hZ (hw _ (List.mem_of_getElem? (i := 8) rfl))) (mvT hZ (hw _ (List.mem_of_getElem? (i := 9) rfl))) (by decide) (backOf (W := 0) (rmso l Z a0 hw [] (own_st (own_st (0 : Int64) (own_byte q0 (8 : Int32))) (own_byte q0 (0 : Int32))) b3 (5 : Int32) cl3 (2 : Int32) T3.heap n0 Z4 Ar3 Sa3 Ma3 (by decide)) hZ (hw _ (List.mem_of_getElem? (i := 9) rfl)) (hw _ (List.mem_of_getElem? (i := 8) rfl)) (by decide) (by decide)) (g := (mkF m 82 #[.val (.long q0), .second, .val (.int p1), .val (.int (2 : Int32)), .val (.ref b3), .val (.long (own_st (own_st (0 : Int64) (own_byte q0 (8 : Int32))) (own_byte q0 (0 : Int32)))), .second, .unset, .unset] [(.int (5 : Int32)), (.ref b3), (.long (own_st (own_st (0 : Int64) (own_byte q0 (8 : Int32))) (own_byte q0 (0 : Int32))))])) rfl (by rw [hml]; rfl) (argsL := [(.long (own_st (own_st (0 : Int64) (own_byte q0 (8 : Int32))) (own_byte q0 (0 : Int32)))), (.ref b3), (.int (5 : Int32))]) (rest := []) (lenOf pd_1 rfl) rfl (by show 2 * 0 + _ ≤ _; exact Nat.le_of_eq rfl) (hb hby at_82) (fun _ _ => ⟨rfl, e9q, (by decide : 1 + 0 ≤ _), (by decide : 2 + 0 ≤ _)⟩)
  dsimp only [Pt.U, Pt.locs, Pt.cells, Pt.slots] at X10 l10 y10 z10 st10 hQ10
  subst l10 y10 z10
  obtain ⟨rfl, N10q, e10q⟩ := hQ10
  have N10 := Fr.app N9 N10q
  obtain ⟨_, _, ⟨T11, L11, k11, n11⟩, -, X11, ⟨Lc11, hQ11, l11, y11, z11⟩, st11⟩ := Jvm.LawKit.callS X10 hx (y := (⟨"shale/ValueTypeBigEndianPinLaw", "step", "(J[BI)J"⟩ : MethodName)) hown (mvT hZ (hw _ (List.mem_of_getElem? (i := 6) rfl))) (mvT hZ (hw _ (List.mem_of_getElem? (i := 7) rfl))) (mvT hZ (hw _ (List.mem_of_getElem? (i := 8) rfl))) (mvT hZ (hw _ (List.mem_of_getElem? (i := 9) rfl))) (by decide) (backOf (W := 0) (rmso l Z a0 hw [] (own_st (own_st (0 : Int64) (own_byte q0 (8 : Int32))) (own_byte q0 (0 : Int32))) b3 (6 : Int32) cl3 (2 : Int32) T3.heap n0 Z4 Ar3 Sa3 Ma3 (by decide)) hZ (hw _ (List.mem_of_getElem? (i := 9) rfl)) (hw _ (List.mem_of_getElem? (i := 8) rfl)) (by decide) (by decide)) (g := (mkF m 93 #[.val (.long q0), .second, .val (.int p1), .val (.int (2 : Int32)), .val (.ref b3), .val (.long (own_st (own_st (0 : Int64) (own_byte q0 (8 : Int32))) (own_byte q0 (0 : Int32)))), .second, .unset, .unset] [(.int (6 : Int32)), (.ref b3), (.long (own_st (own_st (0 : Int64) (own_byte q0 (8 : Int32))) (own_byte q0 (0 : Int32))))])) rfl (by rw [hml]; rfl) (argsL := [(.long (own_st (own_st (0 : Int64) (own_byte q0 (8 : Int32))) (own_byte q0 (0 : Int32)))), (.ref b3), (.int (6 : Int32))]) (rest := []) (lenOf pd_1 rfl) rfl (by show 2 * 0 + _ ≤ _; exact Nat.le_of_eq rfl) (hb hby at_93) (fun _ _ => ⟨rfl, e10q, (by decide : 1 + 0 ≤ _), (by decide : 2 + 0 ≤ _)⟩)
  dsimp only [Pt.U, Pt.locs, Pt.cells, Pt.slots] at X11 l11 y11 z11 st11 hQ11
  subst l11 y11 z11
  obtain ⟨rfl, N11q, e11q⟩ := hQ11
  have N11 := Fr.app N10 N11q
  obtain ⟨_, _, ⟨T12, L12, k12, n12⟩, -, X12, ⟨Lc12, hQ12, l12, y12, z12⟩, st12⟩ := Jvm.LawKit.callS X11 hx (y := (⟨"shale/ValueTypeBigEndianPinLaw", "step", "(J[BI)J"⟩ : MethodName)) hown (mvT hZ (hw _ (List.mem_of_getElem? (i := 6) rfl))) (mvT hZ (hw _ (List.mem_of_getElem? (i := 7) rfl))) (mvT hZ (hw _ (List.mem_of_getElem? (i := 8) rfl))) (mvT hZ (hw _ (List.mem_of_getElem? (i := 9) rfl))) (by decide) (backOf (W := 0) (rmso l Z a0 hw [] (own_st (own_st (0 : Int64) (own_byte q0 (8 : Int32))) (own_byte q0 (0 : Int32))) b3 (7 : Int32) cl3 (2 : Int32) T3.heap n0 Z4 Ar3 Sa3 Ma3 (by decide)) hZ (hw _ (List.mem_of_getElem? (i := 9) rfl)) (hw _ (List.mem_of_getElem? (i := 8) rfl)) (by decide) (by decide)) (g := (mkF m 104 #[.val (.long q0), .second, .val (.int p1), .val (.int (2 : Int32)), .val (.ref b3), .val (.long (own_st (own_st (0 : Int64) (own_byte q0 (8 : Int32))) (own_byte q0 (0 : Int32)))), .second, .unset, .unset] [(.int (7 : Int32)), (.ref b3), (.long (own_st (own_st (0 : Int64) (own_byte q0 (8 : Int32))) (own_byte q0 (0 : Int32))))])) rfl (by rw [hml]; rfl) (argsL := [(.long (own_st (own_st (0 : Int64) (own_byte q0 (8 : Int32))) (own_byte q0 (0 : Int32)))), (.ref b3), (.int (7 : Int32))]) (rest := []) (lenOf pd_1 rfl) rfl (by show 2 * 0 + _ ≤ _; exact Nat.le_of_eq rfl) (hb hby at_104) (fun _ _ => ⟨rfl, e11q, (by decide : 1 + 0 ≤ _), (by decide : 2 + 0 ≤ _)⟩)
  dsimp only [Pt.U, Pt.locs, Pt.cells, Pt.slots] at X12 l12 y12 z12 st12 hQ12
  subst l12 y12 z12
  obtain ⟨rfl, N12q, e12q⟩ := hQ12
  have N12 := Fr.app N11 N12q
  obtain ⟨fs, hr, hrun, hended, hW, hsame⟩ := X12.leave (v := some (.int (1 : Int32))) (fun h => by rw [Bd.returns] at h; cases h)
  refine ⟨_, _, pre2 _ ?_, hrun, hended, _, _, rfl, ?_, ⟨_, rfl⟩, hW, hsame.mono (by decide) (by decide)⟩
  · show Steps p.tables e below (s₁.setTop (mkF m 7 #[.val (.long q0), .second, .val (.int p1), .unset, .unset, .unset, .unset, .unset, .unset] [(.int (2 : Int32))])) _
    refine XS.istoreN X0.here hx rfl (hb hby at_7) rfl (l' := #[.val (.long q0), .second, .val (.int p1), .val (.int (2 : Int32)), .unset, .unset, .unset, .unset, .unset]) rfl ?_
    show Steps p.tables e below (s₁.setTop (mkF m 8 #[.val (.long q0), .second, .val (.int p1), .val (.int (2 : Int32)), .unset, .unset, .unset, .unset, .unset] [])) _
    refine XS.lloadN X0.here hx rfl (hb hby at_8) rfl ?_
    show Steps p.tables e below (s₁.setTop (mkF m 9 #[.val (.long q0), .second, .val (.int p1), .val (.int (2 : Int32)), .unset, .unset, .unset, .unset, .unset] [(.long q0)])) _
    refine XS.iloadN X0.here hx rfl (hb hby at_9) rfl ?_
    show Steps p.tables e below (s₁.setTop (mkF m 10 #[.val (.long q0), .second, .val (.int p1), .val (.int (2 : Int32)), .unset, .unset, .unset, .unset, .unset] [(.int (2 : Int32)), (.long q0)])) _
    refine st3 _ ?_
    show Steps p.tables e below (T3.setTop (mkF m 13 #[.val (.long q0), .second, .val (.int p1), .val (.int (2 : Int32)), .unset, .unset, .unset, .unset, .unset] [(.ref b3)])) _
    refine XS.astore X3.here hx rfl (hb hby at_13) rfl rfl (l' := #[.val (.long q0), .second, .val (.int p1), .val (.int (2 : Int32)), .val (.ref b3), .unset, .unset, .unset, .unset]) rfl ?_
    show Steps p.tables e below (T3.setTop (mkF m 15 #[.val (.long q0), .second, .val (.int p1), .val (.int (2 : Int32)), .val (.ref b3), .unset, .unset, .unset, .unset] [])) _
    refine XS.aload X3.here hx rfl (hb hby at_15) rfl rfl ?_
    show Steps p.tables e below (T3.setTop (mkF m 17 #[.val (.long q0), .second, .val (.int p1), .val (.int (2 : Int32)), .val (.ref b3), .unset, .unset, .unset, .unset] [(.ref b3)])) _
    refine X3.arraylength hx Ar3.1 (State.isArrayOf_alike hZ.alike Ar3.2.1) (g := (mkF m 17 #[.val (.long q0), .second, .val (.int p1), .val (.int (2 : Int32)), .val (.ref b3), .unset, .unset, .unset, .unset] [(.ref b3)])) rfl rfl (hb hby at_17) _ ?_
    rw [len_of Sa3 Ma3]
    show Steps p.tables e below (T3.setTop (mkF m 18 #[.val (.long q0), .second, .val (.int p1), .val (.int (2 : Int32)), .val (.ref b3), .unset, .unset, .unset, .unset] [(.int (2 : Int32))])) _
    refine XS.iloadN X3.here hx rfl (hb hby at_18) rfl ?_
    show Steps p.tables e below (T3.setTop (mkF m 19 #[.val (.long q0), .second, .val (.int p1), .val (.int (2 : Int32)), .val (.ref b3), .unset, .unset, .unset, .unset] [(.int (2 : Int32)), (.int (2 : Int32))])) _
    refine XS.icmpYes X3.here hx rfl (pc0 := 19) (pc' := 24) rfl (hb hby at_19) rfl (teq (by decide : (2 : Int32) = (2 : Int32))).1 (by decide) (by decide) ?_
    show Steps p.tables e below (T3.setTop (mkF m 24 #[.val (.long q0), .second, .val (.int p1), .val (.int (2 : Int32)), .val (.ref b3), .unset, .unset, .unset, .unset] [])) _
    refine XS.lconst X3.here hx rfl (hb hby at_24) ?_
    show Steps p.tables e below (T3.setTop (mkF m 25 #[.val (.long q0), .second, .val (.int p1), .val (.int (2 : Int32)), .val (.ref b3), .unset, .unset, .unset, .unset] [(.long (0 : Int64))])) _
    refine XS.lstore X3.here hx rfl (hb hby at_25) rfl (l' := #[.val (.long q0), .second, .val (.int p1), .val (.int (2 : Int32)), .val (.ref b3), .val (.long (0 : Int64)), .second, .unset, .unset]) rfl ?_
    show Steps p.tables e below (T3.setTop (mkF m 27 #[.val (.long q0), .second, .val (.int p1), .val (.int (2 : Int32)), .val (.ref b3), .val (.long (0 : Int64)), .second, .unset, .unset] [])) _
    refine XS.lload X3.here hx rfl (hb hby at_27) rfl ?_
    show Steps p.tables e below (T3.setTop (mkF m 29 #[.val (.long q0), .second, .val (.int p1), .val (.int (2 : Int32)), .val (.ref b3), .val (.long (0 : Int64)), .second, .unset, .unset] [(.long (0 : Int64))])) _
    refine XS.aload X3.here hx rfl (hb hby at_29) rfl rfl ?_
    show Steps p.tables e below (T3.setTop (mkF m 31 #[.val (.long q0), .second, .val (.int p1), .val (.int (2 : Int32)), .val (.ref b3), .val (.long (0 : Int64)), .second, .unset, .unset] [(.ref b3), (.long (0 : Int64))])) _
    refine XS.iconst X3.here hx rfl (hb hby at_31) ?_
    show Steps p.tables e below (T3.setTop (mkF m 32 #[.val (.long q0), .second, .val (.int p1), .val (.int (2 : Int32)), .val (.ref b3), .val (.long (0 : Int64)), .second, .unset, .unset] [(.int (0 : Int32)), (.ref b3), (.long (0 : Int64))])) _
    refine st5 _ ?_
    show Steps p.tables e below (T5.setTop (mkF m 35 #[.val (.long q0), .second, .val (.int p1), .val (.int (2 : Int32)), .val (.ref b3), .val (.long (0 : Int64)), .second, .unset, .unset] [(.long (own_st (0 : Int64) (own_byte q0 (8 : Int32))))])) _
    refine XS.lstore X5.here hx rfl (hb hby at_35) rfl (l' := #[.val (.long q0), .second, .val (.int p1), .val (.int (2 : Int32)), .val (.ref b3), .val (.long (own_st (0 : Int64) (own_byte q0 (8 : Int32)))), .second, .unset, .unset]) rfl ?_
    show Steps p.tables e below (T5.setTop (mkF m 37 #[.val (.long q0), .second, .val (.int p1), .val (.int (2 : Int32)), .val (.ref b3), .val (.long (own_st (0 : Int64) (own_byte q0 (8 : Int32)))), .second, .unset, .unset] [])) _
    refine XS.lload X5.here hx rfl (hb hby at_37) rfl ?_
    show Steps p.tables e below (T5.setTop (mkF m 39 #[.val (.long q0), .second, .val (.int p1), .val (.int (2 : Int32)), .val (.ref b3), .val (.long (own_st (0 : Int64) (own_byte q0 (8 : Int32)))), .second, .unset, .unset] [(.long (own_st (0 : Int64) (own_byte q0 (8 : Int32))))])) _
    refine XS.aload X5.here hx rfl (hb hby at_39) rfl rfl ?_
    show Steps p.tables e below (T5.setTop (mkF m 41 #[.val (.long q0), .second, .val (.int p1), .val (.int (2 : Int32)), .val (.ref b3), .val (.long (own_st (0 : Int64) (own_byte q0 (8 : Int32)))), .second, .unset, .unset] [(.ref b3), (.long (own_st (0 : Int64) (own_byte q0 (8 : Int32))))])) _
    refine XS.iconst X5.here hx rfl (hb hby at_41) ?_
    show Steps p.tables e below (T5.setTop (mkF m 42 #[.val (.long q0), .second, .val (.int p1), .val (.int (2 : Int32)), .val (.ref b3), .val (.long (own_st (0 : Int64) (own_byte q0 (8 : Int32)))), .second, .unset, .unset] [(.int (1 : Int32)), (.ref b3), (.long (own_st (0 : Int64) (own_byte q0 (8 : Int32))))])) _
    refine st6 _ ?_
    show Steps p.tables e below (T6.setTop (mkF m 45 #[.val (.long q0), .second, .val (.int p1), .val (.int (2 : Int32)), .val (.ref b3), .val (.long (own_st (0 : Int64) (own_byte q0 (8 : Int32)))), .second, .unset, .unset] [(.long (own_st (own_st (0 : Int64) (own_byte q0 (8 : Int32))) (own_byte q0 (0 : Int32))))])) _
    refine XS.lstore X6.here hx rfl (hb hby at_45) rfl (l' := #[.val (.long q0), .second, .val (.int p1), .val (.int (2 : Int32)), .val (.ref b3), .val (.long (own_st (own_st (0 : Int64) (own_byte q0 (8 : Int32))) (own_byte q0 (0 : Int32)))), .second, .unset, .unset]) rfl ?_
    show Steps p.tables e below (T6.setTop (mkF m 47 #[.val (.long q0), .second, .val (.int p1), .val (.int (2 : Int32)), .val (.ref b3), .val (.long (own_st (own_st (0 : Int64) (own_byte q0 (8 : Int32))) (own_byte q0 (0 : Int32)))), .second, .unset, .unset] [])) _
    refine XS.lload X6.here hx rfl (hb hby at_47) rfl ?_
    show Steps p.tables e below (T6.setTop (mkF m 49 #[.val (.long q0), .second, .val (.int p1), .val (.int (2 : Int32)), .val (.ref b3), .val (.long (own_st (own_st (0 : Int64) (own_byte q0 (8 : Int32))) (own_byte q0 (0 : Int32)))), .second, .unset, .unset] [(.long (own_st (own_st (0 : Int64) (own_byte q0 (8 : Int32))) (own_byte q0 (0 : Int32))))])) _
    refine XS.aload X6.here hx rfl (hb hby at_49) rfl rfl ?_
    show Steps p.tables e below (T6.setTop (mkF m 51 #[.val (.long q0), .second, .val (.int p1), .val (.int (2 : Int32)), .val (.ref b3), .val (.long (own_st (own_st (0 : Int64) (own_byte q0 (8 : Int32))) (own_byte q0 (0 : Int32)))), .second, .unset, .unset] [(.ref b3), (.long (own_st (own_st (0 : Int64) (own_byte q0 (8 : Int32))) (own_byte q0 (0 : Int32))))])) _
    refine XS.iconst X6.here hx rfl (hb hby at_51) ?_
    show Steps p.tables e below (T6.setTop (mkF m 52 #[.val (.long q0), .second, .val (.int p1), .val (.int (2 : Int32)), .val (.ref b3), .val (.long (own_st (own_st (0 : Int64) (own_byte q0 (8 : Int32))) (own_byte q0 (0 : Int32)))), .second, .unset, .unset] [(.int (2 : Int32)), (.ref b3), (.long (own_st (own_st (0 : Int64) (own_byte q0 (8 : Int32))) (own_byte q0 (0 : Int32))))])) _
    refine st7 _ ?_
    show Steps p.tables e below (T7.setTop (mkF m 55 #[.val (.long q0), .second, .val (.int p1), .val (.int (2 : Int32)), .val (.ref b3), .val (.long (own_st (own_st (0 : Int64) (own_byte q0 (8 : Int32))) (own_byte q0 (0 : Int32)))), .second, .unset, .unset] [(.long (own_st (own_st (0 : Int64) (own_byte q0 (8 : Int32))) (own_byte q0 (0 : Int32))))])) _
    refine XS.lstore X7.here hx rfl (hb hby at_55) rfl (l' := #[.val (.long q0), .second, .val (.int p1), .val (.int (2 : Int32)), .val (.ref b3), .val (.long (own_st (own_st (0 : Int64) (own_byte q0 (8 : Int32))) (own_byte q0 (0 : Int32)))), .second, .unset, .unset]) rfl ?_
    show Steps p.tables e below (T7.setTop (mkF m 57 #[.val (.long q0), .second, .val (.int p1), .val (.int (2 : Int32)), .val (.ref b3), .val (.long (own_st (own_st (0 : Int64) (own_byte q0 (8 : Int32))) (own_byte q0 (0 : Int32)))), .second, .unset, .unset] [])) _
    refine XS.lload X7.here hx rfl (hb hby at_57) rfl ?_
    show Steps p.tables e below (T7.setTop (mkF m 59 #[.val (.long q0), .second, .val (.int p1), .val (.int (2 : Int32)), .val (.ref b3), .val (.long (own_st (own_st (0 : Int64) (own_byte q0 (8 : Int32))) (own_byte q0 (0 : Int32)))), .second, .unset, .unset] [(.long (own_st (own_st (0 : Int64) (own_byte q0 (8 : Int32))) (own_byte q0 (0 : Int32))))])) _
    refine XS.aload X7.here hx rfl (hb hby at_59) rfl rfl ?_
    show Steps p.tables e below (T7.setTop (mkF m 61 #[.val (.long q0), .second, .val (.int p1), .val (.int (2 : Int32)), .val (.ref b3), .val (.long (own_st (own_st (0 : Int64) (own_byte q0 (8 : Int32))) (own_byte q0 (0 : Int32)))), .second, .unset, .unset] [(.ref b3), (.long (own_st (own_st (0 : Int64) (own_byte q0 (8 : Int32))) (own_byte q0 (0 : Int32))))])) _
    refine XS.iconst X7.here hx rfl (hb hby at_61) ?_
    show Steps p.tables e below (T7.setTop (mkF m 62 #[.val (.long q0), .second, .val (.int p1), .val (.int (2 : Int32)), .val (.ref b3), .val (.long (own_st (own_st (0 : Int64) (own_byte q0 (8 : Int32))) (own_byte q0 (0 : Int32)))), .second, .unset, .unset] [(.int (3 : Int32)), (.ref b3), (.long (own_st (own_st (0 : Int64) (own_byte q0 (8 : Int32))) (own_byte q0 (0 : Int32))))])) _
    refine st8 _ ?_
    show Steps p.tables e below (T8.setTop (mkF m 65 #[.val (.long q0), .second, .val (.int p1), .val (.int (2 : Int32)), .val (.ref b3), .val (.long (own_st (own_st (0 : Int64) (own_byte q0 (8 : Int32))) (own_byte q0 (0 : Int32)))), .second, .unset, .unset] [(.long (own_st (own_st (0 : Int64) (own_byte q0 (8 : Int32))) (own_byte q0 (0 : Int32))))])) _
    refine XS.lstore X8.here hx rfl (hb hby at_65) rfl (l' := #[.val (.long q0), .second, .val (.int p1), .val (.int (2 : Int32)), .val (.ref b3), .val (.long (own_st (own_st (0 : Int64) (own_byte q0 (8 : Int32))) (own_byte q0 (0 : Int32)))), .second, .unset, .unset]) rfl ?_
    show Steps p.tables e below (T8.setTop (mkF m 67 #[.val (.long q0), .second, .val (.int p1), .val (.int (2 : Int32)), .val (.ref b3), .val (.long (own_st (own_st (0 : Int64) (own_byte q0 (8 : Int32))) (own_byte q0 (0 : Int32)))), .second, .unset, .unset] [])) _
    refine XS.lload X8.here hx rfl (hb hby at_67) rfl ?_
    show Steps p.tables e below (T8.setTop (mkF m 69 #[.val (.long q0), .second, .val (.int p1), .val (.int (2 : Int32)), .val (.ref b3), .val (.long (own_st (own_st (0 : Int64) (own_byte q0 (8 : Int32))) (own_byte q0 (0 : Int32)))), .second, .unset, .unset] [(.long (own_st (own_st (0 : Int64) (own_byte q0 (8 : Int32))) (own_byte q0 (0 : Int32))))])) _
    refine XS.aload X8.here hx rfl (hb hby at_69) rfl rfl ?_
    show Steps p.tables e below (T8.setTop (mkF m 71 #[.val (.long q0), .second, .val (.int p1), .val (.int (2 : Int32)), .val (.ref b3), .val (.long (own_st (own_st (0 : Int64) (own_byte q0 (8 : Int32))) (own_byte q0 (0 : Int32)))), .second, .unset, .unset] [(.ref b3), (.long (own_st (own_st (0 : Int64) (own_byte q0 (8 : Int32))) (own_byte q0 (0 : Int32))))])) _
    refine XS.iconst X8.here hx rfl (hb hby at_71) ?_
    show Steps p.tables e below (T8.setTop (mkF m 72 #[.val (.long q0), .second, .val (.int p1), .val (.int (2 : Int32)), .val (.ref b3), .val (.long (own_st (own_st (0 : Int64) (own_byte q0 (8 : Int32))) (own_byte q0 (0 : Int32)))), .second, .unset, .unset] [(.int (4 : Int32)), (.ref b3), (.long (own_st (own_st (0 : Int64) (own_byte q0 (8 : Int32))) (own_byte q0 (0 : Int32))))])) _
    refine st9 _ ?_
    show Steps p.tables e below (T9.setTop (mkF m 75 #[.val (.long q0), .second, .val (.int p1), .val (.int (2 : Int32)), .val (.ref b3), .val (.long (own_st (own_st (0 : Int64) (own_byte q0 (8 : Int32))) (own_byte q0 (0 : Int32)))), .second, .unset, .unset] [(.long (own_st (own_st (0 : Int64) (own_byte q0 (8 : Int32))) (own_byte q0 (0 : Int32))))])) _
    refine XS.lstore X9.here hx rfl (hb hby at_75) rfl (l' := #[.val (.long q0), .second, .val (.int p1), .val (.int (2 : Int32)), .val (.ref b3), .val (.long (own_st (own_st (0 : Int64) (own_byte q0 (8 : Int32))) (own_byte q0 (0 : Int32)))), .second, .unset, .unset]) rfl ?_
    show Steps p.tables e below (T9.setTop (mkF m 77 #[.val (.long q0), .second, .val (.int p1), .val (.int (2 : Int32)), .val (.ref b3), .val (.long (own_st (own_st (0 : Int64) (own_byte q0 (8 : Int32))) (own_byte q0 (0 : Int32)))), .second, .unset, .unset] [])) _
    refine XS.lload X9.here hx rfl (hb hby at_77) rfl ?_
    show Steps p.tables e below (T9.setTop (mkF m 79 #[.val (.long q0), .second, .val (.int p1), .val (.int (2 : Int32)), .val (.ref b3), .val (.long (own_st (own_st (0 : Int64) (own_byte q0 (8 : Int32))) (own_byte q0 (0 : Int32)))), .second, .unset, .unset] [(.long (own_st (own_st (0 : Int64) (own_byte q0 (8 : Int32))) (own_byte q0 (0 : Int32))))])) _
    refine XS.aload X9.here hx rfl (hb hby at_79) rfl rfl ?_
    show Steps p.tables e below (T9.setTop (mkF m 81 #[.val (.long q0), .second, .val (.int p1), .val (.int (2 : Int32)), .val (.ref b3), .val (.long (own_st (own_st (0 : Int64) (own_byte q0 (8 : Int32))) (own_byte q0 (0 : Int32)))), .second, .unset, .unset] [(.ref b3), (.long (own_st (own_st (0 : Int64) (own_byte q0 (8 : Int32))) (own_byte q0 (0 : Int32))))])) _
    refine XS.iconst X9.here hx rfl (hb hby at_81) ?_
    show Steps p.tables e below (T9.setTop (mkF m 82 #[.val (.long q0), .second, .val (.int p1), .val (.int (2 : Int32)), .val (.ref b3), .val (.long (own_st (own_st (0 : Int64) (own_byte q0 (8 : Int32))) (own_byte q0 (0 : Int32)))), .second, .unset, .unset] [(.int (5 : Int32)), (.ref b3), (.long (own_st (own_st (0 : Int64) (own_byte q0 (8 : Int32))) (own_byte q0 (0 : Int32))))])) _
    refine st10 _ ?_
    show Steps p.tables e below (T10.setTop (mkF m 85 #[.val (.long q0), .second, .val (.int p1), .val (.int (2 : Int32)), .val (.ref b3), .val (.long (own_st (own_st (0 : Int64) (own_byte q0 (8 : Int32))) (own_byte q0 (0 : Int32)))), .second, .unset, .unset] [(.long (own_st (own_st (0 : Int64) (own_byte q0 (8 : Int32))) (own_byte q0 (0 : Int32))))])) _
    refine XS.lstore X10.here hx rfl (hb hby at_85) rfl (l' := #[.val (.long q0), .second, .val (.int p1), .val (.int (2 : Int32)), .val (.ref b3), .val (.long (own_st (own_st (0 : Int64) (own_byte q0 (8 : Int32))) (own_byte q0 (0 : Int32)))), .second, .unset, .unset]) rfl ?_
    show Steps p.tables e below (T10.setTop (mkF m 87 #[.val (.long q0), .second, .val (.int p1), .val (.int (2 : Int32)), .val (.ref b3), .val (.long (own_st (own_st (0 : Int64) (own_byte q0 (8 : Int32))) (own_byte q0 (0 : Int32)))), .second, .unset, .unset] [])) _
    refine XS.lload X10.here hx rfl (hb hby at_87) rfl ?_
    show Steps p.tables e below (T10.setTop (mkF m 89 #[.val (.long q0), .second, .val (.int p1), .val (.int (2 : Int32)), .val (.ref b3), .val (.long (own_st (own_st (0 : Int64) (own_byte q0 (8 : Int32))) (own_byte q0 (0 : Int32)))), .second, .unset, .unset] [(.long (own_st (own_st (0 : Int64) (own_byte q0 (8 : Int32))) (own_byte q0 (0 : Int32))))])) _
    refine XS.aload X10.here hx rfl (hb hby at_89) rfl rfl ?_
    show Steps p.tables e below (T10.setTop (mkF m 91 #[.val (.long q0), .second, .val (.int p1), .val (.int (2 : Int32)), .val (.ref b3), .val (.long (own_st (own_st (0 : Int64) (own_byte q0 (8 : Int32))) (own_byte q0 (0 : Int32)))), .second, .unset, .unset] [(.ref b3), (.long (own_st (own_st (0 : Int64) (own_byte q0 (8 : Int32))) (own_byte q0 (0 : Int32))))])) _
    refine XS.bipush X10.here hx rfl (hb hby at_91) ?_
    show Steps p.tables e below (T10.setTop (mkF m 93 #[.val (.long q0), .second, .val (.int p1), .val (.int (2 : Int32)), .val (.ref b3), .val (.long (own_st (own_st (0 : Int64) (own_byte q0 (8 : Int32))) (own_byte q0 (0 : Int32)))), .second, .unset, .unset] [(.int (6 : Int32)), (.ref b3), (.long (own_st (own_st (0 : Int64) (own_byte q0 (8 : Int32))) (own_byte q0 (0 : Int32))))])) _
    refine st11 _ ?_
    show Steps p.tables e below (T11.setTop (mkF m 96 #[.val (.long q0), .second, .val (.int p1), .val (.int (2 : Int32)), .val (.ref b3), .val (.long (own_st (own_st (0 : Int64) (own_byte q0 (8 : Int32))) (own_byte q0 (0 : Int32)))), .second, .unset, .unset] [(.long (own_st (own_st (0 : Int64) (own_byte q0 (8 : Int32))) (own_byte q0 (0 : Int32))))])) _
    refine XS.lstore X11.here hx rfl (hb hby at_96) rfl (l' := #[.val (.long q0), .second, .val (.int p1), .val (.int (2 : Int32)), .val (.ref b3), .val (.long (own_st (own_st (0 : Int64) (own_byte q0 (8 : Int32))) (own_byte q0 (0 : Int32)))), .second, .unset, .unset]) rfl ?_
    show Steps p.tables e below (T11.setTop (mkF m 98 #[.val (.long q0), .second, .val (.int p1), .val (.int (2 : Int32)), .val (.ref b3), .val (.long (own_st (own_st (0 : Int64) (own_byte q0 (8 : Int32))) (own_byte q0 (0 : Int32)))), .second, .unset, .unset] [])) _
    refine XS.lload X11.here hx rfl (hb hby at_98) rfl ?_
    show Steps p.tables e below (T11.setTop (mkF m 100 #[.val (.long q0), .second, .val (.int p1), .val (.int (2 : Int32)), .val (.ref b3), .val (.long (own_st (own_st (0 : Int64) (own_byte q0 (8 : Int32))) (own_byte q0 (0 : Int32)))), .second, .unset, .unset] [(.long (own_st (own_st (0 : Int64) (own_byte q0 (8 : Int32))) (own_byte q0 (0 : Int32))))])) _
    refine XS.aload X11.here hx rfl (hb hby at_100) rfl rfl ?_
    show Steps p.tables e below (T11.setTop (mkF m 102 #[.val (.long q0), .second, .val (.int p1), .val (.int (2 : Int32)), .val (.ref b3), .val (.long (own_st (own_st (0 : Int64) (own_byte q0 (8 : Int32))) (own_byte q0 (0 : Int32)))), .second, .unset, .unset] [(.ref b3), (.long (own_st (own_st (0 : Int64) (own_byte q0 (8 : Int32))) (own_byte q0 (0 : Int32))))])) _
    refine XS.bipush X11.here hx rfl (hb hby at_102) ?_
    show Steps p.tables e below (T11.setTop (mkF m 104 #[.val (.long q0), .second, .val (.int p1), .val (.int (2 : Int32)), .val (.ref b3), .val (.long (own_st (own_st (0 : Int64) (own_byte q0 (8 : Int32))) (own_byte q0 (0 : Int32)))), .second, .unset, .unset] [(.int (7 : Int32)), (.ref b3), (.long (own_st (own_st (0 : Int64) (own_byte q0 (8 : Int32))) (own_byte q0 (0 : Int32))))])) _
    refine st12 _ ?_
    show Steps p.tables e below (T12.setTop (mkF m 107 #[.val (.long q0), .second, .val (.int p1), .val (.int (2 : Int32)), .val (.ref b3), .val (.long (own_st (own_st (0 : Int64) (own_byte q0 (8 : Int32))) (own_byte q0 (0 : Int32)))), .second, .unset, .unset] [(.long (own_st (own_st (0 : Int64) (own_byte q0 (8 : Int32))) (own_byte q0 (0 : Int32))))])) _
    refine XS.lstore X12.here hx rfl (hb hby at_107) rfl (l' := #[.val (.long q0), .second, .val (.int p1), .val (.int (2 : Int32)), .val (.ref b3), .val (.long (own_st (own_st (0 : Int64) (own_byte q0 (8 : Int32))) (own_byte q0 (0 : Int32)))), .second, .unset, .unset]) rfl ?_
    show Steps p.tables e below (T12.setTop (mkF m 109 #[.val (.long q0), .second, .val (.int p1), .val (.int (2 : Int32)), .val (.ref b3), .val (.long (own_st (own_st (0 : Int64) (own_byte q0 (8 : Int32))) (own_byte q0 (0 : Int32)))), .second, .unset, .unset] [])) _
    refine XS.iloadN X12.here hx rfl (hb hby at_109) rfl ?_
    show Steps p.tables e below (T12.setTop (mkF m 110 #[.val (.long q0), .second, .val (.int p1), .val (.int (2 : Int32)), .val (.ref b3), .val (.long (own_st (own_st (0 : Int64) (own_byte q0 (8 : Int32))) (own_byte q0 (0 : Int32)))), .second, .unset, .unset] [(.int (2 : Int32))])) _
    refine XS.bipush X12.here hx rfl (hb hby at_110) ?_
    show Steps p.tables e below (T12.setTop (mkF m 112 #[.val (.long q0), .second, .val (.int p1), .val (.int (2 : Int32)), .val (.ref b3), .val (.long (own_st (own_st (0 : Int64) (own_byte q0 (8 : Int32))) (own_byte q0 (0 : Int32)))), .second, .unset, .unset] [(.int (8 : Int32)), (.int (2 : Int32))])) _
    refine XS.icmpYes X12.here hx rfl (pc0 := 112) (pc' := 121) rfl (hb hby at_112) rfl (feq (by decide : ¬ ((2 : Int32) = (8 : Int32)))).2 (by decide) (by decide) ?_
    show Steps p.tables e below (T12.setTop (mkF m 121 #[.val (.long q0), .second, .val (.int p1), .val (.int (2 : Int32)), .val (.ref b3), .val (.long (own_st (own_st (0 : Int64) (own_byte q0 (8 : Int32))) (own_byte q0 (0 : Int32)))), .second, .unset, .unset] [])) _
    refine XS.lloadN X12.here hx rfl (hb hby at_121) rfl ?_
    show Steps p.tables e below (T12.setTop (mkF m 122 #[.val (.long q0), .second, .val (.int p1), .val (.int (2 : Int32)), .val (.ref b3), .val (.long (own_st (own_st (0 : Int64) (own_byte q0 (8 : Int32))) (own_byte q0 (0 : Int32)))), .second, .unset, .unset] [(.long q0)])) _
    refine XS.lconst X12.here hx rfl (hb hby at_122) ?_
    show Steps p.tables e below (T12.setTop (mkF m 123 #[.val (.long q0), .second, .val (.int p1), .val (.int (2 : Int32)), .val (.ref b3), .val (.long (own_st (own_st (0 : Int64) (own_byte q0 (8 : Int32))) (own_byte q0 (0 : Int32)))), .second, .unset, .unset] [(.long (1 : Int64)), (.long q0)])) _
    refine XS.bipush X12.here hx rfl (hb hby at_123) ?_
    show Steps p.tables e below (T12.setTop (mkF m 125 #[.val (.long q0), .second, .val (.int p1), .val (.int (2 : Int32)), .val (.ref b3), .val (.long (own_st (own_st (0 : Int64) (own_byte q0 (8 : Int32))) (own_byte q0 (0 : Int32)))), .second, .unset, .unset] [(.int (8 : Int32)), (.long (1 : Int64)), (.long q0)])) _
    refine XS.iloadN X12.here hx rfl (hb hby at_125) rfl ?_
    show Steps p.tables e below (T12.setTop (mkF m 126 #[.val (.long q0), .second, .val (.int p1), .val (.int (2 : Int32)), .val (.ref b3), .val (.long (own_st (own_st (0 : Int64) (own_byte q0 (8 : Int32))) (own_byte q0 (0 : Int32)))), .second, .unset, .unset] [(.int (2 : Int32)), (.int (8 : Int32)), (.long (1 : Int64)), (.long q0)])) _
    refine XS.imul X12.here hx rfl (hb hby at_126) rfl ?_
    show Steps p.tables e below (T12.setTop (mkF m 127 #[.val (.long q0), .second, .val (.int p1), .val (.int (2 : Int32)), .val (.ref b3), .val (.long (own_st (own_st (0 : Int64) (own_byte q0 (8 : Int32))) (own_byte q0 (0 : Int32)))), .second, .unset, .unset] [(.int (16 : Int32)), (.long (1 : Int64)), (.long q0)])) _
    refine XS.lshl X12.here hx rfl (hb hby at_127) rfl ?_
    show Steps p.tables e below (T12.setTop (mkF m 128 #[.val (.long q0), .second, .val (.int p1), .val (.int (2 : Int32)), .val (.ref b3), .val (.long (own_st (own_st (0 : Int64) (own_byte q0 (8 : Int32))) (own_byte q0 (0 : Int32)))), .second, .unset, .unset] [(.long ((1 : Int64) <<< ((16 : Int32) &&& 0x3f).toInt64)), (.long q0)])) _
    refine XS.lconst X12.here hx rfl (hb hby at_128) ?_
    show Steps p.tables e below (T12.setTop (mkF m 129 #[.val (.long q0), .second, .val (.int p1), .val (.int (2 : Int32)), .val (.ref b3), .val (.long (own_st (own_st (0 : Int64) (own_byte q0 (8 : Int32))) (own_byte q0 (0 : Int32)))), .second, .unset, .unset] [(.long (1 : Int64)), (.long ((1 : Int64) <<< ((16 : Int32) &&& 0x3f).toInt64)), (.long q0)])) _
    refine XS.lsub X12.here hx rfl (hb hby at_129) rfl ?_
    show Steps p.tables e below (T12.setTop (mkF m 130 #[.val (.long q0), .second, .val (.int p1), .val (.int (2 : Int32)), .val (.ref b3), .val (.long (own_st (own_st (0 : Int64) (own_byte q0 (8 : Int32))) (own_byte q0 (0 : Int32)))), .second, .unset, .unset] [(.long (((1 : Int64) <<< ((16 : Int32) &&& 0x3f).toInt64) - (1 : Int64))), (.long q0)])) _
    refine XS.land X12.here hx rfl (hb hby at_130) rfl ?_
    show Steps p.tables e below (T12.setTop (mkF m 131 #[.val (.long q0), .second, .val (.int p1), .val (.int (2 : Int32)), .val (.ref b3), .val (.long (own_st (own_st (0 : Int64) (own_byte q0 (8 : Int32))) (own_byte q0 (0 : Int32)))), .second, .unset, .unset] [(.long (q0 &&& (((1 : Int64) <<< ((16 : Int32) &&& 0x3f).toInt64) - (1 : Int64))))])) _
    refine XS.lstore X12.here hx rfl (hb hby at_131) rfl (l' := #[.val (.long q0), .second, .val (.int p1), .val (.int (2 : Int32)), .val (.ref b3), .val (.long (own_st (own_st (0 : Int64) (own_byte q0 (8 : Int32))) (own_byte q0 (0 : Int32)))), .second, .val (.long (q0 &&& (((1 : Int64) <<< ((16 : Int32) &&& 0x3f).toInt64) - (1 : Int64)))), .second]) rfl ?_
    show Steps p.tables e below (T12.setTop (mkF m 133 #[.val (.long q0), .second, .val (.int p1), .val (.int (2 : Int32)), .val (.ref b3), .val (.long (own_st (own_st (0 : Int64) (own_byte q0 (8 : Int32))) (own_byte q0 (0 : Int32)))), .second, .val (.long (q0 &&& (((1 : Int64) <<< ((16 : Int32) &&& 0x3f).toInt64) - (1 : Int64)))), .second] [])) _
    refine XS.lload X12.here hx rfl (hb hby at_133) rfl ?_
    show Steps p.tables e below (T12.setTop (mkF m 135 #[.val (.long q0), .second, .val (.int p1), .val (.int (2 : Int32)), .val (.ref b3), .val (.long (own_st (own_st (0 : Int64) (own_byte q0 (8 : Int32))) (own_byte q0 (0 : Int32)))), .second, .val (.long (q0 &&& (((1 : Int64) <<< ((16 : Int32) &&& 0x3f).toInt64) - (1 : Int64)))), .second] [(.long (own_st (own_st (0 : Int64) (own_byte q0 (8 : Int32))) (own_byte q0 (0 : Int32))))])) _
    refine XS.lload X12.here hx rfl (hb hby at_135) rfl ?_
    show Steps p.tables e below (T12.setTop (mkF m 137 #[.val (.long q0), .second, .val (.int p1), .val (.int (2 : Int32)), .val (.ref b3), .val (.long (own_st (own_st (0 : Int64) (own_byte q0 (8 : Int32))) (own_byte q0 (0 : Int32)))), .second, .val (.long (q0 &&& (((1 : Int64) <<< ((16 : Int32) &&& 0x3f).toInt64) - (1 : Int64)))), .second] [(.long (q0 &&& (((1 : Int64) <<< ((16 : Int32) &&& 0x3f).toInt64) - (1 : Int64)))), (.long (own_st (own_st (0 : Int64) (own_byte q0 (8 : Int32))) (own_byte q0 (0 : Int32))))])) _
    refine XS.lcmp X12.here hx rfl (hb hby at_137) rfl ?_
    show Steps p.tables e below (T12.setTop (mkF m 138 #[.val (.long q0), .second, .val (.int p1), .val (.int (2 : Int32)), .val (.ref b3), .val (.long (own_st (own_st (0 : Int64) (own_byte q0 (8 : Int32))) (own_byte q0 (0 : Int32)))), .second, .val (.long (q0 &&& (((1 : Int64) <<< ((16 : Int32) &&& 0x3f).toInt64) - (1 : Int64)))), .second] [(.int (lcmpW (own_st (own_st (0 : Int64) (own_byte q0 (8 : Int32))) (own_byte q0 (0 : Int32))) (q0 &&& (((1 : Int64) <<< ((16 : Int32) &&& 0x3f).toInt64) - (1 : Int64)))))])) _
    refine XS.ifNo X12.here hx rfl (hb hby at_138) rfl ((if0 _ _).trans (teq ((lw_eq _ _).mpr (own_fin2 q0))).2) ?_
    show Steps p.tables e below (T12.setTop (mkF m 141 #[.val (.long q0), .second, .val (.int p1), .val (.int (2 : Int32)), .val (.ref b3), .val (.long (own_st (own_st (0 : Int64) (own_byte q0 (8 : Int32))) (own_byte q0 (0 : Int32)))), .second, .val (.long (q0 &&& (((1 : Int64) <<< ((16 : Int32) &&& 0x3f).toInt64) - (1 : Int64)))), .second] [])) _
    refine XS.iconst X12.here hx rfl (hb hby at_141) ?_
    show Steps p.tables e below (T12.setTop (mkF m 142 #[.val (.long q0), .second, .val (.int p1), .val (.int (2 : Int32)), .val (.ref b3), .val (.long (own_st (own_st (0 : Int64) (own_byte q0 (8 : Int32))) (own_byte q0 (0 : Int32)))), .second, .val (.long (q0 &&& (((1 : Int64) <<< ((16 : Int32) &&& 0x3f).toInt64) - (1 : Int64)))), .second] [(.int (1 : Int32))])) _
    refine XS.goto X12.here hx rfl (pc0 := 142) (pc' := 146) rfl (hb hby at_142) (by decide) (by decide) ?_
    show Steps p.tables e below (T12.setTop (mkF m 146 #[.val (.long q0), .second, .val (.int p1), .val (.int (2 : Int32)), .val (.ref b3), .val (.long (own_st (own_st (0 : Int64) (own_byte q0 (8 : Int32))) (own_byte q0 (0 : Int32)))), .second, .val (.long (q0 &&& (((1 : Int64) <<< ((16 : Int32) &&& 0x3f).toInt64) - (1 : Int64)))), .second] [(.int (1 : Int32))])) _
    exact retN X12 hx (t := .boolean) Bd.returns (by simp) (hb hby at_146) hr
  · show Q0_2 Z q0 p1 h0 n0 _ T12.heap _
    rw [e12q]
    exact ⟨rfl, N12⟩
theorem ef_rm0_3 (m : MethodId) (q0 : Int64) (p1 : Int32) : entryFrame m #[(.long q0), (.int p1)] maxLocals = mkF m 0 #[.val (.long q0), .second, .val (.int p1), .unset, .unset, .unset, .unset, .unset, .unset] [] := by first | (simp [entryFrame, mkF, argsToLocals, Value.category, maxLocals]; done) | rfl
def Q0_3 (Z : State) (q0 : Int64) (p1 : Int32) (h0 : Heap) (n0 : Nat) (v : Option Value) (h : Heap) (L : List Loc) : Prop := v = some (.int (1 : Int32)) ∧ Fr n0 L
set_option maxRecDepth 65536 in
set_option maxHeartbeats 40000000 in
theorem rm0_3 (l : Launch) (Z : State) (a0 : Array Value) (hw : ∀ d ∈ tables_1, d.before a0 Z = true) (ws : List Jvm.Cond) (q0 : Int64) (p1 : Int32) (h0 : Heap) (n0 : Nat) (Z0 : n0 ≤ h0.size) (hwid : ((p1 &&& (2147483647 : Int32)) % (9 : Int32)) = (3 : Int32)) :
    MetFree l x (head1 (Jvm.Cond.code x code maxLocals ret :: ws) room_1) (fun a U => a = #[(.long q0), (.int p1)] ∧ Z.Warmed39 U.vm ∧ U.heap = h0) (fun _ _ _ _ _ => True) (fun _ U o U' => ∃ v L, o = .returned v ∧ Q0_3 Z q0 p1 h0 n0 v U'.heap L ∧ FrameEnd U o U' L room_1.cells room_1.slots) := by
  refine MetFree.of_bodySF (plainFor_of_name pn_1) hisR ?_
  intro p e s m args below meth c s₁ Bd hml0 hP hK
  obtain ⟨rfl, hZ, hh⟩ := hP
  have hx := Bd.exec
  have hby := Bd.bytes
  have hml : c.maxLocals = 9 := hml0
  have hown : s.vm.findClass "shale/ValueTypeBigEndianPinLaw" = some m.cls := findClass_of_methodNamed Bd.named
  have hnm := (name_of_methodNamed Bd.named Bd.method).1
  have X0 : Stand p l e room_1 s m #[(.long q0), (.int p1)] below meth c s₁ [] 0 0 := Stand.of_body Bd
  have e0 : s₁.heap = h0 := by rw [← hh, Bd.state]; rfl
  have N0 := Fr.nil n0
  have pre0 : ∀ t, Steps p.tables e below (s₁.setTop (mkF m 0 #[.val (.long q0), .second, .val (.int p1), .unset, .unset, .unset, .unset, .unset, .unset] [])) t → Steps p.tables e below (s₁.setTop (entryFrame m #[(.long q0), (.int p1)] maxLocals)) t := fun t k => castTop (ef_rm0_3 m q0 p1) k
  obtain ⟨wd, hm1, pre2⟩ : ∃ (wd : Int32), (wd = (3 : Int32)) ∧ ∀ t, Steps p.tables e below (s₁.setTop (mkF m 7 #[.val (.long q0), .second, .val (.int p1), .unset, .unset, .unset, .unset, .unset, .unset] [(.int wd)])) t → Steps p.tables e below (s₁.setTop (entryFrame m #[(.long q0), (.int p1)] maxLocals)) t := by
    refine ⟨((p1 &&& (2147483647 : Int32)) % (9 : Int32)), hwid, fun t kt => ?_⟩
    refine pre0 _ ?_
    show Steps p.tables e below (s₁.setTop (mkF m 0 #[.val (.long q0), .second, .val (.int p1), .unset, .unset, .unset, .unset, .unset, .unset] [])) _
    refine XS.iloadN X0.here hx rfl (hb hby at_0) rfl ?_
    show Steps p.tables e below (s₁.setTop (mkF m 1 #[.val (.long q0), .second, .val (.int p1), .unset, .unset, .unset, .unset, .unset, .unset] [(.int p1)])) _
    refine X0.ldcInt hx hown (mvT hZ (hw _ (List.mem_of_getElem? (i := 0) rfl))) (g := (mkF m 1 #[.val (.long q0), .second, .val (.int p1), .unset, .unset, .unset, .unset, .unset, .unset] [(.int p1)])) rfl (hb hby at_1) _ ?_
    show Steps p.tables e below (s₁.setTop (mkF m 3 #[.val (.long q0), .second, .val (.int p1), .unset, .unset, .unset, .unset, .unset, .unset] [(.int (2147483647 : Int32)), (.int p1)])) _
    refine XS.iand X0.here hx rfl (hb hby at_3) rfl ?_
    show Steps p.tables e below (s₁.setTop (mkF m 4 #[.val (.long q0), .second, .val (.int p1), .unset, .unset, .unset, .unset, .unset, .unset] [(.int (p1 &&& (2147483647 : Int32)))])) _
    refine XS.bipush X0.here hx rfl (hb hby at_4) ?_
    show Steps p.tables e below (s₁.setTop (mkF m 6 #[.val (.long q0), .second, .val (.int p1), .unset, .unset, .unset, .unset, .unset, .unset] [(.int (9 : Int32)), (.int (p1 &&& (2147483647 : Int32)))])) _
    refine iremM X0 hx rfl (hb hby at_6) rfl (by decide) ?_
    exact kt
  subst hm1
  obtain ⟨_, _, ⟨T3, L3, k3, n3⟩, -, X3, ⟨Lc3, hQ3, l3, y3, z3⟩, st3⟩ := Jvm.LawKit.callS X0 hx (y := (⟨"shale/ValueType", "bigEndian", "(JI)[B"⟩ : MethodName)) hown (mvT hZ (hw _ (List.mem_of_getElem? (i := 1) rfl))) (mvT hZ (hw _ (List.mem_of_getElem? (i := 2) rfl))) (mvT hZ (hw _ (List.mem_of_getElem? (i := 3) rfl))) (mvT hZ (hw _ (List.mem_of_getElem? (i := 4) rfl))) (by decide) (backOf (W := 0) (rmb3 l Z a0 hw [] q0 h0 n0 Z0 ) hZ (hw _ (List.mem_of_getElem? (i := 4) rfl)) (hw _ (List.mem_of_getElem? (i := 3) rfl)) (by decide) (by decide)) (g := (mkF m 10 #[.val (.long q0), .second, .val (.int p1), .val (.int (3 : Int32)), .unset, .unset, .unset, .unset, .unset] [(.int (3 : Int32)), (.long q0)])) rfl (by rw [hml]; rfl) (argsL := [(.long q0), (.int (3 : Int32))]) (rest := []) (lenOf pd_0 rfl) rfl (by show 2 * 0 + _ ≤ _; exact Nat.le_of_eq rfl) (hb hby at_10) (fun _ _ => ⟨rfl, e0, (by decide : 0 + 1 ≤ _), (by decide : 0 + 3 ≤ _)⟩)
  dsimp only [Pt.U, Pt.locs, Pt.cells, Pt.slots] at X3 l3 y3 z3 st3 hQ3
  subst l3 y3 z3
  obtain ⟨b3, kk3, rfl, N3q, K3, V3⟩ := hQ3
  have N3 := Fr.app N0 N3q
  have Z4 : n0 ≤ T3.heap.size := Nat.le_trans Z0 K3.1
  obtain ⟨cl3, Ar3, -, Sa3, Ma3, Ha3, -⟩ := V3
  obtain ⟨_, _, ⟨T5, L5, k5, n5⟩, -, X5, ⟨Lc5, hQ5, l5, y5, z5⟩, st5⟩ := Jvm.LawKit.callS X3 hx (y := (⟨"shale/ValueTypeBigEndianPinLaw", "step", "(J[BI)J"⟩ : MethodName)) hown (mvT hZ (hw _ (List.mem_of_getElem? (i := 6) rfl))) (mvT hZ (hw _ (List.mem_of_getElem? (i := 7) rfl))) (mvT hZ (hw _ (List.mem_of_getElem? (i := 8) rfl))) (mvT hZ (hw _ (List.mem_of_getElem? (i := 9) rfl))) (by decide) (backOf (W := 0) (rmsi l Z a0 hw [] (0 : Int64) b3 (0 : Int32) cl3 (3 : Int32) (own_byte q0 (16 : Int32)) T3.heap n0 Z4 Ar3 Sa3 Ma3 (by decide) (inb_of Sa3 ⟨by decide, by decide⟩) (Ha3 0 (by rw [Sa3]; decide))) hZ (hw _ (List.mem_of_getElem? (i := 9) rfl)) (hw _ (List.mem_of_getElem? (i := 8) rfl)) (by decide) (by decide)) (g := (mkF m 32 #[.val (.long q0), .second, .val (.int p1), .val (.int (3 : Int32)), .val (.ref b3), .val (.long (0 : Int64)), .second, .unset, .unset] [(.int (0 : Int32)), (.ref b3), (.long (0 : Int64))])) rfl (by rw [hml]; rfl) (argsL := [(.long (0 : Int64)), (.ref b3), (.int (0 : Int32))]) (rest := []) (lenOf pd_1 rfl) rfl (by show 2 * 0 + _ ≤ _; exact Nat.le_of_eq rfl) (hb hby at_32) (fun _ _ => ⟨rfl, rfl, (by decide : 1 + 0 ≤ _), (by decide : 3 + 0 ≤ _)⟩)
  dsimp only [Pt.U, Pt.locs, Pt.cells, Pt.slots] at X5 l5 y5 z5 st5 hQ5
  subst l5 y5 z5
  obtain ⟨rfl, N5q, e5q⟩ := hQ5
  have N5 := Fr.app N3 N5q
  obtain ⟨_, _, ⟨T6, L6, k6, n6⟩, -, X6, ⟨Lc6, hQ6, l6, y6, z6⟩, st6⟩ := Jvm.LawKit.callS X5 hx (y := (⟨"shale/ValueTypeBigEndianPinLaw", "step", "(J[BI)J"⟩ : MethodName)) hown (mvT hZ (hw _ (List.mem_of_getElem? (i := 6) rfl))) (mvT hZ (hw _ (List.mem_of_getElem? (i := 7) rfl))) (mvT hZ (hw _ (List.mem_of_getElem? (i := 8) rfl))) (mvT hZ (hw _ (List.mem_of_getElem? (i := 9) rfl))) (by decide) (backOf (W := 0) (rmsi l Z a0 hw [] (own_st (0 : Int64) (own_byte q0 (16 : Int32))) b3 (1 : Int32) cl3 (3 : Int32) (own_byte q0 (8 : Int32)) T3.heap n0 Z4 Ar3 Sa3 Ma3 (by decide) (inb_of Sa3 ⟨by decide, by decide⟩) (Ha3 1 (by rw [Sa3]; decide))) hZ (hw _ (List.mem_of_getElem? (i := 9) rfl)) (hw _ (List.mem_of_getElem? (i := 8) rfl)) (by decide) (by decide)) (g := (mkF m 42 #[.val (.long q0), .second, .val (.int p1), .val (.int (3 : Int32)), .val (.ref b3), .val (.long (own_st (0 : Int64) (own_byte q0 (16 : Int32)))), .second, .unset, .unset] [(.int (1 : Int32)), (.ref b3), (.long (own_st (0 : Int64) (own_byte q0 (16 : Int32))))])) rfl (by rw [hml]; rfl) (argsL := [(.long (own_st (0 : Int64) (own_byte q0 (16 : Int32)))), (.ref b3), (.int (1 : Int32))]) (rest := []) (lenOf pd_1 rfl) rfl (by show 2 * 0 + _ ≤ _; exact Nat.le_of_eq rfl) (hb hby at_42) (fun _ _ => ⟨rfl, e5q, (by decide : 1 + 0 ≤ _), (by decide : 3 + 0 ≤ _)⟩)
  dsimp only [Pt.U, Pt.locs, Pt.cells, Pt.slots] at X6 l6 y6 z6 st6 hQ6
  subst l6 y6 z6
  obtain ⟨rfl, N6q, e6q⟩ := hQ6
  have N6 := Fr.app N5 N6q
  obtain ⟨_, _, ⟨T7, L7, k7, n7⟩, -, X7, ⟨Lc7, hQ7, l7, y7, z7⟩, st7⟩ := Jvm.LawKit.callS X6 hx (y := (⟨"shale/ValueTypeBigEndianPinLaw", "step", "(J[BI)J"⟩ : MethodName)) hown (mvT hZ (hw _ (List.mem_of_getElem? (i := 6) rfl))) (mvT hZ (hw _ (List.mem_of_getElem? (i := 7) rfl))) (mvT hZ (hw _ (List.mem_of_getElem? (i := 8) rfl))) (mvT hZ (hw _ (List.mem_of_getElem? (i := 9) rfl))) (by decide) (backOf (W := 0) (rmsi l Z a0 hw [] (own_st (own_st (0 : Int64) (own_byte q0 (16 : Int32))) (own_byte q0 (8 : Int32))) b3 (2 : Int32) cl3 (3 : Int32) (own_byte q0 (0 : Int32)) T3.heap n0 Z4 Ar3 Sa3 Ma3 (by decide) (inb_of Sa3 ⟨by decide, by decide⟩) (Ha3 2 (by rw [Sa3]; decide))) hZ (hw _ (List.mem_of_getElem? (i := 9) rfl)) (hw _ (List.mem_of_getElem? (i := 8) rfl)) (by decide) (by decide)) (g := (mkF m 52 #[.val (.long q0), .second, .val (.int p1), .val (.int (3 : Int32)), .val (.ref b3), .val (.long (own_st (own_st (0 : Int64) (own_byte q0 (16 : Int32))) (own_byte q0 (8 : Int32)))), .second, .unset, .unset] [(.int (2 : Int32)), (.ref b3), (.long (own_st (own_st (0 : Int64) (own_byte q0 (16 : Int32))) (own_byte q0 (8 : Int32))))])) rfl (by rw [hml]; rfl) (argsL := [(.long (own_st (own_st (0 : Int64) (own_byte q0 (16 : Int32))) (own_byte q0 (8 : Int32)))), (.ref b3), (.int (2 : Int32))]) (rest := []) (lenOf pd_1 rfl) rfl (by show 2 * 0 + _ ≤ _; exact Nat.le_of_eq rfl) (hb hby at_52) (fun _ _ => ⟨rfl, e6q, (by decide : 1 + 0 ≤ _), (by decide : 3 + 0 ≤ _)⟩)
  dsimp only [Pt.U, Pt.locs, Pt.cells, Pt.slots] at X7 l7 y7 z7 st7 hQ7
  subst l7 y7 z7
  obtain ⟨rfl, N7q, e7q⟩ := hQ7
  have N7 := Fr.app N6 N7q
  obtain ⟨_, _, ⟨T8, L8, k8, n8⟩, -, X8, ⟨Lc8, hQ8, l8, y8, z8⟩, st8⟩ := Jvm.LawKit.callS X7 hx (y := (⟨"shale/ValueTypeBigEndianPinLaw", "step", "(J[BI)J"⟩ : MethodName)) hown (mvT hZ (hw _ (List.mem_of_getElem? (i := 6) rfl))) (mvT hZ (hw _ (List.mem_of_getElem? (i := 7) rfl))) (mvT hZ (hw _ (List.mem_of_getElem? (i := 8) rfl))) (mvT hZ (hw _ (List.mem_of_getElem? (i := 9) rfl))) (by decide) (backOf (W := 0) (rmso l Z a0 hw [] (own_st (own_st (own_st (0 : Int64) (own_byte q0 (16 : Int32))) (own_byte q0 (8 : Int32))) (own_byte q0 (0 : Int32))) b3 (3 : Int32) cl3 (3 : Int32) T3.heap n0 Z4 Ar3 Sa3 Ma3 (by decide)) hZ (hw _ (List.mem_of_getElem? (i := 9) rfl)) (hw _ (List.mem_of_getElem? (i := 8) rfl)) (by decide) (by decide)) (g := (mkF m 62 #[.val (.long q0), .second, .val (.int p1), .val (.int (3 : Int32)), .val (.ref b3), .val (.long (own_st (own_st (own_st (0 : Int64) (own_byte q0 (16 : Int32))) (own_byte q0 (8 : Int32))) (own_byte q0 (0 : Int32)))), .second, .unset, .unset] [(.int (3 : Int32)), (.ref b3), (.long (own_st (own_st (own_st (0 : Int64) (own_byte q0 (16 : Int32))) (own_byte q0 (8 : Int32))) (own_byte q0 (0 : Int32))))])) rfl (by rw [hml]; rfl) (argsL := [(.long (own_st (own_st (own_st (0 : Int64) (own_byte q0 (16 : Int32))) (own_byte q0 (8 : Int32))) (own_byte q0 (0 : Int32)))), (.ref b3), (.int (3 : Int32))]) (rest := []) (lenOf pd_1 rfl) rfl (by show 2 * 0 + _ ≤ _; exact Nat.le_of_eq rfl) (hb hby at_62) (fun _ _ => ⟨rfl, e7q, (by decide : 1 + 0 ≤ _), (by decide : 3 + 0 ≤ _)⟩)
  dsimp only [Pt.U, Pt.locs, Pt.cells, Pt.slots] at X8 l8 y8 z8 st8 hQ8
  subst l8 y8 z8
  obtain ⟨rfl, N8q, e8q⟩ := hQ8
  have N8 := Fr.app N7 N8q
  obtain ⟨_, _, ⟨T9, L9, k9, n9⟩, -, X9, ⟨Lc9, hQ9, l9, y9, z9⟩, st9⟩ := Jvm.LawKit.callS X8 hx (y := (⟨"shale/ValueTypeBigEndianPinLaw", "step", "(J[BI)J"⟩ : MethodName)) hown (mvT hZ (hw _ (List.mem_of_getElem? (i := 6) rfl))) (mvT hZ (hw _ (List.mem_of_getElem? (i := 7) rfl))) (mvT hZ (hw _ (List.mem_of_getElem? (i := 8) rfl))) (mvT hZ (hw _ (List.mem_of_getElem? (i := 9) rfl))) (by decide) (backOf (W := 0) (rmso l Z a0 hw [] (own_st (own_st (own_st (0 : Int64) (own_byte q0 (16 : Int32))) (own_byte q0 (8 : Int32))) (own_byte q0 (0 : Int32))) b3 (4 : Int32) cl3 (3 : Int32) T3.heap n0 Z4 Ar3 Sa3 Ma3 (by decide)) hZ (hw _ (List.mem_of_getElem? (i := 9) rfl)) (hw _ (List.mem_of_getElem? (i := 8) rfl)) (by decide) (by decide)) (g := (mkF m 72 #[.val (.long q0), .second, .val (.int p1), .val (.int (3 : Int32)), .val (.ref b3), .val (.long (own_st (own_st (own_st (0 : Int64) (own_byte q0 (16 : Int32))) (own_byte q0 (8 : Int32))) (own_byte q0 (0 : Int32)))), .second, .unset, .unset] [(.int (4 : Int32)), (.ref b3), (.long (own_st (own_st (own_st (0 : Int64) (own_byte q0 (16 : Int32))) (own_byte q0 (8 : Int32))) (own_byte q0 (0 : Int32))))])) rfl (by rw [hml]; rfl) (argsL := [(.long (own_st (own_st (own_st (0 : Int64) (own_byte q0 (16 : Int32))) (own_byte q0 (8 : Int32))) (own_byte q0 (0 : Int32)))), (.ref b3), (.int (4 : Int32))]) (rest := []) (lenOf pd_1 rfl) rfl (by show 2 * 0 + _ ≤ _; exact Nat.le_of_eq rfl) (hb hby at_72) (fun _ _ => ⟨rfl, e8q, (by decide : 1 + 0 ≤ _), (by decide : 3 + 0 ≤ _)⟩)
  dsimp only [Pt.U, Pt.locs, Pt.cells, Pt.slots] at X9 l9 y9 z9 st9 hQ9
  subst l9 y9 z9
  obtain ⟨rfl, N9q, e9q⟩ := hQ9
  have N9 := Fr.app N8 N9q
  obtain ⟨_, _, ⟨T10, L10, k10, n10⟩, -, X10, ⟨Lc10, hQ10, l10, y10, z10⟩, st10⟩ := Jvm.LawKit.callS X9 hx (y := (⟨"shale/ValueTypeBigEndianPinLaw", "step", "(J[BI)J"⟩ : MethodName)) hown (mvT hZ (hw _ (List.mem_of_getElem? (i := 6) rfl))) (mvT hZ (hw _ (List.mem_of_getElem? (i := 7) rfl))) (mvT hZ (hw _ (List.mem_of_getElem? (i := 8) rfl))) (mvT hZ (hw _ (List.mem_of_getElem? (i := 9) rfl))) (by decide) (backOf (W := 0) (rmso l Z a0 hw [] (own_st (own_st (own_st (0 : Int64) (own_byte q0 (16 : Int32))) (own_byte q0 (8 : Int32))) (own_byte q0 (0 : Int32))) b3 (5 : Int32) cl3 (3 : Int32) T3.heap n0 Z4 Ar3 Sa3 Ma3 (by decide)) hZ (hw _ (List.mem_of_getElem? (i := 9) rfl)) (hw _ (List.mem_of_getElem? (i := 8) rfl)) (by decide) (by decide)) (g := (mkF m 82 #[.val (.long q0), .second, .val (.int p1), .val (.int (3 : Int32)), .val (.ref b3), .val (.long (own_st (own_st (own_st (0 : Int64) (own_byte q0 (16 : Int32))) (own_byte q0 (8 : Int32))) (own_byte q0 (0 : Int32)))), .second, .unset, .unset] [(.int (5 : Int32)), (.ref b3), (.long (own_st (own_st (own_st (0 : Int64) (own_byte q0 (16 : Int32))) (own_byte q0 (8 : Int32))) (own_byte q0 (0 : Int32))))])) rfl (by rw [hml]; rfl) (argsL := [(.long (own_st (own_st (own_st (0 : Int64) (own_byte q0 (16 : Int32))) (own_byte q0 (8 : Int32))) (own_byte q0 (0 : Int32)))), (.ref b3), (.int (5 : Int32))]) (rest := []) (lenOf pd_1 rfl) rfl (by show 2 * 0 + _ ≤ _; exact Nat.le_of_eq rfl) (hb hby at_82) (fun _ _ => ⟨rfl, e9q, (by decide : 1 + 0 ≤ _), (by decide : 3 + 0 ≤ _)⟩)
  dsimp only [Pt.U, Pt.locs, Pt.cells, Pt.slots] at X10 l10 y10 z10 st10 hQ10
  subst l10 y10 z10
  obtain ⟨rfl, N10q, e10q⟩ := hQ10
  have N10 := Fr.app N9 N10q
  obtain ⟨_, _, ⟨T11, L11, k11, n11⟩, -, X11, ⟨Lc11, hQ11, l11, y11, z11⟩, st11⟩ := Jvm.LawKit.callS X10 hx (y := (⟨"shale/ValueTypeBigEndianPinLaw", "step", "(J[BI)J"⟩ : MethodName)) hown (mvT hZ (hw _ (List.mem_of_getElem? (i := 6) rfl))) (mvT hZ (hw _ (List.mem_of_getElem? (i := 7) rfl))) (mvT hZ (hw _ (List.mem_of_getElem? (i := 8) rfl))) (mvT hZ (hw _ (List.mem_of_getElem? (i := 9) rfl))) (by decide) (backOf (W := 0) (rmso l Z a0 hw [] (own_st (own_st (own_st (0 : Int64) (own_byte q0 (16 : Int32))) (own_byte q0 (8 : Int32))) (own_byte q0 (0 : Int32))) b3 (6 : Int32) cl3 (3 : Int32) T3.heap n0 Z4 Ar3 Sa3 Ma3 (by decide)) hZ (hw _ (List.mem_of_getElem? (i := 9) rfl)) (hw _ (List.mem_of_getElem? (i := 8) rfl)) (by decide) (by decide)) (g := (mkF m 93 #[.val (.long q0), .second, .val (.int p1), .val (.int (3 : Int32)), .val (.ref b3), .val (.long (own_st (own_st (own_st (0 : Int64) (own_byte q0 (16 : Int32))) (own_byte q0 (8 : Int32))) (own_byte q0 (0 : Int32)))), .second, .unset, .unset] [(.int (6 : Int32)), (.ref b3), (.long (own_st (own_st (own_st (0 : Int64) (own_byte q0 (16 : Int32))) (own_byte q0 (8 : Int32))) (own_byte q0 (0 : Int32))))])) rfl (by rw [hml]; rfl) (argsL := [(.long (own_st (own_st (own_st (0 : Int64) (own_byte q0 (16 : Int32))) (own_byte q0 (8 : Int32))) (own_byte q0 (0 : Int32)))), (.ref b3), (.int (6 : Int32))]) (rest := []) (lenOf pd_1 rfl) rfl (by show 2 * 0 + _ ≤ _; exact Nat.le_of_eq rfl) (hb hby at_93) (fun _ _ => ⟨rfl, e10q, (by decide : 1 + 0 ≤ _), (by decide : 3 + 0 ≤ _)⟩)
  dsimp only [Pt.U, Pt.locs, Pt.cells, Pt.slots] at X11 l11 y11 z11 st11 hQ11
  subst l11 y11 z11
  obtain ⟨rfl, N11q, e11q⟩ := hQ11
  have N11 := Fr.app N10 N11q
  obtain ⟨_, _, ⟨T12, L12, k12, n12⟩, -, X12, ⟨Lc12, hQ12, l12, y12, z12⟩, st12⟩ := Jvm.LawKit.callS X11 hx (y := (⟨"shale/ValueTypeBigEndianPinLaw", "step", "(J[BI)J"⟩ : MethodName)) hown (mvT hZ (hw _ (List.mem_of_getElem? (i := 6) rfl))) (mvT hZ (hw _ (List.mem_of_getElem? (i := 7) rfl))) (mvT hZ (hw _ (List.mem_of_getElem? (i := 8) rfl))) (mvT hZ (hw _ (List.mem_of_getElem? (i := 9) rfl))) (by decide) (backOf (W := 0) (rmso l Z a0 hw [] (own_st (own_st (own_st (0 : Int64) (own_byte q0 (16 : Int32))) (own_byte q0 (8 : Int32))) (own_byte q0 (0 : Int32))) b3 (7 : Int32) cl3 (3 : Int32) T3.heap n0 Z4 Ar3 Sa3 Ma3 (by decide)) hZ (hw _ (List.mem_of_getElem? (i := 9) rfl)) (hw _ (List.mem_of_getElem? (i := 8) rfl)) (by decide) (by decide)) (g := (mkF m 104 #[.val (.long q0), .second, .val (.int p1), .val (.int (3 : Int32)), .val (.ref b3), .val (.long (own_st (own_st (own_st (0 : Int64) (own_byte q0 (16 : Int32))) (own_byte q0 (8 : Int32))) (own_byte q0 (0 : Int32)))), .second, .unset, .unset] [(.int (7 : Int32)), (.ref b3), (.long (own_st (own_st (own_st (0 : Int64) (own_byte q0 (16 : Int32))) (own_byte q0 (8 : Int32))) (own_byte q0 (0 : Int32))))])) rfl (by rw [hml]; rfl) (argsL := [(.long (own_st (own_st (own_st (0 : Int64) (own_byte q0 (16 : Int32))) (own_byte q0 (8 : Int32))) (own_byte q0 (0 : Int32)))), (.ref b3), (.int (7 : Int32))]) (rest := []) (lenOf pd_1 rfl) rfl (by show 2 * 0 + _ ≤ _; exact Nat.le_of_eq rfl) (hb hby at_104) (fun _ _ => ⟨rfl, e11q, (by decide : 1 + 0 ≤ _), (by decide : 3 + 0 ≤ _)⟩)
  dsimp only [Pt.U, Pt.locs, Pt.cells, Pt.slots] at X12 l12 y12 z12 st12 hQ12
  subst l12 y12 z12
  obtain ⟨rfl, N12q, e12q⟩ := hQ12
  have N12 := Fr.app N11 N12q
  obtain ⟨fs, hr, hrun, hended, hW, hsame⟩ := X12.leave (v := some (.int (1 : Int32))) (fun h => by rw [Bd.returns] at h; cases h)
  refine ⟨_, _, pre2 _ ?_, hrun, hended, _, _, rfl, ?_, ⟨_, rfl⟩, hW, hsame.mono (by decide) (by decide)⟩
  · show Steps p.tables e below (s₁.setTop (mkF m 7 #[.val (.long q0), .second, .val (.int p1), .unset, .unset, .unset, .unset, .unset, .unset] [(.int (3 : Int32))])) _
    refine XS.istoreN X0.here hx rfl (hb hby at_7) rfl (l' := #[.val (.long q0), .second, .val (.int p1), .val (.int (3 : Int32)), .unset, .unset, .unset, .unset, .unset]) rfl ?_
    show Steps p.tables e below (s₁.setTop (mkF m 8 #[.val (.long q0), .second, .val (.int p1), .val (.int (3 : Int32)), .unset, .unset, .unset, .unset, .unset] [])) _
    refine XS.lloadN X0.here hx rfl (hb hby at_8) rfl ?_
    show Steps p.tables e below (s₁.setTop (mkF m 9 #[.val (.long q0), .second, .val (.int p1), .val (.int (3 : Int32)), .unset, .unset, .unset, .unset, .unset] [(.long q0)])) _
    refine XS.iloadN X0.here hx rfl (hb hby at_9) rfl ?_
    show Steps p.tables e below (s₁.setTop (mkF m 10 #[.val (.long q0), .second, .val (.int p1), .val (.int (3 : Int32)), .unset, .unset, .unset, .unset, .unset] [(.int (3 : Int32)), (.long q0)])) _
    refine st3 _ ?_
    show Steps p.tables e below (T3.setTop (mkF m 13 #[.val (.long q0), .second, .val (.int p1), .val (.int (3 : Int32)), .unset, .unset, .unset, .unset, .unset] [(.ref b3)])) _
    refine XS.astore X3.here hx rfl (hb hby at_13) rfl rfl (l' := #[.val (.long q0), .second, .val (.int p1), .val (.int (3 : Int32)), .val (.ref b3), .unset, .unset, .unset, .unset]) rfl ?_
    show Steps p.tables e below (T3.setTop (mkF m 15 #[.val (.long q0), .second, .val (.int p1), .val (.int (3 : Int32)), .val (.ref b3), .unset, .unset, .unset, .unset] [])) _
    refine XS.aload X3.here hx rfl (hb hby at_15) rfl rfl ?_
    show Steps p.tables e below (T3.setTop (mkF m 17 #[.val (.long q0), .second, .val (.int p1), .val (.int (3 : Int32)), .val (.ref b3), .unset, .unset, .unset, .unset] [(.ref b3)])) _
    refine X3.arraylength hx Ar3.1 (State.isArrayOf_alike hZ.alike Ar3.2.1) (g := (mkF m 17 #[.val (.long q0), .second, .val (.int p1), .val (.int (3 : Int32)), .val (.ref b3), .unset, .unset, .unset, .unset] [(.ref b3)])) rfl rfl (hb hby at_17) _ ?_
    rw [len_of Sa3 Ma3]
    show Steps p.tables e below (T3.setTop (mkF m 18 #[.val (.long q0), .second, .val (.int p1), .val (.int (3 : Int32)), .val (.ref b3), .unset, .unset, .unset, .unset] [(.int (3 : Int32))])) _
    refine XS.iloadN X3.here hx rfl (hb hby at_18) rfl ?_
    show Steps p.tables e below (T3.setTop (mkF m 19 #[.val (.long q0), .second, .val (.int p1), .val (.int (3 : Int32)), .val (.ref b3), .unset, .unset, .unset, .unset] [(.int (3 : Int32)), (.int (3 : Int32))])) _
    refine XS.icmpYes X3.here hx rfl (pc0 := 19) (pc' := 24) rfl (hb hby at_19) rfl (teq (by decide : (3 : Int32) = (3 : Int32))).1 (by decide) (by decide) ?_
    show Steps p.tables e below (T3.setTop (mkF m 24 #[.val (.long q0), .second, .val (.int p1), .val (.int (3 : Int32)), .val (.ref b3), .unset, .unset, .unset, .unset] [])) _
    refine XS.lconst X3.here hx rfl (hb hby at_24) ?_
    show Steps p.tables e below (T3.setTop (mkF m 25 #[.val (.long q0), .second, .val (.int p1), .val (.int (3 : Int32)), .val (.ref b3), .unset, .unset, .unset, .unset] [(.long (0 : Int64))])) _
    refine XS.lstore X3.here hx rfl (hb hby at_25) rfl (l' := #[.val (.long q0), .second, .val (.int p1), .val (.int (3 : Int32)), .val (.ref b3), .val (.long (0 : Int64)), .second, .unset, .unset]) rfl ?_
    show Steps p.tables e below (T3.setTop (mkF m 27 #[.val (.long q0), .second, .val (.int p1), .val (.int (3 : Int32)), .val (.ref b3), .val (.long (0 : Int64)), .second, .unset, .unset] [])) _
    refine XS.lload X3.here hx rfl (hb hby at_27) rfl ?_
    show Steps p.tables e below (T3.setTop (mkF m 29 #[.val (.long q0), .second, .val (.int p1), .val (.int (3 : Int32)), .val (.ref b3), .val (.long (0 : Int64)), .second, .unset, .unset] [(.long (0 : Int64))])) _
    refine XS.aload X3.here hx rfl (hb hby at_29) rfl rfl ?_
    show Steps p.tables e below (T3.setTop (mkF m 31 #[.val (.long q0), .second, .val (.int p1), .val (.int (3 : Int32)), .val (.ref b3), .val (.long (0 : Int64)), .second, .unset, .unset] [(.ref b3), (.long (0 : Int64))])) _
    refine XS.iconst X3.here hx rfl (hb hby at_31) ?_
    show Steps p.tables e below (T3.setTop (mkF m 32 #[.val (.long q0), .second, .val (.int p1), .val (.int (3 : Int32)), .val (.ref b3), .val (.long (0 : Int64)), .second, .unset, .unset] [(.int (0 : Int32)), (.ref b3), (.long (0 : Int64))])) _
    refine st5 _ ?_
    show Steps p.tables e below (T5.setTop (mkF m 35 #[.val (.long q0), .second, .val (.int p1), .val (.int (3 : Int32)), .val (.ref b3), .val (.long (0 : Int64)), .second, .unset, .unset] [(.long (own_st (0 : Int64) (own_byte q0 (16 : Int32))))])) _
    refine XS.lstore X5.here hx rfl (hb hby at_35) rfl (l' := #[.val (.long q0), .second, .val (.int p1), .val (.int (3 : Int32)), .val (.ref b3), .val (.long (own_st (0 : Int64) (own_byte q0 (16 : Int32)))), .second, .unset, .unset]) rfl ?_
    show Steps p.tables e below (T5.setTop (mkF m 37 #[.val (.long q0), .second, .val (.int p1), .val (.int (3 : Int32)), .val (.ref b3), .val (.long (own_st (0 : Int64) (own_byte q0 (16 : Int32)))), .second, .unset, .unset] [])) _
    refine XS.lload X5.here hx rfl (hb hby at_37) rfl ?_
    show Steps p.tables e below (T5.setTop (mkF m 39 #[.val (.long q0), .second, .val (.int p1), .val (.int (3 : Int32)), .val (.ref b3), .val (.long (own_st (0 : Int64) (own_byte q0 (16 : Int32)))), .second, .unset, .unset] [(.long (own_st (0 : Int64) (own_byte q0 (16 : Int32))))])) _
    refine XS.aload X5.here hx rfl (hb hby at_39) rfl rfl ?_
    show Steps p.tables e below (T5.setTop (mkF m 41 #[.val (.long q0), .second, .val (.int p1), .val (.int (3 : Int32)), .val (.ref b3), .val (.long (own_st (0 : Int64) (own_byte q0 (16 : Int32)))), .second, .unset, .unset] [(.ref b3), (.long (own_st (0 : Int64) (own_byte q0 (16 : Int32))))])) _
    refine XS.iconst X5.here hx rfl (hb hby at_41) ?_
    show Steps p.tables e below (T5.setTop (mkF m 42 #[.val (.long q0), .second, .val (.int p1), .val (.int (3 : Int32)), .val (.ref b3), .val (.long (own_st (0 : Int64) (own_byte q0 (16 : Int32)))), .second, .unset, .unset] [(.int (1 : Int32)), (.ref b3), (.long (own_st (0 : Int64) (own_byte q0 (16 : Int32))))])) _
    refine st6 _ ?_
    show Steps p.tables e below (T6.setTop (mkF m 45 #[.val (.long q0), .second, .val (.int p1), .val (.int (3 : Int32)), .val (.ref b3), .val (.long (own_st (0 : Int64) (own_byte q0 (16 : Int32)))), .second, .unset, .unset] [(.long (own_st (own_st (0 : Int64) (own_byte q0 (16 : Int32))) (own_byte q0 (8 : Int32))))])) _
    refine XS.lstore X6.here hx rfl (hb hby at_45) rfl (l' := #[.val (.long q0), .second, .val (.int p1), .val (.int (3 : Int32)), .val (.ref b3), .val (.long (own_st (own_st (0 : Int64) (own_byte q0 (16 : Int32))) (own_byte q0 (8 : Int32)))), .second, .unset, .unset]) rfl ?_
    show Steps p.tables e below (T6.setTop (mkF m 47 #[.val (.long q0), .second, .val (.int p1), .val (.int (3 : Int32)), .val (.ref b3), .val (.long (own_st (own_st (0 : Int64) (own_byte q0 (16 : Int32))) (own_byte q0 (8 : Int32)))), .second, .unset, .unset] [])) _
    refine XS.lload X6.here hx rfl (hb hby at_47) rfl ?_
    show Steps p.tables e below (T6.setTop (mkF m 49 #[.val (.long q0), .second, .val (.int p1), .val (.int (3 : Int32)), .val (.ref b3), .val (.long (own_st (own_st (0 : Int64) (own_byte q0 (16 : Int32))) (own_byte q0 (8 : Int32)))), .second, .unset, .unset] [(.long (own_st (own_st (0 : Int64) (own_byte q0 (16 : Int32))) (own_byte q0 (8 : Int32))))])) _
    refine XS.aload X6.here hx rfl (hb hby at_49) rfl rfl ?_
    show Steps p.tables e below (T6.setTop (mkF m 51 #[.val (.long q0), .second, .val (.int p1), .val (.int (3 : Int32)), .val (.ref b3), .val (.long (own_st (own_st (0 : Int64) (own_byte q0 (16 : Int32))) (own_byte q0 (8 : Int32)))), .second, .unset, .unset] [(.ref b3), (.long (own_st (own_st (0 : Int64) (own_byte q0 (16 : Int32))) (own_byte q0 (8 : Int32))))])) _
    refine XS.iconst X6.here hx rfl (hb hby at_51) ?_
    show Steps p.tables e below (T6.setTop (mkF m 52 #[.val (.long q0), .second, .val (.int p1), .val (.int (3 : Int32)), .val (.ref b3), .val (.long (own_st (own_st (0 : Int64) (own_byte q0 (16 : Int32))) (own_byte q0 (8 : Int32)))), .second, .unset, .unset] [(.int (2 : Int32)), (.ref b3), (.long (own_st (own_st (0 : Int64) (own_byte q0 (16 : Int32))) (own_byte q0 (8 : Int32))))])) _
    refine st7 _ ?_
    show Steps p.tables e below (T7.setTop (mkF m 55 #[.val (.long q0), .second, .val (.int p1), .val (.int (3 : Int32)), .val (.ref b3), .val (.long (own_st (own_st (0 : Int64) (own_byte q0 (16 : Int32))) (own_byte q0 (8 : Int32)))), .second, .unset, .unset] [(.long (own_st (own_st (own_st (0 : Int64) (own_byte q0 (16 : Int32))) (own_byte q0 (8 : Int32))) (own_byte q0 (0 : Int32))))])) _
    refine XS.lstore X7.here hx rfl (hb hby at_55) rfl (l' := #[.val (.long q0), .second, .val (.int p1), .val (.int (3 : Int32)), .val (.ref b3), .val (.long (own_st (own_st (own_st (0 : Int64) (own_byte q0 (16 : Int32))) (own_byte q0 (8 : Int32))) (own_byte q0 (0 : Int32)))), .second, .unset, .unset]) rfl ?_
    show Steps p.tables e below (T7.setTop (mkF m 57 #[.val (.long q0), .second, .val (.int p1), .val (.int (3 : Int32)), .val (.ref b3), .val (.long (own_st (own_st (own_st (0 : Int64) (own_byte q0 (16 : Int32))) (own_byte q0 (8 : Int32))) (own_byte q0 (0 : Int32)))), .second, .unset, .unset] [])) _
    refine XS.lload X7.here hx rfl (hb hby at_57) rfl ?_
    show Steps p.tables e below (T7.setTop (mkF m 59 #[.val (.long q0), .second, .val (.int p1), .val (.int (3 : Int32)), .val (.ref b3), .val (.long (own_st (own_st (own_st (0 : Int64) (own_byte q0 (16 : Int32))) (own_byte q0 (8 : Int32))) (own_byte q0 (0 : Int32)))), .second, .unset, .unset] [(.long (own_st (own_st (own_st (0 : Int64) (own_byte q0 (16 : Int32))) (own_byte q0 (8 : Int32))) (own_byte q0 (0 : Int32))))])) _
    refine XS.aload X7.here hx rfl (hb hby at_59) rfl rfl ?_
    show Steps p.tables e below (T7.setTop (mkF m 61 #[.val (.long q0), .second, .val (.int p1), .val (.int (3 : Int32)), .val (.ref b3), .val (.long (own_st (own_st (own_st (0 : Int64) (own_byte q0 (16 : Int32))) (own_byte q0 (8 : Int32))) (own_byte q0 (0 : Int32)))), .second, .unset, .unset] [(.ref b3), (.long (own_st (own_st (own_st (0 : Int64) (own_byte q0 (16 : Int32))) (own_byte q0 (8 : Int32))) (own_byte q0 (0 : Int32))))])) _
    refine XS.iconst X7.here hx rfl (hb hby at_61) ?_
    show Steps p.tables e below (T7.setTop (mkF m 62 #[.val (.long q0), .second, .val (.int p1), .val (.int (3 : Int32)), .val (.ref b3), .val (.long (own_st (own_st (own_st (0 : Int64) (own_byte q0 (16 : Int32))) (own_byte q0 (8 : Int32))) (own_byte q0 (0 : Int32)))), .second, .unset, .unset] [(.int (3 : Int32)), (.ref b3), (.long (own_st (own_st (own_st (0 : Int64) (own_byte q0 (16 : Int32))) (own_byte q0 (8 : Int32))) (own_byte q0 (0 : Int32))))])) _
    refine st8 _ ?_
    show Steps p.tables e below (T8.setTop (mkF m 65 #[.val (.long q0), .second, .val (.int p1), .val (.int (3 : Int32)), .val (.ref b3), .val (.long (own_st (own_st (own_st (0 : Int64) (own_byte q0 (16 : Int32))) (own_byte q0 (8 : Int32))) (own_byte q0 (0 : Int32)))), .second, .unset, .unset] [(.long (own_st (own_st (own_st (0 : Int64) (own_byte q0 (16 : Int32))) (own_byte q0 (8 : Int32))) (own_byte q0 (0 : Int32))))])) _
    refine XS.lstore X8.here hx rfl (hb hby at_65) rfl (l' := #[.val (.long q0), .second, .val (.int p1), .val (.int (3 : Int32)), .val (.ref b3), .val (.long (own_st (own_st (own_st (0 : Int64) (own_byte q0 (16 : Int32))) (own_byte q0 (8 : Int32))) (own_byte q0 (0 : Int32)))), .second, .unset, .unset]) rfl ?_
    show Steps p.tables e below (T8.setTop (mkF m 67 #[.val (.long q0), .second, .val (.int p1), .val (.int (3 : Int32)), .val (.ref b3), .val (.long (own_st (own_st (own_st (0 : Int64) (own_byte q0 (16 : Int32))) (own_byte q0 (8 : Int32))) (own_byte q0 (0 : Int32)))), .second, .unset, .unset] [])) _
    refine XS.lload X8.here hx rfl (hb hby at_67) rfl ?_
    show Steps p.tables e below (T8.setTop (mkF m 69 #[.val (.long q0), .second, .val (.int p1), .val (.int (3 : Int32)), .val (.ref b3), .val (.long (own_st (own_st (own_st (0 : Int64) (own_byte q0 (16 : Int32))) (own_byte q0 (8 : Int32))) (own_byte q0 (0 : Int32)))), .second, .unset, .unset] [(.long (own_st (own_st (own_st (0 : Int64) (own_byte q0 (16 : Int32))) (own_byte q0 (8 : Int32))) (own_byte q0 (0 : Int32))))])) _
    refine XS.aload X8.here hx rfl (hb hby at_69) rfl rfl ?_
    show Steps p.tables e below (T8.setTop (mkF m 71 #[.val (.long q0), .second, .val (.int p1), .val (.int (3 : Int32)), .val (.ref b3), .val (.long (own_st (own_st (own_st (0 : Int64) (own_byte q0 (16 : Int32))) (own_byte q0 (8 : Int32))) (own_byte q0 (0 : Int32)))), .second, .unset, .unset] [(.ref b3), (.long (own_st (own_st (own_st (0 : Int64) (own_byte q0 (16 : Int32))) (own_byte q0 (8 : Int32))) (own_byte q0 (0 : Int32))))])) _
    refine XS.iconst X8.here hx rfl (hb hby at_71) ?_
    show Steps p.tables e below (T8.setTop (mkF m 72 #[.val (.long q0), .second, .val (.int p1), .val (.int (3 : Int32)), .val (.ref b3), .val (.long (own_st (own_st (own_st (0 : Int64) (own_byte q0 (16 : Int32))) (own_byte q0 (8 : Int32))) (own_byte q0 (0 : Int32)))), .second, .unset, .unset] [(.int (4 : Int32)), (.ref b3), (.long (own_st (own_st (own_st (0 : Int64) (own_byte q0 (16 : Int32))) (own_byte q0 (8 : Int32))) (own_byte q0 (0 : Int32))))])) _
    refine st9 _ ?_
    show Steps p.tables e below (T9.setTop (mkF m 75 #[.val (.long q0), .second, .val (.int p1), .val (.int (3 : Int32)), .val (.ref b3), .val (.long (own_st (own_st (own_st (0 : Int64) (own_byte q0 (16 : Int32))) (own_byte q0 (8 : Int32))) (own_byte q0 (0 : Int32)))), .second, .unset, .unset] [(.long (own_st (own_st (own_st (0 : Int64) (own_byte q0 (16 : Int32))) (own_byte q0 (8 : Int32))) (own_byte q0 (0 : Int32))))])) _
    refine XS.lstore X9.here hx rfl (hb hby at_75) rfl (l' := #[.val (.long q0), .second, .val (.int p1), .val (.int (3 : Int32)), .val (.ref b3), .val (.long (own_st (own_st (own_st (0 : Int64) (own_byte q0 (16 : Int32))) (own_byte q0 (8 : Int32))) (own_byte q0 (0 : Int32)))), .second, .unset, .unset]) rfl ?_
    show Steps p.tables e below (T9.setTop (mkF m 77 #[.val (.long q0), .second, .val (.int p1), .val (.int (3 : Int32)), .val (.ref b3), .val (.long (own_st (own_st (own_st (0 : Int64) (own_byte q0 (16 : Int32))) (own_byte q0 (8 : Int32))) (own_byte q0 (0 : Int32)))), .second, .unset, .unset] [])) _
    refine XS.lload X9.here hx rfl (hb hby at_77) rfl ?_
    show Steps p.tables e below (T9.setTop (mkF m 79 #[.val (.long q0), .second, .val (.int p1), .val (.int (3 : Int32)), .val (.ref b3), .val (.long (own_st (own_st (own_st (0 : Int64) (own_byte q0 (16 : Int32))) (own_byte q0 (8 : Int32))) (own_byte q0 (0 : Int32)))), .second, .unset, .unset] [(.long (own_st (own_st (own_st (0 : Int64) (own_byte q0 (16 : Int32))) (own_byte q0 (8 : Int32))) (own_byte q0 (0 : Int32))))])) _
    refine XS.aload X9.here hx rfl (hb hby at_79) rfl rfl ?_
    show Steps p.tables e below (T9.setTop (mkF m 81 #[.val (.long q0), .second, .val (.int p1), .val (.int (3 : Int32)), .val (.ref b3), .val (.long (own_st (own_st (own_st (0 : Int64) (own_byte q0 (16 : Int32))) (own_byte q0 (8 : Int32))) (own_byte q0 (0 : Int32)))), .second, .unset, .unset] [(.ref b3), (.long (own_st (own_st (own_st (0 : Int64) (own_byte q0 (16 : Int32))) (own_byte q0 (8 : Int32))) (own_byte q0 (0 : Int32))))])) _
    refine XS.iconst X9.here hx rfl (hb hby at_81) ?_
    show Steps p.tables e below (T9.setTop (mkF m 82 #[.val (.long q0), .second, .val (.int p1), .val (.int (3 : Int32)), .val (.ref b3), .val (.long (own_st (own_st (own_st (0 : Int64) (own_byte q0 (16 : Int32))) (own_byte q0 (8 : Int32))) (own_byte q0 (0 : Int32)))), .second, .unset, .unset] [(.int (5 : Int32)), (.ref b3), (.long (own_st (own_st (own_st (0 : Int64) (own_byte q0 (16 : Int32))) (own_byte q0 (8 : Int32))) (own_byte q0 (0 : Int32))))])) _
    refine st10 _ ?_
    show Steps p.tables e below (T10.setTop (mkF m 85 #[.val (.long q0), .second, .val (.int p1), .val (.int (3 : Int32)), .val (.ref b3), .val (.long (own_st (own_st (own_st (0 : Int64) (own_byte q0 (16 : Int32))) (own_byte q0 (8 : Int32))) (own_byte q0 (0 : Int32)))), .second, .unset, .unset] [(.long (own_st (own_st (own_st (0 : Int64) (own_byte q0 (16 : Int32))) (own_byte q0 (8 : Int32))) (own_byte q0 (0 : Int32))))])) _
    refine XS.lstore X10.here hx rfl (hb hby at_85) rfl (l' := #[.val (.long q0), .second, .val (.int p1), .val (.int (3 : Int32)), .val (.ref b3), .val (.long (own_st (own_st (own_st (0 : Int64) (own_byte q0 (16 : Int32))) (own_byte q0 (8 : Int32))) (own_byte q0 (0 : Int32)))), .second, .unset, .unset]) rfl ?_
    show Steps p.tables e below (T10.setTop (mkF m 87 #[.val (.long q0), .second, .val (.int p1), .val (.int (3 : Int32)), .val (.ref b3), .val (.long (own_st (own_st (own_st (0 : Int64) (own_byte q0 (16 : Int32))) (own_byte q0 (8 : Int32))) (own_byte q0 (0 : Int32)))), .second, .unset, .unset] [])) _
    refine XS.lload X10.here hx rfl (hb hby at_87) rfl ?_
    show Steps p.tables e below (T10.setTop (mkF m 89 #[.val (.long q0), .second, .val (.int p1), .val (.int (3 : Int32)), .val (.ref b3), .val (.long (own_st (own_st (own_st (0 : Int64) (own_byte q0 (16 : Int32))) (own_byte q0 (8 : Int32))) (own_byte q0 (0 : Int32)))), .second, .unset, .unset] [(.long (own_st (own_st (own_st (0 : Int64) (own_byte q0 (16 : Int32))) (own_byte q0 (8 : Int32))) (own_byte q0 (0 : Int32))))])) _
    refine XS.aload X10.here hx rfl (hb hby at_89) rfl rfl ?_
    show Steps p.tables e below (T10.setTop (mkF m 91 #[.val (.long q0), .second, .val (.int p1), .val (.int (3 : Int32)), .val (.ref b3), .val (.long (own_st (own_st (own_st (0 : Int64) (own_byte q0 (16 : Int32))) (own_byte q0 (8 : Int32))) (own_byte q0 (0 : Int32)))), .second, .unset, .unset] [(.ref b3), (.long (own_st (own_st (own_st (0 : Int64) (own_byte q0 (16 : Int32))) (own_byte q0 (8 : Int32))) (own_byte q0 (0 : Int32))))])) _
    refine XS.bipush X10.here hx rfl (hb hby at_91) ?_
    show Steps p.tables e below (T10.setTop (mkF m 93 #[.val (.long q0), .second, .val (.int p1), .val (.int (3 : Int32)), .val (.ref b3), .val (.long (own_st (own_st (own_st (0 : Int64) (own_byte q0 (16 : Int32))) (own_byte q0 (8 : Int32))) (own_byte q0 (0 : Int32)))), .second, .unset, .unset] [(.int (6 : Int32)), (.ref b3), (.long (own_st (own_st (own_st (0 : Int64) (own_byte q0 (16 : Int32))) (own_byte q0 (8 : Int32))) (own_byte q0 (0 : Int32))))])) _
    refine st11 _ ?_
    show Steps p.tables e below (T11.setTop (mkF m 96 #[.val (.long q0), .second, .val (.int p1), .val (.int (3 : Int32)), .val (.ref b3), .val (.long (own_st (own_st (own_st (0 : Int64) (own_byte q0 (16 : Int32))) (own_byte q0 (8 : Int32))) (own_byte q0 (0 : Int32)))), .second, .unset, .unset] [(.long (own_st (own_st (own_st (0 : Int64) (own_byte q0 (16 : Int32))) (own_byte q0 (8 : Int32))) (own_byte q0 (0 : Int32))))])) _
    refine XS.lstore X11.here hx rfl (hb hby at_96) rfl (l' := #[.val (.long q0), .second, .val (.int p1), .val (.int (3 : Int32)), .val (.ref b3), .val (.long (own_st (own_st (own_st (0 : Int64) (own_byte q0 (16 : Int32))) (own_byte q0 (8 : Int32))) (own_byte q0 (0 : Int32)))), .second, .unset, .unset]) rfl ?_
    show Steps p.tables e below (T11.setTop (mkF m 98 #[.val (.long q0), .second, .val (.int p1), .val (.int (3 : Int32)), .val (.ref b3), .val (.long (own_st (own_st (own_st (0 : Int64) (own_byte q0 (16 : Int32))) (own_byte q0 (8 : Int32))) (own_byte q0 (0 : Int32)))), .second, .unset, .unset] [])) _
    refine XS.lload X11.here hx rfl (hb hby at_98) rfl ?_
    show Steps p.tables e below (T11.setTop (mkF m 100 #[.val (.long q0), .second, .val (.int p1), .val (.int (3 : Int32)), .val (.ref b3), .val (.long (own_st (own_st (own_st (0 : Int64) (own_byte q0 (16 : Int32))) (own_byte q0 (8 : Int32))) (own_byte q0 (0 : Int32)))), .second, .unset, .unset] [(.long (own_st (own_st (own_st (0 : Int64) (own_byte q0 (16 : Int32))) (own_byte q0 (8 : Int32))) (own_byte q0 (0 : Int32))))])) _
    refine XS.aload X11.here hx rfl (hb hby at_100) rfl rfl ?_
    show Steps p.tables e below (T11.setTop (mkF m 102 #[.val (.long q0), .second, .val (.int p1), .val (.int (3 : Int32)), .val (.ref b3), .val (.long (own_st (own_st (own_st (0 : Int64) (own_byte q0 (16 : Int32))) (own_byte q0 (8 : Int32))) (own_byte q0 (0 : Int32)))), .second, .unset, .unset] [(.ref b3), (.long (own_st (own_st (own_st (0 : Int64) (own_byte q0 (16 : Int32))) (own_byte q0 (8 : Int32))) (own_byte q0 (0 : Int32))))])) _
    refine XS.bipush X11.here hx rfl (hb hby at_102) ?_
    show Steps p.tables e below (T11.setTop (mkF m 104 #[.val (.long q0), .second, .val (.int p1), .val (.int (3 : Int32)), .val (.ref b3), .val (.long (own_st (own_st (own_st (0 : Int64) (own_byte q0 (16 : Int32))) (own_byte q0 (8 : Int32))) (own_byte q0 (0 : Int32)))), .second, .unset, .unset] [(.int (7 : Int32)), (.ref b3), (.long (own_st (own_st (own_st (0 : Int64) (own_byte q0 (16 : Int32))) (own_byte q0 (8 : Int32))) (own_byte q0 (0 : Int32))))])) _
    refine st12 _ ?_
    show Steps p.tables e below (T12.setTop (mkF m 107 #[.val (.long q0), .second, .val (.int p1), .val (.int (3 : Int32)), .val (.ref b3), .val (.long (own_st (own_st (own_st (0 : Int64) (own_byte q0 (16 : Int32))) (own_byte q0 (8 : Int32))) (own_byte q0 (0 : Int32)))), .second, .unset, .unset] [(.long (own_st (own_st (own_st (0 : Int64) (own_byte q0 (16 : Int32))) (own_byte q0 (8 : Int32))) (own_byte q0 (0 : Int32))))])) _
    refine XS.lstore X12.here hx rfl (hb hby at_107) rfl (l' := #[.val (.long q0), .second, .val (.int p1), .val (.int (3 : Int32)), .val (.ref b3), .val (.long (own_st (own_st (own_st (0 : Int64) (own_byte q0 (16 : Int32))) (own_byte q0 (8 : Int32))) (own_byte q0 (0 : Int32)))), .second, .unset, .unset]) rfl ?_
    show Steps p.tables e below (T12.setTop (mkF m 109 #[.val (.long q0), .second, .val (.int p1), .val (.int (3 : Int32)), .val (.ref b3), .val (.long (own_st (own_st (own_st (0 : Int64) (own_byte q0 (16 : Int32))) (own_byte q0 (8 : Int32))) (own_byte q0 (0 : Int32)))), .second, .unset, .unset] [])) _
    refine XS.iloadN X12.here hx rfl (hb hby at_109) rfl ?_
    show Steps p.tables e below (T12.setTop (mkF m 110 #[.val (.long q0), .second, .val (.int p1), .val (.int (3 : Int32)), .val (.ref b3), .val (.long (own_st (own_st (own_st (0 : Int64) (own_byte q0 (16 : Int32))) (own_byte q0 (8 : Int32))) (own_byte q0 (0 : Int32)))), .second, .unset, .unset] [(.int (3 : Int32))])) _
    refine XS.bipush X12.here hx rfl (hb hby at_110) ?_
    show Steps p.tables e below (T12.setTop (mkF m 112 #[.val (.long q0), .second, .val (.int p1), .val (.int (3 : Int32)), .val (.ref b3), .val (.long (own_st (own_st (own_st (0 : Int64) (own_byte q0 (16 : Int32))) (own_byte q0 (8 : Int32))) (own_byte q0 (0 : Int32)))), .second, .unset, .unset] [(.int (8 : Int32)), (.int (3 : Int32))])) _
    refine XS.icmpYes X12.here hx rfl (pc0 := 112) (pc' := 121) rfl (hb hby at_112) rfl (feq (by decide : ¬ ((3 : Int32) = (8 : Int32)))).2 (by decide) (by decide) ?_
    show Steps p.tables e below (T12.setTop (mkF m 121 #[.val (.long q0), .second, .val (.int p1), .val (.int (3 : Int32)), .val (.ref b3), .val (.long (own_st (own_st (own_st (0 : Int64) (own_byte q0 (16 : Int32))) (own_byte q0 (8 : Int32))) (own_byte q0 (0 : Int32)))), .second, .unset, .unset] [])) _
    refine XS.lloadN X12.here hx rfl (hb hby at_121) rfl ?_
    show Steps p.tables e below (T12.setTop (mkF m 122 #[.val (.long q0), .second, .val (.int p1), .val (.int (3 : Int32)), .val (.ref b3), .val (.long (own_st (own_st (own_st (0 : Int64) (own_byte q0 (16 : Int32))) (own_byte q0 (8 : Int32))) (own_byte q0 (0 : Int32)))), .second, .unset, .unset] [(.long q0)])) _
    refine XS.lconst X12.here hx rfl (hb hby at_122) ?_
    show Steps p.tables e below (T12.setTop (mkF m 123 #[.val (.long q0), .second, .val (.int p1), .val (.int (3 : Int32)), .val (.ref b3), .val (.long (own_st (own_st (own_st (0 : Int64) (own_byte q0 (16 : Int32))) (own_byte q0 (8 : Int32))) (own_byte q0 (0 : Int32)))), .second, .unset, .unset] [(.long (1 : Int64)), (.long q0)])) _
    refine XS.bipush X12.here hx rfl (hb hby at_123) ?_
    show Steps p.tables e below (T12.setTop (mkF m 125 #[.val (.long q0), .second, .val (.int p1), .val (.int (3 : Int32)), .val (.ref b3), .val (.long (own_st (own_st (own_st (0 : Int64) (own_byte q0 (16 : Int32))) (own_byte q0 (8 : Int32))) (own_byte q0 (0 : Int32)))), .second, .unset, .unset] [(.int (8 : Int32)), (.long (1 : Int64)), (.long q0)])) _
    refine XS.iloadN X12.here hx rfl (hb hby at_125) rfl ?_
    show Steps p.tables e below (T12.setTop (mkF m 126 #[.val (.long q0), .second, .val (.int p1), .val (.int (3 : Int32)), .val (.ref b3), .val (.long (own_st (own_st (own_st (0 : Int64) (own_byte q0 (16 : Int32))) (own_byte q0 (8 : Int32))) (own_byte q0 (0 : Int32)))), .second, .unset, .unset] [(.int (3 : Int32)), (.int (8 : Int32)), (.long (1 : Int64)), (.long q0)])) _
    refine XS.imul X12.here hx rfl (hb hby at_126) rfl ?_
    show Steps p.tables e below (T12.setTop (mkF m 127 #[.val (.long q0), .second, .val (.int p1), .val (.int (3 : Int32)), .val (.ref b3), .val (.long (own_st (own_st (own_st (0 : Int64) (own_byte q0 (16 : Int32))) (own_byte q0 (8 : Int32))) (own_byte q0 (0 : Int32)))), .second, .unset, .unset] [(.int (24 : Int32)), (.long (1 : Int64)), (.long q0)])) _
    refine XS.lshl X12.here hx rfl (hb hby at_127) rfl ?_
    show Steps p.tables e below (T12.setTop (mkF m 128 #[.val (.long q0), .second, .val (.int p1), .val (.int (3 : Int32)), .val (.ref b3), .val (.long (own_st (own_st (own_st (0 : Int64) (own_byte q0 (16 : Int32))) (own_byte q0 (8 : Int32))) (own_byte q0 (0 : Int32)))), .second, .unset, .unset] [(.long ((1 : Int64) <<< ((24 : Int32) &&& 0x3f).toInt64)), (.long q0)])) _
    refine XS.lconst X12.here hx rfl (hb hby at_128) ?_
    show Steps p.tables e below (T12.setTop (mkF m 129 #[.val (.long q0), .second, .val (.int p1), .val (.int (3 : Int32)), .val (.ref b3), .val (.long (own_st (own_st (own_st (0 : Int64) (own_byte q0 (16 : Int32))) (own_byte q0 (8 : Int32))) (own_byte q0 (0 : Int32)))), .second, .unset, .unset] [(.long (1 : Int64)), (.long ((1 : Int64) <<< ((24 : Int32) &&& 0x3f).toInt64)), (.long q0)])) _
    refine XS.lsub X12.here hx rfl (hb hby at_129) rfl ?_
    show Steps p.tables e below (T12.setTop (mkF m 130 #[.val (.long q0), .second, .val (.int p1), .val (.int (3 : Int32)), .val (.ref b3), .val (.long (own_st (own_st (own_st (0 : Int64) (own_byte q0 (16 : Int32))) (own_byte q0 (8 : Int32))) (own_byte q0 (0 : Int32)))), .second, .unset, .unset] [(.long (((1 : Int64) <<< ((24 : Int32) &&& 0x3f).toInt64) - (1 : Int64))), (.long q0)])) _
    refine XS.land X12.here hx rfl (hb hby at_130) rfl ?_
    show Steps p.tables e below (T12.setTop (mkF m 131 #[.val (.long q0), .second, .val (.int p1), .val (.int (3 : Int32)), .val (.ref b3), .val (.long (own_st (own_st (own_st (0 : Int64) (own_byte q0 (16 : Int32))) (own_byte q0 (8 : Int32))) (own_byte q0 (0 : Int32)))), .second, .unset, .unset] [(.long (q0 &&& (((1 : Int64) <<< ((24 : Int32) &&& 0x3f).toInt64) - (1 : Int64))))])) _
    refine XS.lstore X12.here hx rfl (hb hby at_131) rfl (l' := #[.val (.long q0), .second, .val (.int p1), .val (.int (3 : Int32)), .val (.ref b3), .val (.long (own_st (own_st (own_st (0 : Int64) (own_byte q0 (16 : Int32))) (own_byte q0 (8 : Int32))) (own_byte q0 (0 : Int32)))), .second, .val (.long (q0 &&& (((1 : Int64) <<< ((24 : Int32) &&& 0x3f).toInt64) - (1 : Int64)))), .second]) rfl ?_
    show Steps p.tables e below (T12.setTop (mkF m 133 #[.val (.long q0), .second, .val (.int p1), .val (.int (3 : Int32)), .val (.ref b3), .val (.long (own_st (own_st (own_st (0 : Int64) (own_byte q0 (16 : Int32))) (own_byte q0 (8 : Int32))) (own_byte q0 (0 : Int32)))), .second, .val (.long (q0 &&& (((1 : Int64) <<< ((24 : Int32) &&& 0x3f).toInt64) - (1 : Int64)))), .second] [])) _
    refine XS.lload X12.here hx rfl (hb hby at_133) rfl ?_
    show Steps p.tables e below (T12.setTop (mkF m 135 #[.val (.long q0), .second, .val (.int p1), .val (.int (3 : Int32)), .val (.ref b3), .val (.long (own_st (own_st (own_st (0 : Int64) (own_byte q0 (16 : Int32))) (own_byte q0 (8 : Int32))) (own_byte q0 (0 : Int32)))), .second, .val (.long (q0 &&& (((1 : Int64) <<< ((24 : Int32) &&& 0x3f).toInt64) - (1 : Int64)))), .second] [(.long (own_st (own_st (own_st (0 : Int64) (own_byte q0 (16 : Int32))) (own_byte q0 (8 : Int32))) (own_byte q0 (0 : Int32))))])) _
    refine XS.lload X12.here hx rfl (hb hby at_135) rfl ?_
    show Steps p.tables e below (T12.setTop (mkF m 137 #[.val (.long q0), .second, .val (.int p1), .val (.int (3 : Int32)), .val (.ref b3), .val (.long (own_st (own_st (own_st (0 : Int64) (own_byte q0 (16 : Int32))) (own_byte q0 (8 : Int32))) (own_byte q0 (0 : Int32)))), .second, .val (.long (q0 &&& (((1 : Int64) <<< ((24 : Int32) &&& 0x3f).toInt64) - (1 : Int64)))), .second] [(.long (q0 &&& (((1 : Int64) <<< ((24 : Int32) &&& 0x3f).toInt64) - (1 : Int64)))), (.long (own_st (own_st (own_st (0 : Int64) (own_byte q0 (16 : Int32))) (own_byte q0 (8 : Int32))) (own_byte q0 (0 : Int32))))])) _
    refine XS.lcmp X12.here hx rfl (hb hby at_137) rfl ?_
    show Steps p.tables e below (T12.setTop (mkF m 138 #[.val (.long q0), .second, .val (.int p1), .val (.int (3 : Int32)), .val (.ref b3), .val (.long (own_st (own_st (own_st (0 : Int64) (own_byte q0 (16 : Int32))) (own_byte q0 (8 : Int32))) (own_byte q0 (0 : Int32)))), .second, .val (.long (q0 &&& (((1 : Int64) <<< ((24 : Int32) &&& 0x3f).toInt64) - (1 : Int64)))), .second] [(.int (lcmpW (own_st (own_st (own_st (0 : Int64) (own_byte q0 (16 : Int32))) (own_byte q0 (8 : Int32))) (own_byte q0 (0 : Int32))) (q0 &&& (((1 : Int64) <<< ((24 : Int32) &&& 0x3f).toInt64) - (1 : Int64)))))])) _
    refine XS.ifNo X12.here hx rfl (hb hby at_138) rfl ((if0 _ _).trans (teq ((lw_eq _ _).mpr (own_fin3 q0))).2) ?_
    show Steps p.tables e below (T12.setTop (mkF m 141 #[.val (.long q0), .second, .val (.int p1), .val (.int (3 : Int32)), .val (.ref b3), .val (.long (own_st (own_st (own_st (0 : Int64) (own_byte q0 (16 : Int32))) (own_byte q0 (8 : Int32))) (own_byte q0 (0 : Int32)))), .second, .val (.long (q0 &&& (((1 : Int64) <<< ((24 : Int32) &&& 0x3f).toInt64) - (1 : Int64)))), .second] [])) _
    refine XS.iconst X12.here hx rfl (hb hby at_141) ?_
    show Steps p.tables e below (T12.setTop (mkF m 142 #[.val (.long q0), .second, .val (.int p1), .val (.int (3 : Int32)), .val (.ref b3), .val (.long (own_st (own_st (own_st (0 : Int64) (own_byte q0 (16 : Int32))) (own_byte q0 (8 : Int32))) (own_byte q0 (0 : Int32)))), .second, .val (.long (q0 &&& (((1 : Int64) <<< ((24 : Int32) &&& 0x3f).toInt64) - (1 : Int64)))), .second] [(.int (1 : Int32))])) _
    refine XS.goto X12.here hx rfl (pc0 := 142) (pc' := 146) rfl (hb hby at_142) (by decide) (by decide) ?_
    show Steps p.tables e below (T12.setTop (mkF m 146 #[.val (.long q0), .second, .val (.int p1), .val (.int (3 : Int32)), .val (.ref b3), .val (.long (own_st (own_st (own_st (0 : Int64) (own_byte q0 (16 : Int32))) (own_byte q0 (8 : Int32))) (own_byte q0 (0 : Int32)))), .second, .val (.long (q0 &&& (((1 : Int64) <<< ((24 : Int32) &&& 0x3f).toInt64) - (1 : Int64)))), .second] [(.int (1 : Int32))])) _
    exact retN X12 hx (t := .boolean) Bd.returns (by simp) (hb hby at_146) hr
  · show Q0_3 Z q0 p1 h0 n0 _ T12.heap _
    rw [e12q]
    exact ⟨rfl, N12⟩
theorem ef_rm0_4 (m : MethodId) (q0 : Int64) (p1 : Int32) : entryFrame m #[(.long q0), (.int p1)] maxLocals = mkF m 0 #[.val (.long q0), .second, .val (.int p1), .unset, .unset, .unset, .unset, .unset, .unset] [] := by first | (simp [entryFrame, mkF, argsToLocals, Value.category, maxLocals]; done) | rfl
def Q0_4 (Z : State) (q0 : Int64) (p1 : Int32) (h0 : Heap) (n0 : Nat) (v : Option Value) (h : Heap) (L : List Loc) : Prop := v = some (.int (1 : Int32)) ∧ Fr n0 L
set_option maxRecDepth 65536 in
set_option maxHeartbeats 40000000 in
theorem rm0_4 (l : Launch) (Z : State) (a0 : Array Value) (hw : ∀ d ∈ tables_1, d.before a0 Z = true) (ws : List Jvm.Cond) (q0 : Int64) (p1 : Int32) (h0 : Heap) (n0 : Nat) (Z0 : n0 ≤ h0.size) (hwid : ((p1 &&& (2147483647 : Int32)) % (9 : Int32)) = (4 : Int32)) :
    MetFree l x (head1 (Jvm.Cond.code x code maxLocals ret :: ws) room_1) (fun a U => a = #[(.long q0), (.int p1)] ∧ Z.Warmed39 U.vm ∧ U.heap = h0) (fun _ _ _ _ _ => True) (fun _ U o U' => ∃ v L, o = .returned v ∧ Q0_4 Z q0 p1 h0 n0 v U'.heap L ∧ FrameEnd U o U' L room_1.cells room_1.slots) := by
  refine MetFree.of_bodySF (plainFor_of_name pn_1) hisR ?_
  intro p e s m args below meth c s₁ Bd hml0 hP hK
  obtain ⟨rfl, hZ, hh⟩ := hP
  have hx := Bd.exec
  have hby := Bd.bytes
  have hml : c.maxLocals = 9 := hml0
  have hown : s.vm.findClass "shale/ValueTypeBigEndianPinLaw" = some m.cls := findClass_of_methodNamed Bd.named
  have hnm := (name_of_methodNamed Bd.named Bd.method).1
  have X0 : Stand p l e room_1 s m #[(.long q0), (.int p1)] below meth c s₁ [] 0 0 := Stand.of_body Bd
  have e0 : s₁.heap = h0 := by rw [← hh, Bd.state]; rfl
  have N0 := Fr.nil n0
  have pre0 : ∀ t, Steps p.tables e below (s₁.setTop (mkF m 0 #[.val (.long q0), .second, .val (.int p1), .unset, .unset, .unset, .unset, .unset, .unset] [])) t → Steps p.tables e below (s₁.setTop (entryFrame m #[(.long q0), (.int p1)] maxLocals)) t := fun t k => castTop (ef_rm0_4 m q0 p1) k
  obtain ⟨wd, hm1, pre2⟩ : ∃ (wd : Int32), (wd = (4 : Int32)) ∧ ∀ t, Steps p.tables e below (s₁.setTop (mkF m 7 #[.val (.long q0), .second, .val (.int p1), .unset, .unset, .unset, .unset, .unset, .unset] [(.int wd)])) t → Steps p.tables e below (s₁.setTop (entryFrame m #[(.long q0), (.int p1)] maxLocals)) t := by
    refine ⟨((p1 &&& (2147483647 : Int32)) % (9 : Int32)), hwid, fun t kt => ?_⟩
    refine pre0 _ ?_
    show Steps p.tables e below (s₁.setTop (mkF m 0 #[.val (.long q0), .second, .val (.int p1), .unset, .unset, .unset, .unset, .unset, .unset] [])) _
    refine XS.iloadN X0.here hx rfl (hb hby at_0) rfl ?_
    show Steps p.tables e below (s₁.setTop (mkF m 1 #[.val (.long q0), .second, .val (.int p1), .unset, .unset, .unset, .unset, .unset, .unset] [(.int p1)])) _
    refine X0.ldcInt hx hown (mvT hZ (hw _ (List.mem_of_getElem? (i := 0) rfl))) (g := (mkF m 1 #[.val (.long q0), .second, .val (.int p1), .unset, .unset, .unset, .unset, .unset, .unset] [(.int p1)])) rfl (hb hby at_1) _ ?_
    show Steps p.tables e below (s₁.setTop (mkF m 3 #[.val (.long q0), .second, .val (.int p1), .unset, .unset, .unset, .unset, .unset, .unset] [(.int (2147483647 : Int32)), (.int p1)])) _
    refine XS.iand X0.here hx rfl (hb hby at_3) rfl ?_
    show Steps p.tables e below (s₁.setTop (mkF m 4 #[.val (.long q0), .second, .val (.int p1), .unset, .unset, .unset, .unset, .unset, .unset] [(.int (p1 &&& (2147483647 : Int32)))])) _
    refine XS.bipush X0.here hx rfl (hb hby at_4) ?_
    show Steps p.tables e below (s₁.setTop (mkF m 6 #[.val (.long q0), .second, .val (.int p1), .unset, .unset, .unset, .unset, .unset, .unset] [(.int (9 : Int32)), (.int (p1 &&& (2147483647 : Int32)))])) _
    refine iremM X0 hx rfl (hb hby at_6) rfl (by decide) ?_
    exact kt
  subst hm1
  obtain ⟨_, _, ⟨T3, L3, k3, n3⟩, -, X3, ⟨Lc3, hQ3, l3, y3, z3⟩, st3⟩ := Jvm.LawKit.callS X0 hx (y := (⟨"shale/ValueType", "bigEndian", "(JI)[B"⟩ : MethodName)) hown (mvT hZ (hw _ (List.mem_of_getElem? (i := 1) rfl))) (mvT hZ (hw _ (List.mem_of_getElem? (i := 2) rfl))) (mvT hZ (hw _ (List.mem_of_getElem? (i := 3) rfl))) (mvT hZ (hw _ (List.mem_of_getElem? (i := 4) rfl))) (by decide) (backOf (W := 0) (rmb4 l Z a0 hw [] q0 h0 n0 Z0 ) hZ (hw _ (List.mem_of_getElem? (i := 4) rfl)) (hw _ (List.mem_of_getElem? (i := 3) rfl)) (by decide) (by decide)) (g := (mkF m 10 #[.val (.long q0), .second, .val (.int p1), .val (.int (4 : Int32)), .unset, .unset, .unset, .unset, .unset] [(.int (4 : Int32)), (.long q0)])) rfl (by rw [hml]; rfl) (argsL := [(.long q0), (.int (4 : Int32))]) (rest := []) (lenOf pd_0 rfl) rfl (by show 2 * 0 + _ ≤ _; exact Nat.le_of_eq rfl) (hb hby at_10) (fun _ _ => ⟨rfl, e0, (by decide : 0 + 1 ≤ _), (by decide : 0 + 4 ≤ _)⟩)
  dsimp only [Pt.U, Pt.locs, Pt.cells, Pt.slots] at X3 l3 y3 z3 st3 hQ3
  subst l3 y3 z3
  obtain ⟨b3, kk3, rfl, N3q, K3, V3⟩ := hQ3
  have N3 := Fr.app N0 N3q
  have Z4 : n0 ≤ T3.heap.size := Nat.le_trans Z0 K3.1
  obtain ⟨cl3, Ar3, -, Sa3, Ma3, Ha3, -⟩ := V3
  obtain ⟨_, _, ⟨T5, L5, k5, n5⟩, -, X5, ⟨Lc5, hQ5, l5, y5, z5⟩, st5⟩ := Jvm.LawKit.callS X3 hx (y := (⟨"shale/ValueTypeBigEndianPinLaw", "step", "(J[BI)J"⟩ : MethodName)) hown (mvT hZ (hw _ (List.mem_of_getElem? (i := 6) rfl))) (mvT hZ (hw _ (List.mem_of_getElem? (i := 7) rfl))) (mvT hZ (hw _ (List.mem_of_getElem? (i := 8) rfl))) (mvT hZ (hw _ (List.mem_of_getElem? (i := 9) rfl))) (by decide) (backOf (W := 0) (rmsi l Z a0 hw [] (0 : Int64) b3 (0 : Int32) cl3 (4 : Int32) (own_byte q0 (24 : Int32)) T3.heap n0 Z4 Ar3 Sa3 Ma3 (by decide) (inb_of Sa3 ⟨by decide, by decide⟩) (Ha3 0 (by rw [Sa3]; decide))) hZ (hw _ (List.mem_of_getElem? (i := 9) rfl)) (hw _ (List.mem_of_getElem? (i := 8) rfl)) (by decide) (by decide)) (g := (mkF m 32 #[.val (.long q0), .second, .val (.int p1), .val (.int (4 : Int32)), .val (.ref b3), .val (.long (0 : Int64)), .second, .unset, .unset] [(.int (0 : Int32)), (.ref b3), (.long (0 : Int64))])) rfl (by rw [hml]; rfl) (argsL := [(.long (0 : Int64)), (.ref b3), (.int (0 : Int32))]) (rest := []) (lenOf pd_1 rfl) rfl (by show 2 * 0 + _ ≤ _; exact Nat.le_of_eq rfl) (hb hby at_32) (fun _ _ => ⟨rfl, rfl, (by decide : 1 + 0 ≤ _), (by decide : 4 + 0 ≤ _)⟩)
  dsimp only [Pt.U, Pt.locs, Pt.cells, Pt.slots] at X5 l5 y5 z5 st5 hQ5
  subst l5 y5 z5
  obtain ⟨rfl, N5q, e5q⟩ := hQ5
  have N5 := Fr.app N3 N5q
  obtain ⟨_, _, ⟨T6, L6, k6, n6⟩, -, X6, ⟨Lc6, hQ6, l6, y6, z6⟩, st6⟩ := Jvm.LawKit.callS X5 hx (y := (⟨"shale/ValueTypeBigEndianPinLaw", "step", "(J[BI)J"⟩ : MethodName)) hown (mvT hZ (hw _ (List.mem_of_getElem? (i := 6) rfl))) (mvT hZ (hw _ (List.mem_of_getElem? (i := 7) rfl))) (mvT hZ (hw _ (List.mem_of_getElem? (i := 8) rfl))) (mvT hZ (hw _ (List.mem_of_getElem? (i := 9) rfl))) (by decide) (backOf (W := 0) (rmsi l Z a0 hw [] (own_st (0 : Int64) (own_byte q0 (24 : Int32))) b3 (1 : Int32) cl3 (4 : Int32) (own_byte q0 (16 : Int32)) T3.heap n0 Z4 Ar3 Sa3 Ma3 (by decide) (inb_of Sa3 ⟨by decide, by decide⟩) (Ha3 1 (by rw [Sa3]; decide))) hZ (hw _ (List.mem_of_getElem? (i := 9) rfl)) (hw _ (List.mem_of_getElem? (i := 8) rfl)) (by decide) (by decide)) (g := (mkF m 42 #[.val (.long q0), .second, .val (.int p1), .val (.int (4 : Int32)), .val (.ref b3), .val (.long (own_st (0 : Int64) (own_byte q0 (24 : Int32)))), .second, .unset, .unset] [(.int (1 : Int32)), (.ref b3), (.long (own_st (0 : Int64) (own_byte q0 (24 : Int32))))])) rfl (by rw [hml]; rfl) (argsL := [(.long (own_st (0 : Int64) (own_byte q0 (24 : Int32)))), (.ref b3), (.int (1 : Int32))]) (rest := []) (lenOf pd_1 rfl) rfl (by show 2 * 0 + _ ≤ _; exact Nat.le_of_eq rfl) (hb hby at_42) (fun _ _ => ⟨rfl, e5q, (by decide : 1 + 0 ≤ _), (by decide : 4 + 0 ≤ _)⟩)
  dsimp only [Pt.U, Pt.locs, Pt.cells, Pt.slots] at X6 l6 y6 z6 st6 hQ6
  subst l6 y6 z6
  obtain ⟨rfl, N6q, e6q⟩ := hQ6
  have N6 := Fr.app N5 N6q
  obtain ⟨_, _, ⟨T7, L7, k7, n7⟩, -, X7, ⟨Lc7, hQ7, l7, y7, z7⟩, st7⟩ := Jvm.LawKit.callS X6 hx (y := (⟨"shale/ValueTypeBigEndianPinLaw", "step", "(J[BI)J"⟩ : MethodName)) hown (mvT hZ (hw _ (List.mem_of_getElem? (i := 6) rfl))) (mvT hZ (hw _ (List.mem_of_getElem? (i := 7) rfl))) (mvT hZ (hw _ (List.mem_of_getElem? (i := 8) rfl))) (mvT hZ (hw _ (List.mem_of_getElem? (i := 9) rfl))) (by decide) (backOf (W := 0) (rmsi l Z a0 hw [] (own_st (own_st (0 : Int64) (own_byte q0 (24 : Int32))) (own_byte q0 (16 : Int32))) b3 (2 : Int32) cl3 (4 : Int32) (own_byte q0 (8 : Int32)) T3.heap n0 Z4 Ar3 Sa3 Ma3 (by decide) (inb_of Sa3 ⟨by decide, by decide⟩) (Ha3 2 (by rw [Sa3]; decide))) hZ (hw _ (List.mem_of_getElem? (i := 9) rfl)) (hw _ (List.mem_of_getElem? (i := 8) rfl)) (by decide) (by decide)) (g := (mkF m 52 #[.val (.long q0), .second, .val (.int p1), .val (.int (4 : Int32)), .val (.ref b3), .val (.long (own_st (own_st (0 : Int64) (own_byte q0 (24 : Int32))) (own_byte q0 (16 : Int32)))), .second, .unset, .unset] [(.int (2 : Int32)), (.ref b3), (.long (own_st (own_st (0 : Int64) (own_byte q0 (24 : Int32))) (own_byte q0 (16 : Int32))))])) rfl (by rw [hml]; rfl) (argsL := [(.long (own_st (own_st (0 : Int64) (own_byte q0 (24 : Int32))) (own_byte q0 (16 : Int32)))), (.ref b3), (.int (2 : Int32))]) (rest := []) (lenOf pd_1 rfl) rfl (by show 2 * 0 + _ ≤ _; exact Nat.le_of_eq rfl) (hb hby at_52) (fun _ _ => ⟨rfl, e6q, (by decide : 1 + 0 ≤ _), (by decide : 4 + 0 ≤ _)⟩)
  dsimp only [Pt.U, Pt.locs, Pt.cells, Pt.slots] at X7 l7 y7 z7 st7 hQ7
  subst l7 y7 z7
  obtain ⟨rfl, N7q, e7q⟩ := hQ7
  have N7 := Fr.app N6 N7q
  obtain ⟨_, _, ⟨T8, L8, k8, n8⟩, -, X8, ⟨Lc8, hQ8, l8, y8, z8⟩, st8⟩ := Jvm.LawKit.callS X7 hx (y := (⟨"shale/ValueTypeBigEndianPinLaw", "step", "(J[BI)J"⟩ : MethodName)) hown (mvT hZ (hw _ (List.mem_of_getElem? (i := 6) rfl))) (mvT hZ (hw _ (List.mem_of_getElem? (i := 7) rfl))) (mvT hZ (hw _ (List.mem_of_getElem? (i := 8) rfl))) (mvT hZ (hw _ (List.mem_of_getElem? (i := 9) rfl))) (by decide) (backOf (W := 0) (rmsi l Z a0 hw [] (own_st (own_st (own_st (0 : Int64) (own_byte q0 (24 : Int32))) (own_byte q0 (16 : Int32))) (own_byte q0 (8 : Int32))) b3 (3 : Int32) cl3 (4 : Int32) (own_byte q0 (0 : Int32)) T3.heap n0 Z4 Ar3 Sa3 Ma3 (by decide) (inb_of Sa3 ⟨by decide, by decide⟩) (Ha3 3 (by rw [Sa3]; decide))) hZ (hw _ (List.mem_of_getElem? (i := 9) rfl)) (hw _ (List.mem_of_getElem? (i := 8) rfl)) (by decide) (by decide)) (g := (mkF m 62 #[.val (.long q0), .second, .val (.int p1), .val (.int (4 : Int32)), .val (.ref b3), .val (.long (own_st (own_st (own_st (0 : Int64) (own_byte q0 (24 : Int32))) (own_byte q0 (16 : Int32))) (own_byte q0 (8 : Int32)))), .second, .unset, .unset] [(.int (3 : Int32)), (.ref b3), (.long (own_st (own_st (own_st (0 : Int64) (own_byte q0 (24 : Int32))) (own_byte q0 (16 : Int32))) (own_byte q0 (8 : Int32))))])) rfl (by rw [hml]; rfl) (argsL := [(.long (own_st (own_st (own_st (0 : Int64) (own_byte q0 (24 : Int32))) (own_byte q0 (16 : Int32))) (own_byte q0 (8 : Int32)))), (.ref b3), (.int (3 : Int32))]) (rest := []) (lenOf pd_1 rfl) rfl (by show 2 * 0 + _ ≤ _; exact Nat.le_of_eq rfl) (hb hby at_62) (fun _ _ => ⟨rfl, e7q, (by decide : 1 + 0 ≤ _), (by decide : 4 + 0 ≤ _)⟩)
  dsimp only [Pt.U, Pt.locs, Pt.cells, Pt.slots] at X8 l8 y8 z8 st8 hQ8
  subst l8 y8 z8
  obtain ⟨rfl, N8q, e8q⟩ := hQ8
  have N8 := Fr.app N7 N8q
  obtain ⟨_, _, ⟨T9, L9, k9, n9⟩, -, X9, ⟨Lc9, hQ9, l9, y9, z9⟩, st9⟩ := Jvm.LawKit.callS X8 hx (y := (⟨"shale/ValueTypeBigEndianPinLaw", "step", "(J[BI)J"⟩ : MethodName)) hown (mvT hZ (hw _ (List.mem_of_getElem? (i := 6) rfl))) (mvT hZ (hw _ (List.mem_of_getElem? (i := 7) rfl))) (mvT hZ (hw _ (List.mem_of_getElem? (i := 8) rfl))) (mvT hZ (hw _ (List.mem_of_getElem? (i := 9) rfl))) (by decide) (backOf (W := 0) (rmso l Z a0 hw [] (own_st (own_st (own_st (own_st (0 : Int64) (own_byte q0 (24 : Int32))) (own_byte q0 (16 : Int32))) (own_byte q0 (8 : Int32))) (own_byte q0 (0 : Int32))) b3 (4 : Int32) cl3 (4 : Int32) T3.heap n0 Z4 Ar3 Sa3 Ma3 (by decide)) hZ (hw _ (List.mem_of_getElem? (i := 9) rfl)) (hw _ (List.mem_of_getElem? (i := 8) rfl)) (by decide) (by decide)) (g := (mkF m 72 #[.val (.long q0), .second, .val (.int p1), .val (.int (4 : Int32)), .val (.ref b3), .val (.long (own_st (own_st (own_st (own_st (0 : Int64) (own_byte q0 (24 : Int32))) (own_byte q0 (16 : Int32))) (own_byte q0 (8 : Int32))) (own_byte q0 (0 : Int32)))), .second, .unset, .unset] [(.int (4 : Int32)), (.ref b3), (.long (own_st (own_st (own_st (own_st (0 : Int64) (own_byte q0 (24 : Int32))) (own_byte q0 (16 : Int32))) (own_byte q0 (8 : Int32))) (own_byte q0 (0 : Int32))))])) rfl (by rw [hml]; rfl) (argsL := [(.long (own_st (own_st (own_st (own_st (0 : Int64) (own_byte q0 (24 : Int32))) (own_byte q0 (16 : Int32))) (own_byte q0 (8 : Int32))) (own_byte q0 (0 : Int32)))), (.ref b3), (.int (4 : Int32))]) (rest := []) (lenOf pd_1 rfl) rfl (by show 2 * 0 + _ ≤ _; exact Nat.le_of_eq rfl) (hb hby at_72) (fun _ _ => ⟨rfl, e8q, (by decide : 1 + 0 ≤ _), (by decide : 4 + 0 ≤ _)⟩)
  dsimp only [Pt.U, Pt.locs, Pt.cells, Pt.slots] at X9 l9 y9 z9 st9 hQ9
  subst l9 y9 z9
  obtain ⟨rfl, N9q, e9q⟩ := hQ9
  have N9 := Fr.app N8 N9q
  obtain ⟨_, _, ⟨T10, L10, k10, n10⟩, -, X10, ⟨Lc10, hQ10, l10, y10, z10⟩, st10⟩ := Jvm.LawKit.callS X9 hx (y := (⟨"shale/ValueTypeBigEndianPinLaw", "step", "(J[BI)J"⟩ : MethodName)) hown (mvT hZ (hw _ (List.mem_of_getElem? (i := 6) rfl))) (mvT hZ (hw _ (List.mem_of_getElem? (i := 7) rfl))) (mvT hZ (hw _ (List.mem_of_getElem? (i := 8) rfl))) (mvT hZ (hw _ (List.mem_of_getElem? (i := 9) rfl))) (by decide) (backOf (W := 0) (rmso l Z a0 hw [] (own_st (own_st (own_st (own_st (0 : Int64) (own_byte q0 (24 : Int32))) (own_byte q0 (16 : Int32))) (own_byte q0 (8 : Int32))) (own_byte q0 (0 : Int32))) b3 (5 : Int32) cl3 (4 : Int32) T3.heap n0 Z4 Ar3 Sa3 Ma3 (by decide)) hZ (hw _ (List.mem_of_getElem? (i := 9) rfl)) (hw _ (List.mem_of_getElem? (i := 8) rfl)) (by decide) (by decide)) (g := (mkF m 82 #[.val (.long q0), .second, .val (.int p1), .val (.int (4 : Int32)), .val (.ref b3), .val (.long (own_st (own_st (own_st (own_st (0 : Int64) (own_byte q0 (24 : Int32))) (own_byte q0 (16 : Int32))) (own_byte q0 (8 : Int32))) (own_byte q0 (0 : Int32)))), .second, .unset, .unset] [(.int (5 : Int32)), (.ref b3), (.long (own_st (own_st (own_st (own_st (0 : Int64) (own_byte q0 (24 : Int32))) (own_byte q0 (16 : Int32))) (own_byte q0 (8 : Int32))) (own_byte q0 (0 : Int32))))])) rfl (by rw [hml]; rfl) (argsL := [(.long (own_st (own_st (own_st (own_st (0 : Int64) (own_byte q0 (24 : Int32))) (own_byte q0 (16 : Int32))) (own_byte q0 (8 : Int32))) (own_byte q0 (0 : Int32)))), (.ref b3), (.int (5 : Int32))]) (rest := []) (lenOf pd_1 rfl) rfl (by show 2 * 0 + _ ≤ _; exact Nat.le_of_eq rfl) (hb hby at_82) (fun _ _ => ⟨rfl, e9q, (by decide : 1 + 0 ≤ _), (by decide : 4 + 0 ≤ _)⟩)
  dsimp only [Pt.U, Pt.locs, Pt.cells, Pt.slots] at X10 l10 y10 z10 st10 hQ10
  subst l10 y10 z10
  obtain ⟨rfl, N10q, e10q⟩ := hQ10
  have N10 := Fr.app N9 N10q
  obtain ⟨_, _, ⟨T11, L11, k11, n11⟩, -, X11, ⟨Lc11, hQ11, l11, y11, z11⟩, st11⟩ := Jvm.LawKit.callS X10 hx (y := (⟨"shale/ValueTypeBigEndianPinLaw", "step", "(J[BI)J"⟩ : MethodName)) hown (mvT hZ (hw _ (List.mem_of_getElem? (i := 6) rfl))) (mvT hZ (hw _ (List.mem_of_getElem? (i := 7) rfl))) (mvT hZ (hw _ (List.mem_of_getElem? (i := 8) rfl))) (mvT hZ (hw _ (List.mem_of_getElem? (i := 9) rfl))) (by decide) (backOf (W := 0) (rmso l Z a0 hw [] (own_st (own_st (own_st (own_st (0 : Int64) (own_byte q0 (24 : Int32))) (own_byte q0 (16 : Int32))) (own_byte q0 (8 : Int32))) (own_byte q0 (0 : Int32))) b3 (6 : Int32) cl3 (4 : Int32) T3.heap n0 Z4 Ar3 Sa3 Ma3 (by decide)) hZ (hw _ (List.mem_of_getElem? (i := 9) rfl)) (hw _ (List.mem_of_getElem? (i := 8) rfl)) (by decide) (by decide)) (g := (mkF m 93 #[.val (.long q0), .second, .val (.int p1), .val (.int (4 : Int32)), .val (.ref b3), .val (.long (own_st (own_st (own_st (own_st (0 : Int64) (own_byte q0 (24 : Int32))) (own_byte q0 (16 : Int32))) (own_byte q0 (8 : Int32))) (own_byte q0 (0 : Int32)))), .second, .unset, .unset] [(.int (6 : Int32)), (.ref b3), (.long (own_st (own_st (own_st (own_st (0 : Int64) (own_byte q0 (24 : Int32))) (own_byte q0 (16 : Int32))) (own_byte q0 (8 : Int32))) (own_byte q0 (0 : Int32))))])) rfl (by rw [hml]; rfl) (argsL := [(.long (own_st (own_st (own_st (own_st (0 : Int64) (own_byte q0 (24 : Int32))) (own_byte q0 (16 : Int32))) (own_byte q0 (8 : Int32))) (own_byte q0 (0 : Int32)))), (.ref b3), (.int (6 : Int32))]) (rest := []) (lenOf pd_1 rfl) rfl (by show 2 * 0 + _ ≤ _; exact Nat.le_of_eq rfl) (hb hby at_93) (fun _ _ => ⟨rfl, e10q, (by decide : 1 + 0 ≤ _), (by decide : 4 + 0 ≤ _)⟩)
  dsimp only [Pt.U, Pt.locs, Pt.cells, Pt.slots] at X11 l11 y11 z11 st11 hQ11
  subst l11 y11 z11
  obtain ⟨rfl, N11q, e11q⟩ := hQ11
  have N11 := Fr.app N10 N11q
  obtain ⟨_, _, ⟨T12, L12, k12, n12⟩, -, X12, ⟨Lc12, hQ12, l12, y12, z12⟩, st12⟩ := Jvm.LawKit.callS X11 hx (y := (⟨"shale/ValueTypeBigEndianPinLaw", "step", "(J[BI)J"⟩ : MethodName)) hown (mvT hZ (hw _ (List.mem_of_getElem? (i := 6) rfl))) (mvT hZ (hw _ (List.mem_of_getElem? (i := 7) rfl))) (mvT hZ (hw _ (List.mem_of_getElem? (i := 8) rfl))) (mvT hZ (hw _ (List.mem_of_getElem? (i := 9) rfl))) (by decide) (backOf (W := 0) (rmso l Z a0 hw [] (own_st (own_st (own_st (own_st (0 : Int64) (own_byte q0 (24 : Int32))) (own_byte q0 (16 : Int32))) (own_byte q0 (8 : Int32))) (own_byte q0 (0 : Int32))) b3 (7 : Int32) cl3 (4 : Int32) T3.heap n0 Z4 Ar3 Sa3 Ma3 (by decide)) hZ (hw _ (List.mem_of_getElem? (i := 9) rfl)) (hw _ (List.mem_of_getElem? (i := 8) rfl)) (by decide) (by decide)) (g := (mkF m 104 #[.val (.long q0), .second, .val (.int p1), .val (.int (4 : Int32)), .val (.ref b3), .val (.long (own_st (own_st (own_st (own_st (0 : Int64) (own_byte q0 (24 : Int32))) (own_byte q0 (16 : Int32))) (own_byte q0 (8 : Int32))) (own_byte q0 (0 : Int32)))), .second, .unset, .unset] [(.int (7 : Int32)), (.ref b3), (.long (own_st (own_st (own_st (own_st (0 : Int64) (own_byte q0 (24 : Int32))) (own_byte q0 (16 : Int32))) (own_byte q0 (8 : Int32))) (own_byte q0 (0 : Int32))))])) rfl (by rw [hml]; rfl) (argsL := [(.long (own_st (own_st (own_st (own_st (0 : Int64) (own_byte q0 (24 : Int32))) (own_byte q0 (16 : Int32))) (own_byte q0 (8 : Int32))) (own_byte q0 (0 : Int32)))), (.ref b3), (.int (7 : Int32))]) (rest := []) (lenOf pd_1 rfl) rfl (by show 2 * 0 + _ ≤ _; exact Nat.le_of_eq rfl) (hb hby at_104) (fun _ _ => ⟨rfl, e11q, (by decide : 1 + 0 ≤ _), (by decide : 4 + 0 ≤ _)⟩)
  dsimp only [Pt.U, Pt.locs, Pt.cells, Pt.slots] at X12 l12 y12 z12 st12 hQ12
  subst l12 y12 z12
  obtain ⟨rfl, N12q, e12q⟩ := hQ12
  have N12 := Fr.app N11 N12q
  obtain ⟨fs, hr, hrun, hended, hW, hsame⟩ := X12.leave (v := some (.int (1 : Int32))) (fun h => by rw [Bd.returns] at h; cases h)
  refine ⟨_, _, pre2 _ ?_, hrun, hended, _, _, rfl, ?_, ⟨_, rfl⟩, hW, hsame.mono (by decide) (by decide)⟩
  · show Steps p.tables e below (s₁.setTop (mkF m 7 #[.val (.long q0), .second, .val (.int p1), .unset, .unset, .unset, .unset, .unset, .unset] [(.int (4 : Int32))])) _
    refine XS.istoreN X0.here hx rfl (hb hby at_7) rfl (l' := #[.val (.long q0), .second, .val (.int p1), .val (.int (4 : Int32)), .unset, .unset, .unset, .unset, .unset]) rfl ?_
    show Steps p.tables e below (s₁.setTop (mkF m 8 #[.val (.long q0), .second, .val (.int p1), .val (.int (4 : Int32)), .unset, .unset, .unset, .unset, .unset] [])) _
    refine XS.lloadN X0.here hx rfl (hb hby at_8) rfl ?_
    show Steps p.tables e below (s₁.setTop (mkF m 9 #[.val (.long q0), .second, .val (.int p1), .val (.int (4 : Int32)), .unset, .unset, .unset, .unset, .unset] [(.long q0)])) _
    refine XS.iloadN X0.here hx rfl (hb hby at_9) rfl ?_
    show Steps p.tables e below (s₁.setTop (mkF m 10 #[.val (.long q0), .second, .val (.int p1), .val (.int (4 : Int32)), .unset, .unset, .unset, .unset, .unset] [(.int (4 : Int32)), (.long q0)])) _
    refine st3 _ ?_
    show Steps p.tables e below (T3.setTop (mkF m 13 #[.val (.long q0), .second, .val (.int p1), .val (.int (4 : Int32)), .unset, .unset, .unset, .unset, .unset] [(.ref b3)])) _
    refine XS.astore X3.here hx rfl (hb hby at_13) rfl rfl (l' := #[.val (.long q0), .second, .val (.int p1), .val (.int (4 : Int32)), .val (.ref b3), .unset, .unset, .unset, .unset]) rfl ?_
    show Steps p.tables e below (T3.setTop (mkF m 15 #[.val (.long q0), .second, .val (.int p1), .val (.int (4 : Int32)), .val (.ref b3), .unset, .unset, .unset, .unset] [])) _
    refine XS.aload X3.here hx rfl (hb hby at_15) rfl rfl ?_
    show Steps p.tables e below (T3.setTop (mkF m 17 #[.val (.long q0), .second, .val (.int p1), .val (.int (4 : Int32)), .val (.ref b3), .unset, .unset, .unset, .unset] [(.ref b3)])) _
    refine X3.arraylength hx Ar3.1 (State.isArrayOf_alike hZ.alike Ar3.2.1) (g := (mkF m 17 #[.val (.long q0), .second, .val (.int p1), .val (.int (4 : Int32)), .val (.ref b3), .unset, .unset, .unset, .unset] [(.ref b3)])) rfl rfl (hb hby at_17) _ ?_
    rw [len_of Sa3 Ma3]
    show Steps p.tables e below (T3.setTop (mkF m 18 #[.val (.long q0), .second, .val (.int p1), .val (.int (4 : Int32)), .val (.ref b3), .unset, .unset, .unset, .unset] [(.int (4 : Int32))])) _
    refine XS.iloadN X3.here hx rfl (hb hby at_18) rfl ?_
    show Steps p.tables e below (T3.setTop (mkF m 19 #[.val (.long q0), .second, .val (.int p1), .val (.int (4 : Int32)), .val (.ref b3), .unset, .unset, .unset, .unset] [(.int (4 : Int32)), (.int (4 : Int32))])) _
    refine XS.icmpYes X3.here hx rfl (pc0 := 19) (pc' := 24) rfl (hb hby at_19) rfl (teq (by decide : (4 : Int32) = (4 : Int32))).1 (by decide) (by decide) ?_
    show Steps p.tables e below (T3.setTop (mkF m 24 #[.val (.long q0), .second, .val (.int p1), .val (.int (4 : Int32)), .val (.ref b3), .unset, .unset, .unset, .unset] [])) _
    refine XS.lconst X3.here hx rfl (hb hby at_24) ?_
    show Steps p.tables e below (T3.setTop (mkF m 25 #[.val (.long q0), .second, .val (.int p1), .val (.int (4 : Int32)), .val (.ref b3), .unset, .unset, .unset, .unset] [(.long (0 : Int64))])) _
    refine XS.lstore X3.here hx rfl (hb hby at_25) rfl (l' := #[.val (.long q0), .second, .val (.int p1), .val (.int (4 : Int32)), .val (.ref b3), .val (.long (0 : Int64)), .second, .unset, .unset]) rfl ?_
    show Steps p.tables e below (T3.setTop (mkF m 27 #[.val (.long q0), .second, .val (.int p1), .val (.int (4 : Int32)), .val (.ref b3), .val (.long (0 : Int64)), .second, .unset, .unset] [])) _
    refine XS.lload X3.here hx rfl (hb hby at_27) rfl ?_
    show Steps p.tables e below (T3.setTop (mkF m 29 #[.val (.long q0), .second, .val (.int p1), .val (.int (4 : Int32)), .val (.ref b3), .val (.long (0 : Int64)), .second, .unset, .unset] [(.long (0 : Int64))])) _
    refine XS.aload X3.here hx rfl (hb hby at_29) rfl rfl ?_
    show Steps p.tables e below (T3.setTop (mkF m 31 #[.val (.long q0), .second, .val (.int p1), .val (.int (4 : Int32)), .val (.ref b3), .val (.long (0 : Int64)), .second, .unset, .unset] [(.ref b3), (.long (0 : Int64))])) _
    refine XS.iconst X3.here hx rfl (hb hby at_31) ?_
    show Steps p.tables e below (T3.setTop (mkF m 32 #[.val (.long q0), .second, .val (.int p1), .val (.int (4 : Int32)), .val (.ref b3), .val (.long (0 : Int64)), .second, .unset, .unset] [(.int (0 : Int32)), (.ref b3), (.long (0 : Int64))])) _
    refine st5 _ ?_
    show Steps p.tables e below (T5.setTop (mkF m 35 #[.val (.long q0), .second, .val (.int p1), .val (.int (4 : Int32)), .val (.ref b3), .val (.long (0 : Int64)), .second, .unset, .unset] [(.long (own_st (0 : Int64) (own_byte q0 (24 : Int32))))])) _
    refine XS.lstore X5.here hx rfl (hb hby at_35) rfl (l' := #[.val (.long q0), .second, .val (.int p1), .val (.int (4 : Int32)), .val (.ref b3), .val (.long (own_st (0 : Int64) (own_byte q0 (24 : Int32)))), .second, .unset, .unset]) rfl ?_
    show Steps p.tables e below (T5.setTop (mkF m 37 #[.val (.long q0), .second, .val (.int p1), .val (.int (4 : Int32)), .val (.ref b3), .val (.long (own_st (0 : Int64) (own_byte q0 (24 : Int32)))), .second, .unset, .unset] [])) _
    refine XS.lload X5.here hx rfl (hb hby at_37) rfl ?_
    show Steps p.tables e below (T5.setTop (mkF m 39 #[.val (.long q0), .second, .val (.int p1), .val (.int (4 : Int32)), .val (.ref b3), .val (.long (own_st (0 : Int64) (own_byte q0 (24 : Int32)))), .second, .unset, .unset] [(.long (own_st (0 : Int64) (own_byte q0 (24 : Int32))))])) _
    refine XS.aload X5.here hx rfl (hb hby at_39) rfl rfl ?_
    show Steps p.tables e below (T5.setTop (mkF m 41 #[.val (.long q0), .second, .val (.int p1), .val (.int (4 : Int32)), .val (.ref b3), .val (.long (own_st (0 : Int64) (own_byte q0 (24 : Int32)))), .second, .unset, .unset] [(.ref b3), (.long (own_st (0 : Int64) (own_byte q0 (24 : Int32))))])) _
    refine XS.iconst X5.here hx rfl (hb hby at_41) ?_
    show Steps p.tables e below (T5.setTop (mkF m 42 #[.val (.long q0), .second, .val (.int p1), .val (.int (4 : Int32)), .val (.ref b3), .val (.long (own_st (0 : Int64) (own_byte q0 (24 : Int32)))), .second, .unset, .unset] [(.int (1 : Int32)), (.ref b3), (.long (own_st (0 : Int64) (own_byte q0 (24 : Int32))))])) _
    refine st6 _ ?_
    show Steps p.tables e below (T6.setTop (mkF m 45 #[.val (.long q0), .second, .val (.int p1), .val (.int (4 : Int32)), .val (.ref b3), .val (.long (own_st (0 : Int64) (own_byte q0 (24 : Int32)))), .second, .unset, .unset] [(.long (own_st (own_st (0 : Int64) (own_byte q0 (24 : Int32))) (own_byte q0 (16 : Int32))))])) _
    refine XS.lstore X6.here hx rfl (hb hby at_45) rfl (l' := #[.val (.long q0), .second, .val (.int p1), .val (.int (4 : Int32)), .val (.ref b3), .val (.long (own_st (own_st (0 : Int64) (own_byte q0 (24 : Int32))) (own_byte q0 (16 : Int32)))), .second, .unset, .unset]) rfl ?_
    show Steps p.tables e below (T6.setTop (mkF m 47 #[.val (.long q0), .second, .val (.int p1), .val (.int (4 : Int32)), .val (.ref b3), .val (.long (own_st (own_st (0 : Int64) (own_byte q0 (24 : Int32))) (own_byte q0 (16 : Int32)))), .second, .unset, .unset] [])) _
    refine XS.lload X6.here hx rfl (hb hby at_47) rfl ?_
    show Steps p.tables e below (T6.setTop (mkF m 49 #[.val (.long q0), .second, .val (.int p1), .val (.int (4 : Int32)), .val (.ref b3), .val (.long (own_st (own_st (0 : Int64) (own_byte q0 (24 : Int32))) (own_byte q0 (16 : Int32)))), .second, .unset, .unset] [(.long (own_st (own_st (0 : Int64) (own_byte q0 (24 : Int32))) (own_byte q0 (16 : Int32))))])) _
    refine XS.aload X6.here hx rfl (hb hby at_49) rfl rfl ?_
    show Steps p.tables e below (T6.setTop (mkF m 51 #[.val (.long q0), .second, .val (.int p1), .val (.int (4 : Int32)), .val (.ref b3), .val (.long (own_st (own_st (0 : Int64) (own_byte q0 (24 : Int32))) (own_byte q0 (16 : Int32)))), .second, .unset, .unset] [(.ref b3), (.long (own_st (own_st (0 : Int64) (own_byte q0 (24 : Int32))) (own_byte q0 (16 : Int32))))])) _
    refine XS.iconst X6.here hx rfl (hb hby at_51) ?_
    show Steps p.tables e below (T6.setTop (mkF m 52 #[.val (.long q0), .second, .val (.int p1), .val (.int (4 : Int32)), .val (.ref b3), .val (.long (own_st (own_st (0 : Int64) (own_byte q0 (24 : Int32))) (own_byte q0 (16 : Int32)))), .second, .unset, .unset] [(.int (2 : Int32)), (.ref b3), (.long (own_st (own_st (0 : Int64) (own_byte q0 (24 : Int32))) (own_byte q0 (16 : Int32))))])) _
    refine st7 _ ?_
    show Steps p.tables e below (T7.setTop (mkF m 55 #[.val (.long q0), .second, .val (.int p1), .val (.int (4 : Int32)), .val (.ref b3), .val (.long (own_st (own_st (0 : Int64) (own_byte q0 (24 : Int32))) (own_byte q0 (16 : Int32)))), .second, .unset, .unset] [(.long (own_st (own_st (own_st (0 : Int64) (own_byte q0 (24 : Int32))) (own_byte q0 (16 : Int32))) (own_byte q0 (8 : Int32))))])) _
    refine XS.lstore X7.here hx rfl (hb hby at_55) rfl (l' := #[.val (.long q0), .second, .val (.int p1), .val (.int (4 : Int32)), .val (.ref b3), .val (.long (own_st (own_st (own_st (0 : Int64) (own_byte q0 (24 : Int32))) (own_byte q0 (16 : Int32))) (own_byte q0 (8 : Int32)))), .second, .unset, .unset]) rfl ?_
    show Steps p.tables e below (T7.setTop (mkF m 57 #[.val (.long q0), .second, .val (.int p1), .val (.int (4 : Int32)), .val (.ref b3), .val (.long (own_st (own_st (own_st (0 : Int64) (own_byte q0 (24 : Int32))) (own_byte q0 (16 : Int32))) (own_byte q0 (8 : Int32)))), .second, .unset, .unset] [])) _
    refine XS.lload X7.here hx rfl (hb hby at_57) rfl ?_
    show Steps p.tables e below (T7.setTop (mkF m 59 #[.val (.long q0), .second, .val (.int p1), .val (.int (4 : Int32)), .val (.ref b3), .val (.long (own_st (own_st (own_st (0 : Int64) (own_byte q0 (24 : Int32))) (own_byte q0 (16 : Int32))) (own_byte q0 (8 : Int32)))), .second, .unset, .unset] [(.long (own_st (own_st (own_st (0 : Int64) (own_byte q0 (24 : Int32))) (own_byte q0 (16 : Int32))) (own_byte q0 (8 : Int32))))])) _
    refine XS.aload X7.here hx rfl (hb hby at_59) rfl rfl ?_
    show Steps p.tables e below (T7.setTop (mkF m 61 #[.val (.long q0), .second, .val (.int p1), .val (.int (4 : Int32)), .val (.ref b3), .val (.long (own_st (own_st (own_st (0 : Int64) (own_byte q0 (24 : Int32))) (own_byte q0 (16 : Int32))) (own_byte q0 (8 : Int32)))), .second, .unset, .unset] [(.ref b3), (.long (own_st (own_st (own_st (0 : Int64) (own_byte q0 (24 : Int32))) (own_byte q0 (16 : Int32))) (own_byte q0 (8 : Int32))))])) _
    refine XS.iconst X7.here hx rfl (hb hby at_61) ?_
    show Steps p.tables e below (T7.setTop (mkF m 62 #[.val (.long q0), .second, .val (.int p1), .val (.int (4 : Int32)), .val (.ref b3), .val (.long (own_st (own_st (own_st (0 : Int64) (own_byte q0 (24 : Int32))) (own_byte q0 (16 : Int32))) (own_byte q0 (8 : Int32)))), .second, .unset, .unset] [(.int (3 : Int32)), (.ref b3), (.long (own_st (own_st (own_st (0 : Int64) (own_byte q0 (24 : Int32))) (own_byte q0 (16 : Int32))) (own_byte q0 (8 : Int32))))])) _
    refine st8 _ ?_
    show Steps p.tables e below (T8.setTop (mkF m 65 #[.val (.long q0), .second, .val (.int p1), .val (.int (4 : Int32)), .val (.ref b3), .val (.long (own_st (own_st (own_st (0 : Int64) (own_byte q0 (24 : Int32))) (own_byte q0 (16 : Int32))) (own_byte q0 (8 : Int32)))), .second, .unset, .unset] [(.long (own_st (own_st (own_st (own_st (0 : Int64) (own_byte q0 (24 : Int32))) (own_byte q0 (16 : Int32))) (own_byte q0 (8 : Int32))) (own_byte q0 (0 : Int32))))])) _
    refine XS.lstore X8.here hx rfl (hb hby at_65) rfl (l' := #[.val (.long q0), .second, .val (.int p1), .val (.int (4 : Int32)), .val (.ref b3), .val (.long (own_st (own_st (own_st (own_st (0 : Int64) (own_byte q0 (24 : Int32))) (own_byte q0 (16 : Int32))) (own_byte q0 (8 : Int32))) (own_byte q0 (0 : Int32)))), .second, .unset, .unset]) rfl ?_
    show Steps p.tables e below (T8.setTop (mkF m 67 #[.val (.long q0), .second, .val (.int p1), .val (.int (4 : Int32)), .val (.ref b3), .val (.long (own_st (own_st (own_st (own_st (0 : Int64) (own_byte q0 (24 : Int32))) (own_byte q0 (16 : Int32))) (own_byte q0 (8 : Int32))) (own_byte q0 (0 : Int32)))), .second, .unset, .unset] [])) _
    refine XS.lload X8.here hx rfl (hb hby at_67) rfl ?_
    show Steps p.tables e below (T8.setTop (mkF m 69 #[.val (.long q0), .second, .val (.int p1), .val (.int (4 : Int32)), .val (.ref b3), .val (.long (own_st (own_st (own_st (own_st (0 : Int64) (own_byte q0 (24 : Int32))) (own_byte q0 (16 : Int32))) (own_byte q0 (8 : Int32))) (own_byte q0 (0 : Int32)))), .second, .unset, .unset] [(.long (own_st (own_st (own_st (own_st (0 : Int64) (own_byte q0 (24 : Int32))) (own_byte q0 (16 : Int32))) (own_byte q0 (8 : Int32))) (own_byte q0 (0 : Int32))))])) _
    refine XS.aload X8.here hx rfl (hb hby at_69) rfl rfl ?_
    show Steps p.tables e below (T8.setTop (mkF m 71 #[.val (.long q0), .second, .val (.int p1), .val (.int (4 : Int32)), .val (.ref b3), .val (.long (own_st (own_st (own_st (own_st (0 : Int64) (own_byte q0 (24 : Int32))) (own_byte q0 (16 : Int32))) (own_byte q0 (8 : Int32))) (own_byte q0 (0 : Int32)))), .second, .unset, .unset] [(.ref b3), (.long (own_st (own_st (own_st (own_st (0 : Int64) (own_byte q0 (24 : Int32))) (own_byte q0 (16 : Int32))) (own_byte q0 (8 : Int32))) (own_byte q0 (0 : Int32))))])) _
    refine XS.iconst X8.here hx rfl (hb hby at_71) ?_
    show Steps p.tables e below (T8.setTop (mkF m 72 #[.val (.long q0), .second, .val (.int p1), .val (.int (4 : Int32)), .val (.ref b3), .val (.long (own_st (own_st (own_st (own_st (0 : Int64) (own_byte q0 (24 : Int32))) (own_byte q0 (16 : Int32))) (own_byte q0 (8 : Int32))) (own_byte q0 (0 : Int32)))), .second, .unset, .unset] [(.int (4 : Int32)), (.ref b3), (.long (own_st (own_st (own_st (own_st (0 : Int64) (own_byte q0 (24 : Int32))) (own_byte q0 (16 : Int32))) (own_byte q0 (8 : Int32))) (own_byte q0 (0 : Int32))))])) _
    refine st9 _ ?_
    show Steps p.tables e below (T9.setTop (mkF m 75 #[.val (.long q0), .second, .val (.int p1), .val (.int (4 : Int32)), .val (.ref b3), .val (.long (own_st (own_st (own_st (own_st (0 : Int64) (own_byte q0 (24 : Int32))) (own_byte q0 (16 : Int32))) (own_byte q0 (8 : Int32))) (own_byte q0 (0 : Int32)))), .second, .unset, .unset] [(.long (own_st (own_st (own_st (own_st (0 : Int64) (own_byte q0 (24 : Int32))) (own_byte q0 (16 : Int32))) (own_byte q0 (8 : Int32))) (own_byte q0 (0 : Int32))))])) _
    refine XS.lstore X9.here hx rfl (hb hby at_75) rfl (l' := #[.val (.long q0), .second, .val (.int p1), .val (.int (4 : Int32)), .val (.ref b3), .val (.long (own_st (own_st (own_st (own_st (0 : Int64) (own_byte q0 (24 : Int32))) (own_byte q0 (16 : Int32))) (own_byte q0 (8 : Int32))) (own_byte q0 (0 : Int32)))), .second, .unset, .unset]) rfl ?_
    show Steps p.tables e below (T9.setTop (mkF m 77 #[.val (.long q0), .second, .val (.int p1), .val (.int (4 : Int32)), .val (.ref b3), .val (.long (own_st (own_st (own_st (own_st (0 : Int64) (own_byte q0 (24 : Int32))) (own_byte q0 (16 : Int32))) (own_byte q0 (8 : Int32))) (own_byte q0 (0 : Int32)))), .second, .unset, .unset] [])) _
    refine XS.lload X9.here hx rfl (hb hby at_77) rfl ?_
    show Steps p.tables e below (T9.setTop (mkF m 79 #[.val (.long q0), .second, .val (.int p1), .val (.int (4 : Int32)), .val (.ref b3), .val (.long (own_st (own_st (own_st (own_st (0 : Int64) (own_byte q0 (24 : Int32))) (own_byte q0 (16 : Int32))) (own_byte q0 (8 : Int32))) (own_byte q0 (0 : Int32)))), .second, .unset, .unset] [(.long (own_st (own_st (own_st (own_st (0 : Int64) (own_byte q0 (24 : Int32))) (own_byte q0 (16 : Int32))) (own_byte q0 (8 : Int32))) (own_byte q0 (0 : Int32))))])) _
    refine XS.aload X9.here hx rfl (hb hby at_79) rfl rfl ?_
    show Steps p.tables e below (T9.setTop (mkF m 81 #[.val (.long q0), .second, .val (.int p1), .val (.int (4 : Int32)), .val (.ref b3), .val (.long (own_st (own_st (own_st (own_st (0 : Int64) (own_byte q0 (24 : Int32))) (own_byte q0 (16 : Int32))) (own_byte q0 (8 : Int32))) (own_byte q0 (0 : Int32)))), .second, .unset, .unset] [(.ref b3), (.long (own_st (own_st (own_st (own_st (0 : Int64) (own_byte q0 (24 : Int32))) (own_byte q0 (16 : Int32))) (own_byte q0 (8 : Int32))) (own_byte q0 (0 : Int32))))])) _
    refine XS.iconst X9.here hx rfl (hb hby at_81) ?_
    show Steps p.tables e below (T9.setTop (mkF m 82 #[.val (.long q0), .second, .val (.int p1), .val (.int (4 : Int32)), .val (.ref b3), .val (.long (own_st (own_st (own_st (own_st (0 : Int64) (own_byte q0 (24 : Int32))) (own_byte q0 (16 : Int32))) (own_byte q0 (8 : Int32))) (own_byte q0 (0 : Int32)))), .second, .unset, .unset] [(.int (5 : Int32)), (.ref b3), (.long (own_st (own_st (own_st (own_st (0 : Int64) (own_byte q0 (24 : Int32))) (own_byte q0 (16 : Int32))) (own_byte q0 (8 : Int32))) (own_byte q0 (0 : Int32))))])) _
    refine st10 _ ?_
    show Steps p.tables e below (T10.setTop (mkF m 85 #[.val (.long q0), .second, .val (.int p1), .val (.int (4 : Int32)), .val (.ref b3), .val (.long (own_st (own_st (own_st (own_st (0 : Int64) (own_byte q0 (24 : Int32))) (own_byte q0 (16 : Int32))) (own_byte q0 (8 : Int32))) (own_byte q0 (0 : Int32)))), .second, .unset, .unset] [(.long (own_st (own_st (own_st (own_st (0 : Int64) (own_byte q0 (24 : Int32))) (own_byte q0 (16 : Int32))) (own_byte q0 (8 : Int32))) (own_byte q0 (0 : Int32))))])) _
    refine XS.lstore X10.here hx rfl (hb hby at_85) rfl (l' := #[.val (.long q0), .second, .val (.int p1), .val (.int (4 : Int32)), .val (.ref b3), .val (.long (own_st (own_st (own_st (own_st (0 : Int64) (own_byte q0 (24 : Int32))) (own_byte q0 (16 : Int32))) (own_byte q0 (8 : Int32))) (own_byte q0 (0 : Int32)))), .second, .unset, .unset]) rfl ?_
    show Steps p.tables e below (T10.setTop (mkF m 87 #[.val (.long q0), .second, .val (.int p1), .val (.int (4 : Int32)), .val (.ref b3), .val (.long (own_st (own_st (own_st (own_st (0 : Int64) (own_byte q0 (24 : Int32))) (own_byte q0 (16 : Int32))) (own_byte q0 (8 : Int32))) (own_byte q0 (0 : Int32)))), .second, .unset, .unset] [])) _
    refine XS.lload X10.here hx rfl (hb hby at_87) rfl ?_
    show Steps p.tables e below (T10.setTop (mkF m 89 #[.val (.long q0), .second, .val (.int p1), .val (.int (4 : Int32)), .val (.ref b3), .val (.long (own_st (own_st (own_st (own_st (0 : Int64) (own_byte q0 (24 : Int32))) (own_byte q0 (16 : Int32))) (own_byte q0 (8 : Int32))) (own_byte q0 (0 : Int32)))), .second, .unset, .unset] [(.long (own_st (own_st (own_st (own_st (0 : Int64) (own_byte q0 (24 : Int32))) (own_byte q0 (16 : Int32))) (own_byte q0 (8 : Int32))) (own_byte q0 (0 : Int32))))])) _
    refine XS.aload X10.here hx rfl (hb hby at_89) rfl rfl ?_
    show Steps p.tables e below (T10.setTop (mkF m 91 #[.val (.long q0), .second, .val (.int p1), .val (.int (4 : Int32)), .val (.ref b3), .val (.long (own_st (own_st (own_st (own_st (0 : Int64) (own_byte q0 (24 : Int32))) (own_byte q0 (16 : Int32))) (own_byte q0 (8 : Int32))) (own_byte q0 (0 : Int32)))), .second, .unset, .unset] [(.ref b3), (.long (own_st (own_st (own_st (own_st (0 : Int64) (own_byte q0 (24 : Int32))) (own_byte q0 (16 : Int32))) (own_byte q0 (8 : Int32))) (own_byte q0 (0 : Int32))))])) _
    refine XS.bipush X10.here hx rfl (hb hby at_91) ?_
    show Steps p.tables e below (T10.setTop (mkF m 93 #[.val (.long q0), .second, .val (.int p1), .val (.int (4 : Int32)), .val (.ref b3), .val (.long (own_st (own_st (own_st (own_st (0 : Int64) (own_byte q0 (24 : Int32))) (own_byte q0 (16 : Int32))) (own_byte q0 (8 : Int32))) (own_byte q0 (0 : Int32)))), .second, .unset, .unset] [(.int (6 : Int32)), (.ref b3), (.long (own_st (own_st (own_st (own_st (0 : Int64) (own_byte q0 (24 : Int32))) (own_byte q0 (16 : Int32))) (own_byte q0 (8 : Int32))) (own_byte q0 (0 : Int32))))])) _
    refine st11 _ ?_
    show Steps p.tables e below (T11.setTop (mkF m 96 #[.val (.long q0), .second, .val (.int p1), .val (.int (4 : Int32)), .val (.ref b3), .val (.long (own_st (own_st (own_st (own_st (0 : Int64) (own_byte q0 (24 : Int32))) (own_byte q0 (16 : Int32))) (own_byte q0 (8 : Int32))) (own_byte q0 (0 : Int32)))), .second, .unset, .unset] [(.long (own_st (own_st (own_st (own_st (0 : Int64) (own_byte q0 (24 : Int32))) (own_byte q0 (16 : Int32))) (own_byte q0 (8 : Int32))) (own_byte q0 (0 : Int32))))])) _
    refine XS.lstore X11.here hx rfl (hb hby at_96) rfl (l' := #[.val (.long q0), .second, .val (.int p1), .val (.int (4 : Int32)), .val (.ref b3), .val (.long (own_st (own_st (own_st (own_st (0 : Int64) (own_byte q0 (24 : Int32))) (own_byte q0 (16 : Int32))) (own_byte q0 (8 : Int32))) (own_byte q0 (0 : Int32)))), .second, .unset, .unset]) rfl ?_
    show Steps p.tables e below (T11.setTop (mkF m 98 #[.val (.long q0), .second, .val (.int p1), .val (.int (4 : Int32)), .val (.ref b3), .val (.long (own_st (own_st (own_st (own_st (0 : Int64) (own_byte q0 (24 : Int32))) (own_byte q0 (16 : Int32))) (own_byte q0 (8 : Int32))) (own_byte q0 (0 : Int32)))), .second, .unset, .unset] [])) _
    refine XS.lload X11.here hx rfl (hb hby at_98) rfl ?_
    show Steps p.tables e below (T11.setTop (mkF m 100 #[.val (.long q0), .second, .val (.int p1), .val (.int (4 : Int32)), .val (.ref b3), .val (.long (own_st (own_st (own_st (own_st (0 : Int64) (own_byte q0 (24 : Int32))) (own_byte q0 (16 : Int32))) (own_byte q0 (8 : Int32))) (own_byte q0 (0 : Int32)))), .second, .unset, .unset] [(.long (own_st (own_st (own_st (own_st (0 : Int64) (own_byte q0 (24 : Int32))) (own_byte q0 (16 : Int32))) (own_byte q0 (8 : Int32))) (own_byte q0 (0 : Int32))))])) _
    refine XS.aload X11.here hx rfl (hb hby at_100) rfl rfl ?_
    show Steps p.tables e below (T11.setTop (mkF m 102 #[.val (.long q0), .second, .val (.int p1), .val (.int (4 : Int32)), .val (.ref b3), .val (.long (own_st (own_st (own_st (own_st (0 : Int64) (own_byte q0 (24 : Int32))) (own_byte q0 (16 : Int32))) (own_byte q0 (8 : Int32))) (own_byte q0 (0 : Int32)))), .second, .unset, .unset] [(.ref b3), (.long (own_st (own_st (own_st (own_st (0 : Int64) (own_byte q0 (24 : Int32))) (own_byte q0 (16 : Int32))) (own_byte q0 (8 : Int32))) (own_byte q0 (0 : Int32))))])) _
    refine XS.bipush X11.here hx rfl (hb hby at_102) ?_
    show Steps p.tables e below (T11.setTop (mkF m 104 #[.val (.long q0), .second, .val (.int p1), .val (.int (4 : Int32)), .val (.ref b3), .val (.long (own_st (own_st (own_st (own_st (0 : Int64) (own_byte q0 (24 : Int32))) (own_byte q0 (16 : Int32))) (own_byte q0 (8 : Int32))) (own_byte q0 (0 : Int32)))), .second, .unset, .unset] [(.int (7 : Int32)), (.ref b3), (.long (own_st (own_st (own_st (own_st (0 : Int64) (own_byte q0 (24 : Int32))) (own_byte q0 (16 : Int32))) (own_byte q0 (8 : Int32))) (own_byte q0 (0 : Int32))))])) _
    refine st12 _ ?_
    show Steps p.tables e below (T12.setTop (mkF m 107 #[.val (.long q0), .second, .val (.int p1), .val (.int (4 : Int32)), .val (.ref b3), .val (.long (own_st (own_st (own_st (own_st (0 : Int64) (own_byte q0 (24 : Int32))) (own_byte q0 (16 : Int32))) (own_byte q0 (8 : Int32))) (own_byte q0 (0 : Int32)))), .second, .unset, .unset] [(.long (own_st (own_st (own_st (own_st (0 : Int64) (own_byte q0 (24 : Int32))) (own_byte q0 (16 : Int32))) (own_byte q0 (8 : Int32))) (own_byte q0 (0 : Int32))))])) _
    refine XS.lstore X12.here hx rfl (hb hby at_107) rfl (l' := #[.val (.long q0), .second, .val (.int p1), .val (.int (4 : Int32)), .val (.ref b3), .val (.long (own_st (own_st (own_st (own_st (0 : Int64) (own_byte q0 (24 : Int32))) (own_byte q0 (16 : Int32))) (own_byte q0 (8 : Int32))) (own_byte q0 (0 : Int32)))), .second, .unset, .unset]) rfl ?_
    show Steps p.tables e below (T12.setTop (mkF m 109 #[.val (.long q0), .second, .val (.int p1), .val (.int (4 : Int32)), .val (.ref b3), .val (.long (own_st (own_st (own_st (own_st (0 : Int64) (own_byte q0 (24 : Int32))) (own_byte q0 (16 : Int32))) (own_byte q0 (8 : Int32))) (own_byte q0 (0 : Int32)))), .second, .unset, .unset] [])) _
    refine XS.iloadN X12.here hx rfl (hb hby at_109) rfl ?_
    show Steps p.tables e below (T12.setTop (mkF m 110 #[.val (.long q0), .second, .val (.int p1), .val (.int (4 : Int32)), .val (.ref b3), .val (.long (own_st (own_st (own_st (own_st (0 : Int64) (own_byte q0 (24 : Int32))) (own_byte q0 (16 : Int32))) (own_byte q0 (8 : Int32))) (own_byte q0 (0 : Int32)))), .second, .unset, .unset] [(.int (4 : Int32))])) _
    refine XS.bipush X12.here hx rfl (hb hby at_110) ?_
    show Steps p.tables e below (T12.setTop (mkF m 112 #[.val (.long q0), .second, .val (.int p1), .val (.int (4 : Int32)), .val (.ref b3), .val (.long (own_st (own_st (own_st (own_st (0 : Int64) (own_byte q0 (24 : Int32))) (own_byte q0 (16 : Int32))) (own_byte q0 (8 : Int32))) (own_byte q0 (0 : Int32)))), .second, .unset, .unset] [(.int (8 : Int32)), (.int (4 : Int32))])) _
    refine XS.icmpYes X12.here hx rfl (pc0 := 112) (pc' := 121) rfl (hb hby at_112) rfl (feq (by decide : ¬ ((4 : Int32) = (8 : Int32)))).2 (by decide) (by decide) ?_
    show Steps p.tables e below (T12.setTop (mkF m 121 #[.val (.long q0), .second, .val (.int p1), .val (.int (4 : Int32)), .val (.ref b3), .val (.long (own_st (own_st (own_st (own_st (0 : Int64) (own_byte q0 (24 : Int32))) (own_byte q0 (16 : Int32))) (own_byte q0 (8 : Int32))) (own_byte q0 (0 : Int32)))), .second, .unset, .unset] [])) _
    refine XS.lloadN X12.here hx rfl (hb hby at_121) rfl ?_
    show Steps p.tables e below (T12.setTop (mkF m 122 #[.val (.long q0), .second, .val (.int p1), .val (.int (4 : Int32)), .val (.ref b3), .val (.long (own_st (own_st (own_st (own_st (0 : Int64) (own_byte q0 (24 : Int32))) (own_byte q0 (16 : Int32))) (own_byte q0 (8 : Int32))) (own_byte q0 (0 : Int32)))), .second, .unset, .unset] [(.long q0)])) _
    refine XS.lconst X12.here hx rfl (hb hby at_122) ?_
    show Steps p.tables e below (T12.setTop (mkF m 123 #[.val (.long q0), .second, .val (.int p1), .val (.int (4 : Int32)), .val (.ref b3), .val (.long (own_st (own_st (own_st (own_st (0 : Int64) (own_byte q0 (24 : Int32))) (own_byte q0 (16 : Int32))) (own_byte q0 (8 : Int32))) (own_byte q0 (0 : Int32)))), .second, .unset, .unset] [(.long (1 : Int64)), (.long q0)])) _
    refine XS.bipush X12.here hx rfl (hb hby at_123) ?_
    show Steps p.tables e below (T12.setTop (mkF m 125 #[.val (.long q0), .second, .val (.int p1), .val (.int (4 : Int32)), .val (.ref b3), .val (.long (own_st (own_st (own_st (own_st (0 : Int64) (own_byte q0 (24 : Int32))) (own_byte q0 (16 : Int32))) (own_byte q0 (8 : Int32))) (own_byte q0 (0 : Int32)))), .second, .unset, .unset] [(.int (8 : Int32)), (.long (1 : Int64)), (.long q0)])) _
    refine XS.iloadN X12.here hx rfl (hb hby at_125) rfl ?_
    show Steps p.tables e below (T12.setTop (mkF m 126 #[.val (.long q0), .second, .val (.int p1), .val (.int (4 : Int32)), .val (.ref b3), .val (.long (own_st (own_st (own_st (own_st (0 : Int64) (own_byte q0 (24 : Int32))) (own_byte q0 (16 : Int32))) (own_byte q0 (8 : Int32))) (own_byte q0 (0 : Int32)))), .second, .unset, .unset] [(.int (4 : Int32)), (.int (8 : Int32)), (.long (1 : Int64)), (.long q0)])) _
    refine XS.imul X12.here hx rfl (hb hby at_126) rfl ?_
    show Steps p.tables e below (T12.setTop (mkF m 127 #[.val (.long q0), .second, .val (.int p1), .val (.int (4 : Int32)), .val (.ref b3), .val (.long (own_st (own_st (own_st (own_st (0 : Int64) (own_byte q0 (24 : Int32))) (own_byte q0 (16 : Int32))) (own_byte q0 (8 : Int32))) (own_byte q0 (0 : Int32)))), .second, .unset, .unset] [(.int (32 : Int32)), (.long (1 : Int64)), (.long q0)])) _
    refine XS.lshl X12.here hx rfl (hb hby at_127) rfl ?_
    show Steps p.tables e below (T12.setTop (mkF m 128 #[.val (.long q0), .second, .val (.int p1), .val (.int (4 : Int32)), .val (.ref b3), .val (.long (own_st (own_st (own_st (own_st (0 : Int64) (own_byte q0 (24 : Int32))) (own_byte q0 (16 : Int32))) (own_byte q0 (8 : Int32))) (own_byte q0 (0 : Int32)))), .second, .unset, .unset] [(.long ((1 : Int64) <<< ((32 : Int32) &&& 0x3f).toInt64)), (.long q0)])) _
    refine XS.lconst X12.here hx rfl (hb hby at_128) ?_
    show Steps p.tables e below (T12.setTop (mkF m 129 #[.val (.long q0), .second, .val (.int p1), .val (.int (4 : Int32)), .val (.ref b3), .val (.long (own_st (own_st (own_st (own_st (0 : Int64) (own_byte q0 (24 : Int32))) (own_byte q0 (16 : Int32))) (own_byte q0 (8 : Int32))) (own_byte q0 (0 : Int32)))), .second, .unset, .unset] [(.long (1 : Int64)), (.long ((1 : Int64) <<< ((32 : Int32) &&& 0x3f).toInt64)), (.long q0)])) _
    refine XS.lsub X12.here hx rfl (hb hby at_129) rfl ?_
    show Steps p.tables e below (T12.setTop (mkF m 130 #[.val (.long q0), .second, .val (.int p1), .val (.int (4 : Int32)), .val (.ref b3), .val (.long (own_st (own_st (own_st (own_st (0 : Int64) (own_byte q0 (24 : Int32))) (own_byte q0 (16 : Int32))) (own_byte q0 (8 : Int32))) (own_byte q0 (0 : Int32)))), .second, .unset, .unset] [(.long (((1 : Int64) <<< ((32 : Int32) &&& 0x3f).toInt64) - (1 : Int64))), (.long q0)])) _
    refine XS.land X12.here hx rfl (hb hby at_130) rfl ?_
    show Steps p.tables e below (T12.setTop (mkF m 131 #[.val (.long q0), .second, .val (.int p1), .val (.int (4 : Int32)), .val (.ref b3), .val (.long (own_st (own_st (own_st (own_st (0 : Int64) (own_byte q0 (24 : Int32))) (own_byte q0 (16 : Int32))) (own_byte q0 (8 : Int32))) (own_byte q0 (0 : Int32)))), .second, .unset, .unset] [(.long (q0 &&& (((1 : Int64) <<< ((32 : Int32) &&& 0x3f).toInt64) - (1 : Int64))))])) _
    refine XS.lstore X12.here hx rfl (hb hby at_131) rfl (l' := #[.val (.long q0), .second, .val (.int p1), .val (.int (4 : Int32)), .val (.ref b3), .val (.long (own_st (own_st (own_st (own_st (0 : Int64) (own_byte q0 (24 : Int32))) (own_byte q0 (16 : Int32))) (own_byte q0 (8 : Int32))) (own_byte q0 (0 : Int32)))), .second, .val (.long (q0 &&& (((1 : Int64) <<< ((32 : Int32) &&& 0x3f).toInt64) - (1 : Int64)))), .second]) rfl ?_
    show Steps p.tables e below (T12.setTop (mkF m 133 #[.val (.long q0), .second, .val (.int p1), .val (.int (4 : Int32)), .val (.ref b3), .val (.long (own_st (own_st (own_st (own_st (0 : Int64) (own_byte q0 (24 : Int32))) (own_byte q0 (16 : Int32))) (own_byte q0 (8 : Int32))) (own_byte q0 (0 : Int32)))), .second, .val (.long (q0 &&& (((1 : Int64) <<< ((32 : Int32) &&& 0x3f).toInt64) - (1 : Int64)))), .second] [])) _
    refine XS.lload X12.here hx rfl (hb hby at_133) rfl ?_
    show Steps p.tables e below (T12.setTop (mkF m 135 #[.val (.long q0), .second, .val (.int p1), .val (.int (4 : Int32)), .val (.ref b3), .val (.long (own_st (own_st (own_st (own_st (0 : Int64) (own_byte q0 (24 : Int32))) (own_byte q0 (16 : Int32))) (own_byte q0 (8 : Int32))) (own_byte q0 (0 : Int32)))), .second, .val (.long (q0 &&& (((1 : Int64) <<< ((32 : Int32) &&& 0x3f).toInt64) - (1 : Int64)))), .second] [(.long (own_st (own_st (own_st (own_st (0 : Int64) (own_byte q0 (24 : Int32))) (own_byte q0 (16 : Int32))) (own_byte q0 (8 : Int32))) (own_byte q0 (0 : Int32))))])) _
    refine XS.lload X12.here hx rfl (hb hby at_135) rfl ?_
    show Steps p.tables e below (T12.setTop (mkF m 137 #[.val (.long q0), .second, .val (.int p1), .val (.int (4 : Int32)), .val (.ref b3), .val (.long (own_st (own_st (own_st (own_st (0 : Int64) (own_byte q0 (24 : Int32))) (own_byte q0 (16 : Int32))) (own_byte q0 (8 : Int32))) (own_byte q0 (0 : Int32)))), .second, .val (.long (q0 &&& (((1 : Int64) <<< ((32 : Int32) &&& 0x3f).toInt64) - (1 : Int64)))), .second] [(.long (q0 &&& (((1 : Int64) <<< ((32 : Int32) &&& 0x3f).toInt64) - (1 : Int64)))), (.long (own_st (own_st (own_st (own_st (0 : Int64) (own_byte q0 (24 : Int32))) (own_byte q0 (16 : Int32))) (own_byte q0 (8 : Int32))) (own_byte q0 (0 : Int32))))])) _
    refine XS.lcmp X12.here hx rfl (hb hby at_137) rfl ?_
    show Steps p.tables e below (T12.setTop (mkF m 138 #[.val (.long q0), .second, .val (.int p1), .val (.int (4 : Int32)), .val (.ref b3), .val (.long (own_st (own_st (own_st (own_st (0 : Int64) (own_byte q0 (24 : Int32))) (own_byte q0 (16 : Int32))) (own_byte q0 (8 : Int32))) (own_byte q0 (0 : Int32)))), .second, .val (.long (q0 &&& (((1 : Int64) <<< ((32 : Int32) &&& 0x3f).toInt64) - (1 : Int64)))), .second] [(.int (lcmpW (own_st (own_st (own_st (own_st (0 : Int64) (own_byte q0 (24 : Int32))) (own_byte q0 (16 : Int32))) (own_byte q0 (8 : Int32))) (own_byte q0 (0 : Int32))) (q0 &&& (((1 : Int64) <<< ((32 : Int32) &&& 0x3f).toInt64) - (1 : Int64)))))])) _
    refine XS.ifNo X12.here hx rfl (hb hby at_138) rfl ((if0 _ _).trans (teq ((lw_eq _ _).mpr (own_fin4 q0))).2) ?_
    show Steps p.tables e below (T12.setTop (mkF m 141 #[.val (.long q0), .second, .val (.int p1), .val (.int (4 : Int32)), .val (.ref b3), .val (.long (own_st (own_st (own_st (own_st (0 : Int64) (own_byte q0 (24 : Int32))) (own_byte q0 (16 : Int32))) (own_byte q0 (8 : Int32))) (own_byte q0 (0 : Int32)))), .second, .val (.long (q0 &&& (((1 : Int64) <<< ((32 : Int32) &&& 0x3f).toInt64) - (1 : Int64)))), .second] [])) _
    refine XS.iconst X12.here hx rfl (hb hby at_141) ?_
    show Steps p.tables e below (T12.setTop (mkF m 142 #[.val (.long q0), .second, .val (.int p1), .val (.int (4 : Int32)), .val (.ref b3), .val (.long (own_st (own_st (own_st (own_st (0 : Int64) (own_byte q0 (24 : Int32))) (own_byte q0 (16 : Int32))) (own_byte q0 (8 : Int32))) (own_byte q0 (0 : Int32)))), .second, .val (.long (q0 &&& (((1 : Int64) <<< ((32 : Int32) &&& 0x3f).toInt64) - (1 : Int64)))), .second] [(.int (1 : Int32))])) _
    refine XS.goto X12.here hx rfl (pc0 := 142) (pc' := 146) rfl (hb hby at_142) (by decide) (by decide) ?_
    show Steps p.tables e below (T12.setTop (mkF m 146 #[.val (.long q0), .second, .val (.int p1), .val (.int (4 : Int32)), .val (.ref b3), .val (.long (own_st (own_st (own_st (own_st (0 : Int64) (own_byte q0 (24 : Int32))) (own_byte q0 (16 : Int32))) (own_byte q0 (8 : Int32))) (own_byte q0 (0 : Int32)))), .second, .val (.long (q0 &&& (((1 : Int64) <<< ((32 : Int32) &&& 0x3f).toInt64) - (1 : Int64)))), .second] [(.int (1 : Int32))])) _
    exact retN X12 hx (t := .boolean) Bd.returns (by simp) (hb hby at_146) hr
  · show Q0_4 Z q0 p1 h0 n0 _ T12.heap _
    rw [e12q]
    exact ⟨rfl, N12⟩
theorem ef_rm0_5 (m : MethodId) (q0 : Int64) (p1 : Int32) : entryFrame m #[(.long q0), (.int p1)] maxLocals = mkF m 0 #[.val (.long q0), .second, .val (.int p1), .unset, .unset, .unset, .unset, .unset, .unset] [] := by first | (simp [entryFrame, mkF, argsToLocals, Value.category, maxLocals]; done) | rfl
def Q0_5 (Z : State) (q0 : Int64) (p1 : Int32) (h0 : Heap) (n0 : Nat) (v : Option Value) (h : Heap) (L : List Loc) : Prop := v = some (.int (1 : Int32)) ∧ Fr n0 L
set_option maxRecDepth 65536 in
set_option maxHeartbeats 40000000 in
theorem rm0_5 (l : Launch) (Z : State) (a0 : Array Value) (hw : ∀ d ∈ tables_1, d.before a0 Z = true) (ws : List Jvm.Cond) (q0 : Int64) (p1 : Int32) (h0 : Heap) (n0 : Nat) (Z0 : n0 ≤ h0.size) (hwid : ((p1 &&& (2147483647 : Int32)) % (9 : Int32)) = (5 : Int32)) :
    MetFree l x (head1 (Jvm.Cond.code x code maxLocals ret :: ws) room_1) (fun a U => a = #[(.long q0), (.int p1)] ∧ Z.Warmed39 U.vm ∧ U.heap = h0) (fun _ _ _ _ _ => True) (fun _ U o U' => ∃ v L, o = .returned v ∧ Q0_5 Z q0 p1 h0 n0 v U'.heap L ∧ FrameEnd U o U' L room_1.cells room_1.slots) := by
  refine MetFree.of_bodySF (plainFor_of_name pn_1) hisR ?_
  intro p e s m args below meth c s₁ Bd hml0 hP hK
  obtain ⟨rfl, hZ, hh⟩ := hP
  have hx := Bd.exec
  have hby := Bd.bytes
  have hml : c.maxLocals = 9 := hml0
  have hown : s.vm.findClass "shale/ValueTypeBigEndianPinLaw" = some m.cls := findClass_of_methodNamed Bd.named
  have hnm := (name_of_methodNamed Bd.named Bd.method).1
  have X0 : Stand p l e room_1 s m #[(.long q0), (.int p1)] below meth c s₁ [] 0 0 := Stand.of_body Bd
  have e0 : s₁.heap = h0 := by rw [← hh, Bd.state]; rfl
  have N0 := Fr.nil n0
  have pre0 : ∀ t, Steps p.tables e below (s₁.setTop (mkF m 0 #[.val (.long q0), .second, .val (.int p1), .unset, .unset, .unset, .unset, .unset, .unset] [])) t → Steps p.tables e below (s₁.setTop (entryFrame m #[(.long q0), (.int p1)] maxLocals)) t := fun t k => castTop (ef_rm0_5 m q0 p1) k
  obtain ⟨wd, hm1, pre2⟩ : ∃ (wd : Int32), (wd = (5 : Int32)) ∧ ∀ t, Steps p.tables e below (s₁.setTop (mkF m 7 #[.val (.long q0), .second, .val (.int p1), .unset, .unset, .unset, .unset, .unset, .unset] [(.int wd)])) t → Steps p.tables e below (s₁.setTop (entryFrame m #[(.long q0), (.int p1)] maxLocals)) t := by
    refine ⟨((p1 &&& (2147483647 : Int32)) % (9 : Int32)), hwid, fun t kt => ?_⟩
    refine pre0 _ ?_
    show Steps p.tables e below (s₁.setTop (mkF m 0 #[.val (.long q0), .second, .val (.int p1), .unset, .unset, .unset, .unset, .unset, .unset] [])) _
    refine XS.iloadN X0.here hx rfl (hb hby at_0) rfl ?_
    show Steps p.tables e below (s₁.setTop (mkF m 1 #[.val (.long q0), .second, .val (.int p1), .unset, .unset, .unset, .unset, .unset, .unset] [(.int p1)])) _
    refine X0.ldcInt hx hown (mvT hZ (hw _ (List.mem_of_getElem? (i := 0) rfl))) (g := (mkF m 1 #[.val (.long q0), .second, .val (.int p1), .unset, .unset, .unset, .unset, .unset, .unset] [(.int p1)])) rfl (hb hby at_1) _ ?_
    show Steps p.tables e below (s₁.setTop (mkF m 3 #[.val (.long q0), .second, .val (.int p1), .unset, .unset, .unset, .unset, .unset, .unset] [(.int (2147483647 : Int32)), (.int p1)])) _
    refine XS.iand X0.here hx rfl (hb hby at_3) rfl ?_
    show Steps p.tables e below (s₁.setTop (mkF m 4 #[.val (.long q0), .second, .val (.int p1), .unset, .unset, .unset, .unset, .unset, .unset] [(.int (p1 &&& (2147483647 : Int32)))])) _
    refine XS.bipush X0.here hx rfl (hb hby at_4) ?_
    show Steps p.tables e below (s₁.setTop (mkF m 6 #[.val (.long q0), .second, .val (.int p1), .unset, .unset, .unset, .unset, .unset, .unset] [(.int (9 : Int32)), (.int (p1 &&& (2147483647 : Int32)))])) _
    refine iremM X0 hx rfl (hb hby at_6) rfl (by decide) ?_
    exact kt
  subst hm1
  obtain ⟨_, _, ⟨T3, L3, k3, n3⟩, -, X3, ⟨Lc3, hQ3, l3, y3, z3⟩, st3⟩ := Jvm.LawKit.callS X0 hx (y := (⟨"shale/ValueType", "bigEndian", "(JI)[B"⟩ : MethodName)) hown (mvT hZ (hw _ (List.mem_of_getElem? (i := 1) rfl))) (mvT hZ (hw _ (List.mem_of_getElem? (i := 2) rfl))) (mvT hZ (hw _ (List.mem_of_getElem? (i := 3) rfl))) (mvT hZ (hw _ (List.mem_of_getElem? (i := 4) rfl))) (by decide) (backOf (W := 0) (rmb5 l Z a0 hw [] q0 h0 n0 Z0 ) hZ (hw _ (List.mem_of_getElem? (i := 4) rfl)) (hw _ (List.mem_of_getElem? (i := 3) rfl)) (by decide) (by decide)) (g := (mkF m 10 #[.val (.long q0), .second, .val (.int p1), .val (.int (5 : Int32)), .unset, .unset, .unset, .unset, .unset] [(.int (5 : Int32)), (.long q0)])) rfl (by rw [hml]; rfl) (argsL := [(.long q0), (.int (5 : Int32))]) (rest := []) (lenOf pd_0 rfl) rfl (by show 2 * 0 + _ ≤ _; exact Nat.le_of_eq rfl) (hb hby at_10) (fun _ _ => ⟨rfl, e0, (by decide : 0 + 1 ≤ _), (by decide : 0 + 5 ≤ _)⟩)
  dsimp only [Pt.U, Pt.locs, Pt.cells, Pt.slots] at X3 l3 y3 z3 st3 hQ3
  subst l3 y3 z3
  obtain ⟨b3, kk3, rfl, N3q, K3, V3⟩ := hQ3
  have N3 := Fr.app N0 N3q
  have Z4 : n0 ≤ T3.heap.size := Nat.le_trans Z0 K3.1
  obtain ⟨cl3, Ar3, -, Sa3, Ma3, Ha3, -⟩ := V3
  obtain ⟨_, _, ⟨T5, L5, k5, n5⟩, -, X5, ⟨Lc5, hQ5, l5, y5, z5⟩, st5⟩ := Jvm.LawKit.callS X3 hx (y := (⟨"shale/ValueTypeBigEndianPinLaw", "step", "(J[BI)J"⟩ : MethodName)) hown (mvT hZ (hw _ (List.mem_of_getElem? (i := 6) rfl))) (mvT hZ (hw _ (List.mem_of_getElem? (i := 7) rfl))) (mvT hZ (hw _ (List.mem_of_getElem? (i := 8) rfl))) (mvT hZ (hw _ (List.mem_of_getElem? (i := 9) rfl))) (by decide) (backOf (W := 0) (rmsi l Z a0 hw [] (0 : Int64) b3 (0 : Int32) cl3 (5 : Int32) (own_byte q0 (32 : Int32)) T3.heap n0 Z4 Ar3 Sa3 Ma3 (by decide) (inb_of Sa3 ⟨by decide, by decide⟩) (Ha3 0 (by rw [Sa3]; decide))) hZ (hw _ (List.mem_of_getElem? (i := 9) rfl)) (hw _ (List.mem_of_getElem? (i := 8) rfl)) (by decide) (by decide)) (g := (mkF m 32 #[.val (.long q0), .second, .val (.int p1), .val (.int (5 : Int32)), .val (.ref b3), .val (.long (0 : Int64)), .second, .unset, .unset] [(.int (0 : Int32)), (.ref b3), (.long (0 : Int64))])) rfl (by rw [hml]; rfl) (argsL := [(.long (0 : Int64)), (.ref b3), (.int (0 : Int32))]) (rest := []) (lenOf pd_1 rfl) rfl (by show 2 * 0 + _ ≤ _; exact Nat.le_of_eq rfl) (hb hby at_32) (fun _ _ => ⟨rfl, rfl, (by decide : 1 + 0 ≤ _), (by decide : 5 + 0 ≤ _)⟩)
  dsimp only [Pt.U, Pt.locs, Pt.cells, Pt.slots] at X5 l5 y5 z5 st5 hQ5
  subst l5 y5 z5
  obtain ⟨rfl, N5q, e5q⟩ := hQ5
  have N5 := Fr.app N3 N5q
  obtain ⟨_, _, ⟨T6, L6, k6, n6⟩, -, X6, ⟨Lc6, hQ6, l6, y6, z6⟩, st6⟩ := Jvm.LawKit.callS X5 hx (y := (⟨"shale/ValueTypeBigEndianPinLaw", "step", "(J[BI)J"⟩ : MethodName)) hown (mvT hZ (hw _ (List.mem_of_getElem? (i := 6) rfl))) (mvT hZ (hw _ (List.mem_of_getElem? (i := 7) rfl))) (mvT hZ (hw _ (List.mem_of_getElem? (i := 8) rfl))) (mvT hZ (hw _ (List.mem_of_getElem? (i := 9) rfl))) (by decide) (backOf (W := 0) (rmsi l Z a0 hw [] (own_st (0 : Int64) (own_byte q0 (32 : Int32))) b3 (1 : Int32) cl3 (5 : Int32) (own_byte q0 (24 : Int32)) T3.heap n0 Z4 Ar3 Sa3 Ma3 (by decide) (inb_of Sa3 ⟨by decide, by decide⟩) (Ha3 1 (by rw [Sa3]; decide))) hZ (hw _ (List.mem_of_getElem? (i := 9) rfl)) (hw _ (List.mem_of_getElem? (i := 8) rfl)) (by decide) (by decide)) (g := (mkF m 42 #[.val (.long q0), .second, .val (.int p1), .val (.int (5 : Int32)), .val (.ref b3), .val (.long (own_st (0 : Int64) (own_byte q0 (32 : Int32)))), .second, .unset, .unset] [(.int (1 : Int32)), (.ref b3), (.long (own_st (0 : Int64) (own_byte q0 (32 : Int32))))])) rfl (by rw [hml]; rfl) (argsL := [(.long (own_st (0 : Int64) (own_byte q0 (32 : Int32)))), (.ref b3), (.int (1 : Int32))]) (rest := []) (lenOf pd_1 rfl) rfl (by show 2 * 0 + _ ≤ _; exact Nat.le_of_eq rfl) (hb hby at_42) (fun _ _ => ⟨rfl, e5q, (by decide : 1 + 0 ≤ _), (by decide : 5 + 0 ≤ _)⟩)
  dsimp only [Pt.U, Pt.locs, Pt.cells, Pt.slots] at X6 l6 y6 z6 st6 hQ6
  subst l6 y6 z6
  obtain ⟨rfl, N6q, e6q⟩ := hQ6
  have N6 := Fr.app N5 N6q
  obtain ⟨_, _, ⟨T7, L7, k7, n7⟩, -, X7, ⟨Lc7, hQ7, l7, y7, z7⟩, st7⟩ := Jvm.LawKit.callS X6 hx (y := (⟨"shale/ValueTypeBigEndianPinLaw", "step", "(J[BI)J"⟩ : MethodName)) hown (mvT hZ (hw _ (List.mem_of_getElem? (i := 6) rfl))) (mvT hZ (hw _ (List.mem_of_getElem? (i := 7) rfl))) (mvT hZ (hw _ (List.mem_of_getElem? (i := 8) rfl))) (mvT hZ (hw _ (List.mem_of_getElem? (i := 9) rfl))) (by decide) (backOf (W := 0) (rmsi l Z a0 hw [] (own_st (own_st (0 : Int64) (own_byte q0 (32 : Int32))) (own_byte q0 (24 : Int32))) b3 (2 : Int32) cl3 (5 : Int32) (own_byte q0 (16 : Int32)) T3.heap n0 Z4 Ar3 Sa3 Ma3 (by decide) (inb_of Sa3 ⟨by decide, by decide⟩) (Ha3 2 (by rw [Sa3]; decide))) hZ (hw _ (List.mem_of_getElem? (i := 9) rfl)) (hw _ (List.mem_of_getElem? (i := 8) rfl)) (by decide) (by decide)) (g := (mkF m 52 #[.val (.long q0), .second, .val (.int p1), .val (.int (5 : Int32)), .val (.ref b3), .val (.long (own_st (own_st (0 : Int64) (own_byte q0 (32 : Int32))) (own_byte q0 (24 : Int32)))), .second, .unset, .unset] [(.int (2 : Int32)), (.ref b3), (.long (own_st (own_st (0 : Int64) (own_byte q0 (32 : Int32))) (own_byte q0 (24 : Int32))))])) rfl (by rw [hml]; rfl) (argsL := [(.long (own_st (own_st (0 : Int64) (own_byte q0 (32 : Int32))) (own_byte q0 (24 : Int32)))), (.ref b3), (.int (2 : Int32))]) (rest := []) (lenOf pd_1 rfl) rfl (by show 2 * 0 + _ ≤ _; exact Nat.le_of_eq rfl) (hb hby at_52) (fun _ _ => ⟨rfl, e6q, (by decide : 1 + 0 ≤ _), (by decide : 5 + 0 ≤ _)⟩)
  dsimp only [Pt.U, Pt.locs, Pt.cells, Pt.slots] at X7 l7 y7 z7 st7 hQ7
  subst l7 y7 z7
  obtain ⟨rfl, N7q, e7q⟩ := hQ7
  have N7 := Fr.app N6 N7q
  obtain ⟨_, _, ⟨T8, L8, k8, n8⟩, -, X8, ⟨Lc8, hQ8, l8, y8, z8⟩, st8⟩ := Jvm.LawKit.callS X7 hx (y := (⟨"shale/ValueTypeBigEndianPinLaw", "step", "(J[BI)J"⟩ : MethodName)) hown (mvT hZ (hw _ (List.mem_of_getElem? (i := 6) rfl))) (mvT hZ (hw _ (List.mem_of_getElem? (i := 7) rfl))) (mvT hZ (hw _ (List.mem_of_getElem? (i := 8) rfl))) (mvT hZ (hw _ (List.mem_of_getElem? (i := 9) rfl))) (by decide) (backOf (W := 0) (rmsi l Z a0 hw [] (own_st (own_st (own_st (0 : Int64) (own_byte q0 (32 : Int32))) (own_byte q0 (24 : Int32))) (own_byte q0 (16 : Int32))) b3 (3 : Int32) cl3 (5 : Int32) (own_byte q0 (8 : Int32)) T3.heap n0 Z4 Ar3 Sa3 Ma3 (by decide) (inb_of Sa3 ⟨by decide, by decide⟩) (Ha3 3 (by rw [Sa3]; decide))) hZ (hw _ (List.mem_of_getElem? (i := 9) rfl)) (hw _ (List.mem_of_getElem? (i := 8) rfl)) (by decide) (by decide)) (g := (mkF m 62 #[.val (.long q0), .second, .val (.int p1), .val (.int (5 : Int32)), .val (.ref b3), .val (.long (own_st (own_st (own_st (0 : Int64) (own_byte q0 (32 : Int32))) (own_byte q0 (24 : Int32))) (own_byte q0 (16 : Int32)))), .second, .unset, .unset] [(.int (3 : Int32)), (.ref b3), (.long (own_st (own_st (own_st (0 : Int64) (own_byte q0 (32 : Int32))) (own_byte q0 (24 : Int32))) (own_byte q0 (16 : Int32))))])) rfl (by rw [hml]; rfl) (argsL := [(.long (own_st (own_st (own_st (0 : Int64) (own_byte q0 (32 : Int32))) (own_byte q0 (24 : Int32))) (own_byte q0 (16 : Int32)))), (.ref b3), (.int (3 : Int32))]) (rest := []) (lenOf pd_1 rfl) rfl (by show 2 * 0 + _ ≤ _; exact Nat.le_of_eq rfl) (hb hby at_62) (fun _ _ => ⟨rfl, e7q, (by decide : 1 + 0 ≤ _), (by decide : 5 + 0 ≤ _)⟩)
  dsimp only [Pt.U, Pt.locs, Pt.cells, Pt.slots] at X8 l8 y8 z8 st8 hQ8
  subst l8 y8 z8
  obtain ⟨rfl, N8q, e8q⟩ := hQ8
  have N8 := Fr.app N7 N8q
  obtain ⟨_, _, ⟨T9, L9, k9, n9⟩, -, X9, ⟨Lc9, hQ9, l9, y9, z9⟩, st9⟩ := Jvm.LawKit.callS X8 hx (y := (⟨"shale/ValueTypeBigEndianPinLaw", "step", "(J[BI)J"⟩ : MethodName)) hown (mvT hZ (hw _ (List.mem_of_getElem? (i := 6) rfl))) (mvT hZ (hw _ (List.mem_of_getElem? (i := 7) rfl))) (mvT hZ (hw _ (List.mem_of_getElem? (i := 8) rfl))) (mvT hZ (hw _ (List.mem_of_getElem? (i := 9) rfl))) (by decide) (backOf (W := 0) (rmsi l Z a0 hw [] (own_st (own_st (own_st (own_st (0 : Int64) (own_byte q0 (32 : Int32))) (own_byte q0 (24 : Int32))) (own_byte q0 (16 : Int32))) (own_byte q0 (8 : Int32))) b3 (4 : Int32) cl3 (5 : Int32) (own_byte q0 (0 : Int32)) T3.heap n0 Z4 Ar3 Sa3 Ma3 (by decide) (inb_of Sa3 ⟨by decide, by decide⟩) (Ha3 4 (by rw [Sa3]; decide))) hZ (hw _ (List.mem_of_getElem? (i := 9) rfl)) (hw _ (List.mem_of_getElem? (i := 8) rfl)) (by decide) (by decide)) (g := (mkF m 72 #[.val (.long q0), .second, .val (.int p1), .val (.int (5 : Int32)), .val (.ref b3), .val (.long (own_st (own_st (own_st (own_st (0 : Int64) (own_byte q0 (32 : Int32))) (own_byte q0 (24 : Int32))) (own_byte q0 (16 : Int32))) (own_byte q0 (8 : Int32)))), .second, .unset, .unset] [(.int (4 : Int32)), (.ref b3), (.long (own_st (own_st (own_st (own_st (0 : Int64) (own_byte q0 (32 : Int32))) (own_byte q0 (24 : Int32))) (own_byte q0 (16 : Int32))) (own_byte q0 (8 : Int32))))])) rfl (by rw [hml]; rfl) (argsL := [(.long (own_st (own_st (own_st (own_st (0 : Int64) (own_byte q0 (32 : Int32))) (own_byte q0 (24 : Int32))) (own_byte q0 (16 : Int32))) (own_byte q0 (8 : Int32)))), (.ref b3), (.int (4 : Int32))]) (rest := []) (lenOf pd_1 rfl) rfl (by show 2 * 0 + _ ≤ _; exact Nat.le_of_eq rfl) (hb hby at_72) (fun _ _ => ⟨rfl, e8q, (by decide : 1 + 0 ≤ _), (by decide : 5 + 0 ≤ _)⟩)
  dsimp only [Pt.U, Pt.locs, Pt.cells, Pt.slots] at X9 l9 y9 z9 st9 hQ9
  subst l9 y9 z9
  obtain ⟨rfl, N9q, e9q⟩ := hQ9
  have N9 := Fr.app N8 N9q
  obtain ⟨_, _, ⟨T10, L10, k10, n10⟩, -, X10, ⟨Lc10, hQ10, l10, y10, z10⟩, st10⟩ := Jvm.LawKit.callS X9 hx (y := (⟨"shale/ValueTypeBigEndianPinLaw", "step", "(J[BI)J"⟩ : MethodName)) hown (mvT hZ (hw _ (List.mem_of_getElem? (i := 6) rfl))) (mvT hZ (hw _ (List.mem_of_getElem? (i := 7) rfl))) (mvT hZ (hw _ (List.mem_of_getElem? (i := 8) rfl))) (mvT hZ (hw _ (List.mem_of_getElem? (i := 9) rfl))) (by decide) (backOf (W := 0) (rmso l Z a0 hw [] (own_st (own_st (own_st (own_st (own_st (0 : Int64) (own_byte q0 (32 : Int32))) (own_byte q0 (24 : Int32))) (own_byte q0 (16 : Int32))) (own_byte q0 (8 : Int32))) (own_byte q0 (0 : Int32))) b3 (5 : Int32) cl3 (5 : Int32) T3.heap n0 Z4 Ar3 Sa3 Ma3 (by decide)) hZ (hw _ (List.mem_of_getElem? (i := 9) rfl)) (hw _ (List.mem_of_getElem? (i := 8) rfl)) (by decide) (by decide)) (g := (mkF m 82 #[.val (.long q0), .second, .val (.int p1), .val (.int (5 : Int32)), .val (.ref b3), .val (.long (own_st (own_st (own_st (own_st (own_st (0 : Int64) (own_byte q0 (32 : Int32))) (own_byte q0 (24 : Int32))) (own_byte q0 (16 : Int32))) (own_byte q0 (8 : Int32))) (own_byte q0 (0 : Int32)))), .second, .unset, .unset] [(.int (5 : Int32)), (.ref b3), (.long (own_st (own_st (own_st (own_st (own_st (0 : Int64) (own_byte q0 (32 : Int32))) (own_byte q0 (24 : Int32))) (own_byte q0 (16 : Int32))) (own_byte q0 (8 : Int32))) (own_byte q0 (0 : Int32))))])) rfl (by rw [hml]; rfl) (argsL := [(.long (own_st (own_st (own_st (own_st (own_st (0 : Int64) (own_byte q0 (32 : Int32))) (own_byte q0 (24 : Int32))) (own_byte q0 (16 : Int32))) (own_byte q0 (8 : Int32))) (own_byte q0 (0 : Int32)))), (.ref b3), (.int (5 : Int32))]) (rest := []) (lenOf pd_1 rfl) rfl (by show 2 * 0 + _ ≤ _; exact Nat.le_of_eq rfl) (hb hby at_82) (fun _ _ => ⟨rfl, e9q, (by decide : 1 + 0 ≤ _), (by decide : 5 + 0 ≤ _)⟩)
  dsimp only [Pt.U, Pt.locs, Pt.cells, Pt.slots] at X10 l10 y10 z10 st10 hQ10
  subst l10 y10 z10
  obtain ⟨rfl, N10q, e10q⟩ := hQ10
  have N10 := Fr.app N9 N10q
  obtain ⟨_, _, ⟨T11, L11, k11, n11⟩, -, X11, ⟨Lc11, hQ11, l11, y11, z11⟩, st11⟩ := Jvm.LawKit.callS X10 hx (y := (⟨"shale/ValueTypeBigEndianPinLaw", "step", "(J[BI)J"⟩ : MethodName)) hown (mvT hZ (hw _ (List.mem_of_getElem? (i := 6) rfl))) (mvT hZ (hw _ (List.mem_of_getElem? (i := 7) rfl))) (mvT hZ (hw _ (List.mem_of_getElem? (i := 8) rfl))) (mvT hZ (hw _ (List.mem_of_getElem? (i := 9) rfl))) (by decide) (backOf (W := 0) (rmso l Z a0 hw [] (own_st (own_st (own_st (own_st (own_st (0 : Int64) (own_byte q0 (32 : Int32))) (own_byte q0 (24 : Int32))) (own_byte q0 (16 : Int32))) (own_byte q0 (8 : Int32))) (own_byte q0 (0 : Int32))) b3 (6 : Int32) cl3 (5 : Int32) T3.heap n0 Z4 Ar3 Sa3 Ma3 (by decide)) hZ (hw _ (List.mem_of_getElem? (i := 9) rfl)) (hw _ (List.mem_of_getElem? (i := 8) rfl)) (by decide) (by decide)) (g := (mkF m 93 #[.val (.long q0), .second, .val (.int p1), .val (.int (5 : Int32)), .val (.ref b3), .val (.long (own_st (own_st (own_st (own_st (own_st (0 : Int64) (own_byte q0 (32 : Int32))) (own_byte q0 (24 : Int32))) (own_byte q0 (16 : Int32))) (own_byte q0 (8 : Int32))) (own_byte q0 (0 : Int32)))), .second, .unset, .unset] [(.int (6 : Int32)), (.ref b3), (.long (own_st (own_st (own_st (own_st (own_st (0 : Int64) (own_byte q0 (32 : Int32))) (own_byte q0 (24 : Int32))) (own_byte q0 (16 : Int32))) (own_byte q0 (8 : Int32))) (own_byte q0 (0 : Int32))))])) rfl (by rw [hml]; rfl) (argsL := [(.long (own_st (own_st (own_st (own_st (own_st (0 : Int64) (own_byte q0 (32 : Int32))) (own_byte q0 (24 : Int32))) (own_byte q0 (16 : Int32))) (own_byte q0 (8 : Int32))) (own_byte q0 (0 : Int32)))), (.ref b3), (.int (6 : Int32))]) (rest := []) (lenOf pd_1 rfl) rfl (by show 2 * 0 + _ ≤ _; exact Nat.le_of_eq rfl) (hb hby at_93) (fun _ _ => ⟨rfl, e10q, (by decide : 1 + 0 ≤ _), (by decide : 5 + 0 ≤ _)⟩)
  dsimp only [Pt.U, Pt.locs, Pt.cells, Pt.slots] at X11 l11 y11 z11 st11 hQ11
  subst l11 y11 z11
  obtain ⟨rfl, N11q, e11q⟩ := hQ11
  have N11 := Fr.app N10 N11q
  obtain ⟨_, _, ⟨T12, L12, k12, n12⟩, -, X12, ⟨Lc12, hQ12, l12, y12, z12⟩, st12⟩ := Jvm.LawKit.callS X11 hx (y := (⟨"shale/ValueTypeBigEndianPinLaw", "step", "(J[BI)J"⟩ : MethodName)) hown (mvT hZ (hw _ (List.mem_of_getElem? (i := 6) rfl))) (mvT hZ (hw _ (List.mem_of_getElem? (i := 7) rfl))) (mvT hZ (hw _ (List.mem_of_getElem? (i := 8) rfl))) (mvT hZ (hw _ (List.mem_of_getElem? (i := 9) rfl))) (by decide) (backOf (W := 0) (rmso l Z a0 hw [] (own_st (own_st (own_st (own_st (own_st (0 : Int64) (own_byte q0 (32 : Int32))) (own_byte q0 (24 : Int32))) (own_byte q0 (16 : Int32))) (own_byte q0 (8 : Int32))) (own_byte q0 (0 : Int32))) b3 (7 : Int32) cl3 (5 : Int32) T3.heap n0 Z4 Ar3 Sa3 Ma3 (by decide)) hZ (hw _ (List.mem_of_getElem? (i := 9) rfl)) (hw _ (List.mem_of_getElem? (i := 8) rfl)) (by decide) (by decide)) (g := (mkF m 104 #[.val (.long q0), .second, .val (.int p1), .val (.int (5 : Int32)), .val (.ref b3), .val (.long (own_st (own_st (own_st (own_st (own_st (0 : Int64) (own_byte q0 (32 : Int32))) (own_byte q0 (24 : Int32))) (own_byte q0 (16 : Int32))) (own_byte q0 (8 : Int32))) (own_byte q0 (0 : Int32)))), .second, .unset, .unset] [(.int (7 : Int32)), (.ref b3), (.long (own_st (own_st (own_st (own_st (own_st (0 : Int64) (own_byte q0 (32 : Int32))) (own_byte q0 (24 : Int32))) (own_byte q0 (16 : Int32))) (own_byte q0 (8 : Int32))) (own_byte q0 (0 : Int32))))])) rfl (by rw [hml]; rfl) (argsL := [(.long (own_st (own_st (own_st (own_st (own_st (0 : Int64) (own_byte q0 (32 : Int32))) (own_byte q0 (24 : Int32))) (own_byte q0 (16 : Int32))) (own_byte q0 (8 : Int32))) (own_byte q0 (0 : Int32)))), (.ref b3), (.int (7 : Int32))]) (rest := []) (lenOf pd_1 rfl) rfl (by show 2 * 0 + _ ≤ _; exact Nat.le_of_eq rfl) (hb hby at_104) (fun _ _ => ⟨rfl, e11q, (by decide : 1 + 0 ≤ _), (by decide : 5 + 0 ≤ _)⟩)
  dsimp only [Pt.U, Pt.locs, Pt.cells, Pt.slots] at X12 l12 y12 z12 st12 hQ12
  subst l12 y12 z12
  obtain ⟨rfl, N12q, e12q⟩ := hQ12
  have N12 := Fr.app N11 N12q
  obtain ⟨fs, hr, hrun, hended, hW, hsame⟩ := X12.leave (v := some (.int (1 : Int32))) (fun h => by rw [Bd.returns] at h; cases h)
  refine ⟨_, _, pre2 _ ?_, hrun, hended, _, _, rfl, ?_, ⟨_, rfl⟩, hW, hsame.mono (by decide) (by decide)⟩
  · show Steps p.tables e below (s₁.setTop (mkF m 7 #[.val (.long q0), .second, .val (.int p1), .unset, .unset, .unset, .unset, .unset, .unset] [(.int (5 : Int32))])) _
    refine XS.istoreN X0.here hx rfl (hb hby at_7) rfl (l' := #[.val (.long q0), .second, .val (.int p1), .val (.int (5 : Int32)), .unset, .unset, .unset, .unset, .unset]) rfl ?_
    show Steps p.tables e below (s₁.setTop (mkF m 8 #[.val (.long q0), .second, .val (.int p1), .val (.int (5 : Int32)), .unset, .unset, .unset, .unset, .unset] [])) _
    refine XS.lloadN X0.here hx rfl (hb hby at_8) rfl ?_
    show Steps p.tables e below (s₁.setTop (mkF m 9 #[.val (.long q0), .second, .val (.int p1), .val (.int (5 : Int32)), .unset, .unset, .unset, .unset, .unset] [(.long q0)])) _
    refine XS.iloadN X0.here hx rfl (hb hby at_9) rfl ?_
    show Steps p.tables e below (s₁.setTop (mkF m 10 #[.val (.long q0), .second, .val (.int p1), .val (.int (5 : Int32)), .unset, .unset, .unset, .unset, .unset] [(.int (5 : Int32)), (.long q0)])) _
    refine st3 _ ?_
    show Steps p.tables e below (T3.setTop (mkF m 13 #[.val (.long q0), .second, .val (.int p1), .val (.int (5 : Int32)), .unset, .unset, .unset, .unset, .unset] [(.ref b3)])) _
    refine XS.astore X3.here hx rfl (hb hby at_13) rfl rfl (l' := #[.val (.long q0), .second, .val (.int p1), .val (.int (5 : Int32)), .val (.ref b3), .unset, .unset, .unset, .unset]) rfl ?_
    show Steps p.tables e below (T3.setTop (mkF m 15 #[.val (.long q0), .second, .val (.int p1), .val (.int (5 : Int32)), .val (.ref b3), .unset, .unset, .unset, .unset] [])) _
    refine XS.aload X3.here hx rfl (hb hby at_15) rfl rfl ?_
    show Steps p.tables e below (T3.setTop (mkF m 17 #[.val (.long q0), .second, .val (.int p1), .val (.int (5 : Int32)), .val (.ref b3), .unset, .unset, .unset, .unset] [(.ref b3)])) _
    refine X3.arraylength hx Ar3.1 (State.isArrayOf_alike hZ.alike Ar3.2.1) (g := (mkF m 17 #[.val (.long q0), .second, .val (.int p1), .val (.int (5 : Int32)), .val (.ref b3), .unset, .unset, .unset, .unset] [(.ref b3)])) rfl rfl (hb hby at_17) _ ?_
    rw [len_of Sa3 Ma3]
    show Steps p.tables e below (T3.setTop (mkF m 18 #[.val (.long q0), .second, .val (.int p1), .val (.int (5 : Int32)), .val (.ref b3), .unset, .unset, .unset, .unset] [(.int (5 : Int32))])) _
    refine XS.iloadN X3.here hx rfl (hb hby at_18) rfl ?_
    show Steps p.tables e below (T3.setTop (mkF m 19 #[.val (.long q0), .second, .val (.int p1), .val (.int (5 : Int32)), .val (.ref b3), .unset, .unset, .unset, .unset] [(.int (5 : Int32)), (.int (5 : Int32))])) _
    refine XS.icmpYes X3.here hx rfl (pc0 := 19) (pc' := 24) rfl (hb hby at_19) rfl (teq (by decide : (5 : Int32) = (5 : Int32))).1 (by decide) (by decide) ?_
    show Steps p.tables e below (T3.setTop (mkF m 24 #[.val (.long q0), .second, .val (.int p1), .val (.int (5 : Int32)), .val (.ref b3), .unset, .unset, .unset, .unset] [])) _
    refine XS.lconst X3.here hx rfl (hb hby at_24) ?_
    show Steps p.tables e below (T3.setTop (mkF m 25 #[.val (.long q0), .second, .val (.int p1), .val (.int (5 : Int32)), .val (.ref b3), .unset, .unset, .unset, .unset] [(.long (0 : Int64))])) _
    refine XS.lstore X3.here hx rfl (hb hby at_25) rfl (l' := #[.val (.long q0), .second, .val (.int p1), .val (.int (5 : Int32)), .val (.ref b3), .val (.long (0 : Int64)), .second, .unset, .unset]) rfl ?_
    show Steps p.tables e below (T3.setTop (mkF m 27 #[.val (.long q0), .second, .val (.int p1), .val (.int (5 : Int32)), .val (.ref b3), .val (.long (0 : Int64)), .second, .unset, .unset] [])) _
    refine XS.lload X3.here hx rfl (hb hby at_27) rfl ?_
    show Steps p.tables e below (T3.setTop (mkF m 29 #[.val (.long q0), .second, .val (.int p1), .val (.int (5 : Int32)), .val (.ref b3), .val (.long (0 : Int64)), .second, .unset, .unset] [(.long (0 : Int64))])) _
    refine XS.aload X3.here hx rfl (hb hby at_29) rfl rfl ?_
    show Steps p.tables e below (T3.setTop (mkF m 31 #[.val (.long q0), .second, .val (.int p1), .val (.int (5 : Int32)), .val (.ref b3), .val (.long (0 : Int64)), .second, .unset, .unset] [(.ref b3), (.long (0 : Int64))])) _
    refine XS.iconst X3.here hx rfl (hb hby at_31) ?_
    show Steps p.tables e below (T3.setTop (mkF m 32 #[.val (.long q0), .second, .val (.int p1), .val (.int (5 : Int32)), .val (.ref b3), .val (.long (0 : Int64)), .second, .unset, .unset] [(.int (0 : Int32)), (.ref b3), (.long (0 : Int64))])) _
    refine st5 _ ?_
    show Steps p.tables e below (T5.setTop (mkF m 35 #[.val (.long q0), .second, .val (.int p1), .val (.int (5 : Int32)), .val (.ref b3), .val (.long (0 : Int64)), .second, .unset, .unset] [(.long (own_st (0 : Int64) (own_byte q0 (32 : Int32))))])) _
    refine XS.lstore X5.here hx rfl (hb hby at_35) rfl (l' := #[.val (.long q0), .second, .val (.int p1), .val (.int (5 : Int32)), .val (.ref b3), .val (.long (own_st (0 : Int64) (own_byte q0 (32 : Int32)))), .second, .unset, .unset]) rfl ?_
    show Steps p.tables e below (T5.setTop (mkF m 37 #[.val (.long q0), .second, .val (.int p1), .val (.int (5 : Int32)), .val (.ref b3), .val (.long (own_st (0 : Int64) (own_byte q0 (32 : Int32)))), .second, .unset, .unset] [])) _
    refine XS.lload X5.here hx rfl (hb hby at_37) rfl ?_
    show Steps p.tables e below (T5.setTop (mkF m 39 #[.val (.long q0), .second, .val (.int p1), .val (.int (5 : Int32)), .val (.ref b3), .val (.long (own_st (0 : Int64) (own_byte q0 (32 : Int32)))), .second, .unset, .unset] [(.long (own_st (0 : Int64) (own_byte q0 (32 : Int32))))])) _
    refine XS.aload X5.here hx rfl (hb hby at_39) rfl rfl ?_
    show Steps p.tables e below (T5.setTop (mkF m 41 #[.val (.long q0), .second, .val (.int p1), .val (.int (5 : Int32)), .val (.ref b3), .val (.long (own_st (0 : Int64) (own_byte q0 (32 : Int32)))), .second, .unset, .unset] [(.ref b3), (.long (own_st (0 : Int64) (own_byte q0 (32 : Int32))))])) _
    refine XS.iconst X5.here hx rfl (hb hby at_41) ?_
    show Steps p.tables e below (T5.setTop (mkF m 42 #[.val (.long q0), .second, .val (.int p1), .val (.int (5 : Int32)), .val (.ref b3), .val (.long (own_st (0 : Int64) (own_byte q0 (32 : Int32)))), .second, .unset, .unset] [(.int (1 : Int32)), (.ref b3), (.long (own_st (0 : Int64) (own_byte q0 (32 : Int32))))])) _
    refine st6 _ ?_
    show Steps p.tables e below (T6.setTop (mkF m 45 #[.val (.long q0), .second, .val (.int p1), .val (.int (5 : Int32)), .val (.ref b3), .val (.long (own_st (0 : Int64) (own_byte q0 (32 : Int32)))), .second, .unset, .unset] [(.long (own_st (own_st (0 : Int64) (own_byte q0 (32 : Int32))) (own_byte q0 (24 : Int32))))])) _
    refine XS.lstore X6.here hx rfl (hb hby at_45) rfl (l' := #[.val (.long q0), .second, .val (.int p1), .val (.int (5 : Int32)), .val (.ref b3), .val (.long (own_st (own_st (0 : Int64) (own_byte q0 (32 : Int32))) (own_byte q0 (24 : Int32)))), .second, .unset, .unset]) rfl ?_
    show Steps p.tables e below (T6.setTop (mkF m 47 #[.val (.long q0), .second, .val (.int p1), .val (.int (5 : Int32)), .val (.ref b3), .val (.long (own_st (own_st (0 : Int64) (own_byte q0 (32 : Int32))) (own_byte q0 (24 : Int32)))), .second, .unset, .unset] [])) _
    refine XS.lload X6.here hx rfl (hb hby at_47) rfl ?_
    show Steps p.tables e below (T6.setTop (mkF m 49 #[.val (.long q0), .second, .val (.int p1), .val (.int (5 : Int32)), .val (.ref b3), .val (.long (own_st (own_st (0 : Int64) (own_byte q0 (32 : Int32))) (own_byte q0 (24 : Int32)))), .second, .unset, .unset] [(.long (own_st (own_st (0 : Int64) (own_byte q0 (32 : Int32))) (own_byte q0 (24 : Int32))))])) _
    refine XS.aload X6.here hx rfl (hb hby at_49) rfl rfl ?_
    show Steps p.tables e below (T6.setTop (mkF m 51 #[.val (.long q0), .second, .val (.int p1), .val (.int (5 : Int32)), .val (.ref b3), .val (.long (own_st (own_st (0 : Int64) (own_byte q0 (32 : Int32))) (own_byte q0 (24 : Int32)))), .second, .unset, .unset] [(.ref b3), (.long (own_st (own_st (0 : Int64) (own_byte q0 (32 : Int32))) (own_byte q0 (24 : Int32))))])) _
    refine XS.iconst X6.here hx rfl (hb hby at_51) ?_
    show Steps p.tables e below (T6.setTop (mkF m 52 #[.val (.long q0), .second, .val (.int p1), .val (.int (5 : Int32)), .val (.ref b3), .val (.long (own_st (own_st (0 : Int64) (own_byte q0 (32 : Int32))) (own_byte q0 (24 : Int32)))), .second, .unset, .unset] [(.int (2 : Int32)), (.ref b3), (.long (own_st (own_st (0 : Int64) (own_byte q0 (32 : Int32))) (own_byte q0 (24 : Int32))))])) _
    refine st7 _ ?_
    show Steps p.tables e below (T7.setTop (mkF m 55 #[.val (.long q0), .second, .val (.int p1), .val (.int (5 : Int32)), .val (.ref b3), .val (.long (own_st (own_st (0 : Int64) (own_byte q0 (32 : Int32))) (own_byte q0 (24 : Int32)))), .second, .unset, .unset] [(.long (own_st (own_st (own_st (0 : Int64) (own_byte q0 (32 : Int32))) (own_byte q0 (24 : Int32))) (own_byte q0 (16 : Int32))))])) _
    refine XS.lstore X7.here hx rfl (hb hby at_55) rfl (l' := #[.val (.long q0), .second, .val (.int p1), .val (.int (5 : Int32)), .val (.ref b3), .val (.long (own_st (own_st (own_st (0 : Int64) (own_byte q0 (32 : Int32))) (own_byte q0 (24 : Int32))) (own_byte q0 (16 : Int32)))), .second, .unset, .unset]) rfl ?_
    show Steps p.tables e below (T7.setTop (mkF m 57 #[.val (.long q0), .second, .val (.int p1), .val (.int (5 : Int32)), .val (.ref b3), .val (.long (own_st (own_st (own_st (0 : Int64) (own_byte q0 (32 : Int32))) (own_byte q0 (24 : Int32))) (own_byte q0 (16 : Int32)))), .second, .unset, .unset] [])) _
    refine XS.lload X7.here hx rfl (hb hby at_57) rfl ?_
    show Steps p.tables e below (T7.setTop (mkF m 59 #[.val (.long q0), .second, .val (.int p1), .val (.int (5 : Int32)), .val (.ref b3), .val (.long (own_st (own_st (own_st (0 : Int64) (own_byte q0 (32 : Int32))) (own_byte q0 (24 : Int32))) (own_byte q0 (16 : Int32)))), .second, .unset, .unset] [(.long (own_st (own_st (own_st (0 : Int64) (own_byte q0 (32 : Int32))) (own_byte q0 (24 : Int32))) (own_byte q0 (16 : Int32))))])) _
    refine XS.aload X7.here hx rfl (hb hby at_59) rfl rfl ?_
    show Steps p.tables e below (T7.setTop (mkF m 61 #[.val (.long q0), .second, .val (.int p1), .val (.int (5 : Int32)), .val (.ref b3), .val (.long (own_st (own_st (own_st (0 : Int64) (own_byte q0 (32 : Int32))) (own_byte q0 (24 : Int32))) (own_byte q0 (16 : Int32)))), .second, .unset, .unset] [(.ref b3), (.long (own_st (own_st (own_st (0 : Int64) (own_byte q0 (32 : Int32))) (own_byte q0 (24 : Int32))) (own_byte q0 (16 : Int32))))])) _
    refine XS.iconst X7.here hx rfl (hb hby at_61) ?_
    show Steps p.tables e below (T7.setTop (mkF m 62 #[.val (.long q0), .second, .val (.int p1), .val (.int (5 : Int32)), .val (.ref b3), .val (.long (own_st (own_st (own_st (0 : Int64) (own_byte q0 (32 : Int32))) (own_byte q0 (24 : Int32))) (own_byte q0 (16 : Int32)))), .second, .unset, .unset] [(.int (3 : Int32)), (.ref b3), (.long (own_st (own_st (own_st (0 : Int64) (own_byte q0 (32 : Int32))) (own_byte q0 (24 : Int32))) (own_byte q0 (16 : Int32))))])) _
    refine st8 _ ?_
    show Steps p.tables e below (T8.setTop (mkF m 65 #[.val (.long q0), .second, .val (.int p1), .val (.int (5 : Int32)), .val (.ref b3), .val (.long (own_st (own_st (own_st (0 : Int64) (own_byte q0 (32 : Int32))) (own_byte q0 (24 : Int32))) (own_byte q0 (16 : Int32)))), .second, .unset, .unset] [(.long (own_st (own_st (own_st (own_st (0 : Int64) (own_byte q0 (32 : Int32))) (own_byte q0 (24 : Int32))) (own_byte q0 (16 : Int32))) (own_byte q0 (8 : Int32))))])) _
    refine XS.lstore X8.here hx rfl (hb hby at_65) rfl (l' := #[.val (.long q0), .second, .val (.int p1), .val (.int (5 : Int32)), .val (.ref b3), .val (.long (own_st (own_st (own_st (own_st (0 : Int64) (own_byte q0 (32 : Int32))) (own_byte q0 (24 : Int32))) (own_byte q0 (16 : Int32))) (own_byte q0 (8 : Int32)))), .second, .unset, .unset]) rfl ?_
    show Steps p.tables e below (T8.setTop (mkF m 67 #[.val (.long q0), .second, .val (.int p1), .val (.int (5 : Int32)), .val (.ref b3), .val (.long (own_st (own_st (own_st (own_st (0 : Int64) (own_byte q0 (32 : Int32))) (own_byte q0 (24 : Int32))) (own_byte q0 (16 : Int32))) (own_byte q0 (8 : Int32)))), .second, .unset, .unset] [])) _
    refine XS.lload X8.here hx rfl (hb hby at_67) rfl ?_
    show Steps p.tables e below (T8.setTop (mkF m 69 #[.val (.long q0), .second, .val (.int p1), .val (.int (5 : Int32)), .val (.ref b3), .val (.long (own_st (own_st (own_st (own_st (0 : Int64) (own_byte q0 (32 : Int32))) (own_byte q0 (24 : Int32))) (own_byte q0 (16 : Int32))) (own_byte q0 (8 : Int32)))), .second, .unset, .unset] [(.long (own_st (own_st (own_st (own_st (0 : Int64) (own_byte q0 (32 : Int32))) (own_byte q0 (24 : Int32))) (own_byte q0 (16 : Int32))) (own_byte q0 (8 : Int32))))])) _
    refine XS.aload X8.here hx rfl (hb hby at_69) rfl rfl ?_
    show Steps p.tables e below (T8.setTop (mkF m 71 #[.val (.long q0), .second, .val (.int p1), .val (.int (5 : Int32)), .val (.ref b3), .val (.long (own_st (own_st (own_st (own_st (0 : Int64) (own_byte q0 (32 : Int32))) (own_byte q0 (24 : Int32))) (own_byte q0 (16 : Int32))) (own_byte q0 (8 : Int32)))), .second, .unset, .unset] [(.ref b3), (.long (own_st (own_st (own_st (own_st (0 : Int64) (own_byte q0 (32 : Int32))) (own_byte q0 (24 : Int32))) (own_byte q0 (16 : Int32))) (own_byte q0 (8 : Int32))))])) _
    refine XS.iconst X8.here hx rfl (hb hby at_71) ?_
    show Steps p.tables e below (T8.setTop (mkF m 72 #[.val (.long q0), .second, .val (.int p1), .val (.int (5 : Int32)), .val (.ref b3), .val (.long (own_st (own_st (own_st (own_st (0 : Int64) (own_byte q0 (32 : Int32))) (own_byte q0 (24 : Int32))) (own_byte q0 (16 : Int32))) (own_byte q0 (8 : Int32)))), .second, .unset, .unset] [(.int (4 : Int32)), (.ref b3), (.long (own_st (own_st (own_st (own_st (0 : Int64) (own_byte q0 (32 : Int32))) (own_byte q0 (24 : Int32))) (own_byte q0 (16 : Int32))) (own_byte q0 (8 : Int32))))])) _
    refine st9 _ ?_
    show Steps p.tables e below (T9.setTop (mkF m 75 #[.val (.long q0), .second, .val (.int p1), .val (.int (5 : Int32)), .val (.ref b3), .val (.long (own_st (own_st (own_st (own_st (0 : Int64) (own_byte q0 (32 : Int32))) (own_byte q0 (24 : Int32))) (own_byte q0 (16 : Int32))) (own_byte q0 (8 : Int32)))), .second, .unset, .unset] [(.long (own_st (own_st (own_st (own_st (own_st (0 : Int64) (own_byte q0 (32 : Int32))) (own_byte q0 (24 : Int32))) (own_byte q0 (16 : Int32))) (own_byte q0 (8 : Int32))) (own_byte q0 (0 : Int32))))])) _
    refine XS.lstore X9.here hx rfl (hb hby at_75) rfl (l' := #[.val (.long q0), .second, .val (.int p1), .val (.int (5 : Int32)), .val (.ref b3), .val (.long (own_st (own_st (own_st (own_st (own_st (0 : Int64) (own_byte q0 (32 : Int32))) (own_byte q0 (24 : Int32))) (own_byte q0 (16 : Int32))) (own_byte q0 (8 : Int32))) (own_byte q0 (0 : Int32)))), .second, .unset, .unset]) rfl ?_
    show Steps p.tables e below (T9.setTop (mkF m 77 #[.val (.long q0), .second, .val (.int p1), .val (.int (5 : Int32)), .val (.ref b3), .val (.long (own_st (own_st (own_st (own_st (own_st (0 : Int64) (own_byte q0 (32 : Int32))) (own_byte q0 (24 : Int32))) (own_byte q0 (16 : Int32))) (own_byte q0 (8 : Int32))) (own_byte q0 (0 : Int32)))), .second, .unset, .unset] [])) _
    refine XS.lload X9.here hx rfl (hb hby at_77) rfl ?_
    show Steps p.tables e below (T9.setTop (mkF m 79 #[.val (.long q0), .second, .val (.int p1), .val (.int (5 : Int32)), .val (.ref b3), .val (.long (own_st (own_st (own_st (own_st (own_st (0 : Int64) (own_byte q0 (32 : Int32))) (own_byte q0 (24 : Int32))) (own_byte q0 (16 : Int32))) (own_byte q0 (8 : Int32))) (own_byte q0 (0 : Int32)))), .second, .unset, .unset] [(.long (own_st (own_st (own_st (own_st (own_st (0 : Int64) (own_byte q0 (32 : Int32))) (own_byte q0 (24 : Int32))) (own_byte q0 (16 : Int32))) (own_byte q0 (8 : Int32))) (own_byte q0 (0 : Int32))))])) _
    refine XS.aload X9.here hx rfl (hb hby at_79) rfl rfl ?_
    show Steps p.tables e below (T9.setTop (mkF m 81 #[.val (.long q0), .second, .val (.int p1), .val (.int (5 : Int32)), .val (.ref b3), .val (.long (own_st (own_st (own_st (own_st (own_st (0 : Int64) (own_byte q0 (32 : Int32))) (own_byte q0 (24 : Int32))) (own_byte q0 (16 : Int32))) (own_byte q0 (8 : Int32))) (own_byte q0 (0 : Int32)))), .second, .unset, .unset] [(.ref b3), (.long (own_st (own_st (own_st (own_st (own_st (0 : Int64) (own_byte q0 (32 : Int32))) (own_byte q0 (24 : Int32))) (own_byte q0 (16 : Int32))) (own_byte q0 (8 : Int32))) (own_byte q0 (0 : Int32))))])) _
    refine XS.iconst X9.here hx rfl (hb hby at_81) ?_
    show Steps p.tables e below (T9.setTop (mkF m 82 #[.val (.long q0), .second, .val (.int p1), .val (.int (5 : Int32)), .val (.ref b3), .val (.long (own_st (own_st (own_st (own_st (own_st (0 : Int64) (own_byte q0 (32 : Int32))) (own_byte q0 (24 : Int32))) (own_byte q0 (16 : Int32))) (own_byte q0 (8 : Int32))) (own_byte q0 (0 : Int32)))), .second, .unset, .unset] [(.int (5 : Int32)), (.ref b3), (.long (own_st (own_st (own_st (own_st (own_st (0 : Int64) (own_byte q0 (32 : Int32))) (own_byte q0 (24 : Int32))) (own_byte q0 (16 : Int32))) (own_byte q0 (8 : Int32))) (own_byte q0 (0 : Int32))))])) _
    refine st10 _ ?_
    show Steps p.tables e below (T10.setTop (mkF m 85 #[.val (.long q0), .second, .val (.int p1), .val (.int (5 : Int32)), .val (.ref b3), .val (.long (own_st (own_st (own_st (own_st (own_st (0 : Int64) (own_byte q0 (32 : Int32))) (own_byte q0 (24 : Int32))) (own_byte q0 (16 : Int32))) (own_byte q0 (8 : Int32))) (own_byte q0 (0 : Int32)))), .second, .unset, .unset] [(.long (own_st (own_st (own_st (own_st (own_st (0 : Int64) (own_byte q0 (32 : Int32))) (own_byte q0 (24 : Int32))) (own_byte q0 (16 : Int32))) (own_byte q0 (8 : Int32))) (own_byte q0 (0 : Int32))))])) _
    refine XS.lstore X10.here hx rfl (hb hby at_85) rfl (l' := #[.val (.long q0), .second, .val (.int p1), .val (.int (5 : Int32)), .val (.ref b3), .val (.long (own_st (own_st (own_st (own_st (own_st (0 : Int64) (own_byte q0 (32 : Int32))) (own_byte q0 (24 : Int32))) (own_byte q0 (16 : Int32))) (own_byte q0 (8 : Int32))) (own_byte q0 (0 : Int32)))), .second, .unset, .unset]) rfl ?_
    show Steps p.tables e below (T10.setTop (mkF m 87 #[.val (.long q0), .second, .val (.int p1), .val (.int (5 : Int32)), .val (.ref b3), .val (.long (own_st (own_st (own_st (own_st (own_st (0 : Int64) (own_byte q0 (32 : Int32))) (own_byte q0 (24 : Int32))) (own_byte q0 (16 : Int32))) (own_byte q0 (8 : Int32))) (own_byte q0 (0 : Int32)))), .second, .unset, .unset] [])) _
    refine XS.lload X10.here hx rfl (hb hby at_87) rfl ?_
    show Steps p.tables e below (T10.setTop (mkF m 89 #[.val (.long q0), .second, .val (.int p1), .val (.int (5 : Int32)), .val (.ref b3), .val (.long (own_st (own_st (own_st (own_st (own_st (0 : Int64) (own_byte q0 (32 : Int32))) (own_byte q0 (24 : Int32))) (own_byte q0 (16 : Int32))) (own_byte q0 (8 : Int32))) (own_byte q0 (0 : Int32)))), .second, .unset, .unset] [(.long (own_st (own_st (own_st (own_st (own_st (0 : Int64) (own_byte q0 (32 : Int32))) (own_byte q0 (24 : Int32))) (own_byte q0 (16 : Int32))) (own_byte q0 (8 : Int32))) (own_byte q0 (0 : Int32))))])) _
    refine XS.aload X10.here hx rfl (hb hby at_89) rfl rfl ?_
    show Steps p.tables e below (T10.setTop (mkF m 91 #[.val (.long q0), .second, .val (.int p1), .val (.int (5 : Int32)), .val (.ref b3), .val (.long (own_st (own_st (own_st (own_st (own_st (0 : Int64) (own_byte q0 (32 : Int32))) (own_byte q0 (24 : Int32))) (own_byte q0 (16 : Int32))) (own_byte q0 (8 : Int32))) (own_byte q0 (0 : Int32)))), .second, .unset, .unset] [(.ref b3), (.long (own_st (own_st (own_st (own_st (own_st (0 : Int64) (own_byte q0 (32 : Int32))) (own_byte q0 (24 : Int32))) (own_byte q0 (16 : Int32))) (own_byte q0 (8 : Int32))) (own_byte q0 (0 : Int32))))])) _
    refine XS.bipush X10.here hx rfl (hb hby at_91) ?_
    show Steps p.tables e below (T10.setTop (mkF m 93 #[.val (.long q0), .second, .val (.int p1), .val (.int (5 : Int32)), .val (.ref b3), .val (.long (own_st (own_st (own_st (own_st (own_st (0 : Int64) (own_byte q0 (32 : Int32))) (own_byte q0 (24 : Int32))) (own_byte q0 (16 : Int32))) (own_byte q0 (8 : Int32))) (own_byte q0 (0 : Int32)))), .second, .unset, .unset] [(.int (6 : Int32)), (.ref b3), (.long (own_st (own_st (own_st (own_st (own_st (0 : Int64) (own_byte q0 (32 : Int32))) (own_byte q0 (24 : Int32))) (own_byte q0 (16 : Int32))) (own_byte q0 (8 : Int32))) (own_byte q0 (0 : Int32))))])) _
    refine st11 _ ?_
    show Steps p.tables e below (T11.setTop (mkF m 96 #[.val (.long q0), .second, .val (.int p1), .val (.int (5 : Int32)), .val (.ref b3), .val (.long (own_st (own_st (own_st (own_st (own_st (0 : Int64) (own_byte q0 (32 : Int32))) (own_byte q0 (24 : Int32))) (own_byte q0 (16 : Int32))) (own_byte q0 (8 : Int32))) (own_byte q0 (0 : Int32)))), .second, .unset, .unset] [(.long (own_st (own_st (own_st (own_st (own_st (0 : Int64) (own_byte q0 (32 : Int32))) (own_byte q0 (24 : Int32))) (own_byte q0 (16 : Int32))) (own_byte q0 (8 : Int32))) (own_byte q0 (0 : Int32))))])) _
    refine XS.lstore X11.here hx rfl (hb hby at_96) rfl (l' := #[.val (.long q0), .second, .val (.int p1), .val (.int (5 : Int32)), .val (.ref b3), .val (.long (own_st (own_st (own_st (own_st (own_st (0 : Int64) (own_byte q0 (32 : Int32))) (own_byte q0 (24 : Int32))) (own_byte q0 (16 : Int32))) (own_byte q0 (8 : Int32))) (own_byte q0 (0 : Int32)))), .second, .unset, .unset]) rfl ?_
    show Steps p.tables e below (T11.setTop (mkF m 98 #[.val (.long q0), .second, .val (.int p1), .val (.int (5 : Int32)), .val (.ref b3), .val (.long (own_st (own_st (own_st (own_st (own_st (0 : Int64) (own_byte q0 (32 : Int32))) (own_byte q0 (24 : Int32))) (own_byte q0 (16 : Int32))) (own_byte q0 (8 : Int32))) (own_byte q0 (0 : Int32)))), .second, .unset, .unset] [])) _
    refine XS.lload X11.here hx rfl (hb hby at_98) rfl ?_
    show Steps p.tables e below (T11.setTop (mkF m 100 #[.val (.long q0), .second, .val (.int p1), .val (.int (5 : Int32)), .val (.ref b3), .val (.long (own_st (own_st (own_st (own_st (own_st (0 : Int64) (own_byte q0 (32 : Int32))) (own_byte q0 (24 : Int32))) (own_byte q0 (16 : Int32))) (own_byte q0 (8 : Int32))) (own_byte q0 (0 : Int32)))), .second, .unset, .unset] [(.long (own_st (own_st (own_st (own_st (own_st (0 : Int64) (own_byte q0 (32 : Int32))) (own_byte q0 (24 : Int32))) (own_byte q0 (16 : Int32))) (own_byte q0 (8 : Int32))) (own_byte q0 (0 : Int32))))])) _
    refine XS.aload X11.here hx rfl (hb hby at_100) rfl rfl ?_
    show Steps p.tables e below (T11.setTop (mkF m 102 #[.val (.long q0), .second, .val (.int p1), .val (.int (5 : Int32)), .val (.ref b3), .val (.long (own_st (own_st (own_st (own_st (own_st (0 : Int64) (own_byte q0 (32 : Int32))) (own_byte q0 (24 : Int32))) (own_byte q0 (16 : Int32))) (own_byte q0 (8 : Int32))) (own_byte q0 (0 : Int32)))), .second, .unset, .unset] [(.ref b3), (.long (own_st (own_st (own_st (own_st (own_st (0 : Int64) (own_byte q0 (32 : Int32))) (own_byte q0 (24 : Int32))) (own_byte q0 (16 : Int32))) (own_byte q0 (8 : Int32))) (own_byte q0 (0 : Int32))))])) _
    refine XS.bipush X11.here hx rfl (hb hby at_102) ?_
    show Steps p.tables e below (T11.setTop (mkF m 104 #[.val (.long q0), .second, .val (.int p1), .val (.int (5 : Int32)), .val (.ref b3), .val (.long (own_st (own_st (own_st (own_st (own_st (0 : Int64) (own_byte q0 (32 : Int32))) (own_byte q0 (24 : Int32))) (own_byte q0 (16 : Int32))) (own_byte q0 (8 : Int32))) (own_byte q0 (0 : Int32)))), .second, .unset, .unset] [(.int (7 : Int32)), (.ref b3), (.long (own_st (own_st (own_st (own_st (own_st (0 : Int64) (own_byte q0 (32 : Int32))) (own_byte q0 (24 : Int32))) (own_byte q0 (16 : Int32))) (own_byte q0 (8 : Int32))) (own_byte q0 (0 : Int32))))])) _
    refine st12 _ ?_
    show Steps p.tables e below (T12.setTop (mkF m 107 #[.val (.long q0), .second, .val (.int p1), .val (.int (5 : Int32)), .val (.ref b3), .val (.long (own_st (own_st (own_st (own_st (own_st (0 : Int64) (own_byte q0 (32 : Int32))) (own_byte q0 (24 : Int32))) (own_byte q0 (16 : Int32))) (own_byte q0 (8 : Int32))) (own_byte q0 (0 : Int32)))), .second, .unset, .unset] [(.long (own_st (own_st (own_st (own_st (own_st (0 : Int64) (own_byte q0 (32 : Int32))) (own_byte q0 (24 : Int32))) (own_byte q0 (16 : Int32))) (own_byte q0 (8 : Int32))) (own_byte q0 (0 : Int32))))])) _
    refine XS.lstore X12.here hx rfl (hb hby at_107) rfl (l' := #[.val (.long q0), .second, .val (.int p1), .val (.int (5 : Int32)), .val (.ref b3), .val (.long (own_st (own_st (own_st (own_st (own_st (0 : Int64) (own_byte q0 (32 : Int32))) (own_byte q0 (24 : Int32))) (own_byte q0 (16 : Int32))) (own_byte q0 (8 : Int32))) (own_byte q0 (0 : Int32)))), .second, .unset, .unset]) rfl ?_
    show Steps p.tables e below (T12.setTop (mkF m 109 #[.val (.long q0), .second, .val (.int p1), .val (.int (5 : Int32)), .val (.ref b3), .val (.long (own_st (own_st (own_st (own_st (own_st (0 : Int64) (own_byte q0 (32 : Int32))) (own_byte q0 (24 : Int32))) (own_byte q0 (16 : Int32))) (own_byte q0 (8 : Int32))) (own_byte q0 (0 : Int32)))), .second, .unset, .unset] [])) _
    refine XS.iloadN X12.here hx rfl (hb hby at_109) rfl ?_
    show Steps p.tables e below (T12.setTop (mkF m 110 #[.val (.long q0), .second, .val (.int p1), .val (.int (5 : Int32)), .val (.ref b3), .val (.long (own_st (own_st (own_st (own_st (own_st (0 : Int64) (own_byte q0 (32 : Int32))) (own_byte q0 (24 : Int32))) (own_byte q0 (16 : Int32))) (own_byte q0 (8 : Int32))) (own_byte q0 (0 : Int32)))), .second, .unset, .unset] [(.int (5 : Int32))])) _
    refine XS.bipush X12.here hx rfl (hb hby at_110) ?_
    show Steps p.tables e below (T12.setTop (mkF m 112 #[.val (.long q0), .second, .val (.int p1), .val (.int (5 : Int32)), .val (.ref b3), .val (.long (own_st (own_st (own_st (own_st (own_st (0 : Int64) (own_byte q0 (32 : Int32))) (own_byte q0 (24 : Int32))) (own_byte q0 (16 : Int32))) (own_byte q0 (8 : Int32))) (own_byte q0 (0 : Int32)))), .second, .unset, .unset] [(.int (8 : Int32)), (.int (5 : Int32))])) _
    refine XS.icmpYes X12.here hx rfl (pc0 := 112) (pc' := 121) rfl (hb hby at_112) rfl (feq (by decide : ¬ ((5 : Int32) = (8 : Int32)))).2 (by decide) (by decide) ?_
    show Steps p.tables e below (T12.setTop (mkF m 121 #[.val (.long q0), .second, .val (.int p1), .val (.int (5 : Int32)), .val (.ref b3), .val (.long (own_st (own_st (own_st (own_st (own_st (0 : Int64) (own_byte q0 (32 : Int32))) (own_byte q0 (24 : Int32))) (own_byte q0 (16 : Int32))) (own_byte q0 (8 : Int32))) (own_byte q0 (0 : Int32)))), .second, .unset, .unset] [])) _
    refine XS.lloadN X12.here hx rfl (hb hby at_121) rfl ?_
    show Steps p.tables e below (T12.setTop (mkF m 122 #[.val (.long q0), .second, .val (.int p1), .val (.int (5 : Int32)), .val (.ref b3), .val (.long (own_st (own_st (own_st (own_st (own_st (0 : Int64) (own_byte q0 (32 : Int32))) (own_byte q0 (24 : Int32))) (own_byte q0 (16 : Int32))) (own_byte q0 (8 : Int32))) (own_byte q0 (0 : Int32)))), .second, .unset, .unset] [(.long q0)])) _
    refine XS.lconst X12.here hx rfl (hb hby at_122) ?_
    show Steps p.tables e below (T12.setTop (mkF m 123 #[.val (.long q0), .second, .val (.int p1), .val (.int (5 : Int32)), .val (.ref b3), .val (.long (own_st (own_st (own_st (own_st (own_st (0 : Int64) (own_byte q0 (32 : Int32))) (own_byte q0 (24 : Int32))) (own_byte q0 (16 : Int32))) (own_byte q0 (8 : Int32))) (own_byte q0 (0 : Int32)))), .second, .unset, .unset] [(.long (1 : Int64)), (.long q0)])) _
    refine XS.bipush X12.here hx rfl (hb hby at_123) ?_
    show Steps p.tables e below (T12.setTop (mkF m 125 #[.val (.long q0), .second, .val (.int p1), .val (.int (5 : Int32)), .val (.ref b3), .val (.long (own_st (own_st (own_st (own_st (own_st (0 : Int64) (own_byte q0 (32 : Int32))) (own_byte q0 (24 : Int32))) (own_byte q0 (16 : Int32))) (own_byte q0 (8 : Int32))) (own_byte q0 (0 : Int32)))), .second, .unset, .unset] [(.int (8 : Int32)), (.long (1 : Int64)), (.long q0)])) _
    refine XS.iloadN X12.here hx rfl (hb hby at_125) rfl ?_
    show Steps p.tables e below (T12.setTop (mkF m 126 #[.val (.long q0), .second, .val (.int p1), .val (.int (5 : Int32)), .val (.ref b3), .val (.long (own_st (own_st (own_st (own_st (own_st (0 : Int64) (own_byte q0 (32 : Int32))) (own_byte q0 (24 : Int32))) (own_byte q0 (16 : Int32))) (own_byte q0 (8 : Int32))) (own_byte q0 (0 : Int32)))), .second, .unset, .unset] [(.int (5 : Int32)), (.int (8 : Int32)), (.long (1 : Int64)), (.long q0)])) _
    refine XS.imul X12.here hx rfl (hb hby at_126) rfl ?_
    show Steps p.tables e below (T12.setTop (mkF m 127 #[.val (.long q0), .second, .val (.int p1), .val (.int (5 : Int32)), .val (.ref b3), .val (.long (own_st (own_st (own_st (own_st (own_st (0 : Int64) (own_byte q0 (32 : Int32))) (own_byte q0 (24 : Int32))) (own_byte q0 (16 : Int32))) (own_byte q0 (8 : Int32))) (own_byte q0 (0 : Int32)))), .second, .unset, .unset] [(.int (40 : Int32)), (.long (1 : Int64)), (.long q0)])) _
    refine XS.lshl X12.here hx rfl (hb hby at_127) rfl ?_
    show Steps p.tables e below (T12.setTop (mkF m 128 #[.val (.long q0), .second, .val (.int p1), .val (.int (5 : Int32)), .val (.ref b3), .val (.long (own_st (own_st (own_st (own_st (own_st (0 : Int64) (own_byte q0 (32 : Int32))) (own_byte q0 (24 : Int32))) (own_byte q0 (16 : Int32))) (own_byte q0 (8 : Int32))) (own_byte q0 (0 : Int32)))), .second, .unset, .unset] [(.long ((1 : Int64) <<< ((40 : Int32) &&& 0x3f).toInt64)), (.long q0)])) _
    refine XS.lconst X12.here hx rfl (hb hby at_128) ?_
    show Steps p.tables e below (T12.setTop (mkF m 129 #[.val (.long q0), .second, .val (.int p1), .val (.int (5 : Int32)), .val (.ref b3), .val (.long (own_st (own_st (own_st (own_st (own_st (0 : Int64) (own_byte q0 (32 : Int32))) (own_byte q0 (24 : Int32))) (own_byte q0 (16 : Int32))) (own_byte q0 (8 : Int32))) (own_byte q0 (0 : Int32)))), .second, .unset, .unset] [(.long (1 : Int64)), (.long ((1 : Int64) <<< ((40 : Int32) &&& 0x3f).toInt64)), (.long q0)])) _
    refine XS.lsub X12.here hx rfl (hb hby at_129) rfl ?_
    show Steps p.tables e below (T12.setTop (mkF m 130 #[.val (.long q0), .second, .val (.int p1), .val (.int (5 : Int32)), .val (.ref b3), .val (.long (own_st (own_st (own_st (own_st (own_st (0 : Int64) (own_byte q0 (32 : Int32))) (own_byte q0 (24 : Int32))) (own_byte q0 (16 : Int32))) (own_byte q0 (8 : Int32))) (own_byte q0 (0 : Int32)))), .second, .unset, .unset] [(.long (((1 : Int64) <<< ((40 : Int32) &&& 0x3f).toInt64) - (1 : Int64))), (.long q0)])) _
    refine XS.land X12.here hx rfl (hb hby at_130) rfl ?_
    show Steps p.tables e below (T12.setTop (mkF m 131 #[.val (.long q0), .second, .val (.int p1), .val (.int (5 : Int32)), .val (.ref b3), .val (.long (own_st (own_st (own_st (own_st (own_st (0 : Int64) (own_byte q0 (32 : Int32))) (own_byte q0 (24 : Int32))) (own_byte q0 (16 : Int32))) (own_byte q0 (8 : Int32))) (own_byte q0 (0 : Int32)))), .second, .unset, .unset] [(.long (q0 &&& (((1 : Int64) <<< ((40 : Int32) &&& 0x3f).toInt64) - (1 : Int64))))])) _
    refine XS.lstore X12.here hx rfl (hb hby at_131) rfl (l' := #[.val (.long q0), .second, .val (.int p1), .val (.int (5 : Int32)), .val (.ref b3), .val (.long (own_st (own_st (own_st (own_st (own_st (0 : Int64) (own_byte q0 (32 : Int32))) (own_byte q0 (24 : Int32))) (own_byte q0 (16 : Int32))) (own_byte q0 (8 : Int32))) (own_byte q0 (0 : Int32)))), .second, .val (.long (q0 &&& (((1 : Int64) <<< ((40 : Int32) &&& 0x3f).toInt64) - (1 : Int64)))), .second]) rfl ?_
    show Steps p.tables e below (T12.setTop (mkF m 133 #[.val (.long q0), .second, .val (.int p1), .val (.int (5 : Int32)), .val (.ref b3), .val (.long (own_st (own_st (own_st (own_st (own_st (0 : Int64) (own_byte q0 (32 : Int32))) (own_byte q0 (24 : Int32))) (own_byte q0 (16 : Int32))) (own_byte q0 (8 : Int32))) (own_byte q0 (0 : Int32)))), .second, .val (.long (q0 &&& (((1 : Int64) <<< ((40 : Int32) &&& 0x3f).toInt64) - (1 : Int64)))), .second] [])) _
    refine XS.lload X12.here hx rfl (hb hby at_133) rfl ?_
    show Steps p.tables e below (T12.setTop (mkF m 135 #[.val (.long q0), .second, .val (.int p1), .val (.int (5 : Int32)), .val (.ref b3), .val (.long (own_st (own_st (own_st (own_st (own_st (0 : Int64) (own_byte q0 (32 : Int32))) (own_byte q0 (24 : Int32))) (own_byte q0 (16 : Int32))) (own_byte q0 (8 : Int32))) (own_byte q0 (0 : Int32)))), .second, .val (.long (q0 &&& (((1 : Int64) <<< ((40 : Int32) &&& 0x3f).toInt64) - (1 : Int64)))), .second] [(.long (own_st (own_st (own_st (own_st (own_st (0 : Int64) (own_byte q0 (32 : Int32))) (own_byte q0 (24 : Int32))) (own_byte q0 (16 : Int32))) (own_byte q0 (8 : Int32))) (own_byte q0 (0 : Int32))))])) _
    refine XS.lload X12.here hx rfl (hb hby at_135) rfl ?_
    show Steps p.tables e below (T12.setTop (mkF m 137 #[.val (.long q0), .second, .val (.int p1), .val (.int (5 : Int32)), .val (.ref b3), .val (.long (own_st (own_st (own_st (own_st (own_st (0 : Int64) (own_byte q0 (32 : Int32))) (own_byte q0 (24 : Int32))) (own_byte q0 (16 : Int32))) (own_byte q0 (8 : Int32))) (own_byte q0 (0 : Int32)))), .second, .val (.long (q0 &&& (((1 : Int64) <<< ((40 : Int32) &&& 0x3f).toInt64) - (1 : Int64)))), .second] [(.long (q0 &&& (((1 : Int64) <<< ((40 : Int32) &&& 0x3f).toInt64) - (1 : Int64)))), (.long (own_st (own_st (own_st (own_st (own_st (0 : Int64) (own_byte q0 (32 : Int32))) (own_byte q0 (24 : Int32))) (own_byte q0 (16 : Int32))) (own_byte q0 (8 : Int32))) (own_byte q0 (0 : Int32))))])) _
    refine XS.lcmp X12.here hx rfl (hb hby at_137) rfl ?_
    show Steps p.tables e below (T12.setTop (mkF m 138 #[.val (.long q0), .second, .val (.int p1), .val (.int (5 : Int32)), .val (.ref b3), .val (.long (own_st (own_st (own_st (own_st (own_st (0 : Int64) (own_byte q0 (32 : Int32))) (own_byte q0 (24 : Int32))) (own_byte q0 (16 : Int32))) (own_byte q0 (8 : Int32))) (own_byte q0 (0 : Int32)))), .second, .val (.long (q0 &&& (((1 : Int64) <<< ((40 : Int32) &&& 0x3f).toInt64) - (1 : Int64)))), .second] [(.int (lcmpW (own_st (own_st (own_st (own_st (own_st (0 : Int64) (own_byte q0 (32 : Int32))) (own_byte q0 (24 : Int32))) (own_byte q0 (16 : Int32))) (own_byte q0 (8 : Int32))) (own_byte q0 (0 : Int32))) (q0 &&& (((1 : Int64) <<< ((40 : Int32) &&& 0x3f).toInt64) - (1 : Int64)))))])) _
    refine XS.ifNo X12.here hx rfl (hb hby at_138) rfl ((if0 _ _).trans (teq ((lw_eq _ _).mpr (own_fin5 q0))).2) ?_
    show Steps p.tables e below (T12.setTop (mkF m 141 #[.val (.long q0), .second, .val (.int p1), .val (.int (5 : Int32)), .val (.ref b3), .val (.long (own_st (own_st (own_st (own_st (own_st (0 : Int64) (own_byte q0 (32 : Int32))) (own_byte q0 (24 : Int32))) (own_byte q0 (16 : Int32))) (own_byte q0 (8 : Int32))) (own_byte q0 (0 : Int32)))), .second, .val (.long (q0 &&& (((1 : Int64) <<< ((40 : Int32) &&& 0x3f).toInt64) - (1 : Int64)))), .second] [])) _
    refine XS.iconst X12.here hx rfl (hb hby at_141) ?_
    show Steps p.tables e below (T12.setTop (mkF m 142 #[.val (.long q0), .second, .val (.int p1), .val (.int (5 : Int32)), .val (.ref b3), .val (.long (own_st (own_st (own_st (own_st (own_st (0 : Int64) (own_byte q0 (32 : Int32))) (own_byte q0 (24 : Int32))) (own_byte q0 (16 : Int32))) (own_byte q0 (8 : Int32))) (own_byte q0 (0 : Int32)))), .second, .val (.long (q0 &&& (((1 : Int64) <<< ((40 : Int32) &&& 0x3f).toInt64) - (1 : Int64)))), .second] [(.int (1 : Int32))])) _
    refine XS.goto X12.here hx rfl (pc0 := 142) (pc' := 146) rfl (hb hby at_142) (by decide) (by decide) ?_
    show Steps p.tables e below (T12.setTop (mkF m 146 #[.val (.long q0), .second, .val (.int p1), .val (.int (5 : Int32)), .val (.ref b3), .val (.long (own_st (own_st (own_st (own_st (own_st (0 : Int64) (own_byte q0 (32 : Int32))) (own_byte q0 (24 : Int32))) (own_byte q0 (16 : Int32))) (own_byte q0 (8 : Int32))) (own_byte q0 (0 : Int32)))), .second, .val (.long (q0 &&& (((1 : Int64) <<< ((40 : Int32) &&& 0x3f).toInt64) - (1 : Int64)))), .second] [(.int (1 : Int32))])) _
    exact retN X12 hx (t := .boolean) Bd.returns (by simp) (hb hby at_146) hr
  · show Q0_5 Z q0 p1 h0 n0 _ T12.heap _
    rw [e12q]
    exact ⟨rfl, N12⟩
theorem ef_rm0_6 (m : MethodId) (q0 : Int64) (p1 : Int32) : entryFrame m #[(.long q0), (.int p1)] maxLocals = mkF m 0 #[.val (.long q0), .second, .val (.int p1), .unset, .unset, .unset, .unset, .unset, .unset] [] := by first | (simp [entryFrame, mkF, argsToLocals, Value.category, maxLocals]; done) | rfl
def Q0_6 (Z : State) (q0 : Int64) (p1 : Int32) (h0 : Heap) (n0 : Nat) (v : Option Value) (h : Heap) (L : List Loc) : Prop := v = some (.int (1 : Int32)) ∧ Fr n0 L
set_option maxRecDepth 65536 in
set_option maxHeartbeats 40000000 in
theorem rm0_6 (l : Launch) (Z : State) (a0 : Array Value) (hw : ∀ d ∈ tables_1, d.before a0 Z = true) (ws : List Jvm.Cond) (q0 : Int64) (p1 : Int32) (h0 : Heap) (n0 : Nat) (Z0 : n0 ≤ h0.size) (hwid : ((p1 &&& (2147483647 : Int32)) % (9 : Int32)) = (6 : Int32)) :
    MetFree l x (head1 (Jvm.Cond.code x code maxLocals ret :: ws) room_1) (fun a U => a = #[(.long q0), (.int p1)] ∧ Z.Warmed39 U.vm ∧ U.heap = h0) (fun _ _ _ _ _ => True) (fun _ U o U' => ∃ v L, o = .returned v ∧ Q0_6 Z q0 p1 h0 n0 v U'.heap L ∧ FrameEnd U o U' L room_1.cells room_1.slots) := by
  refine MetFree.of_bodySF (plainFor_of_name pn_1) hisR ?_
  intro p e s m args below meth c s₁ Bd hml0 hP hK
  obtain ⟨rfl, hZ, hh⟩ := hP
  have hx := Bd.exec
  have hby := Bd.bytes
  have hml : c.maxLocals = 9 := hml0
  have hown : s.vm.findClass "shale/ValueTypeBigEndianPinLaw" = some m.cls := findClass_of_methodNamed Bd.named
  have hnm := (name_of_methodNamed Bd.named Bd.method).1
  have X0 : Stand p l e room_1 s m #[(.long q0), (.int p1)] below meth c s₁ [] 0 0 := Stand.of_body Bd
  have e0 : s₁.heap = h0 := by rw [← hh, Bd.state]; rfl
  have N0 := Fr.nil n0
  have pre0 : ∀ t, Steps p.tables e below (s₁.setTop (mkF m 0 #[.val (.long q0), .second, .val (.int p1), .unset, .unset, .unset, .unset, .unset, .unset] [])) t → Steps p.tables e below (s₁.setTop (entryFrame m #[(.long q0), (.int p1)] maxLocals)) t := fun t k => castTop (ef_rm0_6 m q0 p1) k
  obtain ⟨wd, hm1, pre2⟩ : ∃ (wd : Int32), (wd = (6 : Int32)) ∧ ∀ t, Steps p.tables e below (s₁.setTop (mkF m 7 #[.val (.long q0), .second, .val (.int p1), .unset, .unset, .unset, .unset, .unset, .unset] [(.int wd)])) t → Steps p.tables e below (s₁.setTop (entryFrame m #[(.long q0), (.int p1)] maxLocals)) t := by
    refine ⟨((p1 &&& (2147483647 : Int32)) % (9 : Int32)), hwid, fun t kt => ?_⟩
    refine pre0 _ ?_
    show Steps p.tables e below (s₁.setTop (mkF m 0 #[.val (.long q0), .second, .val (.int p1), .unset, .unset, .unset, .unset, .unset, .unset] [])) _
    refine XS.iloadN X0.here hx rfl (hb hby at_0) rfl ?_
    show Steps p.tables e below (s₁.setTop (mkF m 1 #[.val (.long q0), .second, .val (.int p1), .unset, .unset, .unset, .unset, .unset, .unset] [(.int p1)])) _
    refine X0.ldcInt hx hown (mvT hZ (hw _ (List.mem_of_getElem? (i := 0) rfl))) (g := (mkF m 1 #[.val (.long q0), .second, .val (.int p1), .unset, .unset, .unset, .unset, .unset, .unset] [(.int p1)])) rfl (hb hby at_1) _ ?_
    show Steps p.tables e below (s₁.setTop (mkF m 3 #[.val (.long q0), .second, .val (.int p1), .unset, .unset, .unset, .unset, .unset, .unset] [(.int (2147483647 : Int32)), (.int p1)])) _
    refine XS.iand X0.here hx rfl (hb hby at_3) rfl ?_
    show Steps p.tables e below (s₁.setTop (mkF m 4 #[.val (.long q0), .second, .val (.int p1), .unset, .unset, .unset, .unset, .unset, .unset] [(.int (p1 &&& (2147483647 : Int32)))])) _
    refine XS.bipush X0.here hx rfl (hb hby at_4) ?_
    show Steps p.tables e below (s₁.setTop (mkF m 6 #[.val (.long q0), .second, .val (.int p1), .unset, .unset, .unset, .unset, .unset, .unset] [(.int (9 : Int32)), (.int (p1 &&& (2147483647 : Int32)))])) _
    refine iremM X0 hx rfl (hb hby at_6) rfl (by decide) ?_
    exact kt
  subst hm1
  obtain ⟨_, _, ⟨T3, L3, k3, n3⟩, -, X3, ⟨Lc3, hQ3, l3, y3, z3⟩, st3⟩ := Jvm.LawKit.callS X0 hx (y := (⟨"shale/ValueType", "bigEndian", "(JI)[B"⟩ : MethodName)) hown (mvT hZ (hw _ (List.mem_of_getElem? (i := 1) rfl))) (mvT hZ (hw _ (List.mem_of_getElem? (i := 2) rfl))) (mvT hZ (hw _ (List.mem_of_getElem? (i := 3) rfl))) (mvT hZ (hw _ (List.mem_of_getElem? (i := 4) rfl))) (by decide) (backOf (W := 0) (rmb6 l Z a0 hw [] q0 h0 n0 Z0 ) hZ (hw _ (List.mem_of_getElem? (i := 4) rfl)) (hw _ (List.mem_of_getElem? (i := 3) rfl)) (by decide) (by decide)) (g := (mkF m 10 #[.val (.long q0), .second, .val (.int p1), .val (.int (6 : Int32)), .unset, .unset, .unset, .unset, .unset] [(.int (6 : Int32)), (.long q0)])) rfl (by rw [hml]; rfl) (argsL := [(.long q0), (.int (6 : Int32))]) (rest := []) (lenOf pd_0 rfl) rfl (by show 2 * 0 + _ ≤ _; exact Nat.le_of_eq rfl) (hb hby at_10) (fun _ _ => ⟨rfl, e0, (by decide : 0 + 1 ≤ _), (by decide : 0 + 6 ≤ _)⟩)
  dsimp only [Pt.U, Pt.locs, Pt.cells, Pt.slots] at X3 l3 y3 z3 st3 hQ3
  subst l3 y3 z3
  obtain ⟨b3, kk3, rfl, N3q, K3, V3⟩ := hQ3
  have N3 := Fr.app N0 N3q
  have Z4 : n0 ≤ T3.heap.size := Nat.le_trans Z0 K3.1
  obtain ⟨cl3, Ar3, -, Sa3, Ma3, Ha3, -⟩ := V3
  obtain ⟨_, _, ⟨T5, L5, k5, n5⟩, -, X5, ⟨Lc5, hQ5, l5, y5, z5⟩, st5⟩ := Jvm.LawKit.callS X3 hx (y := (⟨"shale/ValueTypeBigEndianPinLaw", "step", "(J[BI)J"⟩ : MethodName)) hown (mvT hZ (hw _ (List.mem_of_getElem? (i := 6) rfl))) (mvT hZ (hw _ (List.mem_of_getElem? (i := 7) rfl))) (mvT hZ (hw _ (List.mem_of_getElem? (i := 8) rfl))) (mvT hZ (hw _ (List.mem_of_getElem? (i := 9) rfl))) (by decide) (backOf (W := 0) (rmsi l Z a0 hw [] (0 : Int64) b3 (0 : Int32) cl3 (6 : Int32) (own_byte q0 (40 : Int32)) T3.heap n0 Z4 Ar3 Sa3 Ma3 (by decide) (inb_of Sa3 ⟨by decide, by decide⟩) (Ha3 0 (by rw [Sa3]; decide))) hZ (hw _ (List.mem_of_getElem? (i := 9) rfl)) (hw _ (List.mem_of_getElem? (i := 8) rfl)) (by decide) (by decide)) (g := (mkF m 32 #[.val (.long q0), .second, .val (.int p1), .val (.int (6 : Int32)), .val (.ref b3), .val (.long (0 : Int64)), .second, .unset, .unset] [(.int (0 : Int32)), (.ref b3), (.long (0 : Int64))])) rfl (by rw [hml]; rfl) (argsL := [(.long (0 : Int64)), (.ref b3), (.int (0 : Int32))]) (rest := []) (lenOf pd_1 rfl) rfl (by show 2 * 0 + _ ≤ _; exact Nat.le_of_eq rfl) (hb hby at_32) (fun _ _ => ⟨rfl, rfl, (by decide : 1 + 0 ≤ _), (by decide : 6 + 0 ≤ _)⟩)
  dsimp only [Pt.U, Pt.locs, Pt.cells, Pt.slots] at X5 l5 y5 z5 st5 hQ5
  subst l5 y5 z5
  obtain ⟨rfl, N5q, e5q⟩ := hQ5
  have N5 := Fr.app N3 N5q
  obtain ⟨_, _, ⟨T6, L6, k6, n6⟩, -, X6, ⟨Lc6, hQ6, l6, y6, z6⟩, st6⟩ := Jvm.LawKit.callS X5 hx (y := (⟨"shale/ValueTypeBigEndianPinLaw", "step", "(J[BI)J"⟩ : MethodName)) hown (mvT hZ (hw _ (List.mem_of_getElem? (i := 6) rfl))) (mvT hZ (hw _ (List.mem_of_getElem? (i := 7) rfl))) (mvT hZ (hw _ (List.mem_of_getElem? (i := 8) rfl))) (mvT hZ (hw _ (List.mem_of_getElem? (i := 9) rfl))) (by decide) (backOf (W := 0) (rmsi l Z a0 hw [] (own_st (0 : Int64) (own_byte q0 (40 : Int32))) b3 (1 : Int32) cl3 (6 : Int32) (own_byte q0 (32 : Int32)) T3.heap n0 Z4 Ar3 Sa3 Ma3 (by decide) (inb_of Sa3 ⟨by decide, by decide⟩) (Ha3 1 (by rw [Sa3]; decide))) hZ (hw _ (List.mem_of_getElem? (i := 9) rfl)) (hw _ (List.mem_of_getElem? (i := 8) rfl)) (by decide) (by decide)) (g := (mkF m 42 #[.val (.long q0), .second, .val (.int p1), .val (.int (6 : Int32)), .val (.ref b3), .val (.long (own_st (0 : Int64) (own_byte q0 (40 : Int32)))), .second, .unset, .unset] [(.int (1 : Int32)), (.ref b3), (.long (own_st (0 : Int64) (own_byte q0 (40 : Int32))))])) rfl (by rw [hml]; rfl) (argsL := [(.long (own_st (0 : Int64) (own_byte q0 (40 : Int32)))), (.ref b3), (.int (1 : Int32))]) (rest := []) (lenOf pd_1 rfl) rfl (by show 2 * 0 + _ ≤ _; exact Nat.le_of_eq rfl) (hb hby at_42) (fun _ _ => ⟨rfl, e5q, (by decide : 1 + 0 ≤ _), (by decide : 6 + 0 ≤ _)⟩)
  dsimp only [Pt.U, Pt.locs, Pt.cells, Pt.slots] at X6 l6 y6 z6 st6 hQ6
  subst l6 y6 z6
  obtain ⟨rfl, N6q, e6q⟩ := hQ6
  have N6 := Fr.app N5 N6q
  obtain ⟨_, _, ⟨T7, L7, k7, n7⟩, -, X7, ⟨Lc7, hQ7, l7, y7, z7⟩, st7⟩ := Jvm.LawKit.callS X6 hx (y := (⟨"shale/ValueTypeBigEndianPinLaw", "step", "(J[BI)J"⟩ : MethodName)) hown (mvT hZ (hw _ (List.mem_of_getElem? (i := 6) rfl))) (mvT hZ (hw _ (List.mem_of_getElem? (i := 7) rfl))) (mvT hZ (hw _ (List.mem_of_getElem? (i := 8) rfl))) (mvT hZ (hw _ (List.mem_of_getElem? (i := 9) rfl))) (by decide) (backOf (W := 0) (rmsi l Z a0 hw [] (own_st (own_st (0 : Int64) (own_byte q0 (40 : Int32))) (own_byte q0 (32 : Int32))) b3 (2 : Int32) cl3 (6 : Int32) (own_byte q0 (24 : Int32)) T3.heap n0 Z4 Ar3 Sa3 Ma3 (by decide) (inb_of Sa3 ⟨by decide, by decide⟩) (Ha3 2 (by rw [Sa3]; decide))) hZ (hw _ (List.mem_of_getElem? (i := 9) rfl)) (hw _ (List.mem_of_getElem? (i := 8) rfl)) (by decide) (by decide)) (g := (mkF m 52 #[.val (.long q0), .second, .val (.int p1), .val (.int (6 : Int32)), .val (.ref b3), .val (.long (own_st (own_st (0 : Int64) (own_byte q0 (40 : Int32))) (own_byte q0 (32 : Int32)))), .second, .unset, .unset] [(.int (2 : Int32)), (.ref b3), (.long (own_st (own_st (0 : Int64) (own_byte q0 (40 : Int32))) (own_byte q0 (32 : Int32))))])) rfl (by rw [hml]; rfl) (argsL := [(.long (own_st (own_st (0 : Int64) (own_byte q0 (40 : Int32))) (own_byte q0 (32 : Int32)))), (.ref b3), (.int (2 : Int32))]) (rest := []) (lenOf pd_1 rfl) rfl (by show 2 * 0 + _ ≤ _; exact Nat.le_of_eq rfl) (hb hby at_52) (fun _ _ => ⟨rfl, e6q, (by decide : 1 + 0 ≤ _), (by decide : 6 + 0 ≤ _)⟩)
  dsimp only [Pt.U, Pt.locs, Pt.cells, Pt.slots] at X7 l7 y7 z7 st7 hQ7
  subst l7 y7 z7
  obtain ⟨rfl, N7q, e7q⟩ := hQ7
  have N7 := Fr.app N6 N7q
  obtain ⟨_, _, ⟨T8, L8, k8, n8⟩, -, X8, ⟨Lc8, hQ8, l8, y8, z8⟩, st8⟩ := Jvm.LawKit.callS X7 hx (y := (⟨"shale/ValueTypeBigEndianPinLaw", "step", "(J[BI)J"⟩ : MethodName)) hown (mvT hZ (hw _ (List.mem_of_getElem? (i := 6) rfl))) (mvT hZ (hw _ (List.mem_of_getElem? (i := 7) rfl))) (mvT hZ (hw _ (List.mem_of_getElem? (i := 8) rfl))) (mvT hZ (hw _ (List.mem_of_getElem? (i := 9) rfl))) (by decide) (backOf (W := 0) (rmsi l Z a0 hw [] (own_st (own_st (own_st (0 : Int64) (own_byte q0 (40 : Int32))) (own_byte q0 (32 : Int32))) (own_byte q0 (24 : Int32))) b3 (3 : Int32) cl3 (6 : Int32) (own_byte q0 (16 : Int32)) T3.heap n0 Z4 Ar3 Sa3 Ma3 (by decide) (inb_of Sa3 ⟨by decide, by decide⟩) (Ha3 3 (by rw [Sa3]; decide))) hZ (hw _ (List.mem_of_getElem? (i := 9) rfl)) (hw _ (List.mem_of_getElem? (i := 8) rfl)) (by decide) (by decide)) (g := (mkF m 62 #[.val (.long q0), .second, .val (.int p1), .val (.int (6 : Int32)), .val (.ref b3), .val (.long (own_st (own_st (own_st (0 : Int64) (own_byte q0 (40 : Int32))) (own_byte q0 (32 : Int32))) (own_byte q0 (24 : Int32)))), .second, .unset, .unset] [(.int (3 : Int32)), (.ref b3), (.long (own_st (own_st (own_st (0 : Int64) (own_byte q0 (40 : Int32))) (own_byte q0 (32 : Int32))) (own_byte q0 (24 : Int32))))])) rfl (by rw [hml]; rfl) (argsL := [(.long (own_st (own_st (own_st (0 : Int64) (own_byte q0 (40 : Int32))) (own_byte q0 (32 : Int32))) (own_byte q0 (24 : Int32)))), (.ref b3), (.int (3 : Int32))]) (rest := []) (lenOf pd_1 rfl) rfl (by show 2 * 0 + _ ≤ _; exact Nat.le_of_eq rfl) (hb hby at_62) (fun _ _ => ⟨rfl, e7q, (by decide : 1 + 0 ≤ _), (by decide : 6 + 0 ≤ _)⟩)
  dsimp only [Pt.U, Pt.locs, Pt.cells, Pt.slots] at X8 l8 y8 z8 st8 hQ8
  subst l8 y8 z8
  obtain ⟨rfl, N8q, e8q⟩ := hQ8
  have N8 := Fr.app N7 N8q
  obtain ⟨_, _, ⟨T9, L9, k9, n9⟩, -, X9, ⟨Lc9, hQ9, l9, y9, z9⟩, st9⟩ := Jvm.LawKit.callS X8 hx (y := (⟨"shale/ValueTypeBigEndianPinLaw", "step", "(J[BI)J"⟩ : MethodName)) hown (mvT hZ (hw _ (List.mem_of_getElem? (i := 6) rfl))) (mvT hZ (hw _ (List.mem_of_getElem? (i := 7) rfl))) (mvT hZ (hw _ (List.mem_of_getElem? (i := 8) rfl))) (mvT hZ (hw _ (List.mem_of_getElem? (i := 9) rfl))) (by decide) (backOf (W := 0) (rmsi l Z a0 hw [] (own_st (own_st (own_st (own_st (0 : Int64) (own_byte q0 (40 : Int32))) (own_byte q0 (32 : Int32))) (own_byte q0 (24 : Int32))) (own_byte q0 (16 : Int32))) b3 (4 : Int32) cl3 (6 : Int32) (own_byte q0 (8 : Int32)) T3.heap n0 Z4 Ar3 Sa3 Ma3 (by decide) (inb_of Sa3 ⟨by decide, by decide⟩) (Ha3 4 (by rw [Sa3]; decide))) hZ (hw _ (List.mem_of_getElem? (i := 9) rfl)) (hw _ (List.mem_of_getElem? (i := 8) rfl)) (by decide) (by decide)) (g := (mkF m 72 #[.val (.long q0), .second, .val (.int p1), .val (.int (6 : Int32)), .val (.ref b3), .val (.long (own_st (own_st (own_st (own_st (0 : Int64) (own_byte q0 (40 : Int32))) (own_byte q0 (32 : Int32))) (own_byte q0 (24 : Int32))) (own_byte q0 (16 : Int32)))), .second, .unset, .unset] [(.int (4 : Int32)), (.ref b3), (.long (own_st (own_st (own_st (own_st (0 : Int64) (own_byte q0 (40 : Int32))) (own_byte q0 (32 : Int32))) (own_byte q0 (24 : Int32))) (own_byte q0 (16 : Int32))))])) rfl (by rw [hml]; rfl) (argsL := [(.long (own_st (own_st (own_st (own_st (0 : Int64) (own_byte q0 (40 : Int32))) (own_byte q0 (32 : Int32))) (own_byte q0 (24 : Int32))) (own_byte q0 (16 : Int32)))), (.ref b3), (.int (4 : Int32))]) (rest := []) (lenOf pd_1 rfl) rfl (by show 2 * 0 + _ ≤ _; exact Nat.le_of_eq rfl) (hb hby at_72) (fun _ _ => ⟨rfl, e8q, (by decide : 1 + 0 ≤ _), (by decide : 6 + 0 ≤ _)⟩)
  dsimp only [Pt.U, Pt.locs, Pt.cells, Pt.slots] at X9 l9 y9 z9 st9 hQ9
  subst l9 y9 z9
  obtain ⟨rfl, N9q, e9q⟩ := hQ9
  have N9 := Fr.app N8 N9q
  obtain ⟨_, _, ⟨T10, L10, k10, n10⟩, -, X10, ⟨Lc10, hQ10, l10, y10, z10⟩, st10⟩ := Jvm.LawKit.callS X9 hx (y := (⟨"shale/ValueTypeBigEndianPinLaw", "step", "(J[BI)J"⟩ : MethodName)) hown (mvT hZ (hw _ (List.mem_of_getElem? (i := 6) rfl))) (mvT hZ (hw _ (List.mem_of_getElem? (i := 7) rfl))) (mvT hZ (hw _ (List.mem_of_getElem? (i := 8) rfl))) (mvT hZ (hw _ (List.mem_of_getElem? (i := 9) rfl))) (by decide) (backOf (W := 0) (rmsi l Z a0 hw [] (own_st (own_st (own_st (own_st (own_st (0 : Int64) (own_byte q0 (40 : Int32))) (own_byte q0 (32 : Int32))) (own_byte q0 (24 : Int32))) (own_byte q0 (16 : Int32))) (own_byte q0 (8 : Int32))) b3 (5 : Int32) cl3 (6 : Int32) (own_byte q0 (0 : Int32)) T3.heap n0 Z4 Ar3 Sa3 Ma3 (by decide) (inb_of Sa3 ⟨by decide, by decide⟩) (Ha3 5 (by rw [Sa3]; decide))) hZ (hw _ (List.mem_of_getElem? (i := 9) rfl)) (hw _ (List.mem_of_getElem? (i := 8) rfl)) (by decide) (by decide)) (g := (mkF m 82 #[.val (.long q0), .second, .val (.int p1), .val (.int (6 : Int32)), .val (.ref b3), .val (.long (own_st (own_st (own_st (own_st (own_st (0 : Int64) (own_byte q0 (40 : Int32))) (own_byte q0 (32 : Int32))) (own_byte q0 (24 : Int32))) (own_byte q0 (16 : Int32))) (own_byte q0 (8 : Int32)))), .second, .unset, .unset] [(.int (5 : Int32)), (.ref b3), (.long (own_st (own_st (own_st (own_st (own_st (0 : Int64) (own_byte q0 (40 : Int32))) (own_byte q0 (32 : Int32))) (own_byte q0 (24 : Int32))) (own_byte q0 (16 : Int32))) (own_byte q0 (8 : Int32))))])) rfl (by rw [hml]; rfl) (argsL := [(.long (own_st (own_st (own_st (own_st (own_st (0 : Int64) (own_byte q0 (40 : Int32))) (own_byte q0 (32 : Int32))) (own_byte q0 (24 : Int32))) (own_byte q0 (16 : Int32))) (own_byte q0 (8 : Int32)))), (.ref b3), (.int (5 : Int32))]) (rest := []) (lenOf pd_1 rfl) rfl (by show 2 * 0 + _ ≤ _; exact Nat.le_of_eq rfl) (hb hby at_82) (fun _ _ => ⟨rfl, e9q, (by decide : 1 + 0 ≤ _), (by decide : 6 + 0 ≤ _)⟩)
  dsimp only [Pt.U, Pt.locs, Pt.cells, Pt.slots] at X10 l10 y10 z10 st10 hQ10
  subst l10 y10 z10
  obtain ⟨rfl, N10q, e10q⟩ := hQ10
  have N10 := Fr.app N9 N10q
  obtain ⟨_, _, ⟨T11, L11, k11, n11⟩, -, X11, ⟨Lc11, hQ11, l11, y11, z11⟩, st11⟩ := Jvm.LawKit.callS X10 hx (y := (⟨"shale/ValueTypeBigEndianPinLaw", "step", "(J[BI)J"⟩ : MethodName)) hown (mvT hZ (hw _ (List.mem_of_getElem? (i := 6) rfl))) (mvT hZ (hw _ (List.mem_of_getElem? (i := 7) rfl))) (mvT hZ (hw _ (List.mem_of_getElem? (i := 8) rfl))) (mvT hZ (hw _ (List.mem_of_getElem? (i := 9) rfl))) (by decide) (backOf (W := 0) (rmso l Z a0 hw [] (own_st (own_st (own_st (own_st (own_st (own_st (0 : Int64) (own_byte q0 (40 : Int32))) (own_byte q0 (32 : Int32))) (own_byte q0 (24 : Int32))) (own_byte q0 (16 : Int32))) (own_byte q0 (8 : Int32))) (own_byte q0 (0 : Int32))) b3 (6 : Int32) cl3 (6 : Int32) T3.heap n0 Z4 Ar3 Sa3 Ma3 (by decide)) hZ (hw _ (List.mem_of_getElem? (i := 9) rfl)) (hw _ (List.mem_of_getElem? (i := 8) rfl)) (by decide) (by decide)) (g := (mkF m 93 #[.val (.long q0), .second, .val (.int p1), .val (.int (6 : Int32)), .val (.ref b3), .val (.long (own_st (own_st (own_st (own_st (own_st (own_st (0 : Int64) (own_byte q0 (40 : Int32))) (own_byte q0 (32 : Int32))) (own_byte q0 (24 : Int32))) (own_byte q0 (16 : Int32))) (own_byte q0 (8 : Int32))) (own_byte q0 (0 : Int32)))), .second, .unset, .unset] [(.int (6 : Int32)), (.ref b3), (.long (own_st (own_st (own_st (own_st (own_st (own_st (0 : Int64) (own_byte q0 (40 : Int32))) (own_byte q0 (32 : Int32))) (own_byte q0 (24 : Int32))) (own_byte q0 (16 : Int32))) (own_byte q0 (8 : Int32))) (own_byte q0 (0 : Int32))))])) rfl (by rw [hml]; rfl) (argsL := [(.long (own_st (own_st (own_st (own_st (own_st (own_st (0 : Int64) (own_byte q0 (40 : Int32))) (own_byte q0 (32 : Int32))) (own_byte q0 (24 : Int32))) (own_byte q0 (16 : Int32))) (own_byte q0 (8 : Int32))) (own_byte q0 (0 : Int32)))), (.ref b3), (.int (6 : Int32))]) (rest := []) (lenOf pd_1 rfl) rfl (by show 2 * 0 + _ ≤ _; exact Nat.le_of_eq rfl) (hb hby at_93) (fun _ _ => ⟨rfl, e10q, (by decide : 1 + 0 ≤ _), (by decide : 6 + 0 ≤ _)⟩)
  dsimp only [Pt.U, Pt.locs, Pt.cells, Pt.slots] at X11 l11 y11 z11 st11 hQ11
  subst l11 y11 z11
  obtain ⟨rfl, N11q, e11q⟩ := hQ11
  have N11 := Fr.app N10 N11q
  obtain ⟨_, _, ⟨T12, L12, k12, n12⟩, -, X12, ⟨Lc12, hQ12, l12, y12, z12⟩, st12⟩ := Jvm.LawKit.callS X11 hx (y := (⟨"shale/ValueTypeBigEndianPinLaw", "step", "(J[BI)J"⟩ : MethodName)) hown (mvT hZ (hw _ (List.mem_of_getElem? (i := 6) rfl))) (mvT hZ (hw _ (List.mem_of_getElem? (i := 7) rfl))) (mvT hZ (hw _ (List.mem_of_getElem? (i := 8) rfl))) (mvT hZ (hw _ (List.mem_of_getElem? (i := 9) rfl))) (by decide) (backOf (W := 0) (rmso l Z a0 hw [] (own_st (own_st (own_st (own_st (own_st (own_st (0 : Int64) (own_byte q0 (40 : Int32))) (own_byte q0 (32 : Int32))) (own_byte q0 (24 : Int32))) (own_byte q0 (16 : Int32))) (own_byte q0 (8 : Int32))) (own_byte q0 (0 : Int32))) b3 (7 : Int32) cl3 (6 : Int32) T3.heap n0 Z4 Ar3 Sa3 Ma3 (by decide)) hZ (hw _ (List.mem_of_getElem? (i := 9) rfl)) (hw _ (List.mem_of_getElem? (i := 8) rfl)) (by decide) (by decide)) (g := (mkF m 104 #[.val (.long q0), .second, .val (.int p1), .val (.int (6 : Int32)), .val (.ref b3), .val (.long (own_st (own_st (own_st (own_st (own_st (own_st (0 : Int64) (own_byte q0 (40 : Int32))) (own_byte q0 (32 : Int32))) (own_byte q0 (24 : Int32))) (own_byte q0 (16 : Int32))) (own_byte q0 (8 : Int32))) (own_byte q0 (0 : Int32)))), .second, .unset, .unset] [(.int (7 : Int32)), (.ref b3), (.long (own_st (own_st (own_st (own_st (own_st (own_st (0 : Int64) (own_byte q0 (40 : Int32))) (own_byte q0 (32 : Int32))) (own_byte q0 (24 : Int32))) (own_byte q0 (16 : Int32))) (own_byte q0 (8 : Int32))) (own_byte q0 (0 : Int32))))])) rfl (by rw [hml]; rfl) (argsL := [(.long (own_st (own_st (own_st (own_st (own_st (own_st (0 : Int64) (own_byte q0 (40 : Int32))) (own_byte q0 (32 : Int32))) (own_byte q0 (24 : Int32))) (own_byte q0 (16 : Int32))) (own_byte q0 (8 : Int32))) (own_byte q0 (0 : Int32)))), (.ref b3), (.int (7 : Int32))]) (rest := []) (lenOf pd_1 rfl) rfl (by show 2 * 0 + _ ≤ _; exact Nat.le_of_eq rfl) (hb hby at_104) (fun _ _ => ⟨rfl, e11q, (by decide : 1 + 0 ≤ _), (by decide : 6 + 0 ≤ _)⟩)
  dsimp only [Pt.U, Pt.locs, Pt.cells, Pt.slots] at X12 l12 y12 z12 st12 hQ12
  subst l12 y12 z12
  obtain ⟨rfl, N12q, e12q⟩ := hQ12
  have N12 := Fr.app N11 N12q
  obtain ⟨fs, hr, hrun, hended, hW, hsame⟩ := X12.leave (v := some (.int (1 : Int32))) (fun h => by rw [Bd.returns] at h; cases h)
  refine ⟨_, _, pre2 _ ?_, hrun, hended, _, _, rfl, ?_, ⟨_, rfl⟩, hW, hsame.mono (by decide) (by decide)⟩
  · show Steps p.tables e below (s₁.setTop (mkF m 7 #[.val (.long q0), .second, .val (.int p1), .unset, .unset, .unset, .unset, .unset, .unset] [(.int (6 : Int32))])) _
    refine XS.istoreN X0.here hx rfl (hb hby at_7) rfl (l' := #[.val (.long q0), .second, .val (.int p1), .val (.int (6 : Int32)), .unset, .unset, .unset, .unset, .unset]) rfl ?_
    show Steps p.tables e below (s₁.setTop (mkF m 8 #[.val (.long q0), .second, .val (.int p1), .val (.int (6 : Int32)), .unset, .unset, .unset, .unset, .unset] [])) _
    refine XS.lloadN X0.here hx rfl (hb hby at_8) rfl ?_
    show Steps p.tables e below (s₁.setTop (mkF m 9 #[.val (.long q0), .second, .val (.int p1), .val (.int (6 : Int32)), .unset, .unset, .unset, .unset, .unset] [(.long q0)])) _
    refine XS.iloadN X0.here hx rfl (hb hby at_9) rfl ?_
    show Steps p.tables e below (s₁.setTop (mkF m 10 #[.val (.long q0), .second, .val (.int p1), .val (.int (6 : Int32)), .unset, .unset, .unset, .unset, .unset] [(.int (6 : Int32)), (.long q0)])) _
    refine st3 _ ?_
    show Steps p.tables e below (T3.setTop (mkF m 13 #[.val (.long q0), .second, .val (.int p1), .val (.int (6 : Int32)), .unset, .unset, .unset, .unset, .unset] [(.ref b3)])) _
    refine XS.astore X3.here hx rfl (hb hby at_13) rfl rfl (l' := #[.val (.long q0), .second, .val (.int p1), .val (.int (6 : Int32)), .val (.ref b3), .unset, .unset, .unset, .unset]) rfl ?_
    show Steps p.tables e below (T3.setTop (mkF m 15 #[.val (.long q0), .second, .val (.int p1), .val (.int (6 : Int32)), .val (.ref b3), .unset, .unset, .unset, .unset] [])) _
    refine XS.aload X3.here hx rfl (hb hby at_15) rfl rfl ?_
    show Steps p.tables e below (T3.setTop (mkF m 17 #[.val (.long q0), .second, .val (.int p1), .val (.int (6 : Int32)), .val (.ref b3), .unset, .unset, .unset, .unset] [(.ref b3)])) _
    refine X3.arraylength hx Ar3.1 (State.isArrayOf_alike hZ.alike Ar3.2.1) (g := (mkF m 17 #[.val (.long q0), .second, .val (.int p1), .val (.int (6 : Int32)), .val (.ref b3), .unset, .unset, .unset, .unset] [(.ref b3)])) rfl rfl (hb hby at_17) _ ?_
    rw [len_of Sa3 Ma3]
    show Steps p.tables e below (T3.setTop (mkF m 18 #[.val (.long q0), .second, .val (.int p1), .val (.int (6 : Int32)), .val (.ref b3), .unset, .unset, .unset, .unset] [(.int (6 : Int32))])) _
    refine XS.iloadN X3.here hx rfl (hb hby at_18) rfl ?_
    show Steps p.tables e below (T3.setTop (mkF m 19 #[.val (.long q0), .second, .val (.int p1), .val (.int (6 : Int32)), .val (.ref b3), .unset, .unset, .unset, .unset] [(.int (6 : Int32)), (.int (6 : Int32))])) _
    refine XS.icmpYes X3.here hx rfl (pc0 := 19) (pc' := 24) rfl (hb hby at_19) rfl (teq (by decide : (6 : Int32) = (6 : Int32))).1 (by decide) (by decide) ?_
    show Steps p.tables e below (T3.setTop (mkF m 24 #[.val (.long q0), .second, .val (.int p1), .val (.int (6 : Int32)), .val (.ref b3), .unset, .unset, .unset, .unset] [])) _
    refine XS.lconst X3.here hx rfl (hb hby at_24) ?_
    show Steps p.tables e below (T3.setTop (mkF m 25 #[.val (.long q0), .second, .val (.int p1), .val (.int (6 : Int32)), .val (.ref b3), .unset, .unset, .unset, .unset] [(.long (0 : Int64))])) _
    refine XS.lstore X3.here hx rfl (hb hby at_25) rfl (l' := #[.val (.long q0), .second, .val (.int p1), .val (.int (6 : Int32)), .val (.ref b3), .val (.long (0 : Int64)), .second, .unset, .unset]) rfl ?_
    show Steps p.tables e below (T3.setTop (mkF m 27 #[.val (.long q0), .second, .val (.int p1), .val (.int (6 : Int32)), .val (.ref b3), .val (.long (0 : Int64)), .second, .unset, .unset] [])) _
    refine XS.lload X3.here hx rfl (hb hby at_27) rfl ?_
    show Steps p.tables e below (T3.setTop (mkF m 29 #[.val (.long q0), .second, .val (.int p1), .val (.int (6 : Int32)), .val (.ref b3), .val (.long (0 : Int64)), .second, .unset, .unset] [(.long (0 : Int64))])) _
    refine XS.aload X3.here hx rfl (hb hby at_29) rfl rfl ?_
    show Steps p.tables e below (T3.setTop (mkF m 31 #[.val (.long q0), .second, .val (.int p1), .val (.int (6 : Int32)), .val (.ref b3), .val (.long (0 : Int64)), .second, .unset, .unset] [(.ref b3), (.long (0 : Int64))])) _
    refine XS.iconst X3.here hx rfl (hb hby at_31) ?_
    show Steps p.tables e below (T3.setTop (mkF m 32 #[.val (.long q0), .second, .val (.int p1), .val (.int (6 : Int32)), .val (.ref b3), .val (.long (0 : Int64)), .second, .unset, .unset] [(.int (0 : Int32)), (.ref b3), (.long (0 : Int64))])) _
    refine st5 _ ?_
    show Steps p.tables e below (T5.setTop (mkF m 35 #[.val (.long q0), .second, .val (.int p1), .val (.int (6 : Int32)), .val (.ref b3), .val (.long (0 : Int64)), .second, .unset, .unset] [(.long (own_st (0 : Int64) (own_byte q0 (40 : Int32))))])) _
    refine XS.lstore X5.here hx rfl (hb hby at_35) rfl (l' := #[.val (.long q0), .second, .val (.int p1), .val (.int (6 : Int32)), .val (.ref b3), .val (.long (own_st (0 : Int64) (own_byte q0 (40 : Int32)))), .second, .unset, .unset]) rfl ?_
    show Steps p.tables e below (T5.setTop (mkF m 37 #[.val (.long q0), .second, .val (.int p1), .val (.int (6 : Int32)), .val (.ref b3), .val (.long (own_st (0 : Int64) (own_byte q0 (40 : Int32)))), .second, .unset, .unset] [])) _
    refine XS.lload X5.here hx rfl (hb hby at_37) rfl ?_
    show Steps p.tables e below (T5.setTop (mkF m 39 #[.val (.long q0), .second, .val (.int p1), .val (.int (6 : Int32)), .val (.ref b3), .val (.long (own_st (0 : Int64) (own_byte q0 (40 : Int32)))), .second, .unset, .unset] [(.long (own_st (0 : Int64) (own_byte q0 (40 : Int32))))])) _
    refine XS.aload X5.here hx rfl (hb hby at_39) rfl rfl ?_
    show Steps p.tables e below (T5.setTop (mkF m 41 #[.val (.long q0), .second, .val (.int p1), .val (.int (6 : Int32)), .val (.ref b3), .val (.long (own_st (0 : Int64) (own_byte q0 (40 : Int32)))), .second, .unset, .unset] [(.ref b3), (.long (own_st (0 : Int64) (own_byte q0 (40 : Int32))))])) _
    refine XS.iconst X5.here hx rfl (hb hby at_41) ?_
    show Steps p.tables e below (T5.setTop (mkF m 42 #[.val (.long q0), .second, .val (.int p1), .val (.int (6 : Int32)), .val (.ref b3), .val (.long (own_st (0 : Int64) (own_byte q0 (40 : Int32)))), .second, .unset, .unset] [(.int (1 : Int32)), (.ref b3), (.long (own_st (0 : Int64) (own_byte q0 (40 : Int32))))])) _
    refine st6 _ ?_
    show Steps p.tables e below (T6.setTop (mkF m 45 #[.val (.long q0), .second, .val (.int p1), .val (.int (6 : Int32)), .val (.ref b3), .val (.long (own_st (0 : Int64) (own_byte q0 (40 : Int32)))), .second, .unset, .unset] [(.long (own_st (own_st (0 : Int64) (own_byte q0 (40 : Int32))) (own_byte q0 (32 : Int32))))])) _
    refine XS.lstore X6.here hx rfl (hb hby at_45) rfl (l' := #[.val (.long q0), .second, .val (.int p1), .val (.int (6 : Int32)), .val (.ref b3), .val (.long (own_st (own_st (0 : Int64) (own_byte q0 (40 : Int32))) (own_byte q0 (32 : Int32)))), .second, .unset, .unset]) rfl ?_
    show Steps p.tables e below (T6.setTop (mkF m 47 #[.val (.long q0), .second, .val (.int p1), .val (.int (6 : Int32)), .val (.ref b3), .val (.long (own_st (own_st (0 : Int64) (own_byte q0 (40 : Int32))) (own_byte q0 (32 : Int32)))), .second, .unset, .unset] [])) _
    refine XS.lload X6.here hx rfl (hb hby at_47) rfl ?_
    show Steps p.tables e below (T6.setTop (mkF m 49 #[.val (.long q0), .second, .val (.int p1), .val (.int (6 : Int32)), .val (.ref b3), .val (.long (own_st (own_st (0 : Int64) (own_byte q0 (40 : Int32))) (own_byte q0 (32 : Int32)))), .second, .unset, .unset] [(.long (own_st (own_st (0 : Int64) (own_byte q0 (40 : Int32))) (own_byte q0 (32 : Int32))))])) _
    refine XS.aload X6.here hx rfl (hb hby at_49) rfl rfl ?_
    show Steps p.tables e below (T6.setTop (mkF m 51 #[.val (.long q0), .second, .val (.int p1), .val (.int (6 : Int32)), .val (.ref b3), .val (.long (own_st (own_st (0 : Int64) (own_byte q0 (40 : Int32))) (own_byte q0 (32 : Int32)))), .second, .unset, .unset] [(.ref b3), (.long (own_st (own_st (0 : Int64) (own_byte q0 (40 : Int32))) (own_byte q0 (32 : Int32))))])) _
    refine XS.iconst X6.here hx rfl (hb hby at_51) ?_
    show Steps p.tables e below (T6.setTop (mkF m 52 #[.val (.long q0), .second, .val (.int p1), .val (.int (6 : Int32)), .val (.ref b3), .val (.long (own_st (own_st (0 : Int64) (own_byte q0 (40 : Int32))) (own_byte q0 (32 : Int32)))), .second, .unset, .unset] [(.int (2 : Int32)), (.ref b3), (.long (own_st (own_st (0 : Int64) (own_byte q0 (40 : Int32))) (own_byte q0 (32 : Int32))))])) _
    refine st7 _ ?_
    show Steps p.tables e below (T7.setTop (mkF m 55 #[.val (.long q0), .second, .val (.int p1), .val (.int (6 : Int32)), .val (.ref b3), .val (.long (own_st (own_st (0 : Int64) (own_byte q0 (40 : Int32))) (own_byte q0 (32 : Int32)))), .second, .unset, .unset] [(.long (own_st (own_st (own_st (0 : Int64) (own_byte q0 (40 : Int32))) (own_byte q0 (32 : Int32))) (own_byte q0 (24 : Int32))))])) _
    refine XS.lstore X7.here hx rfl (hb hby at_55) rfl (l' := #[.val (.long q0), .second, .val (.int p1), .val (.int (6 : Int32)), .val (.ref b3), .val (.long (own_st (own_st (own_st (0 : Int64) (own_byte q0 (40 : Int32))) (own_byte q0 (32 : Int32))) (own_byte q0 (24 : Int32)))), .second, .unset, .unset]) rfl ?_
    show Steps p.tables e below (T7.setTop (mkF m 57 #[.val (.long q0), .second, .val (.int p1), .val (.int (6 : Int32)), .val (.ref b3), .val (.long (own_st (own_st (own_st (0 : Int64) (own_byte q0 (40 : Int32))) (own_byte q0 (32 : Int32))) (own_byte q0 (24 : Int32)))), .second, .unset, .unset] [])) _
    refine XS.lload X7.here hx rfl (hb hby at_57) rfl ?_
    show Steps p.tables e below (T7.setTop (mkF m 59 #[.val (.long q0), .second, .val (.int p1), .val (.int (6 : Int32)), .val (.ref b3), .val (.long (own_st (own_st (own_st (0 : Int64) (own_byte q0 (40 : Int32))) (own_byte q0 (32 : Int32))) (own_byte q0 (24 : Int32)))), .second, .unset, .unset] [(.long (own_st (own_st (own_st (0 : Int64) (own_byte q0 (40 : Int32))) (own_byte q0 (32 : Int32))) (own_byte q0 (24 : Int32))))])) _
    refine XS.aload X7.here hx rfl (hb hby at_59) rfl rfl ?_
    show Steps p.tables e below (T7.setTop (mkF m 61 #[.val (.long q0), .second, .val (.int p1), .val (.int (6 : Int32)), .val (.ref b3), .val (.long (own_st (own_st (own_st (0 : Int64) (own_byte q0 (40 : Int32))) (own_byte q0 (32 : Int32))) (own_byte q0 (24 : Int32)))), .second, .unset, .unset] [(.ref b3), (.long (own_st (own_st (own_st (0 : Int64) (own_byte q0 (40 : Int32))) (own_byte q0 (32 : Int32))) (own_byte q0 (24 : Int32))))])) _
    refine XS.iconst X7.here hx rfl (hb hby at_61) ?_
    show Steps p.tables e below (T7.setTop (mkF m 62 #[.val (.long q0), .second, .val (.int p1), .val (.int (6 : Int32)), .val (.ref b3), .val (.long (own_st (own_st (own_st (0 : Int64) (own_byte q0 (40 : Int32))) (own_byte q0 (32 : Int32))) (own_byte q0 (24 : Int32)))), .second, .unset, .unset] [(.int (3 : Int32)), (.ref b3), (.long (own_st (own_st (own_st (0 : Int64) (own_byte q0 (40 : Int32))) (own_byte q0 (32 : Int32))) (own_byte q0 (24 : Int32))))])) _
    refine st8 _ ?_
    show Steps p.tables e below (T8.setTop (mkF m 65 #[.val (.long q0), .second, .val (.int p1), .val (.int (6 : Int32)), .val (.ref b3), .val (.long (own_st (own_st (own_st (0 : Int64) (own_byte q0 (40 : Int32))) (own_byte q0 (32 : Int32))) (own_byte q0 (24 : Int32)))), .second, .unset, .unset] [(.long (own_st (own_st (own_st (own_st (0 : Int64) (own_byte q0 (40 : Int32))) (own_byte q0 (32 : Int32))) (own_byte q0 (24 : Int32))) (own_byte q0 (16 : Int32))))])) _
    refine XS.lstore X8.here hx rfl (hb hby at_65) rfl (l' := #[.val (.long q0), .second, .val (.int p1), .val (.int (6 : Int32)), .val (.ref b3), .val (.long (own_st (own_st (own_st (own_st (0 : Int64) (own_byte q0 (40 : Int32))) (own_byte q0 (32 : Int32))) (own_byte q0 (24 : Int32))) (own_byte q0 (16 : Int32)))), .second, .unset, .unset]) rfl ?_
    show Steps p.tables e below (T8.setTop (mkF m 67 #[.val (.long q0), .second, .val (.int p1), .val (.int (6 : Int32)), .val (.ref b3), .val (.long (own_st (own_st (own_st (own_st (0 : Int64) (own_byte q0 (40 : Int32))) (own_byte q0 (32 : Int32))) (own_byte q0 (24 : Int32))) (own_byte q0 (16 : Int32)))), .second, .unset, .unset] [])) _
    refine XS.lload X8.here hx rfl (hb hby at_67) rfl ?_
    show Steps p.tables e below (T8.setTop (mkF m 69 #[.val (.long q0), .second, .val (.int p1), .val (.int (6 : Int32)), .val (.ref b3), .val (.long (own_st (own_st (own_st (own_st (0 : Int64) (own_byte q0 (40 : Int32))) (own_byte q0 (32 : Int32))) (own_byte q0 (24 : Int32))) (own_byte q0 (16 : Int32)))), .second, .unset, .unset] [(.long (own_st (own_st (own_st (own_st (0 : Int64) (own_byte q0 (40 : Int32))) (own_byte q0 (32 : Int32))) (own_byte q0 (24 : Int32))) (own_byte q0 (16 : Int32))))])) _
    refine XS.aload X8.here hx rfl (hb hby at_69) rfl rfl ?_
    show Steps p.tables e below (T8.setTop (mkF m 71 #[.val (.long q0), .second, .val (.int p1), .val (.int (6 : Int32)), .val (.ref b3), .val (.long (own_st (own_st (own_st (own_st (0 : Int64) (own_byte q0 (40 : Int32))) (own_byte q0 (32 : Int32))) (own_byte q0 (24 : Int32))) (own_byte q0 (16 : Int32)))), .second, .unset, .unset] [(.ref b3), (.long (own_st (own_st (own_st (own_st (0 : Int64) (own_byte q0 (40 : Int32))) (own_byte q0 (32 : Int32))) (own_byte q0 (24 : Int32))) (own_byte q0 (16 : Int32))))])) _
    refine XS.iconst X8.here hx rfl (hb hby at_71) ?_
    show Steps p.tables e below (T8.setTop (mkF m 72 #[.val (.long q0), .second, .val (.int p1), .val (.int (6 : Int32)), .val (.ref b3), .val (.long (own_st (own_st (own_st (own_st (0 : Int64) (own_byte q0 (40 : Int32))) (own_byte q0 (32 : Int32))) (own_byte q0 (24 : Int32))) (own_byte q0 (16 : Int32)))), .second, .unset, .unset] [(.int (4 : Int32)), (.ref b3), (.long (own_st (own_st (own_st (own_st (0 : Int64) (own_byte q0 (40 : Int32))) (own_byte q0 (32 : Int32))) (own_byte q0 (24 : Int32))) (own_byte q0 (16 : Int32))))])) _
    refine st9 _ ?_
    show Steps p.tables e below (T9.setTop (mkF m 75 #[.val (.long q0), .second, .val (.int p1), .val (.int (6 : Int32)), .val (.ref b3), .val (.long (own_st (own_st (own_st (own_st (0 : Int64) (own_byte q0 (40 : Int32))) (own_byte q0 (32 : Int32))) (own_byte q0 (24 : Int32))) (own_byte q0 (16 : Int32)))), .second, .unset, .unset] [(.long (own_st (own_st (own_st (own_st (own_st (0 : Int64) (own_byte q0 (40 : Int32))) (own_byte q0 (32 : Int32))) (own_byte q0 (24 : Int32))) (own_byte q0 (16 : Int32))) (own_byte q0 (8 : Int32))))])) _
    refine XS.lstore X9.here hx rfl (hb hby at_75) rfl (l' := #[.val (.long q0), .second, .val (.int p1), .val (.int (6 : Int32)), .val (.ref b3), .val (.long (own_st (own_st (own_st (own_st (own_st (0 : Int64) (own_byte q0 (40 : Int32))) (own_byte q0 (32 : Int32))) (own_byte q0 (24 : Int32))) (own_byte q0 (16 : Int32))) (own_byte q0 (8 : Int32)))), .second, .unset, .unset]) rfl ?_
    show Steps p.tables e below (T9.setTop (mkF m 77 #[.val (.long q0), .second, .val (.int p1), .val (.int (6 : Int32)), .val (.ref b3), .val (.long (own_st (own_st (own_st (own_st (own_st (0 : Int64) (own_byte q0 (40 : Int32))) (own_byte q0 (32 : Int32))) (own_byte q0 (24 : Int32))) (own_byte q0 (16 : Int32))) (own_byte q0 (8 : Int32)))), .second, .unset, .unset] [])) _
    refine XS.lload X9.here hx rfl (hb hby at_77) rfl ?_
    show Steps p.tables e below (T9.setTop (mkF m 79 #[.val (.long q0), .second, .val (.int p1), .val (.int (6 : Int32)), .val (.ref b3), .val (.long (own_st (own_st (own_st (own_st (own_st (0 : Int64) (own_byte q0 (40 : Int32))) (own_byte q0 (32 : Int32))) (own_byte q0 (24 : Int32))) (own_byte q0 (16 : Int32))) (own_byte q0 (8 : Int32)))), .second, .unset, .unset] [(.long (own_st (own_st (own_st (own_st (own_st (0 : Int64) (own_byte q0 (40 : Int32))) (own_byte q0 (32 : Int32))) (own_byte q0 (24 : Int32))) (own_byte q0 (16 : Int32))) (own_byte q0 (8 : Int32))))])) _
    refine XS.aload X9.here hx rfl (hb hby at_79) rfl rfl ?_
    show Steps p.tables e below (T9.setTop (mkF m 81 #[.val (.long q0), .second, .val (.int p1), .val (.int (6 : Int32)), .val (.ref b3), .val (.long (own_st (own_st (own_st (own_st (own_st (0 : Int64) (own_byte q0 (40 : Int32))) (own_byte q0 (32 : Int32))) (own_byte q0 (24 : Int32))) (own_byte q0 (16 : Int32))) (own_byte q0 (8 : Int32)))), .second, .unset, .unset] [(.ref b3), (.long (own_st (own_st (own_st (own_st (own_st (0 : Int64) (own_byte q0 (40 : Int32))) (own_byte q0 (32 : Int32))) (own_byte q0 (24 : Int32))) (own_byte q0 (16 : Int32))) (own_byte q0 (8 : Int32))))])) _
    refine XS.iconst X9.here hx rfl (hb hby at_81) ?_
    show Steps p.tables e below (T9.setTop (mkF m 82 #[.val (.long q0), .second, .val (.int p1), .val (.int (6 : Int32)), .val (.ref b3), .val (.long (own_st (own_st (own_st (own_st (own_st (0 : Int64) (own_byte q0 (40 : Int32))) (own_byte q0 (32 : Int32))) (own_byte q0 (24 : Int32))) (own_byte q0 (16 : Int32))) (own_byte q0 (8 : Int32)))), .second, .unset, .unset] [(.int (5 : Int32)), (.ref b3), (.long (own_st (own_st (own_st (own_st (own_st (0 : Int64) (own_byte q0 (40 : Int32))) (own_byte q0 (32 : Int32))) (own_byte q0 (24 : Int32))) (own_byte q0 (16 : Int32))) (own_byte q0 (8 : Int32))))])) _
    refine st10 _ ?_
    show Steps p.tables e below (T10.setTop (mkF m 85 #[.val (.long q0), .second, .val (.int p1), .val (.int (6 : Int32)), .val (.ref b3), .val (.long (own_st (own_st (own_st (own_st (own_st (0 : Int64) (own_byte q0 (40 : Int32))) (own_byte q0 (32 : Int32))) (own_byte q0 (24 : Int32))) (own_byte q0 (16 : Int32))) (own_byte q0 (8 : Int32)))), .second, .unset, .unset] [(.long (own_st (own_st (own_st (own_st (own_st (own_st (0 : Int64) (own_byte q0 (40 : Int32))) (own_byte q0 (32 : Int32))) (own_byte q0 (24 : Int32))) (own_byte q0 (16 : Int32))) (own_byte q0 (8 : Int32))) (own_byte q0 (0 : Int32))))])) _
    refine XS.lstore X10.here hx rfl (hb hby at_85) rfl (l' := #[.val (.long q0), .second, .val (.int p1), .val (.int (6 : Int32)), .val (.ref b3), .val (.long (own_st (own_st (own_st (own_st (own_st (own_st (0 : Int64) (own_byte q0 (40 : Int32))) (own_byte q0 (32 : Int32))) (own_byte q0 (24 : Int32))) (own_byte q0 (16 : Int32))) (own_byte q0 (8 : Int32))) (own_byte q0 (0 : Int32)))), .second, .unset, .unset]) rfl ?_
    show Steps p.tables e below (T10.setTop (mkF m 87 #[.val (.long q0), .second, .val (.int p1), .val (.int (6 : Int32)), .val (.ref b3), .val (.long (own_st (own_st (own_st (own_st (own_st (own_st (0 : Int64) (own_byte q0 (40 : Int32))) (own_byte q0 (32 : Int32))) (own_byte q0 (24 : Int32))) (own_byte q0 (16 : Int32))) (own_byte q0 (8 : Int32))) (own_byte q0 (0 : Int32)))), .second, .unset, .unset] [])) _
    refine XS.lload X10.here hx rfl (hb hby at_87) rfl ?_
    show Steps p.tables e below (T10.setTop (mkF m 89 #[.val (.long q0), .second, .val (.int p1), .val (.int (6 : Int32)), .val (.ref b3), .val (.long (own_st (own_st (own_st (own_st (own_st (own_st (0 : Int64) (own_byte q0 (40 : Int32))) (own_byte q0 (32 : Int32))) (own_byte q0 (24 : Int32))) (own_byte q0 (16 : Int32))) (own_byte q0 (8 : Int32))) (own_byte q0 (0 : Int32)))), .second, .unset, .unset] [(.long (own_st (own_st (own_st (own_st (own_st (own_st (0 : Int64) (own_byte q0 (40 : Int32))) (own_byte q0 (32 : Int32))) (own_byte q0 (24 : Int32))) (own_byte q0 (16 : Int32))) (own_byte q0 (8 : Int32))) (own_byte q0 (0 : Int32))))])) _
    refine XS.aload X10.here hx rfl (hb hby at_89) rfl rfl ?_
    show Steps p.tables e below (T10.setTop (mkF m 91 #[.val (.long q0), .second, .val (.int p1), .val (.int (6 : Int32)), .val (.ref b3), .val (.long (own_st (own_st (own_st (own_st (own_st (own_st (0 : Int64) (own_byte q0 (40 : Int32))) (own_byte q0 (32 : Int32))) (own_byte q0 (24 : Int32))) (own_byte q0 (16 : Int32))) (own_byte q0 (8 : Int32))) (own_byte q0 (0 : Int32)))), .second, .unset, .unset] [(.ref b3), (.long (own_st (own_st (own_st (own_st (own_st (own_st (0 : Int64) (own_byte q0 (40 : Int32))) (own_byte q0 (32 : Int32))) (own_byte q0 (24 : Int32))) (own_byte q0 (16 : Int32))) (own_byte q0 (8 : Int32))) (own_byte q0 (0 : Int32))))])) _
    refine XS.bipush X10.here hx rfl (hb hby at_91) ?_
    show Steps p.tables e below (T10.setTop (mkF m 93 #[.val (.long q0), .second, .val (.int p1), .val (.int (6 : Int32)), .val (.ref b3), .val (.long (own_st (own_st (own_st (own_st (own_st (own_st (0 : Int64) (own_byte q0 (40 : Int32))) (own_byte q0 (32 : Int32))) (own_byte q0 (24 : Int32))) (own_byte q0 (16 : Int32))) (own_byte q0 (8 : Int32))) (own_byte q0 (0 : Int32)))), .second, .unset, .unset] [(.int (6 : Int32)), (.ref b3), (.long (own_st (own_st (own_st (own_st (own_st (own_st (0 : Int64) (own_byte q0 (40 : Int32))) (own_byte q0 (32 : Int32))) (own_byte q0 (24 : Int32))) (own_byte q0 (16 : Int32))) (own_byte q0 (8 : Int32))) (own_byte q0 (0 : Int32))))])) _
    refine st11 _ ?_
    show Steps p.tables e below (T11.setTop (mkF m 96 #[.val (.long q0), .second, .val (.int p1), .val (.int (6 : Int32)), .val (.ref b3), .val (.long (own_st (own_st (own_st (own_st (own_st (own_st (0 : Int64) (own_byte q0 (40 : Int32))) (own_byte q0 (32 : Int32))) (own_byte q0 (24 : Int32))) (own_byte q0 (16 : Int32))) (own_byte q0 (8 : Int32))) (own_byte q0 (0 : Int32)))), .second, .unset, .unset] [(.long (own_st (own_st (own_st (own_st (own_st (own_st (0 : Int64) (own_byte q0 (40 : Int32))) (own_byte q0 (32 : Int32))) (own_byte q0 (24 : Int32))) (own_byte q0 (16 : Int32))) (own_byte q0 (8 : Int32))) (own_byte q0 (0 : Int32))))])) _
    refine XS.lstore X11.here hx rfl (hb hby at_96) rfl (l' := #[.val (.long q0), .second, .val (.int p1), .val (.int (6 : Int32)), .val (.ref b3), .val (.long (own_st (own_st (own_st (own_st (own_st (own_st (0 : Int64) (own_byte q0 (40 : Int32))) (own_byte q0 (32 : Int32))) (own_byte q0 (24 : Int32))) (own_byte q0 (16 : Int32))) (own_byte q0 (8 : Int32))) (own_byte q0 (0 : Int32)))), .second, .unset, .unset]) rfl ?_
    show Steps p.tables e below (T11.setTop (mkF m 98 #[.val (.long q0), .second, .val (.int p1), .val (.int (6 : Int32)), .val (.ref b3), .val (.long (own_st (own_st (own_st (own_st (own_st (own_st (0 : Int64) (own_byte q0 (40 : Int32))) (own_byte q0 (32 : Int32))) (own_byte q0 (24 : Int32))) (own_byte q0 (16 : Int32))) (own_byte q0 (8 : Int32))) (own_byte q0 (0 : Int32)))), .second, .unset, .unset] [])) _
    refine XS.lload X11.here hx rfl (hb hby at_98) rfl ?_
    show Steps p.tables e below (T11.setTop (mkF m 100 #[.val (.long q0), .second, .val (.int p1), .val (.int (6 : Int32)), .val (.ref b3), .val (.long (own_st (own_st (own_st (own_st (own_st (own_st (0 : Int64) (own_byte q0 (40 : Int32))) (own_byte q0 (32 : Int32))) (own_byte q0 (24 : Int32))) (own_byte q0 (16 : Int32))) (own_byte q0 (8 : Int32))) (own_byte q0 (0 : Int32)))), .second, .unset, .unset] [(.long (own_st (own_st (own_st (own_st (own_st (own_st (0 : Int64) (own_byte q0 (40 : Int32))) (own_byte q0 (32 : Int32))) (own_byte q0 (24 : Int32))) (own_byte q0 (16 : Int32))) (own_byte q0 (8 : Int32))) (own_byte q0 (0 : Int32))))])) _
    refine XS.aload X11.here hx rfl (hb hby at_100) rfl rfl ?_
    show Steps p.tables e below (T11.setTop (mkF m 102 #[.val (.long q0), .second, .val (.int p1), .val (.int (6 : Int32)), .val (.ref b3), .val (.long (own_st (own_st (own_st (own_st (own_st (own_st (0 : Int64) (own_byte q0 (40 : Int32))) (own_byte q0 (32 : Int32))) (own_byte q0 (24 : Int32))) (own_byte q0 (16 : Int32))) (own_byte q0 (8 : Int32))) (own_byte q0 (0 : Int32)))), .second, .unset, .unset] [(.ref b3), (.long (own_st (own_st (own_st (own_st (own_st (own_st (0 : Int64) (own_byte q0 (40 : Int32))) (own_byte q0 (32 : Int32))) (own_byte q0 (24 : Int32))) (own_byte q0 (16 : Int32))) (own_byte q0 (8 : Int32))) (own_byte q0 (0 : Int32))))])) _
    refine XS.bipush X11.here hx rfl (hb hby at_102) ?_
    show Steps p.tables e below (T11.setTop (mkF m 104 #[.val (.long q0), .second, .val (.int p1), .val (.int (6 : Int32)), .val (.ref b3), .val (.long (own_st (own_st (own_st (own_st (own_st (own_st (0 : Int64) (own_byte q0 (40 : Int32))) (own_byte q0 (32 : Int32))) (own_byte q0 (24 : Int32))) (own_byte q0 (16 : Int32))) (own_byte q0 (8 : Int32))) (own_byte q0 (0 : Int32)))), .second, .unset, .unset] [(.int (7 : Int32)), (.ref b3), (.long (own_st (own_st (own_st (own_st (own_st (own_st (0 : Int64) (own_byte q0 (40 : Int32))) (own_byte q0 (32 : Int32))) (own_byte q0 (24 : Int32))) (own_byte q0 (16 : Int32))) (own_byte q0 (8 : Int32))) (own_byte q0 (0 : Int32))))])) _
    refine st12 _ ?_
    show Steps p.tables e below (T12.setTop (mkF m 107 #[.val (.long q0), .second, .val (.int p1), .val (.int (6 : Int32)), .val (.ref b3), .val (.long (own_st (own_st (own_st (own_st (own_st (own_st (0 : Int64) (own_byte q0 (40 : Int32))) (own_byte q0 (32 : Int32))) (own_byte q0 (24 : Int32))) (own_byte q0 (16 : Int32))) (own_byte q0 (8 : Int32))) (own_byte q0 (0 : Int32)))), .second, .unset, .unset] [(.long (own_st (own_st (own_st (own_st (own_st (own_st (0 : Int64) (own_byte q0 (40 : Int32))) (own_byte q0 (32 : Int32))) (own_byte q0 (24 : Int32))) (own_byte q0 (16 : Int32))) (own_byte q0 (8 : Int32))) (own_byte q0 (0 : Int32))))])) _
    refine XS.lstore X12.here hx rfl (hb hby at_107) rfl (l' := #[.val (.long q0), .second, .val (.int p1), .val (.int (6 : Int32)), .val (.ref b3), .val (.long (own_st (own_st (own_st (own_st (own_st (own_st (0 : Int64) (own_byte q0 (40 : Int32))) (own_byte q0 (32 : Int32))) (own_byte q0 (24 : Int32))) (own_byte q0 (16 : Int32))) (own_byte q0 (8 : Int32))) (own_byte q0 (0 : Int32)))), .second, .unset, .unset]) rfl ?_
    show Steps p.tables e below (T12.setTop (mkF m 109 #[.val (.long q0), .second, .val (.int p1), .val (.int (6 : Int32)), .val (.ref b3), .val (.long (own_st (own_st (own_st (own_st (own_st (own_st (0 : Int64) (own_byte q0 (40 : Int32))) (own_byte q0 (32 : Int32))) (own_byte q0 (24 : Int32))) (own_byte q0 (16 : Int32))) (own_byte q0 (8 : Int32))) (own_byte q0 (0 : Int32)))), .second, .unset, .unset] [])) _
    refine XS.iloadN X12.here hx rfl (hb hby at_109) rfl ?_
    show Steps p.tables e below (T12.setTop (mkF m 110 #[.val (.long q0), .second, .val (.int p1), .val (.int (6 : Int32)), .val (.ref b3), .val (.long (own_st (own_st (own_st (own_st (own_st (own_st (0 : Int64) (own_byte q0 (40 : Int32))) (own_byte q0 (32 : Int32))) (own_byte q0 (24 : Int32))) (own_byte q0 (16 : Int32))) (own_byte q0 (8 : Int32))) (own_byte q0 (0 : Int32)))), .second, .unset, .unset] [(.int (6 : Int32))])) _
    refine XS.bipush X12.here hx rfl (hb hby at_110) ?_
    show Steps p.tables e below (T12.setTop (mkF m 112 #[.val (.long q0), .second, .val (.int p1), .val (.int (6 : Int32)), .val (.ref b3), .val (.long (own_st (own_st (own_st (own_st (own_st (own_st (0 : Int64) (own_byte q0 (40 : Int32))) (own_byte q0 (32 : Int32))) (own_byte q0 (24 : Int32))) (own_byte q0 (16 : Int32))) (own_byte q0 (8 : Int32))) (own_byte q0 (0 : Int32)))), .second, .unset, .unset] [(.int (8 : Int32)), (.int (6 : Int32))])) _
    refine XS.icmpYes X12.here hx rfl (pc0 := 112) (pc' := 121) rfl (hb hby at_112) rfl (feq (by decide : ¬ ((6 : Int32) = (8 : Int32)))).2 (by decide) (by decide) ?_
    show Steps p.tables e below (T12.setTop (mkF m 121 #[.val (.long q0), .second, .val (.int p1), .val (.int (6 : Int32)), .val (.ref b3), .val (.long (own_st (own_st (own_st (own_st (own_st (own_st (0 : Int64) (own_byte q0 (40 : Int32))) (own_byte q0 (32 : Int32))) (own_byte q0 (24 : Int32))) (own_byte q0 (16 : Int32))) (own_byte q0 (8 : Int32))) (own_byte q0 (0 : Int32)))), .second, .unset, .unset] [])) _
    refine XS.lloadN X12.here hx rfl (hb hby at_121) rfl ?_
    show Steps p.tables e below (T12.setTop (mkF m 122 #[.val (.long q0), .second, .val (.int p1), .val (.int (6 : Int32)), .val (.ref b3), .val (.long (own_st (own_st (own_st (own_st (own_st (own_st (0 : Int64) (own_byte q0 (40 : Int32))) (own_byte q0 (32 : Int32))) (own_byte q0 (24 : Int32))) (own_byte q0 (16 : Int32))) (own_byte q0 (8 : Int32))) (own_byte q0 (0 : Int32)))), .second, .unset, .unset] [(.long q0)])) _
    refine XS.lconst X12.here hx rfl (hb hby at_122) ?_
    show Steps p.tables e below (T12.setTop (mkF m 123 #[.val (.long q0), .second, .val (.int p1), .val (.int (6 : Int32)), .val (.ref b3), .val (.long (own_st (own_st (own_st (own_st (own_st (own_st (0 : Int64) (own_byte q0 (40 : Int32))) (own_byte q0 (32 : Int32))) (own_byte q0 (24 : Int32))) (own_byte q0 (16 : Int32))) (own_byte q0 (8 : Int32))) (own_byte q0 (0 : Int32)))), .second, .unset, .unset] [(.long (1 : Int64)), (.long q0)])) _
    refine XS.bipush X12.here hx rfl (hb hby at_123) ?_
    show Steps p.tables e below (T12.setTop (mkF m 125 #[.val (.long q0), .second, .val (.int p1), .val (.int (6 : Int32)), .val (.ref b3), .val (.long (own_st (own_st (own_st (own_st (own_st (own_st (0 : Int64) (own_byte q0 (40 : Int32))) (own_byte q0 (32 : Int32))) (own_byte q0 (24 : Int32))) (own_byte q0 (16 : Int32))) (own_byte q0 (8 : Int32))) (own_byte q0 (0 : Int32)))), .second, .unset, .unset] [(.int (8 : Int32)), (.long (1 : Int64)), (.long q0)])) _
    refine XS.iloadN X12.here hx rfl (hb hby at_125) rfl ?_
    show Steps p.tables e below (T12.setTop (mkF m 126 #[.val (.long q0), .second, .val (.int p1), .val (.int (6 : Int32)), .val (.ref b3), .val (.long (own_st (own_st (own_st (own_st (own_st (own_st (0 : Int64) (own_byte q0 (40 : Int32))) (own_byte q0 (32 : Int32))) (own_byte q0 (24 : Int32))) (own_byte q0 (16 : Int32))) (own_byte q0 (8 : Int32))) (own_byte q0 (0 : Int32)))), .second, .unset, .unset] [(.int (6 : Int32)), (.int (8 : Int32)), (.long (1 : Int64)), (.long q0)])) _
    refine XS.imul X12.here hx rfl (hb hby at_126) rfl ?_
    show Steps p.tables e below (T12.setTop (mkF m 127 #[.val (.long q0), .second, .val (.int p1), .val (.int (6 : Int32)), .val (.ref b3), .val (.long (own_st (own_st (own_st (own_st (own_st (own_st (0 : Int64) (own_byte q0 (40 : Int32))) (own_byte q0 (32 : Int32))) (own_byte q0 (24 : Int32))) (own_byte q0 (16 : Int32))) (own_byte q0 (8 : Int32))) (own_byte q0 (0 : Int32)))), .second, .unset, .unset] [(.int (48 : Int32)), (.long (1 : Int64)), (.long q0)])) _
    refine XS.lshl X12.here hx rfl (hb hby at_127) rfl ?_
    show Steps p.tables e below (T12.setTop (mkF m 128 #[.val (.long q0), .second, .val (.int p1), .val (.int (6 : Int32)), .val (.ref b3), .val (.long (own_st (own_st (own_st (own_st (own_st (own_st (0 : Int64) (own_byte q0 (40 : Int32))) (own_byte q0 (32 : Int32))) (own_byte q0 (24 : Int32))) (own_byte q0 (16 : Int32))) (own_byte q0 (8 : Int32))) (own_byte q0 (0 : Int32)))), .second, .unset, .unset] [(.long ((1 : Int64) <<< ((48 : Int32) &&& 0x3f).toInt64)), (.long q0)])) _
    refine XS.lconst X12.here hx rfl (hb hby at_128) ?_
    show Steps p.tables e below (T12.setTop (mkF m 129 #[.val (.long q0), .second, .val (.int p1), .val (.int (6 : Int32)), .val (.ref b3), .val (.long (own_st (own_st (own_st (own_st (own_st (own_st (0 : Int64) (own_byte q0 (40 : Int32))) (own_byte q0 (32 : Int32))) (own_byte q0 (24 : Int32))) (own_byte q0 (16 : Int32))) (own_byte q0 (8 : Int32))) (own_byte q0 (0 : Int32)))), .second, .unset, .unset] [(.long (1 : Int64)), (.long ((1 : Int64) <<< ((48 : Int32) &&& 0x3f).toInt64)), (.long q0)])) _
    refine XS.lsub X12.here hx rfl (hb hby at_129) rfl ?_
    show Steps p.tables e below (T12.setTop (mkF m 130 #[.val (.long q0), .second, .val (.int p1), .val (.int (6 : Int32)), .val (.ref b3), .val (.long (own_st (own_st (own_st (own_st (own_st (own_st (0 : Int64) (own_byte q0 (40 : Int32))) (own_byte q0 (32 : Int32))) (own_byte q0 (24 : Int32))) (own_byte q0 (16 : Int32))) (own_byte q0 (8 : Int32))) (own_byte q0 (0 : Int32)))), .second, .unset, .unset] [(.long (((1 : Int64) <<< ((48 : Int32) &&& 0x3f).toInt64) - (1 : Int64))), (.long q0)])) _
    refine XS.land X12.here hx rfl (hb hby at_130) rfl ?_
    show Steps p.tables e below (T12.setTop (mkF m 131 #[.val (.long q0), .second, .val (.int p1), .val (.int (6 : Int32)), .val (.ref b3), .val (.long (own_st (own_st (own_st (own_st (own_st (own_st (0 : Int64) (own_byte q0 (40 : Int32))) (own_byte q0 (32 : Int32))) (own_byte q0 (24 : Int32))) (own_byte q0 (16 : Int32))) (own_byte q0 (8 : Int32))) (own_byte q0 (0 : Int32)))), .second, .unset, .unset] [(.long (q0 &&& (((1 : Int64) <<< ((48 : Int32) &&& 0x3f).toInt64) - (1 : Int64))))])) _
    refine XS.lstore X12.here hx rfl (hb hby at_131) rfl (l' := #[.val (.long q0), .second, .val (.int p1), .val (.int (6 : Int32)), .val (.ref b3), .val (.long (own_st (own_st (own_st (own_st (own_st (own_st (0 : Int64) (own_byte q0 (40 : Int32))) (own_byte q0 (32 : Int32))) (own_byte q0 (24 : Int32))) (own_byte q0 (16 : Int32))) (own_byte q0 (8 : Int32))) (own_byte q0 (0 : Int32)))), .second, .val (.long (q0 &&& (((1 : Int64) <<< ((48 : Int32) &&& 0x3f).toInt64) - (1 : Int64)))), .second]) rfl ?_
    show Steps p.tables e below (T12.setTop (mkF m 133 #[.val (.long q0), .second, .val (.int p1), .val (.int (6 : Int32)), .val (.ref b3), .val (.long (own_st (own_st (own_st (own_st (own_st (own_st (0 : Int64) (own_byte q0 (40 : Int32))) (own_byte q0 (32 : Int32))) (own_byte q0 (24 : Int32))) (own_byte q0 (16 : Int32))) (own_byte q0 (8 : Int32))) (own_byte q0 (0 : Int32)))), .second, .val (.long (q0 &&& (((1 : Int64) <<< ((48 : Int32) &&& 0x3f).toInt64) - (1 : Int64)))), .second] [])) _
    refine XS.lload X12.here hx rfl (hb hby at_133) rfl ?_
    show Steps p.tables e below (T12.setTop (mkF m 135 #[.val (.long q0), .second, .val (.int p1), .val (.int (6 : Int32)), .val (.ref b3), .val (.long (own_st (own_st (own_st (own_st (own_st (own_st (0 : Int64) (own_byte q0 (40 : Int32))) (own_byte q0 (32 : Int32))) (own_byte q0 (24 : Int32))) (own_byte q0 (16 : Int32))) (own_byte q0 (8 : Int32))) (own_byte q0 (0 : Int32)))), .second, .val (.long (q0 &&& (((1 : Int64) <<< ((48 : Int32) &&& 0x3f).toInt64) - (1 : Int64)))), .second] [(.long (own_st (own_st (own_st (own_st (own_st (own_st (0 : Int64) (own_byte q0 (40 : Int32))) (own_byte q0 (32 : Int32))) (own_byte q0 (24 : Int32))) (own_byte q0 (16 : Int32))) (own_byte q0 (8 : Int32))) (own_byte q0 (0 : Int32))))])) _
    refine XS.lload X12.here hx rfl (hb hby at_135) rfl ?_
    show Steps p.tables e below (T12.setTop (mkF m 137 #[.val (.long q0), .second, .val (.int p1), .val (.int (6 : Int32)), .val (.ref b3), .val (.long (own_st (own_st (own_st (own_st (own_st (own_st (0 : Int64) (own_byte q0 (40 : Int32))) (own_byte q0 (32 : Int32))) (own_byte q0 (24 : Int32))) (own_byte q0 (16 : Int32))) (own_byte q0 (8 : Int32))) (own_byte q0 (0 : Int32)))), .second, .val (.long (q0 &&& (((1 : Int64) <<< ((48 : Int32) &&& 0x3f).toInt64) - (1 : Int64)))), .second] [(.long (q0 &&& (((1 : Int64) <<< ((48 : Int32) &&& 0x3f).toInt64) - (1 : Int64)))), (.long (own_st (own_st (own_st (own_st (own_st (own_st (0 : Int64) (own_byte q0 (40 : Int32))) (own_byte q0 (32 : Int32))) (own_byte q0 (24 : Int32))) (own_byte q0 (16 : Int32))) (own_byte q0 (8 : Int32))) (own_byte q0 (0 : Int32))))])) _
    refine XS.lcmp X12.here hx rfl (hb hby at_137) rfl ?_
    show Steps p.tables e below (T12.setTop (mkF m 138 #[.val (.long q0), .second, .val (.int p1), .val (.int (6 : Int32)), .val (.ref b3), .val (.long (own_st (own_st (own_st (own_st (own_st (own_st (0 : Int64) (own_byte q0 (40 : Int32))) (own_byte q0 (32 : Int32))) (own_byte q0 (24 : Int32))) (own_byte q0 (16 : Int32))) (own_byte q0 (8 : Int32))) (own_byte q0 (0 : Int32)))), .second, .val (.long (q0 &&& (((1 : Int64) <<< ((48 : Int32) &&& 0x3f).toInt64) - (1 : Int64)))), .second] [(.int (lcmpW (own_st (own_st (own_st (own_st (own_st (own_st (0 : Int64) (own_byte q0 (40 : Int32))) (own_byte q0 (32 : Int32))) (own_byte q0 (24 : Int32))) (own_byte q0 (16 : Int32))) (own_byte q0 (8 : Int32))) (own_byte q0 (0 : Int32))) (q0 &&& (((1 : Int64) <<< ((48 : Int32) &&& 0x3f).toInt64) - (1 : Int64)))))])) _
    refine XS.ifNo X12.here hx rfl (hb hby at_138) rfl ((if0 _ _).trans (teq ((lw_eq _ _).mpr (own_fin6 q0))).2) ?_
    show Steps p.tables e below (T12.setTop (mkF m 141 #[.val (.long q0), .second, .val (.int p1), .val (.int (6 : Int32)), .val (.ref b3), .val (.long (own_st (own_st (own_st (own_st (own_st (own_st (0 : Int64) (own_byte q0 (40 : Int32))) (own_byte q0 (32 : Int32))) (own_byte q0 (24 : Int32))) (own_byte q0 (16 : Int32))) (own_byte q0 (8 : Int32))) (own_byte q0 (0 : Int32)))), .second, .val (.long (q0 &&& (((1 : Int64) <<< ((48 : Int32) &&& 0x3f).toInt64) - (1 : Int64)))), .second] [])) _
    refine XS.iconst X12.here hx rfl (hb hby at_141) ?_
    show Steps p.tables e below (T12.setTop (mkF m 142 #[.val (.long q0), .second, .val (.int p1), .val (.int (6 : Int32)), .val (.ref b3), .val (.long (own_st (own_st (own_st (own_st (own_st (own_st (0 : Int64) (own_byte q0 (40 : Int32))) (own_byte q0 (32 : Int32))) (own_byte q0 (24 : Int32))) (own_byte q0 (16 : Int32))) (own_byte q0 (8 : Int32))) (own_byte q0 (0 : Int32)))), .second, .val (.long (q0 &&& (((1 : Int64) <<< ((48 : Int32) &&& 0x3f).toInt64) - (1 : Int64)))), .second] [(.int (1 : Int32))])) _
    refine XS.goto X12.here hx rfl (pc0 := 142) (pc' := 146) rfl (hb hby at_142) (by decide) (by decide) ?_
    show Steps p.tables e below (T12.setTop (mkF m 146 #[.val (.long q0), .second, .val (.int p1), .val (.int (6 : Int32)), .val (.ref b3), .val (.long (own_st (own_st (own_st (own_st (own_st (own_st (0 : Int64) (own_byte q0 (40 : Int32))) (own_byte q0 (32 : Int32))) (own_byte q0 (24 : Int32))) (own_byte q0 (16 : Int32))) (own_byte q0 (8 : Int32))) (own_byte q0 (0 : Int32)))), .second, .val (.long (q0 &&& (((1 : Int64) <<< ((48 : Int32) &&& 0x3f).toInt64) - (1 : Int64)))), .second] [(.int (1 : Int32))])) _
    exact retN X12 hx (t := .boolean) Bd.returns (by simp) (hb hby at_146) hr
  · show Q0_6 Z q0 p1 h0 n0 _ T12.heap _
    rw [e12q]
    exact ⟨rfl, N12⟩
theorem ef_rm0_7 (m : MethodId) (q0 : Int64) (p1 : Int32) : entryFrame m #[(.long q0), (.int p1)] maxLocals = mkF m 0 #[.val (.long q0), .second, .val (.int p1), .unset, .unset, .unset, .unset, .unset, .unset] [] := by first | (simp [entryFrame, mkF, argsToLocals, Value.category, maxLocals]; done) | rfl
def Q0_7 (Z : State) (q0 : Int64) (p1 : Int32) (h0 : Heap) (n0 : Nat) (v : Option Value) (h : Heap) (L : List Loc) : Prop := v = some (.int (1 : Int32)) ∧ Fr n0 L
set_option maxRecDepth 65536 in
set_option maxHeartbeats 40000000 in
theorem rm0_7 (l : Launch) (Z : State) (a0 : Array Value) (hw : ∀ d ∈ tables_1, d.before a0 Z = true) (ws : List Jvm.Cond) (q0 : Int64) (p1 : Int32) (h0 : Heap) (n0 : Nat) (Z0 : n0 ≤ h0.size) (hwid : ((p1 &&& (2147483647 : Int32)) % (9 : Int32)) = (7 : Int32)) :
    MetFree l x (head1 (Jvm.Cond.code x code maxLocals ret :: ws) room_1) (fun a U => a = #[(.long q0), (.int p1)] ∧ Z.Warmed39 U.vm ∧ U.heap = h0) (fun _ _ _ _ _ => True) (fun _ U o U' => ∃ v L, o = .returned v ∧ Q0_7 Z q0 p1 h0 n0 v U'.heap L ∧ FrameEnd U o U' L room_1.cells room_1.slots) := by
  refine MetFree.of_bodySF (plainFor_of_name pn_1) hisR ?_
  intro p e s m args below meth c s₁ Bd hml0 hP hK
  obtain ⟨rfl, hZ, hh⟩ := hP
  have hx := Bd.exec
  have hby := Bd.bytes
  have hml : c.maxLocals = 9 := hml0
  have hown : s.vm.findClass "shale/ValueTypeBigEndianPinLaw" = some m.cls := findClass_of_methodNamed Bd.named
  have hnm := (name_of_methodNamed Bd.named Bd.method).1
  have X0 : Stand p l e room_1 s m #[(.long q0), (.int p1)] below meth c s₁ [] 0 0 := Stand.of_body Bd
  have e0 : s₁.heap = h0 := by rw [← hh, Bd.state]; rfl
  have N0 := Fr.nil n0
  have pre0 : ∀ t, Steps p.tables e below (s₁.setTop (mkF m 0 #[.val (.long q0), .second, .val (.int p1), .unset, .unset, .unset, .unset, .unset, .unset] [])) t → Steps p.tables e below (s₁.setTop (entryFrame m #[(.long q0), (.int p1)] maxLocals)) t := fun t k => castTop (ef_rm0_7 m q0 p1) k
  obtain ⟨wd, hm1, pre2⟩ : ∃ (wd : Int32), (wd = (7 : Int32)) ∧ ∀ t, Steps p.tables e below (s₁.setTop (mkF m 7 #[.val (.long q0), .second, .val (.int p1), .unset, .unset, .unset, .unset, .unset, .unset] [(.int wd)])) t → Steps p.tables e below (s₁.setTop (entryFrame m #[(.long q0), (.int p1)] maxLocals)) t := by
    refine ⟨((p1 &&& (2147483647 : Int32)) % (9 : Int32)), hwid, fun t kt => ?_⟩
    refine pre0 _ ?_
    show Steps p.tables e below (s₁.setTop (mkF m 0 #[.val (.long q0), .second, .val (.int p1), .unset, .unset, .unset, .unset, .unset, .unset] [])) _
    refine XS.iloadN X0.here hx rfl (hb hby at_0) rfl ?_
    show Steps p.tables e below (s₁.setTop (mkF m 1 #[.val (.long q0), .second, .val (.int p1), .unset, .unset, .unset, .unset, .unset, .unset] [(.int p1)])) _
    refine X0.ldcInt hx hown (mvT hZ (hw _ (List.mem_of_getElem? (i := 0) rfl))) (g := (mkF m 1 #[.val (.long q0), .second, .val (.int p1), .unset, .unset, .unset, .unset, .unset, .unset] [(.int p1)])) rfl (hb hby at_1) _ ?_
    show Steps p.tables e below (s₁.setTop (mkF m 3 #[.val (.long q0), .second, .val (.int p1), .unset, .unset, .unset, .unset, .unset, .unset] [(.int (2147483647 : Int32)), (.int p1)])) _
    refine XS.iand X0.here hx rfl (hb hby at_3) rfl ?_
    show Steps p.tables e below (s₁.setTop (mkF m 4 #[.val (.long q0), .second, .val (.int p1), .unset, .unset, .unset, .unset, .unset, .unset] [(.int (p1 &&& (2147483647 : Int32)))])) _
    refine XS.bipush X0.here hx rfl (hb hby at_4) ?_
    show Steps p.tables e below (s₁.setTop (mkF m 6 #[.val (.long q0), .second, .val (.int p1), .unset, .unset, .unset, .unset, .unset, .unset] [(.int (9 : Int32)), (.int (p1 &&& (2147483647 : Int32)))])) _
    refine iremM X0 hx rfl (hb hby at_6) rfl (by decide) ?_
    exact kt
  subst hm1
  obtain ⟨_, _, ⟨T3, L3, k3, n3⟩, -, X3, ⟨Lc3, hQ3, l3, y3, z3⟩, st3⟩ := Jvm.LawKit.callS X0 hx (y := (⟨"shale/ValueType", "bigEndian", "(JI)[B"⟩ : MethodName)) hown (mvT hZ (hw _ (List.mem_of_getElem? (i := 1) rfl))) (mvT hZ (hw _ (List.mem_of_getElem? (i := 2) rfl))) (mvT hZ (hw _ (List.mem_of_getElem? (i := 3) rfl))) (mvT hZ (hw _ (List.mem_of_getElem? (i := 4) rfl))) (by decide) (backOf (W := 0) (rmb7 l Z a0 hw [] q0 h0 n0 Z0 ) hZ (hw _ (List.mem_of_getElem? (i := 4) rfl)) (hw _ (List.mem_of_getElem? (i := 3) rfl)) (by decide) (by decide)) (g := (mkF m 10 #[.val (.long q0), .second, .val (.int p1), .val (.int (7 : Int32)), .unset, .unset, .unset, .unset, .unset] [(.int (7 : Int32)), (.long q0)])) rfl (by rw [hml]; rfl) (argsL := [(.long q0), (.int (7 : Int32))]) (rest := []) (lenOf pd_0 rfl) rfl (by show 2 * 0 + _ ≤ _; exact Nat.le_of_eq rfl) (hb hby at_10) (fun _ _ => ⟨rfl, e0, (by decide : 0 + 1 ≤ _), (by decide : 0 + 7 ≤ _)⟩)
  dsimp only [Pt.U, Pt.locs, Pt.cells, Pt.slots] at X3 l3 y3 z3 st3 hQ3
  subst l3 y3 z3
  obtain ⟨b3, kk3, rfl, N3q, K3, V3⟩ := hQ3
  have N3 := Fr.app N0 N3q
  have Z4 : n0 ≤ T3.heap.size := Nat.le_trans Z0 K3.1
  obtain ⟨cl3, Ar3, -, Sa3, Ma3, Ha3, -⟩ := V3
  obtain ⟨_, _, ⟨T5, L5, k5, n5⟩, -, X5, ⟨Lc5, hQ5, l5, y5, z5⟩, st5⟩ := Jvm.LawKit.callS X3 hx (y := (⟨"shale/ValueTypeBigEndianPinLaw", "step", "(J[BI)J"⟩ : MethodName)) hown (mvT hZ (hw _ (List.mem_of_getElem? (i := 6) rfl))) (mvT hZ (hw _ (List.mem_of_getElem? (i := 7) rfl))) (mvT hZ (hw _ (List.mem_of_getElem? (i := 8) rfl))) (mvT hZ (hw _ (List.mem_of_getElem? (i := 9) rfl))) (by decide) (backOf (W := 0) (rmsi l Z a0 hw [] (0 : Int64) b3 (0 : Int32) cl3 (7 : Int32) (own_byte q0 (48 : Int32)) T3.heap n0 Z4 Ar3 Sa3 Ma3 (by decide) (inb_of Sa3 ⟨by decide, by decide⟩) (Ha3 0 (by rw [Sa3]; decide))) hZ (hw _ (List.mem_of_getElem? (i := 9) rfl)) (hw _ (List.mem_of_getElem? (i := 8) rfl)) (by decide) (by decide)) (g := (mkF m 32 #[.val (.long q0), .second, .val (.int p1), .val (.int (7 : Int32)), .val (.ref b3), .val (.long (0 : Int64)), .second, .unset, .unset] [(.int (0 : Int32)), (.ref b3), (.long (0 : Int64))])) rfl (by rw [hml]; rfl) (argsL := [(.long (0 : Int64)), (.ref b3), (.int (0 : Int32))]) (rest := []) (lenOf pd_1 rfl) rfl (by show 2 * 0 + _ ≤ _; exact Nat.le_of_eq rfl) (hb hby at_32) (fun _ _ => ⟨rfl, rfl, (by decide : 1 + 0 ≤ _), (by decide : 7 + 0 ≤ _)⟩)
  dsimp only [Pt.U, Pt.locs, Pt.cells, Pt.slots] at X5 l5 y5 z5 st5 hQ5
  subst l5 y5 z5
  obtain ⟨rfl, N5q, e5q⟩ := hQ5
  have N5 := Fr.app N3 N5q
  obtain ⟨_, _, ⟨T6, L6, k6, n6⟩, -, X6, ⟨Lc6, hQ6, l6, y6, z6⟩, st6⟩ := Jvm.LawKit.callS X5 hx (y := (⟨"shale/ValueTypeBigEndianPinLaw", "step", "(J[BI)J"⟩ : MethodName)) hown (mvT hZ (hw _ (List.mem_of_getElem? (i := 6) rfl))) (mvT hZ (hw _ (List.mem_of_getElem? (i := 7) rfl))) (mvT hZ (hw _ (List.mem_of_getElem? (i := 8) rfl))) (mvT hZ (hw _ (List.mem_of_getElem? (i := 9) rfl))) (by decide) (backOf (W := 0) (rmsi l Z a0 hw [] (own_st (0 : Int64) (own_byte q0 (48 : Int32))) b3 (1 : Int32) cl3 (7 : Int32) (own_byte q0 (40 : Int32)) T3.heap n0 Z4 Ar3 Sa3 Ma3 (by decide) (inb_of Sa3 ⟨by decide, by decide⟩) (Ha3 1 (by rw [Sa3]; decide))) hZ (hw _ (List.mem_of_getElem? (i := 9) rfl)) (hw _ (List.mem_of_getElem? (i := 8) rfl)) (by decide) (by decide)) (g := (mkF m 42 #[.val (.long q0), .second, .val (.int p1), .val (.int (7 : Int32)), .val (.ref b3), .val (.long (own_st (0 : Int64) (own_byte q0 (48 : Int32)))), .second, .unset, .unset] [(.int (1 : Int32)), (.ref b3), (.long (own_st (0 : Int64) (own_byte q0 (48 : Int32))))])) rfl (by rw [hml]; rfl) (argsL := [(.long (own_st (0 : Int64) (own_byte q0 (48 : Int32)))), (.ref b3), (.int (1 : Int32))]) (rest := []) (lenOf pd_1 rfl) rfl (by show 2 * 0 + _ ≤ _; exact Nat.le_of_eq rfl) (hb hby at_42) (fun _ _ => ⟨rfl, e5q, (by decide : 1 + 0 ≤ _), (by decide : 7 + 0 ≤ _)⟩)
  dsimp only [Pt.U, Pt.locs, Pt.cells, Pt.slots] at X6 l6 y6 z6 st6 hQ6
  subst l6 y6 z6
  obtain ⟨rfl, N6q, e6q⟩ := hQ6
  have N6 := Fr.app N5 N6q
  obtain ⟨_, _, ⟨T7, L7, k7, n7⟩, -, X7, ⟨Lc7, hQ7, l7, y7, z7⟩, st7⟩ := Jvm.LawKit.callS X6 hx (y := (⟨"shale/ValueTypeBigEndianPinLaw", "step", "(J[BI)J"⟩ : MethodName)) hown (mvT hZ (hw _ (List.mem_of_getElem? (i := 6) rfl))) (mvT hZ (hw _ (List.mem_of_getElem? (i := 7) rfl))) (mvT hZ (hw _ (List.mem_of_getElem? (i := 8) rfl))) (mvT hZ (hw _ (List.mem_of_getElem? (i := 9) rfl))) (by decide) (backOf (W := 0) (rmsi l Z a0 hw [] (own_st (own_st (0 : Int64) (own_byte q0 (48 : Int32))) (own_byte q0 (40 : Int32))) b3 (2 : Int32) cl3 (7 : Int32) (own_byte q0 (32 : Int32)) T3.heap n0 Z4 Ar3 Sa3 Ma3 (by decide) (inb_of Sa3 ⟨by decide, by decide⟩) (Ha3 2 (by rw [Sa3]; decide))) hZ (hw _ (List.mem_of_getElem? (i := 9) rfl)) (hw _ (List.mem_of_getElem? (i := 8) rfl)) (by decide) (by decide)) (g := (mkF m 52 #[.val (.long q0), .second, .val (.int p1), .val (.int (7 : Int32)), .val (.ref b3), .val (.long (own_st (own_st (0 : Int64) (own_byte q0 (48 : Int32))) (own_byte q0 (40 : Int32)))), .second, .unset, .unset] [(.int (2 : Int32)), (.ref b3), (.long (own_st (own_st (0 : Int64) (own_byte q0 (48 : Int32))) (own_byte q0 (40 : Int32))))])) rfl (by rw [hml]; rfl) (argsL := [(.long (own_st (own_st (0 : Int64) (own_byte q0 (48 : Int32))) (own_byte q0 (40 : Int32)))), (.ref b3), (.int (2 : Int32))]) (rest := []) (lenOf pd_1 rfl) rfl (by show 2 * 0 + _ ≤ _; exact Nat.le_of_eq rfl) (hb hby at_52) (fun _ _ => ⟨rfl, e6q, (by decide : 1 + 0 ≤ _), (by decide : 7 + 0 ≤ _)⟩)
  dsimp only [Pt.U, Pt.locs, Pt.cells, Pt.slots] at X7 l7 y7 z7 st7 hQ7
  subst l7 y7 z7
  obtain ⟨rfl, N7q, e7q⟩ := hQ7
  have N7 := Fr.app N6 N7q
  obtain ⟨_, _, ⟨T8, L8, k8, n8⟩, -, X8, ⟨Lc8, hQ8, l8, y8, z8⟩, st8⟩ := Jvm.LawKit.callS X7 hx (y := (⟨"shale/ValueTypeBigEndianPinLaw", "step", "(J[BI)J"⟩ : MethodName)) hown (mvT hZ (hw _ (List.mem_of_getElem? (i := 6) rfl))) (mvT hZ (hw _ (List.mem_of_getElem? (i := 7) rfl))) (mvT hZ (hw _ (List.mem_of_getElem? (i := 8) rfl))) (mvT hZ (hw _ (List.mem_of_getElem? (i := 9) rfl))) (by decide) (backOf (W := 0) (rmsi l Z a0 hw [] (own_st (own_st (own_st (0 : Int64) (own_byte q0 (48 : Int32))) (own_byte q0 (40 : Int32))) (own_byte q0 (32 : Int32))) b3 (3 : Int32) cl3 (7 : Int32) (own_byte q0 (24 : Int32)) T3.heap n0 Z4 Ar3 Sa3 Ma3 (by decide) (inb_of Sa3 ⟨by decide, by decide⟩) (Ha3 3 (by rw [Sa3]; decide))) hZ (hw _ (List.mem_of_getElem? (i := 9) rfl)) (hw _ (List.mem_of_getElem? (i := 8) rfl)) (by decide) (by decide)) (g := (mkF m 62 #[.val (.long q0), .second, .val (.int p1), .val (.int (7 : Int32)), .val (.ref b3), .val (.long (own_st (own_st (own_st (0 : Int64) (own_byte q0 (48 : Int32))) (own_byte q0 (40 : Int32))) (own_byte q0 (32 : Int32)))), .second, .unset, .unset] [(.int (3 : Int32)), (.ref b3), (.long (own_st (own_st (own_st (0 : Int64) (own_byte q0 (48 : Int32))) (own_byte q0 (40 : Int32))) (own_byte q0 (32 : Int32))))])) rfl (by rw [hml]; rfl) (argsL := [(.long (own_st (own_st (own_st (0 : Int64) (own_byte q0 (48 : Int32))) (own_byte q0 (40 : Int32))) (own_byte q0 (32 : Int32)))), (.ref b3), (.int (3 : Int32))]) (rest := []) (lenOf pd_1 rfl) rfl (by show 2 * 0 + _ ≤ _; exact Nat.le_of_eq rfl) (hb hby at_62) (fun _ _ => ⟨rfl, e7q, (by decide : 1 + 0 ≤ _), (by decide : 7 + 0 ≤ _)⟩)
  dsimp only [Pt.U, Pt.locs, Pt.cells, Pt.slots] at X8 l8 y8 z8 st8 hQ8
  subst l8 y8 z8
  obtain ⟨rfl, N8q, e8q⟩ := hQ8
  have N8 := Fr.app N7 N8q
  obtain ⟨_, _, ⟨T9, L9, k9, n9⟩, -, X9, ⟨Lc9, hQ9, l9, y9, z9⟩, st9⟩ := Jvm.LawKit.callS X8 hx (y := (⟨"shale/ValueTypeBigEndianPinLaw", "step", "(J[BI)J"⟩ : MethodName)) hown (mvT hZ (hw _ (List.mem_of_getElem? (i := 6) rfl))) (mvT hZ (hw _ (List.mem_of_getElem? (i := 7) rfl))) (mvT hZ (hw _ (List.mem_of_getElem? (i := 8) rfl))) (mvT hZ (hw _ (List.mem_of_getElem? (i := 9) rfl))) (by decide) (backOf (W := 0) (rmsi l Z a0 hw [] (own_st (own_st (own_st (own_st (0 : Int64) (own_byte q0 (48 : Int32))) (own_byte q0 (40 : Int32))) (own_byte q0 (32 : Int32))) (own_byte q0 (24 : Int32))) b3 (4 : Int32) cl3 (7 : Int32) (own_byte q0 (16 : Int32)) T3.heap n0 Z4 Ar3 Sa3 Ma3 (by decide) (inb_of Sa3 ⟨by decide, by decide⟩) (Ha3 4 (by rw [Sa3]; decide))) hZ (hw _ (List.mem_of_getElem? (i := 9) rfl)) (hw _ (List.mem_of_getElem? (i := 8) rfl)) (by decide) (by decide)) (g := (mkF m 72 #[.val (.long q0), .second, .val (.int p1), .val (.int (7 : Int32)), .val (.ref b3), .val (.long (own_st (own_st (own_st (own_st (0 : Int64) (own_byte q0 (48 : Int32))) (own_byte q0 (40 : Int32))) (own_byte q0 (32 : Int32))) (own_byte q0 (24 : Int32)))), .second, .unset, .unset] [(.int (4 : Int32)), (.ref b3), (.long (own_st (own_st (own_st (own_st (0 : Int64) (own_byte q0 (48 : Int32))) (own_byte q0 (40 : Int32))) (own_byte q0 (32 : Int32))) (own_byte q0 (24 : Int32))))])) rfl (by rw [hml]; rfl) (argsL := [(.long (own_st (own_st (own_st (own_st (0 : Int64) (own_byte q0 (48 : Int32))) (own_byte q0 (40 : Int32))) (own_byte q0 (32 : Int32))) (own_byte q0 (24 : Int32)))), (.ref b3), (.int (4 : Int32))]) (rest := []) (lenOf pd_1 rfl) rfl (by show 2 * 0 + _ ≤ _; exact Nat.le_of_eq rfl) (hb hby at_72) (fun _ _ => ⟨rfl, e8q, (by decide : 1 + 0 ≤ _), (by decide : 7 + 0 ≤ _)⟩)
  dsimp only [Pt.U, Pt.locs, Pt.cells, Pt.slots] at X9 l9 y9 z9 st9 hQ9
  subst l9 y9 z9
  obtain ⟨rfl, N9q, e9q⟩ := hQ9
  have N9 := Fr.app N8 N9q
  obtain ⟨_, _, ⟨T10, L10, k10, n10⟩, -, X10, ⟨Lc10, hQ10, l10, y10, z10⟩, st10⟩ := Jvm.LawKit.callS X9 hx (y := (⟨"shale/ValueTypeBigEndianPinLaw", "step", "(J[BI)J"⟩ : MethodName)) hown (mvT hZ (hw _ (List.mem_of_getElem? (i := 6) rfl))) (mvT hZ (hw _ (List.mem_of_getElem? (i := 7) rfl))) (mvT hZ (hw _ (List.mem_of_getElem? (i := 8) rfl))) (mvT hZ (hw _ (List.mem_of_getElem? (i := 9) rfl))) (by decide) (backOf (W := 0) (rmsi l Z a0 hw [] (own_st (own_st (own_st (own_st (own_st (0 : Int64) (own_byte q0 (48 : Int32))) (own_byte q0 (40 : Int32))) (own_byte q0 (32 : Int32))) (own_byte q0 (24 : Int32))) (own_byte q0 (16 : Int32))) b3 (5 : Int32) cl3 (7 : Int32) (own_byte q0 (8 : Int32)) T3.heap n0 Z4 Ar3 Sa3 Ma3 (by decide) (inb_of Sa3 ⟨by decide, by decide⟩) (Ha3 5 (by rw [Sa3]; decide))) hZ (hw _ (List.mem_of_getElem? (i := 9) rfl)) (hw _ (List.mem_of_getElem? (i := 8) rfl)) (by decide) (by decide)) (g := (mkF m 82 #[.val (.long q0), .second, .val (.int p1), .val (.int (7 : Int32)), .val (.ref b3), .val (.long (own_st (own_st (own_st (own_st (own_st (0 : Int64) (own_byte q0 (48 : Int32))) (own_byte q0 (40 : Int32))) (own_byte q0 (32 : Int32))) (own_byte q0 (24 : Int32))) (own_byte q0 (16 : Int32)))), .second, .unset, .unset] [(.int (5 : Int32)), (.ref b3), (.long (own_st (own_st (own_st (own_st (own_st (0 : Int64) (own_byte q0 (48 : Int32))) (own_byte q0 (40 : Int32))) (own_byte q0 (32 : Int32))) (own_byte q0 (24 : Int32))) (own_byte q0 (16 : Int32))))])) rfl (by rw [hml]; rfl) (argsL := [(.long (own_st (own_st (own_st (own_st (own_st (0 : Int64) (own_byte q0 (48 : Int32))) (own_byte q0 (40 : Int32))) (own_byte q0 (32 : Int32))) (own_byte q0 (24 : Int32))) (own_byte q0 (16 : Int32)))), (.ref b3), (.int (5 : Int32))]) (rest := []) (lenOf pd_1 rfl) rfl (by show 2 * 0 + _ ≤ _; exact Nat.le_of_eq rfl) (hb hby at_82) (fun _ _ => ⟨rfl, e9q, (by decide : 1 + 0 ≤ _), (by decide : 7 + 0 ≤ _)⟩)
  dsimp only [Pt.U, Pt.locs, Pt.cells, Pt.slots] at X10 l10 y10 z10 st10 hQ10
  subst l10 y10 z10
  obtain ⟨rfl, N10q, e10q⟩ := hQ10
  have N10 := Fr.app N9 N10q
  obtain ⟨_, _, ⟨T11, L11, k11, n11⟩, -, X11, ⟨Lc11, hQ11, l11, y11, z11⟩, st11⟩ := Jvm.LawKit.callS X10 hx (y := (⟨"shale/ValueTypeBigEndianPinLaw", "step", "(J[BI)J"⟩ : MethodName)) hown (mvT hZ (hw _ (List.mem_of_getElem? (i := 6) rfl))) (mvT hZ (hw _ (List.mem_of_getElem? (i := 7) rfl))) (mvT hZ (hw _ (List.mem_of_getElem? (i := 8) rfl))) (mvT hZ (hw _ (List.mem_of_getElem? (i := 9) rfl))) (by decide) (backOf (W := 0) (rmsi l Z a0 hw [] (own_st (own_st (own_st (own_st (own_st (own_st (0 : Int64) (own_byte q0 (48 : Int32))) (own_byte q0 (40 : Int32))) (own_byte q0 (32 : Int32))) (own_byte q0 (24 : Int32))) (own_byte q0 (16 : Int32))) (own_byte q0 (8 : Int32))) b3 (6 : Int32) cl3 (7 : Int32) (own_byte q0 (0 : Int32)) T3.heap n0 Z4 Ar3 Sa3 Ma3 (by decide) (inb_of Sa3 ⟨by decide, by decide⟩) (Ha3 6 (by rw [Sa3]; decide))) hZ (hw _ (List.mem_of_getElem? (i := 9) rfl)) (hw _ (List.mem_of_getElem? (i := 8) rfl)) (by decide) (by decide)) (g := (mkF m 93 #[.val (.long q0), .second, .val (.int p1), .val (.int (7 : Int32)), .val (.ref b3), .val (.long (own_st (own_st (own_st (own_st (own_st (own_st (0 : Int64) (own_byte q0 (48 : Int32))) (own_byte q0 (40 : Int32))) (own_byte q0 (32 : Int32))) (own_byte q0 (24 : Int32))) (own_byte q0 (16 : Int32))) (own_byte q0 (8 : Int32)))), .second, .unset, .unset] [(.int (6 : Int32)), (.ref b3), (.long (own_st (own_st (own_st (own_st (own_st (own_st (0 : Int64) (own_byte q0 (48 : Int32))) (own_byte q0 (40 : Int32))) (own_byte q0 (32 : Int32))) (own_byte q0 (24 : Int32))) (own_byte q0 (16 : Int32))) (own_byte q0 (8 : Int32))))])) rfl (by rw [hml]; rfl) (argsL := [(.long (own_st (own_st (own_st (own_st (own_st (own_st (0 : Int64) (own_byte q0 (48 : Int32))) (own_byte q0 (40 : Int32))) (own_byte q0 (32 : Int32))) (own_byte q0 (24 : Int32))) (own_byte q0 (16 : Int32))) (own_byte q0 (8 : Int32)))), (.ref b3), (.int (6 : Int32))]) (rest := []) (lenOf pd_1 rfl) rfl (by show 2 * 0 + _ ≤ _; exact Nat.le_of_eq rfl) (hb hby at_93) (fun _ _ => ⟨rfl, e10q, (by decide : 1 + 0 ≤ _), (by decide : 7 + 0 ≤ _)⟩)
  dsimp only [Pt.U, Pt.locs, Pt.cells, Pt.slots] at X11 l11 y11 z11 st11 hQ11
  subst l11 y11 z11
  obtain ⟨rfl, N11q, e11q⟩ := hQ11
  have N11 := Fr.app N10 N11q
  obtain ⟨_, _, ⟨T12, L12, k12, n12⟩, -, X12, ⟨Lc12, hQ12, l12, y12, z12⟩, st12⟩ := Jvm.LawKit.callS X11 hx (y := (⟨"shale/ValueTypeBigEndianPinLaw", "step", "(J[BI)J"⟩ : MethodName)) hown (mvT hZ (hw _ (List.mem_of_getElem? (i := 6) rfl))) (mvT hZ (hw _ (List.mem_of_getElem? (i := 7) rfl))) (mvT hZ (hw _ (List.mem_of_getElem? (i := 8) rfl))) (mvT hZ (hw _ (List.mem_of_getElem? (i := 9) rfl))) (by decide) (backOf (W := 0) (rmso l Z a0 hw [] (own_st (own_st (own_st (own_st (own_st (own_st (own_st (0 : Int64) (own_byte q0 (48 : Int32))) (own_byte q0 (40 : Int32))) (own_byte q0 (32 : Int32))) (own_byte q0 (24 : Int32))) (own_byte q0 (16 : Int32))) (own_byte q0 (8 : Int32))) (own_byte q0 (0 : Int32))) b3 (7 : Int32) cl3 (7 : Int32) T3.heap n0 Z4 Ar3 Sa3 Ma3 (by decide)) hZ (hw _ (List.mem_of_getElem? (i := 9) rfl)) (hw _ (List.mem_of_getElem? (i := 8) rfl)) (by decide) (by decide)) (g := (mkF m 104 #[.val (.long q0), .second, .val (.int p1), .val (.int (7 : Int32)), .val (.ref b3), .val (.long (own_st (own_st (own_st (own_st (own_st (own_st (own_st (0 : Int64) (own_byte q0 (48 : Int32))) (own_byte q0 (40 : Int32))) (own_byte q0 (32 : Int32))) (own_byte q0 (24 : Int32))) (own_byte q0 (16 : Int32))) (own_byte q0 (8 : Int32))) (own_byte q0 (0 : Int32)))), .second, .unset, .unset] [(.int (7 : Int32)), (.ref b3), (.long (own_st (own_st (own_st (own_st (own_st (own_st (own_st (0 : Int64) (own_byte q0 (48 : Int32))) (own_byte q0 (40 : Int32))) (own_byte q0 (32 : Int32))) (own_byte q0 (24 : Int32))) (own_byte q0 (16 : Int32))) (own_byte q0 (8 : Int32))) (own_byte q0 (0 : Int32))))])) rfl (by rw [hml]; rfl) (argsL := [(.long (own_st (own_st (own_st (own_st (own_st (own_st (own_st (0 : Int64) (own_byte q0 (48 : Int32))) (own_byte q0 (40 : Int32))) (own_byte q0 (32 : Int32))) (own_byte q0 (24 : Int32))) (own_byte q0 (16 : Int32))) (own_byte q0 (8 : Int32))) (own_byte q0 (0 : Int32)))), (.ref b3), (.int (7 : Int32))]) (rest := []) (lenOf pd_1 rfl) rfl (by show 2 * 0 + _ ≤ _; exact Nat.le_of_eq rfl) (hb hby at_104) (fun _ _ => ⟨rfl, e11q, (by decide : 1 + 0 ≤ _), (by decide : 7 + 0 ≤ _)⟩)
  dsimp only [Pt.U, Pt.locs, Pt.cells, Pt.slots] at X12 l12 y12 z12 st12 hQ12
  subst l12 y12 z12
  obtain ⟨rfl, N12q, e12q⟩ := hQ12
  have N12 := Fr.app N11 N12q
  obtain ⟨fs, hr, hrun, hended, hW, hsame⟩ := X12.leave (v := some (.int (1 : Int32))) (fun h => by rw [Bd.returns] at h; cases h)
  refine ⟨_, _, pre2 _ ?_, hrun, hended, _, _, rfl, ?_, ⟨_, rfl⟩, hW, hsame.mono (by decide) (by decide)⟩
  · show Steps p.tables e below (s₁.setTop (mkF m 7 #[.val (.long q0), .second, .val (.int p1), .unset, .unset, .unset, .unset, .unset, .unset] [(.int (7 : Int32))])) _
    refine XS.istoreN X0.here hx rfl (hb hby at_7) rfl (l' := #[.val (.long q0), .second, .val (.int p1), .val (.int (7 : Int32)), .unset, .unset, .unset, .unset, .unset]) rfl ?_
    show Steps p.tables e below (s₁.setTop (mkF m 8 #[.val (.long q0), .second, .val (.int p1), .val (.int (7 : Int32)), .unset, .unset, .unset, .unset, .unset] [])) _
    refine XS.lloadN X0.here hx rfl (hb hby at_8) rfl ?_
    show Steps p.tables e below (s₁.setTop (mkF m 9 #[.val (.long q0), .second, .val (.int p1), .val (.int (7 : Int32)), .unset, .unset, .unset, .unset, .unset] [(.long q0)])) _
    refine XS.iloadN X0.here hx rfl (hb hby at_9) rfl ?_
    show Steps p.tables e below (s₁.setTop (mkF m 10 #[.val (.long q0), .second, .val (.int p1), .val (.int (7 : Int32)), .unset, .unset, .unset, .unset, .unset] [(.int (7 : Int32)), (.long q0)])) _
    refine st3 _ ?_
    show Steps p.tables e below (T3.setTop (mkF m 13 #[.val (.long q0), .second, .val (.int p1), .val (.int (7 : Int32)), .unset, .unset, .unset, .unset, .unset] [(.ref b3)])) _
    refine XS.astore X3.here hx rfl (hb hby at_13) rfl rfl (l' := #[.val (.long q0), .second, .val (.int p1), .val (.int (7 : Int32)), .val (.ref b3), .unset, .unset, .unset, .unset]) rfl ?_
    show Steps p.tables e below (T3.setTop (mkF m 15 #[.val (.long q0), .second, .val (.int p1), .val (.int (7 : Int32)), .val (.ref b3), .unset, .unset, .unset, .unset] [])) _
    refine XS.aload X3.here hx rfl (hb hby at_15) rfl rfl ?_
    show Steps p.tables e below (T3.setTop (mkF m 17 #[.val (.long q0), .second, .val (.int p1), .val (.int (7 : Int32)), .val (.ref b3), .unset, .unset, .unset, .unset] [(.ref b3)])) _
    refine X3.arraylength hx Ar3.1 (State.isArrayOf_alike hZ.alike Ar3.2.1) (g := (mkF m 17 #[.val (.long q0), .second, .val (.int p1), .val (.int (7 : Int32)), .val (.ref b3), .unset, .unset, .unset, .unset] [(.ref b3)])) rfl rfl (hb hby at_17) _ ?_
    rw [len_of Sa3 Ma3]
    show Steps p.tables e below (T3.setTop (mkF m 18 #[.val (.long q0), .second, .val (.int p1), .val (.int (7 : Int32)), .val (.ref b3), .unset, .unset, .unset, .unset] [(.int (7 : Int32))])) _
    refine XS.iloadN X3.here hx rfl (hb hby at_18) rfl ?_
    show Steps p.tables e below (T3.setTop (mkF m 19 #[.val (.long q0), .second, .val (.int p1), .val (.int (7 : Int32)), .val (.ref b3), .unset, .unset, .unset, .unset] [(.int (7 : Int32)), (.int (7 : Int32))])) _
    refine XS.icmpYes X3.here hx rfl (pc0 := 19) (pc' := 24) rfl (hb hby at_19) rfl (teq (by decide : (7 : Int32) = (7 : Int32))).1 (by decide) (by decide) ?_
    show Steps p.tables e below (T3.setTop (mkF m 24 #[.val (.long q0), .second, .val (.int p1), .val (.int (7 : Int32)), .val (.ref b3), .unset, .unset, .unset, .unset] [])) _
    refine XS.lconst X3.here hx rfl (hb hby at_24) ?_
    show Steps p.tables e below (T3.setTop (mkF m 25 #[.val (.long q0), .second, .val (.int p1), .val (.int (7 : Int32)), .val (.ref b3), .unset, .unset, .unset, .unset] [(.long (0 : Int64))])) _
    refine XS.lstore X3.here hx rfl (hb hby at_25) rfl (l' := #[.val (.long q0), .second, .val (.int p1), .val (.int (7 : Int32)), .val (.ref b3), .val (.long (0 : Int64)), .second, .unset, .unset]) rfl ?_
    show Steps p.tables e below (T3.setTop (mkF m 27 #[.val (.long q0), .second, .val (.int p1), .val (.int (7 : Int32)), .val (.ref b3), .val (.long (0 : Int64)), .second, .unset, .unset] [])) _
    refine XS.lload X3.here hx rfl (hb hby at_27) rfl ?_
    show Steps p.tables e below (T3.setTop (mkF m 29 #[.val (.long q0), .second, .val (.int p1), .val (.int (7 : Int32)), .val (.ref b3), .val (.long (0 : Int64)), .second, .unset, .unset] [(.long (0 : Int64))])) _
    refine XS.aload X3.here hx rfl (hb hby at_29) rfl rfl ?_
    show Steps p.tables e below (T3.setTop (mkF m 31 #[.val (.long q0), .second, .val (.int p1), .val (.int (7 : Int32)), .val (.ref b3), .val (.long (0 : Int64)), .second, .unset, .unset] [(.ref b3), (.long (0 : Int64))])) _
    refine XS.iconst X3.here hx rfl (hb hby at_31) ?_
    show Steps p.tables e below (T3.setTop (mkF m 32 #[.val (.long q0), .second, .val (.int p1), .val (.int (7 : Int32)), .val (.ref b3), .val (.long (0 : Int64)), .second, .unset, .unset] [(.int (0 : Int32)), (.ref b3), (.long (0 : Int64))])) _
    refine st5 _ ?_
    show Steps p.tables e below (T5.setTop (mkF m 35 #[.val (.long q0), .second, .val (.int p1), .val (.int (7 : Int32)), .val (.ref b3), .val (.long (0 : Int64)), .second, .unset, .unset] [(.long (own_st (0 : Int64) (own_byte q0 (48 : Int32))))])) _
    refine XS.lstore X5.here hx rfl (hb hby at_35) rfl (l' := #[.val (.long q0), .second, .val (.int p1), .val (.int (7 : Int32)), .val (.ref b3), .val (.long (own_st (0 : Int64) (own_byte q0 (48 : Int32)))), .second, .unset, .unset]) rfl ?_
    show Steps p.tables e below (T5.setTop (mkF m 37 #[.val (.long q0), .second, .val (.int p1), .val (.int (7 : Int32)), .val (.ref b3), .val (.long (own_st (0 : Int64) (own_byte q0 (48 : Int32)))), .second, .unset, .unset] [])) _
    refine XS.lload X5.here hx rfl (hb hby at_37) rfl ?_
    show Steps p.tables e below (T5.setTop (mkF m 39 #[.val (.long q0), .second, .val (.int p1), .val (.int (7 : Int32)), .val (.ref b3), .val (.long (own_st (0 : Int64) (own_byte q0 (48 : Int32)))), .second, .unset, .unset] [(.long (own_st (0 : Int64) (own_byte q0 (48 : Int32))))])) _
    refine XS.aload X5.here hx rfl (hb hby at_39) rfl rfl ?_
    show Steps p.tables e below (T5.setTop (mkF m 41 #[.val (.long q0), .second, .val (.int p1), .val (.int (7 : Int32)), .val (.ref b3), .val (.long (own_st (0 : Int64) (own_byte q0 (48 : Int32)))), .second, .unset, .unset] [(.ref b3), (.long (own_st (0 : Int64) (own_byte q0 (48 : Int32))))])) _
    refine XS.iconst X5.here hx rfl (hb hby at_41) ?_
    show Steps p.tables e below (T5.setTop (mkF m 42 #[.val (.long q0), .second, .val (.int p1), .val (.int (7 : Int32)), .val (.ref b3), .val (.long (own_st (0 : Int64) (own_byte q0 (48 : Int32)))), .second, .unset, .unset] [(.int (1 : Int32)), (.ref b3), (.long (own_st (0 : Int64) (own_byte q0 (48 : Int32))))])) _
    refine st6 _ ?_
    show Steps p.tables e below (T6.setTop (mkF m 45 #[.val (.long q0), .second, .val (.int p1), .val (.int (7 : Int32)), .val (.ref b3), .val (.long (own_st (0 : Int64) (own_byte q0 (48 : Int32)))), .second, .unset, .unset] [(.long (own_st (own_st (0 : Int64) (own_byte q0 (48 : Int32))) (own_byte q0 (40 : Int32))))])) _
    refine XS.lstore X6.here hx rfl (hb hby at_45) rfl (l' := #[.val (.long q0), .second, .val (.int p1), .val (.int (7 : Int32)), .val (.ref b3), .val (.long (own_st (own_st (0 : Int64) (own_byte q0 (48 : Int32))) (own_byte q0 (40 : Int32)))), .second, .unset, .unset]) rfl ?_
    show Steps p.tables e below (T6.setTop (mkF m 47 #[.val (.long q0), .second, .val (.int p1), .val (.int (7 : Int32)), .val (.ref b3), .val (.long (own_st (own_st (0 : Int64) (own_byte q0 (48 : Int32))) (own_byte q0 (40 : Int32)))), .second, .unset, .unset] [])) _
    refine XS.lload X6.here hx rfl (hb hby at_47) rfl ?_
    show Steps p.tables e below (T6.setTop (mkF m 49 #[.val (.long q0), .second, .val (.int p1), .val (.int (7 : Int32)), .val (.ref b3), .val (.long (own_st (own_st (0 : Int64) (own_byte q0 (48 : Int32))) (own_byte q0 (40 : Int32)))), .second, .unset, .unset] [(.long (own_st (own_st (0 : Int64) (own_byte q0 (48 : Int32))) (own_byte q0 (40 : Int32))))])) _
    refine XS.aload X6.here hx rfl (hb hby at_49) rfl rfl ?_
    show Steps p.tables e below (T6.setTop (mkF m 51 #[.val (.long q0), .second, .val (.int p1), .val (.int (7 : Int32)), .val (.ref b3), .val (.long (own_st (own_st (0 : Int64) (own_byte q0 (48 : Int32))) (own_byte q0 (40 : Int32)))), .second, .unset, .unset] [(.ref b3), (.long (own_st (own_st (0 : Int64) (own_byte q0 (48 : Int32))) (own_byte q0 (40 : Int32))))])) _
    refine XS.iconst X6.here hx rfl (hb hby at_51) ?_
    show Steps p.tables e below (T6.setTop (mkF m 52 #[.val (.long q0), .second, .val (.int p1), .val (.int (7 : Int32)), .val (.ref b3), .val (.long (own_st (own_st (0 : Int64) (own_byte q0 (48 : Int32))) (own_byte q0 (40 : Int32)))), .second, .unset, .unset] [(.int (2 : Int32)), (.ref b3), (.long (own_st (own_st (0 : Int64) (own_byte q0 (48 : Int32))) (own_byte q0 (40 : Int32))))])) _
    refine st7 _ ?_
    show Steps p.tables e below (T7.setTop (mkF m 55 #[.val (.long q0), .second, .val (.int p1), .val (.int (7 : Int32)), .val (.ref b3), .val (.long (own_st (own_st (0 : Int64) (own_byte q0 (48 : Int32))) (own_byte q0 (40 : Int32)))), .second, .unset, .unset] [(.long (own_st (own_st (own_st (0 : Int64) (own_byte q0 (48 : Int32))) (own_byte q0 (40 : Int32))) (own_byte q0 (32 : Int32))))])) _
    refine XS.lstore X7.here hx rfl (hb hby at_55) rfl (l' := #[.val (.long q0), .second, .val (.int p1), .val (.int (7 : Int32)), .val (.ref b3), .val (.long (own_st (own_st (own_st (0 : Int64) (own_byte q0 (48 : Int32))) (own_byte q0 (40 : Int32))) (own_byte q0 (32 : Int32)))), .second, .unset, .unset]) rfl ?_
    show Steps p.tables e below (T7.setTop (mkF m 57 #[.val (.long q0), .second, .val (.int p1), .val (.int (7 : Int32)), .val (.ref b3), .val (.long (own_st (own_st (own_st (0 : Int64) (own_byte q0 (48 : Int32))) (own_byte q0 (40 : Int32))) (own_byte q0 (32 : Int32)))), .second, .unset, .unset] [])) _
    refine XS.lload X7.here hx rfl (hb hby at_57) rfl ?_
    show Steps p.tables e below (T7.setTop (mkF m 59 #[.val (.long q0), .second, .val (.int p1), .val (.int (7 : Int32)), .val (.ref b3), .val (.long (own_st (own_st (own_st (0 : Int64) (own_byte q0 (48 : Int32))) (own_byte q0 (40 : Int32))) (own_byte q0 (32 : Int32)))), .second, .unset, .unset] [(.long (own_st (own_st (own_st (0 : Int64) (own_byte q0 (48 : Int32))) (own_byte q0 (40 : Int32))) (own_byte q0 (32 : Int32))))])) _
    refine XS.aload X7.here hx rfl (hb hby at_59) rfl rfl ?_
    show Steps p.tables e below (T7.setTop (mkF m 61 #[.val (.long q0), .second, .val (.int p1), .val (.int (7 : Int32)), .val (.ref b3), .val (.long (own_st (own_st (own_st (0 : Int64) (own_byte q0 (48 : Int32))) (own_byte q0 (40 : Int32))) (own_byte q0 (32 : Int32)))), .second, .unset, .unset] [(.ref b3), (.long (own_st (own_st (own_st (0 : Int64) (own_byte q0 (48 : Int32))) (own_byte q0 (40 : Int32))) (own_byte q0 (32 : Int32))))])) _
    refine XS.iconst X7.here hx rfl (hb hby at_61) ?_
    show Steps p.tables e below (T7.setTop (mkF m 62 #[.val (.long q0), .second, .val (.int p1), .val (.int (7 : Int32)), .val (.ref b3), .val (.long (own_st (own_st (own_st (0 : Int64) (own_byte q0 (48 : Int32))) (own_byte q0 (40 : Int32))) (own_byte q0 (32 : Int32)))), .second, .unset, .unset] [(.int (3 : Int32)), (.ref b3), (.long (own_st (own_st (own_st (0 : Int64) (own_byte q0 (48 : Int32))) (own_byte q0 (40 : Int32))) (own_byte q0 (32 : Int32))))])) _
    refine st8 _ ?_
    show Steps p.tables e below (T8.setTop (mkF m 65 #[.val (.long q0), .second, .val (.int p1), .val (.int (7 : Int32)), .val (.ref b3), .val (.long (own_st (own_st (own_st (0 : Int64) (own_byte q0 (48 : Int32))) (own_byte q0 (40 : Int32))) (own_byte q0 (32 : Int32)))), .second, .unset, .unset] [(.long (own_st (own_st (own_st (own_st (0 : Int64) (own_byte q0 (48 : Int32))) (own_byte q0 (40 : Int32))) (own_byte q0 (32 : Int32))) (own_byte q0 (24 : Int32))))])) _
    refine XS.lstore X8.here hx rfl (hb hby at_65) rfl (l' := #[.val (.long q0), .second, .val (.int p1), .val (.int (7 : Int32)), .val (.ref b3), .val (.long (own_st (own_st (own_st (own_st (0 : Int64) (own_byte q0 (48 : Int32))) (own_byte q0 (40 : Int32))) (own_byte q0 (32 : Int32))) (own_byte q0 (24 : Int32)))), .second, .unset, .unset]) rfl ?_
    show Steps p.tables e below (T8.setTop (mkF m 67 #[.val (.long q0), .second, .val (.int p1), .val (.int (7 : Int32)), .val (.ref b3), .val (.long (own_st (own_st (own_st (own_st (0 : Int64) (own_byte q0 (48 : Int32))) (own_byte q0 (40 : Int32))) (own_byte q0 (32 : Int32))) (own_byte q0 (24 : Int32)))), .second, .unset, .unset] [])) _
    refine XS.lload X8.here hx rfl (hb hby at_67) rfl ?_
    show Steps p.tables e below (T8.setTop (mkF m 69 #[.val (.long q0), .second, .val (.int p1), .val (.int (7 : Int32)), .val (.ref b3), .val (.long (own_st (own_st (own_st (own_st (0 : Int64) (own_byte q0 (48 : Int32))) (own_byte q0 (40 : Int32))) (own_byte q0 (32 : Int32))) (own_byte q0 (24 : Int32)))), .second, .unset, .unset] [(.long (own_st (own_st (own_st (own_st (0 : Int64) (own_byte q0 (48 : Int32))) (own_byte q0 (40 : Int32))) (own_byte q0 (32 : Int32))) (own_byte q0 (24 : Int32))))])) _
    refine XS.aload X8.here hx rfl (hb hby at_69) rfl rfl ?_
    show Steps p.tables e below (T8.setTop (mkF m 71 #[.val (.long q0), .second, .val (.int p1), .val (.int (7 : Int32)), .val (.ref b3), .val (.long (own_st (own_st (own_st (own_st (0 : Int64) (own_byte q0 (48 : Int32))) (own_byte q0 (40 : Int32))) (own_byte q0 (32 : Int32))) (own_byte q0 (24 : Int32)))), .second, .unset, .unset] [(.ref b3), (.long (own_st (own_st (own_st (own_st (0 : Int64) (own_byte q0 (48 : Int32))) (own_byte q0 (40 : Int32))) (own_byte q0 (32 : Int32))) (own_byte q0 (24 : Int32))))])) _
    refine XS.iconst X8.here hx rfl (hb hby at_71) ?_
    show Steps p.tables e below (T8.setTop (mkF m 72 #[.val (.long q0), .second, .val (.int p1), .val (.int (7 : Int32)), .val (.ref b3), .val (.long (own_st (own_st (own_st (own_st (0 : Int64) (own_byte q0 (48 : Int32))) (own_byte q0 (40 : Int32))) (own_byte q0 (32 : Int32))) (own_byte q0 (24 : Int32)))), .second, .unset, .unset] [(.int (4 : Int32)), (.ref b3), (.long (own_st (own_st (own_st (own_st (0 : Int64) (own_byte q0 (48 : Int32))) (own_byte q0 (40 : Int32))) (own_byte q0 (32 : Int32))) (own_byte q0 (24 : Int32))))])) _
    refine st9 _ ?_
    show Steps p.tables e below (T9.setTop (mkF m 75 #[.val (.long q0), .second, .val (.int p1), .val (.int (7 : Int32)), .val (.ref b3), .val (.long (own_st (own_st (own_st (own_st (0 : Int64) (own_byte q0 (48 : Int32))) (own_byte q0 (40 : Int32))) (own_byte q0 (32 : Int32))) (own_byte q0 (24 : Int32)))), .second, .unset, .unset] [(.long (own_st (own_st (own_st (own_st (own_st (0 : Int64) (own_byte q0 (48 : Int32))) (own_byte q0 (40 : Int32))) (own_byte q0 (32 : Int32))) (own_byte q0 (24 : Int32))) (own_byte q0 (16 : Int32))))])) _
    refine XS.lstore X9.here hx rfl (hb hby at_75) rfl (l' := #[.val (.long q0), .second, .val (.int p1), .val (.int (7 : Int32)), .val (.ref b3), .val (.long (own_st (own_st (own_st (own_st (own_st (0 : Int64) (own_byte q0 (48 : Int32))) (own_byte q0 (40 : Int32))) (own_byte q0 (32 : Int32))) (own_byte q0 (24 : Int32))) (own_byte q0 (16 : Int32)))), .second, .unset, .unset]) rfl ?_
    show Steps p.tables e below (T9.setTop (mkF m 77 #[.val (.long q0), .second, .val (.int p1), .val (.int (7 : Int32)), .val (.ref b3), .val (.long (own_st (own_st (own_st (own_st (own_st (0 : Int64) (own_byte q0 (48 : Int32))) (own_byte q0 (40 : Int32))) (own_byte q0 (32 : Int32))) (own_byte q0 (24 : Int32))) (own_byte q0 (16 : Int32)))), .second, .unset, .unset] [])) _
    refine XS.lload X9.here hx rfl (hb hby at_77) rfl ?_
    show Steps p.tables e below (T9.setTop (mkF m 79 #[.val (.long q0), .second, .val (.int p1), .val (.int (7 : Int32)), .val (.ref b3), .val (.long (own_st (own_st (own_st (own_st (own_st (0 : Int64) (own_byte q0 (48 : Int32))) (own_byte q0 (40 : Int32))) (own_byte q0 (32 : Int32))) (own_byte q0 (24 : Int32))) (own_byte q0 (16 : Int32)))), .second, .unset, .unset] [(.long (own_st (own_st (own_st (own_st (own_st (0 : Int64) (own_byte q0 (48 : Int32))) (own_byte q0 (40 : Int32))) (own_byte q0 (32 : Int32))) (own_byte q0 (24 : Int32))) (own_byte q0 (16 : Int32))))])) _
    refine XS.aload X9.here hx rfl (hb hby at_79) rfl rfl ?_
    show Steps p.tables e below (T9.setTop (mkF m 81 #[.val (.long q0), .second, .val (.int p1), .val (.int (7 : Int32)), .val (.ref b3), .val (.long (own_st (own_st (own_st (own_st (own_st (0 : Int64) (own_byte q0 (48 : Int32))) (own_byte q0 (40 : Int32))) (own_byte q0 (32 : Int32))) (own_byte q0 (24 : Int32))) (own_byte q0 (16 : Int32)))), .second, .unset, .unset] [(.ref b3), (.long (own_st (own_st (own_st (own_st (own_st (0 : Int64) (own_byte q0 (48 : Int32))) (own_byte q0 (40 : Int32))) (own_byte q0 (32 : Int32))) (own_byte q0 (24 : Int32))) (own_byte q0 (16 : Int32))))])) _
    refine XS.iconst X9.here hx rfl (hb hby at_81) ?_
    show Steps p.tables e below (T9.setTop (mkF m 82 #[.val (.long q0), .second, .val (.int p1), .val (.int (7 : Int32)), .val (.ref b3), .val (.long (own_st (own_st (own_st (own_st (own_st (0 : Int64) (own_byte q0 (48 : Int32))) (own_byte q0 (40 : Int32))) (own_byte q0 (32 : Int32))) (own_byte q0 (24 : Int32))) (own_byte q0 (16 : Int32)))), .second, .unset, .unset] [(.int (5 : Int32)), (.ref b3), (.long (own_st (own_st (own_st (own_st (own_st (0 : Int64) (own_byte q0 (48 : Int32))) (own_byte q0 (40 : Int32))) (own_byte q0 (32 : Int32))) (own_byte q0 (24 : Int32))) (own_byte q0 (16 : Int32))))])) _
    refine st10 _ ?_
    show Steps p.tables e below (T10.setTop (mkF m 85 #[.val (.long q0), .second, .val (.int p1), .val (.int (7 : Int32)), .val (.ref b3), .val (.long (own_st (own_st (own_st (own_st (own_st (0 : Int64) (own_byte q0 (48 : Int32))) (own_byte q0 (40 : Int32))) (own_byte q0 (32 : Int32))) (own_byte q0 (24 : Int32))) (own_byte q0 (16 : Int32)))), .second, .unset, .unset] [(.long (own_st (own_st (own_st (own_st (own_st (own_st (0 : Int64) (own_byte q0 (48 : Int32))) (own_byte q0 (40 : Int32))) (own_byte q0 (32 : Int32))) (own_byte q0 (24 : Int32))) (own_byte q0 (16 : Int32))) (own_byte q0 (8 : Int32))))])) _
    refine XS.lstore X10.here hx rfl (hb hby at_85) rfl (l' := #[.val (.long q0), .second, .val (.int p1), .val (.int (7 : Int32)), .val (.ref b3), .val (.long (own_st (own_st (own_st (own_st (own_st (own_st (0 : Int64) (own_byte q0 (48 : Int32))) (own_byte q0 (40 : Int32))) (own_byte q0 (32 : Int32))) (own_byte q0 (24 : Int32))) (own_byte q0 (16 : Int32))) (own_byte q0 (8 : Int32)))), .second, .unset, .unset]) rfl ?_
    show Steps p.tables e below (T10.setTop (mkF m 87 #[.val (.long q0), .second, .val (.int p1), .val (.int (7 : Int32)), .val (.ref b3), .val (.long (own_st (own_st (own_st (own_st (own_st (own_st (0 : Int64) (own_byte q0 (48 : Int32))) (own_byte q0 (40 : Int32))) (own_byte q0 (32 : Int32))) (own_byte q0 (24 : Int32))) (own_byte q0 (16 : Int32))) (own_byte q0 (8 : Int32)))), .second, .unset, .unset] [])) _
    refine XS.lload X10.here hx rfl (hb hby at_87) rfl ?_
    show Steps p.tables e below (T10.setTop (mkF m 89 #[.val (.long q0), .second, .val (.int p1), .val (.int (7 : Int32)), .val (.ref b3), .val (.long (own_st (own_st (own_st (own_st (own_st (own_st (0 : Int64) (own_byte q0 (48 : Int32))) (own_byte q0 (40 : Int32))) (own_byte q0 (32 : Int32))) (own_byte q0 (24 : Int32))) (own_byte q0 (16 : Int32))) (own_byte q0 (8 : Int32)))), .second, .unset, .unset] [(.long (own_st (own_st (own_st (own_st (own_st (own_st (0 : Int64) (own_byte q0 (48 : Int32))) (own_byte q0 (40 : Int32))) (own_byte q0 (32 : Int32))) (own_byte q0 (24 : Int32))) (own_byte q0 (16 : Int32))) (own_byte q0 (8 : Int32))))])) _
    refine XS.aload X10.here hx rfl (hb hby at_89) rfl rfl ?_
    show Steps p.tables e below (T10.setTop (mkF m 91 #[.val (.long q0), .second, .val (.int p1), .val (.int (7 : Int32)), .val (.ref b3), .val (.long (own_st (own_st (own_st (own_st (own_st (own_st (0 : Int64) (own_byte q0 (48 : Int32))) (own_byte q0 (40 : Int32))) (own_byte q0 (32 : Int32))) (own_byte q0 (24 : Int32))) (own_byte q0 (16 : Int32))) (own_byte q0 (8 : Int32)))), .second, .unset, .unset] [(.ref b3), (.long (own_st (own_st (own_st (own_st (own_st (own_st (0 : Int64) (own_byte q0 (48 : Int32))) (own_byte q0 (40 : Int32))) (own_byte q0 (32 : Int32))) (own_byte q0 (24 : Int32))) (own_byte q0 (16 : Int32))) (own_byte q0 (8 : Int32))))])) _
    refine XS.bipush X10.here hx rfl (hb hby at_91) ?_
    show Steps p.tables e below (T10.setTop (mkF m 93 #[.val (.long q0), .second, .val (.int p1), .val (.int (7 : Int32)), .val (.ref b3), .val (.long (own_st (own_st (own_st (own_st (own_st (own_st (0 : Int64) (own_byte q0 (48 : Int32))) (own_byte q0 (40 : Int32))) (own_byte q0 (32 : Int32))) (own_byte q0 (24 : Int32))) (own_byte q0 (16 : Int32))) (own_byte q0 (8 : Int32)))), .second, .unset, .unset] [(.int (6 : Int32)), (.ref b3), (.long (own_st (own_st (own_st (own_st (own_st (own_st (0 : Int64) (own_byte q0 (48 : Int32))) (own_byte q0 (40 : Int32))) (own_byte q0 (32 : Int32))) (own_byte q0 (24 : Int32))) (own_byte q0 (16 : Int32))) (own_byte q0 (8 : Int32))))])) _
    refine st11 _ ?_
    show Steps p.tables e below (T11.setTop (mkF m 96 #[.val (.long q0), .second, .val (.int p1), .val (.int (7 : Int32)), .val (.ref b3), .val (.long (own_st (own_st (own_st (own_st (own_st (own_st (0 : Int64) (own_byte q0 (48 : Int32))) (own_byte q0 (40 : Int32))) (own_byte q0 (32 : Int32))) (own_byte q0 (24 : Int32))) (own_byte q0 (16 : Int32))) (own_byte q0 (8 : Int32)))), .second, .unset, .unset] [(.long (own_st (own_st (own_st (own_st (own_st (own_st (own_st (0 : Int64) (own_byte q0 (48 : Int32))) (own_byte q0 (40 : Int32))) (own_byte q0 (32 : Int32))) (own_byte q0 (24 : Int32))) (own_byte q0 (16 : Int32))) (own_byte q0 (8 : Int32))) (own_byte q0 (0 : Int32))))])) _
    refine XS.lstore X11.here hx rfl (hb hby at_96) rfl (l' := #[.val (.long q0), .second, .val (.int p1), .val (.int (7 : Int32)), .val (.ref b3), .val (.long (own_st (own_st (own_st (own_st (own_st (own_st (own_st (0 : Int64) (own_byte q0 (48 : Int32))) (own_byte q0 (40 : Int32))) (own_byte q0 (32 : Int32))) (own_byte q0 (24 : Int32))) (own_byte q0 (16 : Int32))) (own_byte q0 (8 : Int32))) (own_byte q0 (0 : Int32)))), .second, .unset, .unset]) rfl ?_
    show Steps p.tables e below (T11.setTop (mkF m 98 #[.val (.long q0), .second, .val (.int p1), .val (.int (7 : Int32)), .val (.ref b3), .val (.long (own_st (own_st (own_st (own_st (own_st (own_st (own_st (0 : Int64) (own_byte q0 (48 : Int32))) (own_byte q0 (40 : Int32))) (own_byte q0 (32 : Int32))) (own_byte q0 (24 : Int32))) (own_byte q0 (16 : Int32))) (own_byte q0 (8 : Int32))) (own_byte q0 (0 : Int32)))), .second, .unset, .unset] [])) _
    refine XS.lload X11.here hx rfl (hb hby at_98) rfl ?_
    show Steps p.tables e below (T11.setTop (mkF m 100 #[.val (.long q0), .second, .val (.int p1), .val (.int (7 : Int32)), .val (.ref b3), .val (.long (own_st (own_st (own_st (own_st (own_st (own_st (own_st (0 : Int64) (own_byte q0 (48 : Int32))) (own_byte q0 (40 : Int32))) (own_byte q0 (32 : Int32))) (own_byte q0 (24 : Int32))) (own_byte q0 (16 : Int32))) (own_byte q0 (8 : Int32))) (own_byte q0 (0 : Int32)))), .second, .unset, .unset] [(.long (own_st (own_st (own_st (own_st (own_st (own_st (own_st (0 : Int64) (own_byte q0 (48 : Int32))) (own_byte q0 (40 : Int32))) (own_byte q0 (32 : Int32))) (own_byte q0 (24 : Int32))) (own_byte q0 (16 : Int32))) (own_byte q0 (8 : Int32))) (own_byte q0 (0 : Int32))))])) _
    refine XS.aload X11.here hx rfl (hb hby at_100) rfl rfl ?_
    show Steps p.tables e below (T11.setTop (mkF m 102 #[.val (.long q0), .second, .val (.int p1), .val (.int (7 : Int32)), .val (.ref b3), .val (.long (own_st (own_st (own_st (own_st (own_st (own_st (own_st (0 : Int64) (own_byte q0 (48 : Int32))) (own_byte q0 (40 : Int32))) (own_byte q0 (32 : Int32))) (own_byte q0 (24 : Int32))) (own_byte q0 (16 : Int32))) (own_byte q0 (8 : Int32))) (own_byte q0 (0 : Int32)))), .second, .unset, .unset] [(.ref b3), (.long (own_st (own_st (own_st (own_st (own_st (own_st (own_st (0 : Int64) (own_byte q0 (48 : Int32))) (own_byte q0 (40 : Int32))) (own_byte q0 (32 : Int32))) (own_byte q0 (24 : Int32))) (own_byte q0 (16 : Int32))) (own_byte q0 (8 : Int32))) (own_byte q0 (0 : Int32))))])) _
    refine XS.bipush X11.here hx rfl (hb hby at_102) ?_
    show Steps p.tables e below (T11.setTop (mkF m 104 #[.val (.long q0), .second, .val (.int p1), .val (.int (7 : Int32)), .val (.ref b3), .val (.long (own_st (own_st (own_st (own_st (own_st (own_st (own_st (0 : Int64) (own_byte q0 (48 : Int32))) (own_byte q0 (40 : Int32))) (own_byte q0 (32 : Int32))) (own_byte q0 (24 : Int32))) (own_byte q0 (16 : Int32))) (own_byte q0 (8 : Int32))) (own_byte q0 (0 : Int32)))), .second, .unset, .unset] [(.int (7 : Int32)), (.ref b3), (.long (own_st (own_st (own_st (own_st (own_st (own_st (own_st (0 : Int64) (own_byte q0 (48 : Int32))) (own_byte q0 (40 : Int32))) (own_byte q0 (32 : Int32))) (own_byte q0 (24 : Int32))) (own_byte q0 (16 : Int32))) (own_byte q0 (8 : Int32))) (own_byte q0 (0 : Int32))))])) _
    refine st12 _ ?_
    show Steps p.tables e below (T12.setTop (mkF m 107 #[.val (.long q0), .second, .val (.int p1), .val (.int (7 : Int32)), .val (.ref b3), .val (.long (own_st (own_st (own_st (own_st (own_st (own_st (own_st (0 : Int64) (own_byte q0 (48 : Int32))) (own_byte q0 (40 : Int32))) (own_byte q0 (32 : Int32))) (own_byte q0 (24 : Int32))) (own_byte q0 (16 : Int32))) (own_byte q0 (8 : Int32))) (own_byte q0 (0 : Int32)))), .second, .unset, .unset] [(.long (own_st (own_st (own_st (own_st (own_st (own_st (own_st (0 : Int64) (own_byte q0 (48 : Int32))) (own_byte q0 (40 : Int32))) (own_byte q0 (32 : Int32))) (own_byte q0 (24 : Int32))) (own_byte q0 (16 : Int32))) (own_byte q0 (8 : Int32))) (own_byte q0 (0 : Int32))))])) _
    refine XS.lstore X12.here hx rfl (hb hby at_107) rfl (l' := #[.val (.long q0), .second, .val (.int p1), .val (.int (7 : Int32)), .val (.ref b3), .val (.long (own_st (own_st (own_st (own_st (own_st (own_st (own_st (0 : Int64) (own_byte q0 (48 : Int32))) (own_byte q0 (40 : Int32))) (own_byte q0 (32 : Int32))) (own_byte q0 (24 : Int32))) (own_byte q0 (16 : Int32))) (own_byte q0 (8 : Int32))) (own_byte q0 (0 : Int32)))), .second, .unset, .unset]) rfl ?_
    show Steps p.tables e below (T12.setTop (mkF m 109 #[.val (.long q0), .second, .val (.int p1), .val (.int (7 : Int32)), .val (.ref b3), .val (.long (own_st (own_st (own_st (own_st (own_st (own_st (own_st (0 : Int64) (own_byte q0 (48 : Int32))) (own_byte q0 (40 : Int32))) (own_byte q0 (32 : Int32))) (own_byte q0 (24 : Int32))) (own_byte q0 (16 : Int32))) (own_byte q0 (8 : Int32))) (own_byte q0 (0 : Int32)))), .second, .unset, .unset] [])) _
    refine XS.iloadN X12.here hx rfl (hb hby at_109) rfl ?_
    show Steps p.tables e below (T12.setTop (mkF m 110 #[.val (.long q0), .second, .val (.int p1), .val (.int (7 : Int32)), .val (.ref b3), .val (.long (own_st (own_st (own_st (own_st (own_st (own_st (own_st (0 : Int64) (own_byte q0 (48 : Int32))) (own_byte q0 (40 : Int32))) (own_byte q0 (32 : Int32))) (own_byte q0 (24 : Int32))) (own_byte q0 (16 : Int32))) (own_byte q0 (8 : Int32))) (own_byte q0 (0 : Int32)))), .second, .unset, .unset] [(.int (7 : Int32))])) _
    refine XS.bipush X12.here hx rfl (hb hby at_110) ?_
    show Steps p.tables e below (T12.setTop (mkF m 112 #[.val (.long q0), .second, .val (.int p1), .val (.int (7 : Int32)), .val (.ref b3), .val (.long (own_st (own_st (own_st (own_st (own_st (own_st (own_st (0 : Int64) (own_byte q0 (48 : Int32))) (own_byte q0 (40 : Int32))) (own_byte q0 (32 : Int32))) (own_byte q0 (24 : Int32))) (own_byte q0 (16 : Int32))) (own_byte q0 (8 : Int32))) (own_byte q0 (0 : Int32)))), .second, .unset, .unset] [(.int (8 : Int32)), (.int (7 : Int32))])) _
    refine XS.icmpYes X12.here hx rfl (pc0 := 112) (pc' := 121) rfl (hb hby at_112) rfl (feq (by decide : ¬ ((7 : Int32) = (8 : Int32)))).2 (by decide) (by decide) ?_
    show Steps p.tables e below (T12.setTop (mkF m 121 #[.val (.long q0), .second, .val (.int p1), .val (.int (7 : Int32)), .val (.ref b3), .val (.long (own_st (own_st (own_st (own_st (own_st (own_st (own_st (0 : Int64) (own_byte q0 (48 : Int32))) (own_byte q0 (40 : Int32))) (own_byte q0 (32 : Int32))) (own_byte q0 (24 : Int32))) (own_byte q0 (16 : Int32))) (own_byte q0 (8 : Int32))) (own_byte q0 (0 : Int32)))), .second, .unset, .unset] [])) _
    refine XS.lloadN X12.here hx rfl (hb hby at_121) rfl ?_
    show Steps p.tables e below (T12.setTop (mkF m 122 #[.val (.long q0), .second, .val (.int p1), .val (.int (7 : Int32)), .val (.ref b3), .val (.long (own_st (own_st (own_st (own_st (own_st (own_st (own_st (0 : Int64) (own_byte q0 (48 : Int32))) (own_byte q0 (40 : Int32))) (own_byte q0 (32 : Int32))) (own_byte q0 (24 : Int32))) (own_byte q0 (16 : Int32))) (own_byte q0 (8 : Int32))) (own_byte q0 (0 : Int32)))), .second, .unset, .unset] [(.long q0)])) _
    refine XS.lconst X12.here hx rfl (hb hby at_122) ?_
    show Steps p.tables e below (T12.setTop (mkF m 123 #[.val (.long q0), .second, .val (.int p1), .val (.int (7 : Int32)), .val (.ref b3), .val (.long (own_st (own_st (own_st (own_st (own_st (own_st (own_st (0 : Int64) (own_byte q0 (48 : Int32))) (own_byte q0 (40 : Int32))) (own_byte q0 (32 : Int32))) (own_byte q0 (24 : Int32))) (own_byte q0 (16 : Int32))) (own_byte q0 (8 : Int32))) (own_byte q0 (0 : Int32)))), .second, .unset, .unset] [(.long (1 : Int64)), (.long q0)])) _
    refine XS.bipush X12.here hx rfl (hb hby at_123) ?_
    show Steps p.tables e below (T12.setTop (mkF m 125 #[.val (.long q0), .second, .val (.int p1), .val (.int (7 : Int32)), .val (.ref b3), .val (.long (own_st (own_st (own_st (own_st (own_st (own_st (own_st (0 : Int64) (own_byte q0 (48 : Int32))) (own_byte q0 (40 : Int32))) (own_byte q0 (32 : Int32))) (own_byte q0 (24 : Int32))) (own_byte q0 (16 : Int32))) (own_byte q0 (8 : Int32))) (own_byte q0 (0 : Int32)))), .second, .unset, .unset] [(.int (8 : Int32)), (.long (1 : Int64)), (.long q0)])) _
    refine XS.iloadN X12.here hx rfl (hb hby at_125) rfl ?_
    show Steps p.tables e below (T12.setTop (mkF m 126 #[.val (.long q0), .second, .val (.int p1), .val (.int (7 : Int32)), .val (.ref b3), .val (.long (own_st (own_st (own_st (own_st (own_st (own_st (own_st (0 : Int64) (own_byte q0 (48 : Int32))) (own_byte q0 (40 : Int32))) (own_byte q0 (32 : Int32))) (own_byte q0 (24 : Int32))) (own_byte q0 (16 : Int32))) (own_byte q0 (8 : Int32))) (own_byte q0 (0 : Int32)))), .second, .unset, .unset] [(.int (7 : Int32)), (.int (8 : Int32)), (.long (1 : Int64)), (.long q0)])) _
    refine XS.imul X12.here hx rfl (hb hby at_126) rfl ?_
    show Steps p.tables e below (T12.setTop (mkF m 127 #[.val (.long q0), .second, .val (.int p1), .val (.int (7 : Int32)), .val (.ref b3), .val (.long (own_st (own_st (own_st (own_st (own_st (own_st (own_st (0 : Int64) (own_byte q0 (48 : Int32))) (own_byte q0 (40 : Int32))) (own_byte q0 (32 : Int32))) (own_byte q0 (24 : Int32))) (own_byte q0 (16 : Int32))) (own_byte q0 (8 : Int32))) (own_byte q0 (0 : Int32)))), .second, .unset, .unset] [(.int (56 : Int32)), (.long (1 : Int64)), (.long q0)])) _
    refine XS.lshl X12.here hx rfl (hb hby at_127) rfl ?_
    show Steps p.tables e below (T12.setTop (mkF m 128 #[.val (.long q0), .second, .val (.int p1), .val (.int (7 : Int32)), .val (.ref b3), .val (.long (own_st (own_st (own_st (own_st (own_st (own_st (own_st (0 : Int64) (own_byte q0 (48 : Int32))) (own_byte q0 (40 : Int32))) (own_byte q0 (32 : Int32))) (own_byte q0 (24 : Int32))) (own_byte q0 (16 : Int32))) (own_byte q0 (8 : Int32))) (own_byte q0 (0 : Int32)))), .second, .unset, .unset] [(.long ((1 : Int64) <<< ((56 : Int32) &&& 0x3f).toInt64)), (.long q0)])) _
    refine XS.lconst X12.here hx rfl (hb hby at_128) ?_
    show Steps p.tables e below (T12.setTop (mkF m 129 #[.val (.long q0), .second, .val (.int p1), .val (.int (7 : Int32)), .val (.ref b3), .val (.long (own_st (own_st (own_st (own_st (own_st (own_st (own_st (0 : Int64) (own_byte q0 (48 : Int32))) (own_byte q0 (40 : Int32))) (own_byte q0 (32 : Int32))) (own_byte q0 (24 : Int32))) (own_byte q0 (16 : Int32))) (own_byte q0 (8 : Int32))) (own_byte q0 (0 : Int32)))), .second, .unset, .unset] [(.long (1 : Int64)), (.long ((1 : Int64) <<< ((56 : Int32) &&& 0x3f).toInt64)), (.long q0)])) _
    refine XS.lsub X12.here hx rfl (hb hby at_129) rfl ?_
    show Steps p.tables e below (T12.setTop (mkF m 130 #[.val (.long q0), .second, .val (.int p1), .val (.int (7 : Int32)), .val (.ref b3), .val (.long (own_st (own_st (own_st (own_st (own_st (own_st (own_st (0 : Int64) (own_byte q0 (48 : Int32))) (own_byte q0 (40 : Int32))) (own_byte q0 (32 : Int32))) (own_byte q0 (24 : Int32))) (own_byte q0 (16 : Int32))) (own_byte q0 (8 : Int32))) (own_byte q0 (0 : Int32)))), .second, .unset, .unset] [(.long (((1 : Int64) <<< ((56 : Int32) &&& 0x3f).toInt64) - (1 : Int64))), (.long q0)])) _
    refine XS.land X12.here hx rfl (hb hby at_130) rfl ?_
    show Steps p.tables e below (T12.setTop (mkF m 131 #[.val (.long q0), .second, .val (.int p1), .val (.int (7 : Int32)), .val (.ref b3), .val (.long (own_st (own_st (own_st (own_st (own_st (own_st (own_st (0 : Int64) (own_byte q0 (48 : Int32))) (own_byte q0 (40 : Int32))) (own_byte q0 (32 : Int32))) (own_byte q0 (24 : Int32))) (own_byte q0 (16 : Int32))) (own_byte q0 (8 : Int32))) (own_byte q0 (0 : Int32)))), .second, .unset, .unset] [(.long (q0 &&& (((1 : Int64) <<< ((56 : Int32) &&& 0x3f).toInt64) - (1 : Int64))))])) _
    refine XS.lstore X12.here hx rfl (hb hby at_131) rfl (l' := #[.val (.long q0), .second, .val (.int p1), .val (.int (7 : Int32)), .val (.ref b3), .val (.long (own_st (own_st (own_st (own_st (own_st (own_st (own_st (0 : Int64) (own_byte q0 (48 : Int32))) (own_byte q0 (40 : Int32))) (own_byte q0 (32 : Int32))) (own_byte q0 (24 : Int32))) (own_byte q0 (16 : Int32))) (own_byte q0 (8 : Int32))) (own_byte q0 (0 : Int32)))), .second, .val (.long (q0 &&& (((1 : Int64) <<< ((56 : Int32) &&& 0x3f).toInt64) - (1 : Int64)))), .second]) rfl ?_
    show Steps p.tables e below (T12.setTop (mkF m 133 #[.val (.long q0), .second, .val (.int p1), .val (.int (7 : Int32)), .val (.ref b3), .val (.long (own_st (own_st (own_st (own_st (own_st (own_st (own_st (0 : Int64) (own_byte q0 (48 : Int32))) (own_byte q0 (40 : Int32))) (own_byte q0 (32 : Int32))) (own_byte q0 (24 : Int32))) (own_byte q0 (16 : Int32))) (own_byte q0 (8 : Int32))) (own_byte q0 (0 : Int32)))), .second, .val (.long (q0 &&& (((1 : Int64) <<< ((56 : Int32) &&& 0x3f).toInt64) - (1 : Int64)))), .second] [])) _
    refine XS.lload X12.here hx rfl (hb hby at_133) rfl ?_
    show Steps p.tables e below (T12.setTop (mkF m 135 #[.val (.long q0), .second, .val (.int p1), .val (.int (7 : Int32)), .val (.ref b3), .val (.long (own_st (own_st (own_st (own_st (own_st (own_st (own_st (0 : Int64) (own_byte q0 (48 : Int32))) (own_byte q0 (40 : Int32))) (own_byte q0 (32 : Int32))) (own_byte q0 (24 : Int32))) (own_byte q0 (16 : Int32))) (own_byte q0 (8 : Int32))) (own_byte q0 (0 : Int32)))), .second, .val (.long (q0 &&& (((1 : Int64) <<< ((56 : Int32) &&& 0x3f).toInt64) - (1 : Int64)))), .second] [(.long (own_st (own_st (own_st (own_st (own_st (own_st (own_st (0 : Int64) (own_byte q0 (48 : Int32))) (own_byte q0 (40 : Int32))) (own_byte q0 (32 : Int32))) (own_byte q0 (24 : Int32))) (own_byte q0 (16 : Int32))) (own_byte q0 (8 : Int32))) (own_byte q0 (0 : Int32))))])) _
    refine XS.lload X12.here hx rfl (hb hby at_135) rfl ?_
    show Steps p.tables e below (T12.setTop (mkF m 137 #[.val (.long q0), .second, .val (.int p1), .val (.int (7 : Int32)), .val (.ref b3), .val (.long (own_st (own_st (own_st (own_st (own_st (own_st (own_st (0 : Int64) (own_byte q0 (48 : Int32))) (own_byte q0 (40 : Int32))) (own_byte q0 (32 : Int32))) (own_byte q0 (24 : Int32))) (own_byte q0 (16 : Int32))) (own_byte q0 (8 : Int32))) (own_byte q0 (0 : Int32)))), .second, .val (.long (q0 &&& (((1 : Int64) <<< ((56 : Int32) &&& 0x3f).toInt64) - (1 : Int64)))), .second] [(.long (q0 &&& (((1 : Int64) <<< ((56 : Int32) &&& 0x3f).toInt64) - (1 : Int64)))), (.long (own_st (own_st (own_st (own_st (own_st (own_st (own_st (0 : Int64) (own_byte q0 (48 : Int32))) (own_byte q0 (40 : Int32))) (own_byte q0 (32 : Int32))) (own_byte q0 (24 : Int32))) (own_byte q0 (16 : Int32))) (own_byte q0 (8 : Int32))) (own_byte q0 (0 : Int32))))])) _
    refine XS.lcmp X12.here hx rfl (hb hby at_137) rfl ?_
    show Steps p.tables e below (T12.setTop (mkF m 138 #[.val (.long q0), .second, .val (.int p1), .val (.int (7 : Int32)), .val (.ref b3), .val (.long (own_st (own_st (own_st (own_st (own_st (own_st (own_st (0 : Int64) (own_byte q0 (48 : Int32))) (own_byte q0 (40 : Int32))) (own_byte q0 (32 : Int32))) (own_byte q0 (24 : Int32))) (own_byte q0 (16 : Int32))) (own_byte q0 (8 : Int32))) (own_byte q0 (0 : Int32)))), .second, .val (.long (q0 &&& (((1 : Int64) <<< ((56 : Int32) &&& 0x3f).toInt64) - (1 : Int64)))), .second] [(.int (lcmpW (own_st (own_st (own_st (own_st (own_st (own_st (own_st (0 : Int64) (own_byte q0 (48 : Int32))) (own_byte q0 (40 : Int32))) (own_byte q0 (32 : Int32))) (own_byte q0 (24 : Int32))) (own_byte q0 (16 : Int32))) (own_byte q0 (8 : Int32))) (own_byte q0 (0 : Int32))) (q0 &&& (((1 : Int64) <<< ((56 : Int32) &&& 0x3f).toInt64) - (1 : Int64)))))])) _
    refine XS.ifNo X12.here hx rfl (hb hby at_138) rfl ((if0 _ _).trans (teq ((lw_eq _ _).mpr (own_fin7 q0))).2) ?_
    show Steps p.tables e below (T12.setTop (mkF m 141 #[.val (.long q0), .second, .val (.int p1), .val (.int (7 : Int32)), .val (.ref b3), .val (.long (own_st (own_st (own_st (own_st (own_st (own_st (own_st (0 : Int64) (own_byte q0 (48 : Int32))) (own_byte q0 (40 : Int32))) (own_byte q0 (32 : Int32))) (own_byte q0 (24 : Int32))) (own_byte q0 (16 : Int32))) (own_byte q0 (8 : Int32))) (own_byte q0 (0 : Int32)))), .second, .val (.long (q0 &&& (((1 : Int64) <<< ((56 : Int32) &&& 0x3f).toInt64) - (1 : Int64)))), .second] [])) _
    refine XS.iconst X12.here hx rfl (hb hby at_141) ?_
    show Steps p.tables e below (T12.setTop (mkF m 142 #[.val (.long q0), .second, .val (.int p1), .val (.int (7 : Int32)), .val (.ref b3), .val (.long (own_st (own_st (own_st (own_st (own_st (own_st (own_st (0 : Int64) (own_byte q0 (48 : Int32))) (own_byte q0 (40 : Int32))) (own_byte q0 (32 : Int32))) (own_byte q0 (24 : Int32))) (own_byte q0 (16 : Int32))) (own_byte q0 (8 : Int32))) (own_byte q0 (0 : Int32)))), .second, .val (.long (q0 &&& (((1 : Int64) <<< ((56 : Int32) &&& 0x3f).toInt64) - (1 : Int64)))), .second] [(.int (1 : Int32))])) _
    refine XS.goto X12.here hx rfl (pc0 := 142) (pc' := 146) rfl (hb hby at_142) (by decide) (by decide) ?_
    show Steps p.tables e below (T12.setTop (mkF m 146 #[.val (.long q0), .second, .val (.int p1), .val (.int (7 : Int32)), .val (.ref b3), .val (.long (own_st (own_st (own_st (own_st (own_st (own_st (own_st (0 : Int64) (own_byte q0 (48 : Int32))) (own_byte q0 (40 : Int32))) (own_byte q0 (32 : Int32))) (own_byte q0 (24 : Int32))) (own_byte q0 (16 : Int32))) (own_byte q0 (8 : Int32))) (own_byte q0 (0 : Int32)))), .second, .val (.long (q0 &&& (((1 : Int64) <<< ((56 : Int32) &&& 0x3f).toInt64) - (1 : Int64)))), .second] [(.int (1 : Int32))])) _
    exact retN X12 hx (t := .boolean) Bd.returns (by simp) (hb hby at_146) hr
  · show Q0_7 Z q0 p1 h0 n0 _ T12.heap _
    rw [e12q]
    exact ⟨rfl, N12⟩
theorem ef_rm0_8 (m : MethodId) (q0 : Int64) (p1 : Int32) : entryFrame m #[(.long q0), (.int p1)] maxLocals = mkF m 0 #[.val (.long q0), .second, .val (.int p1), .unset, .unset, .unset, .unset, .unset, .unset] [] := by first | (simp [entryFrame, mkF, argsToLocals, Value.category, maxLocals]; done) | rfl
def Q0_8 (Z : State) (q0 : Int64) (p1 : Int32) (h0 : Heap) (n0 : Nat) (v : Option Value) (h : Heap) (L : List Loc) : Prop := v = some (.int (1 : Int32)) ∧ Fr n0 L
set_option maxRecDepth 65536 in
set_option maxHeartbeats 40000000 in
theorem rm0_8 (l : Launch) (Z : State) (a0 : Array Value) (hw : ∀ d ∈ tables_1, d.before a0 Z = true) (ws : List Jvm.Cond) (q0 : Int64) (p1 : Int32) (h0 : Heap) (n0 : Nat) (Z0 : n0 ≤ h0.size) (hwid : ((p1 &&& (2147483647 : Int32)) % (9 : Int32)) = (8 : Int32)) :
    MetFree l x (head1 (Jvm.Cond.code x code maxLocals ret :: ws) room_1) (fun a U => a = #[(.long q0), (.int p1)] ∧ Z.Warmed39 U.vm ∧ U.heap = h0) (fun _ _ _ _ _ => True) (fun _ U o U' => ∃ v L, o = .returned v ∧ Q0_8 Z q0 p1 h0 n0 v U'.heap L ∧ FrameEnd U o U' L room_1.cells room_1.slots) := by
  refine MetFree.of_bodySF (plainFor_of_name pn_1) hisR ?_
  intro p e s m args below meth c s₁ Bd hml0 hP hK
  obtain ⟨rfl, hZ, hh⟩ := hP
  have hx := Bd.exec
  have hby := Bd.bytes
  have hml : c.maxLocals = 9 := hml0
  have hown : s.vm.findClass "shale/ValueTypeBigEndianPinLaw" = some m.cls := findClass_of_methodNamed Bd.named
  have hnm := (name_of_methodNamed Bd.named Bd.method).1
  have X0 : Stand p l e room_1 s m #[(.long q0), (.int p1)] below meth c s₁ [] 0 0 := Stand.of_body Bd
  have e0 : s₁.heap = h0 := by rw [← hh, Bd.state]; rfl
  have N0 := Fr.nil n0
  have pre0 : ∀ t, Steps p.tables e below (s₁.setTop (mkF m 0 #[.val (.long q0), .second, .val (.int p1), .unset, .unset, .unset, .unset, .unset, .unset] [])) t → Steps p.tables e below (s₁.setTop (entryFrame m #[(.long q0), (.int p1)] maxLocals)) t := fun t k => castTop (ef_rm0_8 m q0 p1) k
  obtain ⟨wd, hm1, pre2⟩ : ∃ (wd : Int32), (wd = (8 : Int32)) ∧ ∀ t, Steps p.tables e below (s₁.setTop (mkF m 7 #[.val (.long q0), .second, .val (.int p1), .unset, .unset, .unset, .unset, .unset, .unset] [(.int wd)])) t → Steps p.tables e below (s₁.setTop (entryFrame m #[(.long q0), (.int p1)] maxLocals)) t := by
    refine ⟨((p1 &&& (2147483647 : Int32)) % (9 : Int32)), hwid, fun t kt => ?_⟩
    refine pre0 _ ?_
    show Steps p.tables e below (s₁.setTop (mkF m 0 #[.val (.long q0), .second, .val (.int p1), .unset, .unset, .unset, .unset, .unset, .unset] [])) _
    refine XS.iloadN X0.here hx rfl (hb hby at_0) rfl ?_
    show Steps p.tables e below (s₁.setTop (mkF m 1 #[.val (.long q0), .second, .val (.int p1), .unset, .unset, .unset, .unset, .unset, .unset] [(.int p1)])) _
    refine X0.ldcInt hx hown (mvT hZ (hw _ (List.mem_of_getElem? (i := 0) rfl))) (g := (mkF m 1 #[.val (.long q0), .second, .val (.int p1), .unset, .unset, .unset, .unset, .unset, .unset] [(.int p1)])) rfl (hb hby at_1) _ ?_
    show Steps p.tables e below (s₁.setTop (mkF m 3 #[.val (.long q0), .second, .val (.int p1), .unset, .unset, .unset, .unset, .unset, .unset] [(.int (2147483647 : Int32)), (.int p1)])) _
    refine XS.iand X0.here hx rfl (hb hby at_3) rfl ?_
    show Steps p.tables e below (s₁.setTop (mkF m 4 #[.val (.long q0), .second, .val (.int p1), .unset, .unset, .unset, .unset, .unset, .unset] [(.int (p1 &&& (2147483647 : Int32)))])) _
    refine XS.bipush X0.here hx rfl (hb hby at_4) ?_
    show Steps p.tables e below (s₁.setTop (mkF m 6 #[.val (.long q0), .second, .val (.int p1), .unset, .unset, .unset, .unset, .unset, .unset] [(.int (9 : Int32)), (.int (p1 &&& (2147483647 : Int32)))])) _
    refine iremM X0 hx rfl (hb hby at_6) rfl (by decide) ?_
    exact kt
  subst hm1
  obtain ⟨_, _, ⟨T3, L3, k3, n3⟩, -, X3, ⟨Lc3, hQ3, l3, y3, z3⟩, st3⟩ := Jvm.LawKit.callS X0 hx (y := (⟨"shale/ValueType", "bigEndian", "(JI)[B"⟩ : MethodName)) hown (mvT hZ (hw _ (List.mem_of_getElem? (i := 1) rfl))) (mvT hZ (hw _ (List.mem_of_getElem? (i := 2) rfl))) (mvT hZ (hw _ (List.mem_of_getElem? (i := 3) rfl))) (mvT hZ (hw _ (List.mem_of_getElem? (i := 4) rfl))) (by decide) (backOf (W := 0) (rmb8 l Z a0 hw [] q0 h0 n0 Z0 ) hZ (hw _ (List.mem_of_getElem? (i := 4) rfl)) (hw _ (List.mem_of_getElem? (i := 3) rfl)) (by decide) (by decide)) (g := (mkF m 10 #[.val (.long q0), .second, .val (.int p1), .val (.int (8 : Int32)), .unset, .unset, .unset, .unset, .unset] [(.int (8 : Int32)), (.long q0)])) rfl (by rw [hml]; rfl) (argsL := [(.long q0), (.int (8 : Int32))]) (rest := []) (lenOf pd_0 rfl) rfl (by show 2 * 0 + _ ≤ _; exact Nat.le_of_eq rfl) (hb hby at_10) (fun _ _ => ⟨rfl, e0, (by decide : 0 + 1 ≤ _), (by decide : 0 + 8 ≤ _)⟩)
  dsimp only [Pt.U, Pt.locs, Pt.cells, Pt.slots] at X3 l3 y3 z3 st3 hQ3
  subst l3 y3 z3
  obtain ⟨b3, kk3, rfl, N3q, K3, V3⟩ := hQ3
  have N3 := Fr.app N0 N3q
  have Z4 : n0 ≤ T3.heap.size := Nat.le_trans Z0 K3.1
  obtain ⟨cl3, Ar3, -, Sa3, Ma3, Ha3, -⟩ := V3
  obtain ⟨_, _, ⟨T5, L5, k5, n5⟩, -, X5, ⟨Lc5, hQ5, l5, y5, z5⟩, st5⟩ := Jvm.LawKit.callS X3 hx (y := (⟨"shale/ValueTypeBigEndianPinLaw", "step", "(J[BI)J"⟩ : MethodName)) hown (mvT hZ (hw _ (List.mem_of_getElem? (i := 6) rfl))) (mvT hZ (hw _ (List.mem_of_getElem? (i := 7) rfl))) (mvT hZ (hw _ (List.mem_of_getElem? (i := 8) rfl))) (mvT hZ (hw _ (List.mem_of_getElem? (i := 9) rfl))) (by decide) (backOf (W := 0) (rmsi l Z a0 hw [] (0 : Int64) b3 (0 : Int32) cl3 (8 : Int32) (own_byte q0 (56 : Int32)) T3.heap n0 Z4 Ar3 Sa3 Ma3 (by decide) (inb_of Sa3 ⟨by decide, by decide⟩) (Ha3 0 (by rw [Sa3]; decide))) hZ (hw _ (List.mem_of_getElem? (i := 9) rfl)) (hw _ (List.mem_of_getElem? (i := 8) rfl)) (by decide) (by decide)) (g := (mkF m 32 #[.val (.long q0), .second, .val (.int p1), .val (.int (8 : Int32)), .val (.ref b3), .val (.long (0 : Int64)), .second, .unset, .unset] [(.int (0 : Int32)), (.ref b3), (.long (0 : Int64))])) rfl (by rw [hml]; rfl) (argsL := [(.long (0 : Int64)), (.ref b3), (.int (0 : Int32))]) (rest := []) (lenOf pd_1 rfl) rfl (by show 2 * 0 + _ ≤ _; exact Nat.le_of_eq rfl) (hb hby at_32) (fun _ _ => ⟨rfl, rfl, (by decide : 1 + 0 ≤ _), (by decide : 8 + 0 ≤ _)⟩)
  dsimp only [Pt.U, Pt.locs, Pt.cells, Pt.slots] at X5 l5 y5 z5 st5 hQ5
  subst l5 y5 z5
  obtain ⟨rfl, N5q, e5q⟩ := hQ5
  have N5 := Fr.app N3 N5q
  obtain ⟨_, _, ⟨T6, L6, k6, n6⟩, -, X6, ⟨Lc6, hQ6, l6, y6, z6⟩, st6⟩ := Jvm.LawKit.callS X5 hx (y := (⟨"shale/ValueTypeBigEndianPinLaw", "step", "(J[BI)J"⟩ : MethodName)) hown (mvT hZ (hw _ (List.mem_of_getElem? (i := 6) rfl))) (mvT hZ (hw _ (List.mem_of_getElem? (i := 7) rfl))) (mvT hZ (hw _ (List.mem_of_getElem? (i := 8) rfl))) (mvT hZ (hw _ (List.mem_of_getElem? (i := 9) rfl))) (by decide) (backOf (W := 0) (rmsi l Z a0 hw [] (own_st (0 : Int64) (own_byte q0 (56 : Int32))) b3 (1 : Int32) cl3 (8 : Int32) (own_byte q0 (48 : Int32)) T3.heap n0 Z4 Ar3 Sa3 Ma3 (by decide) (inb_of Sa3 ⟨by decide, by decide⟩) (Ha3 1 (by rw [Sa3]; decide))) hZ (hw _ (List.mem_of_getElem? (i := 9) rfl)) (hw _ (List.mem_of_getElem? (i := 8) rfl)) (by decide) (by decide)) (g := (mkF m 42 #[.val (.long q0), .second, .val (.int p1), .val (.int (8 : Int32)), .val (.ref b3), .val (.long (own_st (0 : Int64) (own_byte q0 (56 : Int32)))), .second, .unset, .unset] [(.int (1 : Int32)), (.ref b3), (.long (own_st (0 : Int64) (own_byte q0 (56 : Int32))))])) rfl (by rw [hml]; rfl) (argsL := [(.long (own_st (0 : Int64) (own_byte q0 (56 : Int32)))), (.ref b3), (.int (1 : Int32))]) (rest := []) (lenOf pd_1 rfl) rfl (by show 2 * 0 + _ ≤ _; exact Nat.le_of_eq rfl) (hb hby at_42) (fun _ _ => ⟨rfl, e5q, (by decide : 1 + 0 ≤ _), (by decide : 8 + 0 ≤ _)⟩)
  dsimp only [Pt.U, Pt.locs, Pt.cells, Pt.slots] at X6 l6 y6 z6 st6 hQ6
  subst l6 y6 z6
  obtain ⟨rfl, N6q, e6q⟩ := hQ6
  have N6 := Fr.app N5 N6q
  obtain ⟨_, _, ⟨T7, L7, k7, n7⟩, -, X7, ⟨Lc7, hQ7, l7, y7, z7⟩, st7⟩ := Jvm.LawKit.callS X6 hx (y := (⟨"shale/ValueTypeBigEndianPinLaw", "step", "(J[BI)J"⟩ : MethodName)) hown (mvT hZ (hw _ (List.mem_of_getElem? (i := 6) rfl))) (mvT hZ (hw _ (List.mem_of_getElem? (i := 7) rfl))) (mvT hZ (hw _ (List.mem_of_getElem? (i := 8) rfl))) (mvT hZ (hw _ (List.mem_of_getElem? (i := 9) rfl))) (by decide) (backOf (W := 0) (rmsi l Z a0 hw [] (own_st (own_st (0 : Int64) (own_byte q0 (56 : Int32))) (own_byte q0 (48 : Int32))) b3 (2 : Int32) cl3 (8 : Int32) (own_byte q0 (40 : Int32)) T3.heap n0 Z4 Ar3 Sa3 Ma3 (by decide) (inb_of Sa3 ⟨by decide, by decide⟩) (Ha3 2 (by rw [Sa3]; decide))) hZ (hw _ (List.mem_of_getElem? (i := 9) rfl)) (hw _ (List.mem_of_getElem? (i := 8) rfl)) (by decide) (by decide)) (g := (mkF m 52 #[.val (.long q0), .second, .val (.int p1), .val (.int (8 : Int32)), .val (.ref b3), .val (.long (own_st (own_st (0 : Int64) (own_byte q0 (56 : Int32))) (own_byte q0 (48 : Int32)))), .second, .unset, .unset] [(.int (2 : Int32)), (.ref b3), (.long (own_st (own_st (0 : Int64) (own_byte q0 (56 : Int32))) (own_byte q0 (48 : Int32))))])) rfl (by rw [hml]; rfl) (argsL := [(.long (own_st (own_st (0 : Int64) (own_byte q0 (56 : Int32))) (own_byte q0 (48 : Int32)))), (.ref b3), (.int (2 : Int32))]) (rest := []) (lenOf pd_1 rfl) rfl (by show 2 * 0 + _ ≤ _; exact Nat.le_of_eq rfl) (hb hby at_52) (fun _ _ => ⟨rfl, e6q, (by decide : 1 + 0 ≤ _), (by decide : 8 + 0 ≤ _)⟩)
  dsimp only [Pt.U, Pt.locs, Pt.cells, Pt.slots] at X7 l7 y7 z7 st7 hQ7
  subst l7 y7 z7
  obtain ⟨rfl, N7q, e7q⟩ := hQ7
  have N7 := Fr.app N6 N7q
  obtain ⟨_, _, ⟨T8, L8, k8, n8⟩, -, X8, ⟨Lc8, hQ8, l8, y8, z8⟩, st8⟩ := Jvm.LawKit.callS X7 hx (y := (⟨"shale/ValueTypeBigEndianPinLaw", "step", "(J[BI)J"⟩ : MethodName)) hown (mvT hZ (hw _ (List.mem_of_getElem? (i := 6) rfl))) (mvT hZ (hw _ (List.mem_of_getElem? (i := 7) rfl))) (mvT hZ (hw _ (List.mem_of_getElem? (i := 8) rfl))) (mvT hZ (hw _ (List.mem_of_getElem? (i := 9) rfl))) (by decide) (backOf (W := 0) (rmsi l Z a0 hw [] (own_st (own_st (own_st (0 : Int64) (own_byte q0 (56 : Int32))) (own_byte q0 (48 : Int32))) (own_byte q0 (40 : Int32))) b3 (3 : Int32) cl3 (8 : Int32) (own_byte q0 (32 : Int32)) T3.heap n0 Z4 Ar3 Sa3 Ma3 (by decide) (inb_of Sa3 ⟨by decide, by decide⟩) (Ha3 3 (by rw [Sa3]; decide))) hZ (hw _ (List.mem_of_getElem? (i := 9) rfl)) (hw _ (List.mem_of_getElem? (i := 8) rfl)) (by decide) (by decide)) (g := (mkF m 62 #[.val (.long q0), .second, .val (.int p1), .val (.int (8 : Int32)), .val (.ref b3), .val (.long (own_st (own_st (own_st (0 : Int64) (own_byte q0 (56 : Int32))) (own_byte q0 (48 : Int32))) (own_byte q0 (40 : Int32)))), .second, .unset, .unset] [(.int (3 : Int32)), (.ref b3), (.long (own_st (own_st (own_st (0 : Int64) (own_byte q0 (56 : Int32))) (own_byte q0 (48 : Int32))) (own_byte q0 (40 : Int32))))])) rfl (by rw [hml]; rfl) (argsL := [(.long (own_st (own_st (own_st (0 : Int64) (own_byte q0 (56 : Int32))) (own_byte q0 (48 : Int32))) (own_byte q0 (40 : Int32)))), (.ref b3), (.int (3 : Int32))]) (rest := []) (lenOf pd_1 rfl) rfl (by show 2 * 0 + _ ≤ _; exact Nat.le_of_eq rfl) (hb hby at_62) (fun _ _ => ⟨rfl, e7q, (by decide : 1 + 0 ≤ _), (by decide : 8 + 0 ≤ _)⟩)
  dsimp only [Pt.U, Pt.locs, Pt.cells, Pt.slots] at X8 l8 y8 z8 st8 hQ8
  subst l8 y8 z8
  obtain ⟨rfl, N8q, e8q⟩ := hQ8
  have N8 := Fr.app N7 N8q
  obtain ⟨_, _, ⟨T9, L9, k9, n9⟩, -, X9, ⟨Lc9, hQ9, l9, y9, z9⟩, st9⟩ := Jvm.LawKit.callS X8 hx (y := (⟨"shale/ValueTypeBigEndianPinLaw", "step", "(J[BI)J"⟩ : MethodName)) hown (mvT hZ (hw _ (List.mem_of_getElem? (i := 6) rfl))) (mvT hZ (hw _ (List.mem_of_getElem? (i := 7) rfl))) (mvT hZ (hw _ (List.mem_of_getElem? (i := 8) rfl))) (mvT hZ (hw _ (List.mem_of_getElem? (i := 9) rfl))) (by decide) (backOf (W := 0) (rmsi l Z a0 hw [] (own_st (own_st (own_st (own_st (0 : Int64) (own_byte q0 (56 : Int32))) (own_byte q0 (48 : Int32))) (own_byte q0 (40 : Int32))) (own_byte q0 (32 : Int32))) b3 (4 : Int32) cl3 (8 : Int32) (own_byte q0 (24 : Int32)) T3.heap n0 Z4 Ar3 Sa3 Ma3 (by decide) (inb_of Sa3 ⟨by decide, by decide⟩) (Ha3 4 (by rw [Sa3]; decide))) hZ (hw _ (List.mem_of_getElem? (i := 9) rfl)) (hw _ (List.mem_of_getElem? (i := 8) rfl)) (by decide) (by decide)) (g := (mkF m 72 #[.val (.long q0), .second, .val (.int p1), .val (.int (8 : Int32)), .val (.ref b3), .val (.long (own_st (own_st (own_st (own_st (0 : Int64) (own_byte q0 (56 : Int32))) (own_byte q0 (48 : Int32))) (own_byte q0 (40 : Int32))) (own_byte q0 (32 : Int32)))), .second, .unset, .unset] [(.int (4 : Int32)), (.ref b3), (.long (own_st (own_st (own_st (own_st (0 : Int64) (own_byte q0 (56 : Int32))) (own_byte q0 (48 : Int32))) (own_byte q0 (40 : Int32))) (own_byte q0 (32 : Int32))))])) rfl (by rw [hml]; rfl) (argsL := [(.long (own_st (own_st (own_st (own_st (0 : Int64) (own_byte q0 (56 : Int32))) (own_byte q0 (48 : Int32))) (own_byte q0 (40 : Int32))) (own_byte q0 (32 : Int32)))), (.ref b3), (.int (4 : Int32))]) (rest := []) (lenOf pd_1 rfl) rfl (by show 2 * 0 + _ ≤ _; exact Nat.le_of_eq rfl) (hb hby at_72) (fun _ _ => ⟨rfl, e8q, (by decide : 1 + 0 ≤ _), (by decide : 8 + 0 ≤ _)⟩)
  dsimp only [Pt.U, Pt.locs, Pt.cells, Pt.slots] at X9 l9 y9 z9 st9 hQ9
  subst l9 y9 z9
  obtain ⟨rfl, N9q, e9q⟩ := hQ9
  have N9 := Fr.app N8 N9q
  obtain ⟨_, _, ⟨T10, L10, k10, n10⟩, -, X10, ⟨Lc10, hQ10, l10, y10, z10⟩, st10⟩ := Jvm.LawKit.callS X9 hx (y := (⟨"shale/ValueTypeBigEndianPinLaw", "step", "(J[BI)J"⟩ : MethodName)) hown (mvT hZ (hw _ (List.mem_of_getElem? (i := 6) rfl))) (mvT hZ (hw _ (List.mem_of_getElem? (i := 7) rfl))) (mvT hZ (hw _ (List.mem_of_getElem? (i := 8) rfl))) (mvT hZ (hw _ (List.mem_of_getElem? (i := 9) rfl))) (by decide) (backOf (W := 0) (rmsi l Z a0 hw [] (own_st (own_st (own_st (own_st (own_st (0 : Int64) (own_byte q0 (56 : Int32))) (own_byte q0 (48 : Int32))) (own_byte q0 (40 : Int32))) (own_byte q0 (32 : Int32))) (own_byte q0 (24 : Int32))) b3 (5 : Int32) cl3 (8 : Int32) (own_byte q0 (16 : Int32)) T3.heap n0 Z4 Ar3 Sa3 Ma3 (by decide) (inb_of Sa3 ⟨by decide, by decide⟩) (Ha3 5 (by rw [Sa3]; decide))) hZ (hw _ (List.mem_of_getElem? (i := 9) rfl)) (hw _ (List.mem_of_getElem? (i := 8) rfl)) (by decide) (by decide)) (g := (mkF m 82 #[.val (.long q0), .second, .val (.int p1), .val (.int (8 : Int32)), .val (.ref b3), .val (.long (own_st (own_st (own_st (own_st (own_st (0 : Int64) (own_byte q0 (56 : Int32))) (own_byte q0 (48 : Int32))) (own_byte q0 (40 : Int32))) (own_byte q0 (32 : Int32))) (own_byte q0 (24 : Int32)))), .second, .unset, .unset] [(.int (5 : Int32)), (.ref b3), (.long (own_st (own_st (own_st (own_st (own_st (0 : Int64) (own_byte q0 (56 : Int32))) (own_byte q0 (48 : Int32))) (own_byte q0 (40 : Int32))) (own_byte q0 (32 : Int32))) (own_byte q0 (24 : Int32))))])) rfl (by rw [hml]; rfl) (argsL := [(.long (own_st (own_st (own_st (own_st (own_st (0 : Int64) (own_byte q0 (56 : Int32))) (own_byte q0 (48 : Int32))) (own_byte q0 (40 : Int32))) (own_byte q0 (32 : Int32))) (own_byte q0 (24 : Int32)))), (.ref b3), (.int (5 : Int32))]) (rest := []) (lenOf pd_1 rfl) rfl (by show 2 * 0 + _ ≤ _; exact Nat.le_of_eq rfl) (hb hby at_82) (fun _ _ => ⟨rfl, e9q, (by decide : 1 + 0 ≤ _), (by decide : 8 + 0 ≤ _)⟩)
  dsimp only [Pt.U, Pt.locs, Pt.cells, Pt.slots] at X10 l10 y10 z10 st10 hQ10
  subst l10 y10 z10
  obtain ⟨rfl, N10q, e10q⟩ := hQ10
  have N10 := Fr.app N9 N10q
  obtain ⟨_, _, ⟨T11, L11, k11, n11⟩, -, X11, ⟨Lc11, hQ11, l11, y11, z11⟩, st11⟩ := Jvm.LawKit.callS X10 hx (y := (⟨"shale/ValueTypeBigEndianPinLaw", "step", "(J[BI)J"⟩ : MethodName)) hown (mvT hZ (hw _ (List.mem_of_getElem? (i := 6) rfl))) (mvT hZ (hw _ (List.mem_of_getElem? (i := 7) rfl))) (mvT hZ (hw _ (List.mem_of_getElem? (i := 8) rfl))) (mvT hZ (hw _ (List.mem_of_getElem? (i := 9) rfl))) (by decide) (backOf (W := 0) (rmsi l Z a0 hw [] (own_st (own_st (own_st (own_st (own_st (own_st (0 : Int64) (own_byte q0 (56 : Int32))) (own_byte q0 (48 : Int32))) (own_byte q0 (40 : Int32))) (own_byte q0 (32 : Int32))) (own_byte q0 (24 : Int32))) (own_byte q0 (16 : Int32))) b3 (6 : Int32) cl3 (8 : Int32) (own_byte q0 (8 : Int32)) T3.heap n0 Z4 Ar3 Sa3 Ma3 (by decide) (inb_of Sa3 ⟨by decide, by decide⟩) (Ha3 6 (by rw [Sa3]; decide))) hZ (hw _ (List.mem_of_getElem? (i := 9) rfl)) (hw _ (List.mem_of_getElem? (i := 8) rfl)) (by decide) (by decide)) (g := (mkF m 93 #[.val (.long q0), .second, .val (.int p1), .val (.int (8 : Int32)), .val (.ref b3), .val (.long (own_st (own_st (own_st (own_st (own_st (own_st (0 : Int64) (own_byte q0 (56 : Int32))) (own_byte q0 (48 : Int32))) (own_byte q0 (40 : Int32))) (own_byte q0 (32 : Int32))) (own_byte q0 (24 : Int32))) (own_byte q0 (16 : Int32)))), .second, .unset, .unset] [(.int (6 : Int32)), (.ref b3), (.long (own_st (own_st (own_st (own_st (own_st (own_st (0 : Int64) (own_byte q0 (56 : Int32))) (own_byte q0 (48 : Int32))) (own_byte q0 (40 : Int32))) (own_byte q0 (32 : Int32))) (own_byte q0 (24 : Int32))) (own_byte q0 (16 : Int32))))])) rfl (by rw [hml]; rfl) (argsL := [(.long (own_st (own_st (own_st (own_st (own_st (own_st (0 : Int64) (own_byte q0 (56 : Int32))) (own_byte q0 (48 : Int32))) (own_byte q0 (40 : Int32))) (own_byte q0 (32 : Int32))) (own_byte q0 (24 : Int32))) (own_byte q0 (16 : Int32)))), (.ref b3), (.int (6 : Int32))]) (rest := []) (lenOf pd_1 rfl) rfl (by show 2 * 0 + _ ≤ _; exact Nat.le_of_eq rfl) (hb hby at_93) (fun _ _ => ⟨rfl, e10q, (by decide : 1 + 0 ≤ _), (by decide : 8 + 0 ≤ _)⟩)
  dsimp only [Pt.U, Pt.locs, Pt.cells, Pt.slots] at X11 l11 y11 z11 st11 hQ11
  subst l11 y11 z11
  obtain ⟨rfl, N11q, e11q⟩ := hQ11
  have N11 := Fr.app N10 N11q
  obtain ⟨_, _, ⟨T12, L12, k12, n12⟩, -, X12, ⟨Lc12, hQ12, l12, y12, z12⟩, st12⟩ := Jvm.LawKit.callS X11 hx (y := (⟨"shale/ValueTypeBigEndianPinLaw", "step", "(J[BI)J"⟩ : MethodName)) hown (mvT hZ (hw _ (List.mem_of_getElem? (i := 6) rfl))) (mvT hZ (hw _ (List.mem_of_getElem? (i := 7) rfl))) (mvT hZ (hw _ (List.mem_of_getElem? (i := 8) rfl))) (mvT hZ (hw _ (List.mem_of_getElem? (i := 9) rfl))) (by decide) (backOf (W := 0) (rmsi l Z a0 hw [] (own_st (own_st (own_st (own_st (own_st (own_st (own_st (0 : Int64) (own_byte q0 (56 : Int32))) (own_byte q0 (48 : Int32))) (own_byte q0 (40 : Int32))) (own_byte q0 (32 : Int32))) (own_byte q0 (24 : Int32))) (own_byte q0 (16 : Int32))) (own_byte q0 (8 : Int32))) b3 (7 : Int32) cl3 (8 : Int32) (own_byte q0 (0 : Int32)) T3.heap n0 Z4 Ar3 Sa3 Ma3 (by decide) (inb_of Sa3 ⟨by decide, by decide⟩) (Ha3 7 (by rw [Sa3]; decide))) hZ (hw _ (List.mem_of_getElem? (i := 9) rfl)) (hw _ (List.mem_of_getElem? (i := 8) rfl)) (by decide) (by decide)) (g := (mkF m 104 #[.val (.long q0), .second, .val (.int p1), .val (.int (8 : Int32)), .val (.ref b3), .val (.long (own_st (own_st (own_st (own_st (own_st (own_st (own_st (0 : Int64) (own_byte q0 (56 : Int32))) (own_byte q0 (48 : Int32))) (own_byte q0 (40 : Int32))) (own_byte q0 (32 : Int32))) (own_byte q0 (24 : Int32))) (own_byte q0 (16 : Int32))) (own_byte q0 (8 : Int32)))), .second, .unset, .unset] [(.int (7 : Int32)), (.ref b3), (.long (own_st (own_st (own_st (own_st (own_st (own_st (own_st (0 : Int64) (own_byte q0 (56 : Int32))) (own_byte q0 (48 : Int32))) (own_byte q0 (40 : Int32))) (own_byte q0 (32 : Int32))) (own_byte q0 (24 : Int32))) (own_byte q0 (16 : Int32))) (own_byte q0 (8 : Int32))))])) rfl (by rw [hml]; rfl) (argsL := [(.long (own_st (own_st (own_st (own_st (own_st (own_st (own_st (0 : Int64) (own_byte q0 (56 : Int32))) (own_byte q0 (48 : Int32))) (own_byte q0 (40 : Int32))) (own_byte q0 (32 : Int32))) (own_byte q0 (24 : Int32))) (own_byte q0 (16 : Int32))) (own_byte q0 (8 : Int32)))), (.ref b3), (.int (7 : Int32))]) (rest := []) (lenOf pd_1 rfl) rfl (by show 2 * 0 + _ ≤ _; exact Nat.le_of_eq rfl) (hb hby at_104) (fun _ _ => ⟨rfl, e11q, (by decide : 1 + 0 ≤ _), (by decide : 8 + 0 ≤ _)⟩)
  dsimp only [Pt.U, Pt.locs, Pt.cells, Pt.slots] at X12 l12 y12 z12 st12 hQ12
  subst l12 y12 z12
  obtain ⟨rfl, N12q, e12q⟩ := hQ12
  have N12 := Fr.app N11 N12q
  obtain ⟨fs, hr, hrun, hended, hW, hsame⟩ := X12.leave (v := some (.int (1 : Int32))) (fun h => by rw [Bd.returns] at h; cases h)
  refine ⟨_, _, pre2 _ ?_, hrun, hended, _, _, rfl, ?_, ⟨_, rfl⟩, hW, hsame.mono (by decide) (by decide)⟩
  · show Steps p.tables e below (s₁.setTop (mkF m 7 #[.val (.long q0), .second, .val (.int p1), .unset, .unset, .unset, .unset, .unset, .unset] [(.int (8 : Int32))])) _
    refine XS.istoreN X0.here hx rfl (hb hby at_7) rfl (l' := #[.val (.long q0), .second, .val (.int p1), .val (.int (8 : Int32)), .unset, .unset, .unset, .unset, .unset]) rfl ?_
    show Steps p.tables e below (s₁.setTop (mkF m 8 #[.val (.long q0), .second, .val (.int p1), .val (.int (8 : Int32)), .unset, .unset, .unset, .unset, .unset] [])) _
    refine XS.lloadN X0.here hx rfl (hb hby at_8) rfl ?_
    show Steps p.tables e below (s₁.setTop (mkF m 9 #[.val (.long q0), .second, .val (.int p1), .val (.int (8 : Int32)), .unset, .unset, .unset, .unset, .unset] [(.long q0)])) _
    refine XS.iloadN X0.here hx rfl (hb hby at_9) rfl ?_
    show Steps p.tables e below (s₁.setTop (mkF m 10 #[.val (.long q0), .second, .val (.int p1), .val (.int (8 : Int32)), .unset, .unset, .unset, .unset, .unset] [(.int (8 : Int32)), (.long q0)])) _
    refine st3 _ ?_
    show Steps p.tables e below (T3.setTop (mkF m 13 #[.val (.long q0), .second, .val (.int p1), .val (.int (8 : Int32)), .unset, .unset, .unset, .unset, .unset] [(.ref b3)])) _
    refine XS.astore X3.here hx rfl (hb hby at_13) rfl rfl (l' := #[.val (.long q0), .second, .val (.int p1), .val (.int (8 : Int32)), .val (.ref b3), .unset, .unset, .unset, .unset]) rfl ?_
    show Steps p.tables e below (T3.setTop (mkF m 15 #[.val (.long q0), .second, .val (.int p1), .val (.int (8 : Int32)), .val (.ref b3), .unset, .unset, .unset, .unset] [])) _
    refine XS.aload X3.here hx rfl (hb hby at_15) rfl rfl ?_
    show Steps p.tables e below (T3.setTop (mkF m 17 #[.val (.long q0), .second, .val (.int p1), .val (.int (8 : Int32)), .val (.ref b3), .unset, .unset, .unset, .unset] [(.ref b3)])) _
    refine X3.arraylength hx Ar3.1 (State.isArrayOf_alike hZ.alike Ar3.2.1) (g := (mkF m 17 #[.val (.long q0), .second, .val (.int p1), .val (.int (8 : Int32)), .val (.ref b3), .unset, .unset, .unset, .unset] [(.ref b3)])) rfl rfl (hb hby at_17) _ ?_
    rw [len_of Sa3 Ma3]
    show Steps p.tables e below (T3.setTop (mkF m 18 #[.val (.long q0), .second, .val (.int p1), .val (.int (8 : Int32)), .val (.ref b3), .unset, .unset, .unset, .unset] [(.int (8 : Int32))])) _
    refine XS.iloadN X3.here hx rfl (hb hby at_18) rfl ?_
    show Steps p.tables e below (T3.setTop (mkF m 19 #[.val (.long q0), .second, .val (.int p1), .val (.int (8 : Int32)), .val (.ref b3), .unset, .unset, .unset, .unset] [(.int (8 : Int32)), (.int (8 : Int32))])) _
    refine XS.icmpYes X3.here hx rfl (pc0 := 19) (pc' := 24) rfl (hb hby at_19) rfl (teq (by decide : (8 : Int32) = (8 : Int32))).1 (by decide) (by decide) ?_
    show Steps p.tables e below (T3.setTop (mkF m 24 #[.val (.long q0), .second, .val (.int p1), .val (.int (8 : Int32)), .val (.ref b3), .unset, .unset, .unset, .unset] [])) _
    refine XS.lconst X3.here hx rfl (hb hby at_24) ?_
    show Steps p.tables e below (T3.setTop (mkF m 25 #[.val (.long q0), .second, .val (.int p1), .val (.int (8 : Int32)), .val (.ref b3), .unset, .unset, .unset, .unset] [(.long (0 : Int64))])) _
    refine XS.lstore X3.here hx rfl (hb hby at_25) rfl (l' := #[.val (.long q0), .second, .val (.int p1), .val (.int (8 : Int32)), .val (.ref b3), .val (.long (0 : Int64)), .second, .unset, .unset]) rfl ?_
    show Steps p.tables e below (T3.setTop (mkF m 27 #[.val (.long q0), .second, .val (.int p1), .val (.int (8 : Int32)), .val (.ref b3), .val (.long (0 : Int64)), .second, .unset, .unset] [])) _
    refine XS.lload X3.here hx rfl (hb hby at_27) rfl ?_
    show Steps p.tables e below (T3.setTop (mkF m 29 #[.val (.long q0), .second, .val (.int p1), .val (.int (8 : Int32)), .val (.ref b3), .val (.long (0 : Int64)), .second, .unset, .unset] [(.long (0 : Int64))])) _
    refine XS.aload X3.here hx rfl (hb hby at_29) rfl rfl ?_
    show Steps p.tables e below (T3.setTop (mkF m 31 #[.val (.long q0), .second, .val (.int p1), .val (.int (8 : Int32)), .val (.ref b3), .val (.long (0 : Int64)), .second, .unset, .unset] [(.ref b3), (.long (0 : Int64))])) _
    refine XS.iconst X3.here hx rfl (hb hby at_31) ?_
    show Steps p.tables e below (T3.setTop (mkF m 32 #[.val (.long q0), .second, .val (.int p1), .val (.int (8 : Int32)), .val (.ref b3), .val (.long (0 : Int64)), .second, .unset, .unset] [(.int (0 : Int32)), (.ref b3), (.long (0 : Int64))])) _
    refine st5 _ ?_
    show Steps p.tables e below (T5.setTop (mkF m 35 #[.val (.long q0), .second, .val (.int p1), .val (.int (8 : Int32)), .val (.ref b3), .val (.long (0 : Int64)), .second, .unset, .unset] [(.long (own_st (0 : Int64) (own_byte q0 (56 : Int32))))])) _
    refine XS.lstore X5.here hx rfl (hb hby at_35) rfl (l' := #[.val (.long q0), .second, .val (.int p1), .val (.int (8 : Int32)), .val (.ref b3), .val (.long (own_st (0 : Int64) (own_byte q0 (56 : Int32)))), .second, .unset, .unset]) rfl ?_
    show Steps p.tables e below (T5.setTop (mkF m 37 #[.val (.long q0), .second, .val (.int p1), .val (.int (8 : Int32)), .val (.ref b3), .val (.long (own_st (0 : Int64) (own_byte q0 (56 : Int32)))), .second, .unset, .unset] [])) _
    refine XS.lload X5.here hx rfl (hb hby at_37) rfl ?_
    show Steps p.tables e below (T5.setTop (mkF m 39 #[.val (.long q0), .second, .val (.int p1), .val (.int (8 : Int32)), .val (.ref b3), .val (.long (own_st (0 : Int64) (own_byte q0 (56 : Int32)))), .second, .unset, .unset] [(.long (own_st (0 : Int64) (own_byte q0 (56 : Int32))))])) _
    refine XS.aload X5.here hx rfl (hb hby at_39) rfl rfl ?_
    show Steps p.tables e below (T5.setTop (mkF m 41 #[.val (.long q0), .second, .val (.int p1), .val (.int (8 : Int32)), .val (.ref b3), .val (.long (own_st (0 : Int64) (own_byte q0 (56 : Int32)))), .second, .unset, .unset] [(.ref b3), (.long (own_st (0 : Int64) (own_byte q0 (56 : Int32))))])) _
    refine XS.iconst X5.here hx rfl (hb hby at_41) ?_
    show Steps p.tables e below (T5.setTop (mkF m 42 #[.val (.long q0), .second, .val (.int p1), .val (.int (8 : Int32)), .val (.ref b3), .val (.long (own_st (0 : Int64) (own_byte q0 (56 : Int32)))), .second, .unset, .unset] [(.int (1 : Int32)), (.ref b3), (.long (own_st (0 : Int64) (own_byte q0 (56 : Int32))))])) _
    refine st6 _ ?_
    show Steps p.tables e below (T6.setTop (mkF m 45 #[.val (.long q0), .second, .val (.int p1), .val (.int (8 : Int32)), .val (.ref b3), .val (.long (own_st (0 : Int64) (own_byte q0 (56 : Int32)))), .second, .unset, .unset] [(.long (own_st (own_st (0 : Int64) (own_byte q0 (56 : Int32))) (own_byte q0 (48 : Int32))))])) _
    refine XS.lstore X6.here hx rfl (hb hby at_45) rfl (l' := #[.val (.long q0), .second, .val (.int p1), .val (.int (8 : Int32)), .val (.ref b3), .val (.long (own_st (own_st (0 : Int64) (own_byte q0 (56 : Int32))) (own_byte q0 (48 : Int32)))), .second, .unset, .unset]) rfl ?_
    show Steps p.tables e below (T6.setTop (mkF m 47 #[.val (.long q0), .second, .val (.int p1), .val (.int (8 : Int32)), .val (.ref b3), .val (.long (own_st (own_st (0 : Int64) (own_byte q0 (56 : Int32))) (own_byte q0 (48 : Int32)))), .second, .unset, .unset] [])) _
    refine XS.lload X6.here hx rfl (hb hby at_47) rfl ?_
    show Steps p.tables e below (T6.setTop (mkF m 49 #[.val (.long q0), .second, .val (.int p1), .val (.int (8 : Int32)), .val (.ref b3), .val (.long (own_st (own_st (0 : Int64) (own_byte q0 (56 : Int32))) (own_byte q0 (48 : Int32)))), .second, .unset, .unset] [(.long (own_st (own_st (0 : Int64) (own_byte q0 (56 : Int32))) (own_byte q0 (48 : Int32))))])) _
    refine XS.aload X6.here hx rfl (hb hby at_49) rfl rfl ?_
    show Steps p.tables e below (T6.setTop (mkF m 51 #[.val (.long q0), .second, .val (.int p1), .val (.int (8 : Int32)), .val (.ref b3), .val (.long (own_st (own_st (0 : Int64) (own_byte q0 (56 : Int32))) (own_byte q0 (48 : Int32)))), .second, .unset, .unset] [(.ref b3), (.long (own_st (own_st (0 : Int64) (own_byte q0 (56 : Int32))) (own_byte q0 (48 : Int32))))])) _
    refine XS.iconst X6.here hx rfl (hb hby at_51) ?_
    show Steps p.tables e below (T6.setTop (mkF m 52 #[.val (.long q0), .second, .val (.int p1), .val (.int (8 : Int32)), .val (.ref b3), .val (.long (own_st (own_st (0 : Int64) (own_byte q0 (56 : Int32))) (own_byte q0 (48 : Int32)))), .second, .unset, .unset] [(.int (2 : Int32)), (.ref b3), (.long (own_st (own_st (0 : Int64) (own_byte q0 (56 : Int32))) (own_byte q0 (48 : Int32))))])) _
    refine st7 _ ?_
    show Steps p.tables e below (T7.setTop (mkF m 55 #[.val (.long q0), .second, .val (.int p1), .val (.int (8 : Int32)), .val (.ref b3), .val (.long (own_st (own_st (0 : Int64) (own_byte q0 (56 : Int32))) (own_byte q0 (48 : Int32)))), .second, .unset, .unset] [(.long (own_st (own_st (own_st (0 : Int64) (own_byte q0 (56 : Int32))) (own_byte q0 (48 : Int32))) (own_byte q0 (40 : Int32))))])) _
    refine XS.lstore X7.here hx rfl (hb hby at_55) rfl (l' := #[.val (.long q0), .second, .val (.int p1), .val (.int (8 : Int32)), .val (.ref b3), .val (.long (own_st (own_st (own_st (0 : Int64) (own_byte q0 (56 : Int32))) (own_byte q0 (48 : Int32))) (own_byte q0 (40 : Int32)))), .second, .unset, .unset]) rfl ?_
    show Steps p.tables e below (T7.setTop (mkF m 57 #[.val (.long q0), .second, .val (.int p1), .val (.int (8 : Int32)), .val (.ref b3), .val (.long (own_st (own_st (own_st (0 : Int64) (own_byte q0 (56 : Int32))) (own_byte q0 (48 : Int32))) (own_byte q0 (40 : Int32)))), .second, .unset, .unset] [])) _
    refine XS.lload X7.here hx rfl (hb hby at_57) rfl ?_
    show Steps p.tables e below (T7.setTop (mkF m 59 #[.val (.long q0), .second, .val (.int p1), .val (.int (8 : Int32)), .val (.ref b3), .val (.long (own_st (own_st (own_st (0 : Int64) (own_byte q0 (56 : Int32))) (own_byte q0 (48 : Int32))) (own_byte q0 (40 : Int32)))), .second, .unset, .unset] [(.long (own_st (own_st (own_st (0 : Int64) (own_byte q0 (56 : Int32))) (own_byte q0 (48 : Int32))) (own_byte q0 (40 : Int32))))])) _
    refine XS.aload X7.here hx rfl (hb hby at_59) rfl rfl ?_
    show Steps p.tables e below (T7.setTop (mkF m 61 #[.val (.long q0), .second, .val (.int p1), .val (.int (8 : Int32)), .val (.ref b3), .val (.long (own_st (own_st (own_st (0 : Int64) (own_byte q0 (56 : Int32))) (own_byte q0 (48 : Int32))) (own_byte q0 (40 : Int32)))), .second, .unset, .unset] [(.ref b3), (.long (own_st (own_st (own_st (0 : Int64) (own_byte q0 (56 : Int32))) (own_byte q0 (48 : Int32))) (own_byte q0 (40 : Int32))))])) _
    refine XS.iconst X7.here hx rfl (hb hby at_61) ?_
    show Steps p.tables e below (T7.setTop (mkF m 62 #[.val (.long q0), .second, .val (.int p1), .val (.int (8 : Int32)), .val (.ref b3), .val (.long (own_st (own_st (own_st (0 : Int64) (own_byte q0 (56 : Int32))) (own_byte q0 (48 : Int32))) (own_byte q0 (40 : Int32)))), .second, .unset, .unset] [(.int (3 : Int32)), (.ref b3), (.long (own_st (own_st (own_st (0 : Int64) (own_byte q0 (56 : Int32))) (own_byte q0 (48 : Int32))) (own_byte q0 (40 : Int32))))])) _
    refine st8 _ ?_
    show Steps p.tables e below (T8.setTop (mkF m 65 #[.val (.long q0), .second, .val (.int p1), .val (.int (8 : Int32)), .val (.ref b3), .val (.long (own_st (own_st (own_st (0 : Int64) (own_byte q0 (56 : Int32))) (own_byte q0 (48 : Int32))) (own_byte q0 (40 : Int32)))), .second, .unset, .unset] [(.long (own_st (own_st (own_st (own_st (0 : Int64) (own_byte q0 (56 : Int32))) (own_byte q0 (48 : Int32))) (own_byte q0 (40 : Int32))) (own_byte q0 (32 : Int32))))])) _
    refine XS.lstore X8.here hx rfl (hb hby at_65) rfl (l' := #[.val (.long q0), .second, .val (.int p1), .val (.int (8 : Int32)), .val (.ref b3), .val (.long (own_st (own_st (own_st (own_st (0 : Int64) (own_byte q0 (56 : Int32))) (own_byte q0 (48 : Int32))) (own_byte q0 (40 : Int32))) (own_byte q0 (32 : Int32)))), .second, .unset, .unset]) rfl ?_
    show Steps p.tables e below (T8.setTop (mkF m 67 #[.val (.long q0), .second, .val (.int p1), .val (.int (8 : Int32)), .val (.ref b3), .val (.long (own_st (own_st (own_st (own_st (0 : Int64) (own_byte q0 (56 : Int32))) (own_byte q0 (48 : Int32))) (own_byte q0 (40 : Int32))) (own_byte q0 (32 : Int32)))), .second, .unset, .unset] [])) _
    refine XS.lload X8.here hx rfl (hb hby at_67) rfl ?_
    show Steps p.tables e below (T8.setTop (mkF m 69 #[.val (.long q0), .second, .val (.int p1), .val (.int (8 : Int32)), .val (.ref b3), .val (.long (own_st (own_st (own_st (own_st (0 : Int64) (own_byte q0 (56 : Int32))) (own_byte q0 (48 : Int32))) (own_byte q0 (40 : Int32))) (own_byte q0 (32 : Int32)))), .second, .unset, .unset] [(.long (own_st (own_st (own_st (own_st (0 : Int64) (own_byte q0 (56 : Int32))) (own_byte q0 (48 : Int32))) (own_byte q0 (40 : Int32))) (own_byte q0 (32 : Int32))))])) _
    refine XS.aload X8.here hx rfl (hb hby at_69) rfl rfl ?_
    show Steps p.tables e below (T8.setTop (mkF m 71 #[.val (.long q0), .second, .val (.int p1), .val (.int (8 : Int32)), .val (.ref b3), .val (.long (own_st (own_st (own_st (own_st (0 : Int64) (own_byte q0 (56 : Int32))) (own_byte q0 (48 : Int32))) (own_byte q0 (40 : Int32))) (own_byte q0 (32 : Int32)))), .second, .unset, .unset] [(.ref b3), (.long (own_st (own_st (own_st (own_st (0 : Int64) (own_byte q0 (56 : Int32))) (own_byte q0 (48 : Int32))) (own_byte q0 (40 : Int32))) (own_byte q0 (32 : Int32))))])) _
    refine XS.iconst X8.here hx rfl (hb hby at_71) ?_
    show Steps p.tables e below (T8.setTop (mkF m 72 #[.val (.long q0), .second, .val (.int p1), .val (.int (8 : Int32)), .val (.ref b3), .val (.long (own_st (own_st (own_st (own_st (0 : Int64) (own_byte q0 (56 : Int32))) (own_byte q0 (48 : Int32))) (own_byte q0 (40 : Int32))) (own_byte q0 (32 : Int32)))), .second, .unset, .unset] [(.int (4 : Int32)), (.ref b3), (.long (own_st (own_st (own_st (own_st (0 : Int64) (own_byte q0 (56 : Int32))) (own_byte q0 (48 : Int32))) (own_byte q0 (40 : Int32))) (own_byte q0 (32 : Int32))))])) _
    refine st9 _ ?_
    show Steps p.tables e below (T9.setTop (mkF m 75 #[.val (.long q0), .second, .val (.int p1), .val (.int (8 : Int32)), .val (.ref b3), .val (.long (own_st (own_st (own_st (own_st (0 : Int64) (own_byte q0 (56 : Int32))) (own_byte q0 (48 : Int32))) (own_byte q0 (40 : Int32))) (own_byte q0 (32 : Int32)))), .second, .unset, .unset] [(.long (own_st (own_st (own_st (own_st (own_st (0 : Int64) (own_byte q0 (56 : Int32))) (own_byte q0 (48 : Int32))) (own_byte q0 (40 : Int32))) (own_byte q0 (32 : Int32))) (own_byte q0 (24 : Int32))))])) _
    refine XS.lstore X9.here hx rfl (hb hby at_75) rfl (l' := #[.val (.long q0), .second, .val (.int p1), .val (.int (8 : Int32)), .val (.ref b3), .val (.long (own_st (own_st (own_st (own_st (own_st (0 : Int64) (own_byte q0 (56 : Int32))) (own_byte q0 (48 : Int32))) (own_byte q0 (40 : Int32))) (own_byte q0 (32 : Int32))) (own_byte q0 (24 : Int32)))), .second, .unset, .unset]) rfl ?_
    show Steps p.tables e below (T9.setTop (mkF m 77 #[.val (.long q0), .second, .val (.int p1), .val (.int (8 : Int32)), .val (.ref b3), .val (.long (own_st (own_st (own_st (own_st (own_st (0 : Int64) (own_byte q0 (56 : Int32))) (own_byte q0 (48 : Int32))) (own_byte q0 (40 : Int32))) (own_byte q0 (32 : Int32))) (own_byte q0 (24 : Int32)))), .second, .unset, .unset] [])) _
    refine XS.lload X9.here hx rfl (hb hby at_77) rfl ?_
    show Steps p.tables e below (T9.setTop (mkF m 79 #[.val (.long q0), .second, .val (.int p1), .val (.int (8 : Int32)), .val (.ref b3), .val (.long (own_st (own_st (own_st (own_st (own_st (0 : Int64) (own_byte q0 (56 : Int32))) (own_byte q0 (48 : Int32))) (own_byte q0 (40 : Int32))) (own_byte q0 (32 : Int32))) (own_byte q0 (24 : Int32)))), .second, .unset, .unset] [(.long (own_st (own_st (own_st (own_st (own_st (0 : Int64) (own_byte q0 (56 : Int32))) (own_byte q0 (48 : Int32))) (own_byte q0 (40 : Int32))) (own_byte q0 (32 : Int32))) (own_byte q0 (24 : Int32))))])) _
    refine XS.aload X9.here hx rfl (hb hby at_79) rfl rfl ?_
    show Steps p.tables e below (T9.setTop (mkF m 81 #[.val (.long q0), .second, .val (.int p1), .val (.int (8 : Int32)), .val (.ref b3), .val (.long (own_st (own_st (own_st (own_st (own_st (0 : Int64) (own_byte q0 (56 : Int32))) (own_byte q0 (48 : Int32))) (own_byte q0 (40 : Int32))) (own_byte q0 (32 : Int32))) (own_byte q0 (24 : Int32)))), .second, .unset, .unset] [(.ref b3), (.long (own_st (own_st (own_st (own_st (own_st (0 : Int64) (own_byte q0 (56 : Int32))) (own_byte q0 (48 : Int32))) (own_byte q0 (40 : Int32))) (own_byte q0 (32 : Int32))) (own_byte q0 (24 : Int32))))])) _
    refine XS.iconst X9.here hx rfl (hb hby at_81) ?_
    show Steps p.tables e below (T9.setTop (mkF m 82 #[.val (.long q0), .second, .val (.int p1), .val (.int (8 : Int32)), .val (.ref b3), .val (.long (own_st (own_st (own_st (own_st (own_st (0 : Int64) (own_byte q0 (56 : Int32))) (own_byte q0 (48 : Int32))) (own_byte q0 (40 : Int32))) (own_byte q0 (32 : Int32))) (own_byte q0 (24 : Int32)))), .second, .unset, .unset] [(.int (5 : Int32)), (.ref b3), (.long (own_st (own_st (own_st (own_st (own_st (0 : Int64) (own_byte q0 (56 : Int32))) (own_byte q0 (48 : Int32))) (own_byte q0 (40 : Int32))) (own_byte q0 (32 : Int32))) (own_byte q0 (24 : Int32))))])) _
    refine st10 _ ?_
    show Steps p.tables e below (T10.setTop (mkF m 85 #[.val (.long q0), .second, .val (.int p1), .val (.int (8 : Int32)), .val (.ref b3), .val (.long (own_st (own_st (own_st (own_st (own_st (0 : Int64) (own_byte q0 (56 : Int32))) (own_byte q0 (48 : Int32))) (own_byte q0 (40 : Int32))) (own_byte q0 (32 : Int32))) (own_byte q0 (24 : Int32)))), .second, .unset, .unset] [(.long (own_st (own_st (own_st (own_st (own_st (own_st (0 : Int64) (own_byte q0 (56 : Int32))) (own_byte q0 (48 : Int32))) (own_byte q0 (40 : Int32))) (own_byte q0 (32 : Int32))) (own_byte q0 (24 : Int32))) (own_byte q0 (16 : Int32))))])) _
    refine XS.lstore X10.here hx rfl (hb hby at_85) rfl (l' := #[.val (.long q0), .second, .val (.int p1), .val (.int (8 : Int32)), .val (.ref b3), .val (.long (own_st (own_st (own_st (own_st (own_st (own_st (0 : Int64) (own_byte q0 (56 : Int32))) (own_byte q0 (48 : Int32))) (own_byte q0 (40 : Int32))) (own_byte q0 (32 : Int32))) (own_byte q0 (24 : Int32))) (own_byte q0 (16 : Int32)))), .second, .unset, .unset]) rfl ?_
    show Steps p.tables e below (T10.setTop (mkF m 87 #[.val (.long q0), .second, .val (.int p1), .val (.int (8 : Int32)), .val (.ref b3), .val (.long (own_st (own_st (own_st (own_st (own_st (own_st (0 : Int64) (own_byte q0 (56 : Int32))) (own_byte q0 (48 : Int32))) (own_byte q0 (40 : Int32))) (own_byte q0 (32 : Int32))) (own_byte q0 (24 : Int32))) (own_byte q0 (16 : Int32)))), .second, .unset, .unset] [])) _
    refine XS.lload X10.here hx rfl (hb hby at_87) rfl ?_
    show Steps p.tables e below (T10.setTop (mkF m 89 #[.val (.long q0), .second, .val (.int p1), .val (.int (8 : Int32)), .val (.ref b3), .val (.long (own_st (own_st (own_st (own_st (own_st (own_st (0 : Int64) (own_byte q0 (56 : Int32))) (own_byte q0 (48 : Int32))) (own_byte q0 (40 : Int32))) (own_byte q0 (32 : Int32))) (own_byte q0 (24 : Int32))) (own_byte q0 (16 : Int32)))), .second, .unset, .unset] [(.long (own_st (own_st (own_st (own_st (own_st (own_st (0 : Int64) (own_byte q0 (56 : Int32))) (own_byte q0 (48 : Int32))) (own_byte q0 (40 : Int32))) (own_byte q0 (32 : Int32))) (own_byte q0 (24 : Int32))) (own_byte q0 (16 : Int32))))])) _
    refine XS.aload X10.here hx rfl (hb hby at_89) rfl rfl ?_
    show Steps p.tables e below (T10.setTop (mkF m 91 #[.val (.long q0), .second, .val (.int p1), .val (.int (8 : Int32)), .val (.ref b3), .val (.long (own_st (own_st (own_st (own_st (own_st (own_st (0 : Int64) (own_byte q0 (56 : Int32))) (own_byte q0 (48 : Int32))) (own_byte q0 (40 : Int32))) (own_byte q0 (32 : Int32))) (own_byte q0 (24 : Int32))) (own_byte q0 (16 : Int32)))), .second, .unset, .unset] [(.ref b3), (.long (own_st (own_st (own_st (own_st (own_st (own_st (0 : Int64) (own_byte q0 (56 : Int32))) (own_byte q0 (48 : Int32))) (own_byte q0 (40 : Int32))) (own_byte q0 (32 : Int32))) (own_byte q0 (24 : Int32))) (own_byte q0 (16 : Int32))))])) _
    refine XS.bipush X10.here hx rfl (hb hby at_91) ?_
    show Steps p.tables e below (T10.setTop (mkF m 93 #[.val (.long q0), .second, .val (.int p1), .val (.int (8 : Int32)), .val (.ref b3), .val (.long (own_st (own_st (own_st (own_st (own_st (own_st (0 : Int64) (own_byte q0 (56 : Int32))) (own_byte q0 (48 : Int32))) (own_byte q0 (40 : Int32))) (own_byte q0 (32 : Int32))) (own_byte q0 (24 : Int32))) (own_byte q0 (16 : Int32)))), .second, .unset, .unset] [(.int (6 : Int32)), (.ref b3), (.long (own_st (own_st (own_st (own_st (own_st (own_st (0 : Int64) (own_byte q0 (56 : Int32))) (own_byte q0 (48 : Int32))) (own_byte q0 (40 : Int32))) (own_byte q0 (32 : Int32))) (own_byte q0 (24 : Int32))) (own_byte q0 (16 : Int32))))])) _
    refine st11 _ ?_
    show Steps p.tables e below (T11.setTop (mkF m 96 #[.val (.long q0), .second, .val (.int p1), .val (.int (8 : Int32)), .val (.ref b3), .val (.long (own_st (own_st (own_st (own_st (own_st (own_st (0 : Int64) (own_byte q0 (56 : Int32))) (own_byte q0 (48 : Int32))) (own_byte q0 (40 : Int32))) (own_byte q0 (32 : Int32))) (own_byte q0 (24 : Int32))) (own_byte q0 (16 : Int32)))), .second, .unset, .unset] [(.long (own_st (own_st (own_st (own_st (own_st (own_st (own_st (0 : Int64) (own_byte q0 (56 : Int32))) (own_byte q0 (48 : Int32))) (own_byte q0 (40 : Int32))) (own_byte q0 (32 : Int32))) (own_byte q0 (24 : Int32))) (own_byte q0 (16 : Int32))) (own_byte q0 (8 : Int32))))])) _
    refine XS.lstore X11.here hx rfl (hb hby at_96) rfl (l' := #[.val (.long q0), .second, .val (.int p1), .val (.int (8 : Int32)), .val (.ref b3), .val (.long (own_st (own_st (own_st (own_st (own_st (own_st (own_st (0 : Int64) (own_byte q0 (56 : Int32))) (own_byte q0 (48 : Int32))) (own_byte q0 (40 : Int32))) (own_byte q0 (32 : Int32))) (own_byte q0 (24 : Int32))) (own_byte q0 (16 : Int32))) (own_byte q0 (8 : Int32)))), .second, .unset, .unset]) rfl ?_
    show Steps p.tables e below (T11.setTop (mkF m 98 #[.val (.long q0), .second, .val (.int p1), .val (.int (8 : Int32)), .val (.ref b3), .val (.long (own_st (own_st (own_st (own_st (own_st (own_st (own_st (0 : Int64) (own_byte q0 (56 : Int32))) (own_byte q0 (48 : Int32))) (own_byte q0 (40 : Int32))) (own_byte q0 (32 : Int32))) (own_byte q0 (24 : Int32))) (own_byte q0 (16 : Int32))) (own_byte q0 (8 : Int32)))), .second, .unset, .unset] [])) _
    refine XS.lload X11.here hx rfl (hb hby at_98) rfl ?_
    show Steps p.tables e below (T11.setTop (mkF m 100 #[.val (.long q0), .second, .val (.int p1), .val (.int (8 : Int32)), .val (.ref b3), .val (.long (own_st (own_st (own_st (own_st (own_st (own_st (own_st (0 : Int64) (own_byte q0 (56 : Int32))) (own_byte q0 (48 : Int32))) (own_byte q0 (40 : Int32))) (own_byte q0 (32 : Int32))) (own_byte q0 (24 : Int32))) (own_byte q0 (16 : Int32))) (own_byte q0 (8 : Int32)))), .second, .unset, .unset] [(.long (own_st (own_st (own_st (own_st (own_st (own_st (own_st (0 : Int64) (own_byte q0 (56 : Int32))) (own_byte q0 (48 : Int32))) (own_byte q0 (40 : Int32))) (own_byte q0 (32 : Int32))) (own_byte q0 (24 : Int32))) (own_byte q0 (16 : Int32))) (own_byte q0 (8 : Int32))))])) _
    refine XS.aload X11.here hx rfl (hb hby at_100) rfl rfl ?_
    show Steps p.tables e below (T11.setTop (mkF m 102 #[.val (.long q0), .second, .val (.int p1), .val (.int (8 : Int32)), .val (.ref b3), .val (.long (own_st (own_st (own_st (own_st (own_st (own_st (own_st (0 : Int64) (own_byte q0 (56 : Int32))) (own_byte q0 (48 : Int32))) (own_byte q0 (40 : Int32))) (own_byte q0 (32 : Int32))) (own_byte q0 (24 : Int32))) (own_byte q0 (16 : Int32))) (own_byte q0 (8 : Int32)))), .second, .unset, .unset] [(.ref b3), (.long (own_st (own_st (own_st (own_st (own_st (own_st (own_st (0 : Int64) (own_byte q0 (56 : Int32))) (own_byte q0 (48 : Int32))) (own_byte q0 (40 : Int32))) (own_byte q0 (32 : Int32))) (own_byte q0 (24 : Int32))) (own_byte q0 (16 : Int32))) (own_byte q0 (8 : Int32))))])) _
    refine XS.bipush X11.here hx rfl (hb hby at_102) ?_
    show Steps p.tables e below (T11.setTop (mkF m 104 #[.val (.long q0), .second, .val (.int p1), .val (.int (8 : Int32)), .val (.ref b3), .val (.long (own_st (own_st (own_st (own_st (own_st (own_st (own_st (0 : Int64) (own_byte q0 (56 : Int32))) (own_byte q0 (48 : Int32))) (own_byte q0 (40 : Int32))) (own_byte q0 (32 : Int32))) (own_byte q0 (24 : Int32))) (own_byte q0 (16 : Int32))) (own_byte q0 (8 : Int32)))), .second, .unset, .unset] [(.int (7 : Int32)), (.ref b3), (.long (own_st (own_st (own_st (own_st (own_st (own_st (own_st (0 : Int64) (own_byte q0 (56 : Int32))) (own_byte q0 (48 : Int32))) (own_byte q0 (40 : Int32))) (own_byte q0 (32 : Int32))) (own_byte q0 (24 : Int32))) (own_byte q0 (16 : Int32))) (own_byte q0 (8 : Int32))))])) _
    refine st12 _ ?_
    show Steps p.tables e below (T12.setTop (mkF m 107 #[.val (.long q0), .second, .val (.int p1), .val (.int (8 : Int32)), .val (.ref b3), .val (.long (own_st (own_st (own_st (own_st (own_st (own_st (own_st (0 : Int64) (own_byte q0 (56 : Int32))) (own_byte q0 (48 : Int32))) (own_byte q0 (40 : Int32))) (own_byte q0 (32 : Int32))) (own_byte q0 (24 : Int32))) (own_byte q0 (16 : Int32))) (own_byte q0 (8 : Int32)))), .second, .unset, .unset] [(.long (own_st (own_st (own_st (own_st (own_st (own_st (own_st (own_st (0 : Int64) (own_byte q0 (56 : Int32))) (own_byte q0 (48 : Int32))) (own_byte q0 (40 : Int32))) (own_byte q0 (32 : Int32))) (own_byte q0 (24 : Int32))) (own_byte q0 (16 : Int32))) (own_byte q0 (8 : Int32))) (own_byte q0 (0 : Int32))))])) _
    refine XS.lstore X12.here hx rfl (hb hby at_107) rfl (l' := #[.val (.long q0), .second, .val (.int p1), .val (.int (8 : Int32)), .val (.ref b3), .val (.long (own_st (own_st (own_st (own_st (own_st (own_st (own_st (own_st (0 : Int64) (own_byte q0 (56 : Int32))) (own_byte q0 (48 : Int32))) (own_byte q0 (40 : Int32))) (own_byte q0 (32 : Int32))) (own_byte q0 (24 : Int32))) (own_byte q0 (16 : Int32))) (own_byte q0 (8 : Int32))) (own_byte q0 (0 : Int32)))), .second, .unset, .unset]) rfl ?_
    show Steps p.tables e below (T12.setTop (mkF m 109 #[.val (.long q0), .second, .val (.int p1), .val (.int (8 : Int32)), .val (.ref b3), .val (.long (own_st (own_st (own_st (own_st (own_st (own_st (own_st (own_st (0 : Int64) (own_byte q0 (56 : Int32))) (own_byte q0 (48 : Int32))) (own_byte q0 (40 : Int32))) (own_byte q0 (32 : Int32))) (own_byte q0 (24 : Int32))) (own_byte q0 (16 : Int32))) (own_byte q0 (8 : Int32))) (own_byte q0 (0 : Int32)))), .second, .unset, .unset] [])) _
    refine XS.iloadN X12.here hx rfl (hb hby at_109) rfl ?_
    show Steps p.tables e below (T12.setTop (mkF m 110 #[.val (.long q0), .second, .val (.int p1), .val (.int (8 : Int32)), .val (.ref b3), .val (.long (own_st (own_st (own_st (own_st (own_st (own_st (own_st (own_st (0 : Int64) (own_byte q0 (56 : Int32))) (own_byte q0 (48 : Int32))) (own_byte q0 (40 : Int32))) (own_byte q0 (32 : Int32))) (own_byte q0 (24 : Int32))) (own_byte q0 (16 : Int32))) (own_byte q0 (8 : Int32))) (own_byte q0 (0 : Int32)))), .second, .unset, .unset] [(.int (8 : Int32))])) _
    refine XS.bipush X12.here hx rfl (hb hby at_110) ?_
    show Steps p.tables e below (T12.setTop (mkF m 112 #[.val (.long q0), .second, .val (.int p1), .val (.int (8 : Int32)), .val (.ref b3), .val (.long (own_st (own_st (own_st (own_st (own_st (own_st (own_st (own_st (0 : Int64) (own_byte q0 (56 : Int32))) (own_byte q0 (48 : Int32))) (own_byte q0 (40 : Int32))) (own_byte q0 (32 : Int32))) (own_byte q0 (24 : Int32))) (own_byte q0 (16 : Int32))) (own_byte q0 (8 : Int32))) (own_byte q0 (0 : Int32)))), .second, .unset, .unset] [(.int (8 : Int32)), (.int (8 : Int32))])) _
    refine XS.icmpNo X12.here hx rfl (hb hby at_112) rfl (teq (by decide : (8 : Int32) = (8 : Int32))).2 ?_
    show Steps p.tables e below (T12.setTop (mkF m 115 #[.val (.long q0), .second, .val (.int p1), .val (.int (8 : Int32)), .val (.ref b3), .val (.long (own_st (own_st (own_st (own_st (own_st (own_st (own_st (own_st (0 : Int64) (own_byte q0 (56 : Int32))) (own_byte q0 (48 : Int32))) (own_byte q0 (40 : Int32))) (own_byte q0 (32 : Int32))) (own_byte q0 (24 : Int32))) (own_byte q0 (16 : Int32))) (own_byte q0 (8 : Int32))) (own_byte q0 (0 : Int32)))), .second, .unset, .unset] [])) _
    refine XS.lloadN X12.here hx rfl (hb hby at_115) rfl ?_
    show Steps p.tables e below (T12.setTop (mkF m 116 #[.val (.long q0), .second, .val (.int p1), .val (.int (8 : Int32)), .val (.ref b3), .val (.long (own_st (own_st (own_st (own_st (own_st (own_st (own_st (own_st (0 : Int64) (own_byte q0 (56 : Int32))) (own_byte q0 (48 : Int32))) (own_byte q0 (40 : Int32))) (own_byte q0 (32 : Int32))) (own_byte q0 (24 : Int32))) (own_byte q0 (16 : Int32))) (own_byte q0 (8 : Int32))) (own_byte q0 (0 : Int32)))), .second, .unset, .unset] [(.long q0)])) _
    refine XS.lstore X12.here hx rfl (hb hby at_116) rfl (l' := #[.val (.long q0), .second, .val (.int p1), .val (.int (8 : Int32)), .val (.ref b3), .val (.long (own_st (own_st (own_st (own_st (own_st (own_st (own_st (own_st (0 : Int64) (own_byte q0 (56 : Int32))) (own_byte q0 (48 : Int32))) (own_byte q0 (40 : Int32))) (own_byte q0 (32 : Int32))) (own_byte q0 (24 : Int32))) (own_byte q0 (16 : Int32))) (own_byte q0 (8 : Int32))) (own_byte q0 (0 : Int32)))), .second, .val (.long q0), .second]) rfl ?_
    show Steps p.tables e below (T12.setTop (mkF m 118 #[.val (.long q0), .second, .val (.int p1), .val (.int (8 : Int32)), .val (.ref b3), .val (.long (own_st (own_st (own_st (own_st (own_st (own_st (own_st (own_st (0 : Int64) (own_byte q0 (56 : Int32))) (own_byte q0 (48 : Int32))) (own_byte q0 (40 : Int32))) (own_byte q0 (32 : Int32))) (own_byte q0 (24 : Int32))) (own_byte q0 (16 : Int32))) (own_byte q0 (8 : Int32))) (own_byte q0 (0 : Int32)))), .second, .val (.long q0), .second] [])) _
    refine XS.goto X12.here hx rfl (pc0 := 118) (pc' := 133) rfl (hb hby at_118) (by decide) (by decide) ?_
    show Steps p.tables e below (T12.setTop (mkF m 133 #[.val (.long q0), .second, .val (.int p1), .val (.int (8 : Int32)), .val (.ref b3), .val (.long (own_st (own_st (own_st (own_st (own_st (own_st (own_st (own_st (0 : Int64) (own_byte q0 (56 : Int32))) (own_byte q0 (48 : Int32))) (own_byte q0 (40 : Int32))) (own_byte q0 (32 : Int32))) (own_byte q0 (24 : Int32))) (own_byte q0 (16 : Int32))) (own_byte q0 (8 : Int32))) (own_byte q0 (0 : Int32)))), .second, .val (.long q0), .second] [])) _
    refine XS.lload X12.here hx rfl (hb hby at_133) rfl ?_
    show Steps p.tables e below (T12.setTop (mkF m 135 #[.val (.long q0), .second, .val (.int p1), .val (.int (8 : Int32)), .val (.ref b3), .val (.long (own_st (own_st (own_st (own_st (own_st (own_st (own_st (own_st (0 : Int64) (own_byte q0 (56 : Int32))) (own_byte q0 (48 : Int32))) (own_byte q0 (40 : Int32))) (own_byte q0 (32 : Int32))) (own_byte q0 (24 : Int32))) (own_byte q0 (16 : Int32))) (own_byte q0 (8 : Int32))) (own_byte q0 (0 : Int32)))), .second, .val (.long q0), .second] [(.long (own_st (own_st (own_st (own_st (own_st (own_st (own_st (own_st (0 : Int64) (own_byte q0 (56 : Int32))) (own_byte q0 (48 : Int32))) (own_byte q0 (40 : Int32))) (own_byte q0 (32 : Int32))) (own_byte q0 (24 : Int32))) (own_byte q0 (16 : Int32))) (own_byte q0 (8 : Int32))) (own_byte q0 (0 : Int32))))])) _
    refine XS.lload X12.here hx rfl (hb hby at_135) rfl ?_
    show Steps p.tables e below (T12.setTop (mkF m 137 #[.val (.long q0), .second, .val (.int p1), .val (.int (8 : Int32)), .val (.ref b3), .val (.long (own_st (own_st (own_st (own_st (own_st (own_st (own_st (own_st (0 : Int64) (own_byte q0 (56 : Int32))) (own_byte q0 (48 : Int32))) (own_byte q0 (40 : Int32))) (own_byte q0 (32 : Int32))) (own_byte q0 (24 : Int32))) (own_byte q0 (16 : Int32))) (own_byte q0 (8 : Int32))) (own_byte q0 (0 : Int32)))), .second, .val (.long q0), .second] [(.long q0), (.long (own_st (own_st (own_st (own_st (own_st (own_st (own_st (own_st (0 : Int64) (own_byte q0 (56 : Int32))) (own_byte q0 (48 : Int32))) (own_byte q0 (40 : Int32))) (own_byte q0 (32 : Int32))) (own_byte q0 (24 : Int32))) (own_byte q0 (16 : Int32))) (own_byte q0 (8 : Int32))) (own_byte q0 (0 : Int32))))])) _
    refine XS.lcmp X12.here hx rfl (hb hby at_137) rfl ?_
    show Steps p.tables e below (T12.setTop (mkF m 138 #[.val (.long q0), .second, .val (.int p1), .val (.int (8 : Int32)), .val (.ref b3), .val (.long (own_st (own_st (own_st (own_st (own_st (own_st (own_st (own_st (0 : Int64) (own_byte q0 (56 : Int32))) (own_byte q0 (48 : Int32))) (own_byte q0 (40 : Int32))) (own_byte q0 (32 : Int32))) (own_byte q0 (24 : Int32))) (own_byte q0 (16 : Int32))) (own_byte q0 (8 : Int32))) (own_byte q0 (0 : Int32)))), .second, .val (.long q0), .second] [(.int (lcmpW (own_st (own_st (own_st (own_st (own_st (own_st (own_st (own_st (0 : Int64) (own_byte q0 (56 : Int32))) (own_byte q0 (48 : Int32))) (own_byte q0 (40 : Int32))) (own_byte q0 (32 : Int32))) (own_byte q0 (24 : Int32))) (own_byte q0 (16 : Int32))) (own_byte q0 (8 : Int32))) (own_byte q0 (0 : Int32))) q0))])) _
    refine XS.ifNo X12.here hx rfl (hb hby at_138) rfl ((if0 _ _).trans (teq ((lw_eq _ _).mpr (own_fin8 q0))).2) ?_
    show Steps p.tables e below (T12.setTop (mkF m 141 #[.val (.long q0), .second, .val (.int p1), .val (.int (8 : Int32)), .val (.ref b3), .val (.long (own_st (own_st (own_st (own_st (own_st (own_st (own_st (own_st (0 : Int64) (own_byte q0 (56 : Int32))) (own_byte q0 (48 : Int32))) (own_byte q0 (40 : Int32))) (own_byte q0 (32 : Int32))) (own_byte q0 (24 : Int32))) (own_byte q0 (16 : Int32))) (own_byte q0 (8 : Int32))) (own_byte q0 (0 : Int32)))), .second, .val (.long q0), .second] [])) _
    refine XS.iconst X12.here hx rfl (hb hby at_141) ?_
    show Steps p.tables e below (T12.setTop (mkF m 142 #[.val (.long q0), .second, .val (.int p1), .val (.int (8 : Int32)), .val (.ref b3), .val (.long (own_st (own_st (own_st (own_st (own_st (own_st (own_st (own_st (0 : Int64) (own_byte q0 (56 : Int32))) (own_byte q0 (48 : Int32))) (own_byte q0 (40 : Int32))) (own_byte q0 (32 : Int32))) (own_byte q0 (24 : Int32))) (own_byte q0 (16 : Int32))) (own_byte q0 (8 : Int32))) (own_byte q0 (0 : Int32)))), .second, .val (.long q0), .second] [(.int (1 : Int32))])) _
    refine XS.goto X12.here hx rfl (pc0 := 142) (pc' := 146) rfl (hb hby at_142) (by decide) (by decide) ?_
    show Steps p.tables e below (T12.setTop (mkF m 146 #[.val (.long q0), .second, .val (.int p1), .val (.int (8 : Int32)), .val (.ref b3), .val (.long (own_st (own_st (own_st (own_st (own_st (own_st (own_st (own_st (0 : Int64) (own_byte q0 (56 : Int32))) (own_byte q0 (48 : Int32))) (own_byte q0 (40 : Int32))) (own_byte q0 (32 : Int32))) (own_byte q0 (24 : Int32))) (own_byte q0 (16 : Int32))) (own_byte q0 (8 : Int32))) (own_byte q0 (0 : Int32)))), .second, .val (.long q0), .second] [(.int (1 : Int32))])) _
    exact retN X12 hx (t := .boolean) Bd.returns (by simp) (hb hby at_146) hr
  · show Q0_8 Z q0 p1 h0 n0 _ T12.heap _
    rw [e12q]
    exact ⟨rfl, N12⟩
def Q0 (Z : State) (q0 : Int64) (p1 : Int32) (h0 : Heap) (n0 : Nat) (v : Option Value) (h : Heap) (L : List Loc) : Prop := v = some (.int (1 : Int32)) ∧ Fr n0 L
theorem rm0 (l : Launch) (Z : State) (a0 : Array Value) (hw : ∀ d ∈ tables_1, d.before a0 Z = true) (ws : List Jvm.Cond) (q0 : Int64) (p1 : Int32) (h0 : Heap) (n0 : Nat) (Z0 : n0 ≤ h0.size) :
    MetFree l x (head1 (Jvm.Cond.code x code maxLocals ret :: ws) room_1) (fun a U => a = #[(.long q0), (.int p1)] ∧ Z.Warmed39 U.vm ∧ U.heap = h0) (fun _ _ _ _ _ => True) (fun _ U o U' => ∃ v L, o = .returned v ∧ Q0 Z q0 p1 h0 n0 v U'.heap L ∧ FrameEnd U o U' L room_1.cells room_1.slots) := by
  obtain ⟨n, hn, hq⟩ := own_nine p1
  match n, hn, hq with
  | 0, _, hq => exact rm0_0 l Z a0 hw ws q0 p1 h0 n0 Z0 hq
  | 1, _, hq => exact rm0_1 l Z a0 hw ws q0 p1 h0 n0 Z0 hq
  | 2, _, hq => exact rm0_2 l Z a0 hw ws q0 p1 h0 n0 Z0 hq
  | 3, _, hq => exact rm0_3 l Z a0 hw ws q0 p1 h0 n0 Z0 hq
  | 4, _, hq => exact rm0_4 l Z a0 hw ws q0 p1 h0 n0 Z0 hq
  | 5, _, hq => exact rm0_5 l Z a0 hw ws q0 p1 h0 n0 Z0 hq
  | 6, _, hq => exact rm0_6 l Z a0 hw ws q0 p1 h0 n0 Z0 hq
  | 7, _, hq => exact rm0_7 l Z a0 hw ws q0 p1 h0 n0 Z0 hq
  | 8, _, hq => exact rm0_8 l Z a0 hw ws q0 p1 h0 n0 Z0 hq
set_option maxRecDepth 65536 in
set_option maxHeartbeats 40000000 in
theorem comes_1 {Post : Tables → Env → Array Value → State → Outcome → State → Prop} (hpost : ∀ tb e args s v u, (limb_1_1.after args s (.returned v) u = true ∧ limb_1_2.after args s (.returned v) u = true ∧ True) → FrameEnd s (.returned v) u (Jvm.fieldLocs frame_1_writes args s ++ Jvm.arrayLocs frame_1_arrays args s ++ Jvm.staticLocs frame_1_statics s) 16 128 → Post tb e args s (.returned v) u) :
    ArmFor flags0 classFile x code maxLocals ret World_1 tables_1 room_1 Calls_1 rest_1 Pre_1 Post := by
  intro l hfl _ _ p e ha hc hk s m args below hf hA hF happ hP
  obtain ⟨hcalls, hrest, hpre⟩ := hP
  obtain ⟨-, -, -, hnamed, -, -, -, hat⟩ := (Spec.applies_iff hf).mp happ
  obtain ⟨hg, hn⟩ := and_e (Cond.before_iff.mp (show (Jvm.Cond.and given_1 narrow_1).before args s = true from hpre))
  obtain ⟨g1, g2⟩ := and_e hg
  obtain ⟨g3, g4⟩ := and_e g2
  obtain ⟨w0, w1, rfl⟩ : ∃ w0 w1 : Value, args = #[w0, w1] := by
    have hs : args.size = 2 := by simpa [Cond.value, given_1] using g1
    obtain ⟨L⟩ := args
    match L, hs with
    | [w0, w1], _ => exact ⟨w0, w1, rfl⟩
  have hw := fun d (hd : d ∈ tables_1) => atoms_spec (ws := Jvm.Cond.code x code maxLocals ret :: tables_1) hat d (List.mem_cons_of_mem _ hd)
  have hfit : Fit s := fun {y c} hc i hi => by
    obtain ⟨ha, rfl⟩ := Array.getElem?_eq_some_iff.mp hc
    have q := List.all_eq_true.mp ((Array.all_eq_true_iff_forall_mem.mp hF) _ (Array.getElem_mem ha)) i (List.mem_range.mpr hi)
    simpa [Array.getElem?_eq_getElem hi] using q
  obtain ⟨i0, ei0⟩ := isL_v g3
  obtain rfl : w0 = (.long i0) := Option.some.inj ei0
  obtain ⟨i1, ei1⟩ := is_v g4
  obtain rfl : w1 = (.int i1) := Option.some.inj ei1
  obtain ⟨n, o, h1, h2, h3, _, L, rfl, ⟨rfl, N⟩, hq⟩ := rm0 l s _ hw tables_1 i0 i1  s.heap s.heap.size (Nat.le_refl _)  p e ha hc hk s m _ below hf ((Spec.applies_iff_loose hf).mp happ).1 ⟨rfl, State.Warmed39.refl s, rfl⟩ trivial
  refine ⟨n, _, h1, h2, h3, hpost _ _ _ _ _ _ ⟨Cond.after_iff.mpr rfl, Cond.after_iff.mpr (eq_i res_at (Term.int_eval (1)) rfl), trivial⟩ ⟨hq.1, hq.2.1, (hq.2.2.sift fun y hy => Or.inr (N y hy)).mono (by decide) (by decide)⟩⟩
theorem main_1_1 : Claimed_1_1 := comes_1 fun _ _ _ _ _ _ h hF => ⟨h.1, hF⟩
theorem main_1_2 : Claimed_1_2 := comes_1 fun _ _ _ _ _ _ h hF => ⟨h.2.1, hF⟩
end Jvm.Pilot.@@N@@
namespace Jvm.Pilot.@@N@@
open Jvm Jvm.ClassFile Sem Op Lib Jvm.Free Jvm.Stand Jvm.Pilot.@@N@@.Jvm.D
/-! MADE BY PROGRAM (witnessworld.py) out of the Statement's table words and the real class files: 13 classes; the members and pool entries that the words name. The judged class is class 1, her method 2. -/
namespace start1
open Jvm.ClassFile
def u (s : String) : CpInfo := .utf8 (stringToUtf16 s)
/-- a pool by its gaps: so many unusable entries, then the entry; so many at the end -/
def gap : Nat → List CpInfo → List CpInfo
  | 0, r => r
  | n + 1, r => .unusable :: gap n r
def poolList (es : List (Nat × CpInfo)) (last : Nat) : List CpInfo := es.foldr (fun e r => gap e.1 (e.2 :: r)) (gap last [])
def pool (es : List (Nat × CpInfo)) (last : Nat) : Array CpInfo := ⟨poolList es last⟩
def fileOf (pool : Array CpInfo) (this : Nat) (attrs : Array Attribute := #[]) (ms : Array MethodInfo := #[]) (fl : Nat := 33) (sup : Nat := 0) (ifs : Array Nat := #[]) (fds : Array FieldInfo := #[]) : ClassFile where
  minorVersion := 0
  majorVersion := 65
  constantPool := pool
  accessFlags := fl
  thisClass := this
  superClass := sup
  interfaces := ifs
  fields := fds
  methods := ms
  attributes := attrs
def plain (name : String) (sup : Option ClassId) : Class where
  name := name
  kind := .ordinary
  loader := none
  accessFlags := 33
  super := sup
  interfaces := #[]
  cf := none
  fields := #[]
  methods := #[]
  instanceTypes := #[]
  staticTypes := #[]
  resolved := #[]
  callSites := []
  init := .initialized
  statics := none
  mirror := none

def pool0 : Array CpInfo := pool [(5, u "<init>"), (0, u "()V"), (1, .class_ 10), (1, u "java/lang/Object")] 113

def k0m0 : Method := { name := "<init>", desc := "()V", sig := { parameters := [], returnType := none }, accessFlags := 1, code := none }
/-- java/lang/Object -/
def k0 : Class := { plain "java/lang/Object" none with
  accessFlags := 33
  interfaces := #[]
  cf := some (fileOf pool0 8 #[] #[{ accessFlags := 1, nameIndex := 5, descriptorIndex := 6, attributes := #[] }] 33 0 #[] #[])
  fields := #[]
  methods := #[k0m0]
  instanceTypes := #[]
  staticTypes := #[]
  resolved := Array.replicate 124 none
  statics := none }

def pool1 : Array CpInfo := pool [(2, .class_ 4), (1, u "java/lang/Object"), (0, u "<init>"), (0, u "()V"), (0, .long 255), (1, .integer 2147483647), (0, .methodref 11 12), (0, .class_ 13), (0, .nameAndType 14 15), (0, u "shale/ValueType"), (0, u "bigEndian"), (0, u "(JI)[B"), (0, .methodref 17 18), (0, .class_ 19), (0, .nameAndType 20 21), (0, u "shale/ValueTypeBigEndianPinLaw"), (0, u "step"), (0, u "(J[BI)J"), (3, u "law"), (0, u "(JI)Z")] 4

def k1m0 : Method := { name := "<init>", desc := "()V", sig := { parameters := [], returnType := none }, accessFlags := 2, code := none }
def k1c1 : Code := { maxStack := 6, maxLocals := 4, code := method_2_code, exceptionTable := #[], attributes := #[] }
def k1m1 : Method := { name := "step", desc := "(J[BI)J", sig := { parameters := [.long, (.array .byte), .int], returnType := some .long }, accessFlags := 10, code := some k1c1 }
def k1c2 : Code := { maxStack := 6, maxLocals := 9, code := code, exceptionTable := #[], attributes := #[] }
def k1m2 : Method := { name := "law", desc := "(JI)Z", sig := { parameters := [.long, .int], returnType := some .boolean }, accessFlags := 9, code := some k1c2 }
/-- shale/ValueTypeBigEndianPinLaw -/
def k1 : Class := { plain "shale/ValueTypeBigEndianPinLaw" (some 0) with
  accessFlags := 49
  interfaces := #[]
  cf := some (fileOf pool1 17 #[] #[{ accessFlags := 2, nameIndex := 5, descriptorIndex := 6, attributes := #[] }, { accessFlags := 10, nameIndex := 20, descriptorIndex := 21, attributes := #[] }, { accessFlags := 9, nameIndex := 25, descriptorIndex := 26, attributes := #[] }] 49 2 #[] #[])
  fields := #[]
  methods := #[k1m0, k1m1, k1m2]
  instanceTypes := #[]
  staticTypes := #[]
  resolved := Array.replicate 31 none
  statics := none }

def pool2 : Array CpInfo := pool [(1, .class_ 2), (0, u "java/lang/constant/Constable"), (0, .class_ 4), (0, u "java/lang/Object")] 6

/-- java/lang/constant/Constable -/
def k2 : Class := { plain "java/lang/constant/Constable" (some 0) with
  accessFlags := 1537
  interfaces := #[]
  cf := some (fileOf pool2 1 #[] #[] 1537 3 #[] #[])
  fields := #[]
  methods := #[]
  instanceTypes := #[]
  staticTypes := #[]
  resolved := Array.replicate 11 none
  statics := none }

def pool3 : Array CpInfo := pool [(1, .class_ 2), (0, u "java/lang/Comparable"), (0, .class_ 4), (0, u "java/lang/Object")] 7

/-- java/lang/Comparable -/
def k3 : Class := { plain "java/lang/Comparable" (some 0) with
  accessFlags := 1537
  interfaces := #[]
  cf := some (fileOf pool3 1 #[] #[] 1537 3 #[] #[])
  fields := #[]
  methods := #[]
  instanceTypes := #[]
  staticTypes := #[]
  resolved := Array.replicate 12 none
  statics := none }

def pool4 : Array CpInfo := pool [(1, .class_ 2), (0, u "java/io/Serializable"), (0, .class_ 4), (0, u "java/lang/Object")] 2

/-- java/io/Serializable -/
def k4 : Class := { plain "java/io/Serializable" (some 0) with
  accessFlags := 1537
  interfaces := #[]
  cf := some (fileOf pool4 1 #[] #[] 1537 3 #[] #[])
  fields := #[]
  methods := #[]
  instanceTypes := #[]
  staticTypes := #[]
  resolved := Array.replicate 7 none
  statics := none }

def pool5 : Array CpInfo := pool [(2, .class_ 4), (1, u "java/lang/Enum"), (0, u "name"), (0, u "Ljava/lang/String;"), (2, u "ordinal"), (0, u "I"), (1, .class_ 14), (1, u "java/lang/Object"), (4, u "hash"), (86, .class_ 108), (1, u "java/lang/Enum$EnumDesc"), (2, .class_ 112), (0, u "java/lang/constant/Constable"), (0, .class_ 114), (0, u "java/lang/Comparable"), (0, .class_ 116), (0, u "java/io/Serializable")] 87

/-- java/lang/Enum -/
def k5 : Class := { plain "java/lang/Enum" (some 0) with
  accessFlags := 1057
  interfaces := #[2, 3, 4]
  cf := some (fileOf pool5 2 #[.nestMembers #[106]] #[] 1057 12 #[111, 113, 115] #[{ accessFlags := 18, nameIndex := 5, descriptorIndex := 6, attributes := #[] }, { accessFlags := 18, nameIndex := 9, descriptorIndex := 10, attributes := #[] }, { accessFlags := 2, nameIndex := 19, descriptorIndex := 10, attributes := #[] }])
  fields := #[{ name := "name", type := (.object "java/lang/String"), accessFlags := 18, slot := 0, constantValue := 0 }, { name := "ordinal", type := .int, accessFlags := 18, slot := 1, constantValue := 0 }, { name := "hash", type := .int, accessFlags := 2, slot := 2, constantValue := 0 }]
  methods := #[]
  instanceTypes := #[(.object "java/lang/String"), .int, .int]
  staticTypes := #[]
  resolved := Array.replicate 204 none
  statics := none }

def pool6 : Array CpInfo := pool [(1, .class_ 2), (0, u "shale/DataType"), (16, .class_ 20), (0, u "shale/DataType$InvalidValueException"), (26, .class_ 49), (1, u "java/lang/Object"), (11, u "VARIABLE_WIDTH"), (0, u "I")] 42

/-- shale/DataType -/
def k6 : Class := { plain "shale/DataType" (some 0) with
  accessFlags := 1536
  interfaces := #[]
  cf := some (fileOf pool6 1 #[.nestMembers #[19]] #[] 1536 47 #[] #[{ accessFlags := 25, nameIndex := 61, descriptorIndex := 62, attributes := #[] }])
  fields := #[{ name := "VARIABLE_WIDTH", type := .int, accessFlags := 25, slot := 0, constantValue := 0 }]
  methods := #[]
  instanceTypes := #[]
  staticTypes := #[.int]
  resolved := Array.replicate 105 none
  statics := none }

def pool7 : Array CpInfo := pool [(3, .class_ 4), (0, u "shale/ValueType"), (2, u "ASCII"), (0, u "Lshale/ValueType;"), (2, u "BIGINT"), (2, u "BLOB"), (2, u "BOOLEAN"), (2, u "COUNTER"), (2, u "DATE"), (2, u "DECIMAL"), (2, u "DOUBLE"), (2, u "DURATION"), (2, u "FLOAT"), (2, u "INET"), (2, u "INT"), (2, u "SMALLINT"), (2, u "TEXT"), (2, u "TIME"), (2, u "TIMESTAMP"), (2, u "TIMEUUID"), (2, u "TINYINT"), (2, u "UUID"), (2, u "VARINT"), (2, u "$VALUES"), (0, u "[Lshale/ValueType;"), (6, .class_ 78), (1, u "java/lang/Enum"), (8, u "className"), (0, u "Ljava/lang/String;"), (2, u "label"), (2, u "width"), (0, u "I"), (2, u "javaClass"), (0, u "Ljava/lang/Class;"), (2, u "order"), (0, u "Lshale/ValueType$Order;"), (20, .class_ 125), (0, u "shale/DataType"), (262, .class_ 390), (1, u "shale/ValueType$Order"), (52, u "HEX"), (0, u "Ljava/util/HexFormat;"), (93, .class_ 539), (0, u "shale/ValueType$PartParser"), (43, u "DAYS_IN_MONTH"), (0, u "[I"), (4, u "DAYS_BEFORE_MONTH"), (93, .class_ 684), (0, u "shale/ValueType$1"), (11, .class_ 697), (0, u "shale/ValueType$2"), (9, .class_ 708), (0, u "shale/ValueType$3"), (6, .class_ 716), (0, u "shale/ValueType$4"), (6, .class_ 724), (0, u "shale/ValueType$5"), (8, .class_ 734), (0, u "shale/ValueType$6"), (6, .class_ 742), (0, u "shale/ValueType$7"), (11, .class_ 755), (0, u "shale/ValueType$8"), (6, .class_ 763), (0, u "shale/ValueType$9"), (8, .class_ 773), (0, u "shale/ValueType$10"), (6, .class_ 781), (0, u "shale/ValueType$11"), (8, .class_ 791), (0, u "shale/ValueType$12"), (6, .class_ 799), (0, u "shale/ValueType$13"), (8, .class_ 809), (0, u "shale/ValueType$14"), (6, .class_ 817), (0, u "shale/ValueType$15"), (6, .class_ 825), (0, u "shale/ValueType$16"), (6, .class_ 833), (0, u "shale/ValueType$17"), (6, .class_ 841), (0, u "shale/ValueType$18"), (6, .class_ 849), (0, u "shale/ValueType$19"), (6, .class_ 857), (0, u "shale/ValueType$20"), (15, u "LONGEST_INTEGER"), (2, u "LONGEST_COUNTER"), (1, u "COUNTER_SHARD"), (1, u "HEX_PREFIX"), (2, u "DATE_TIME_ROOM"), (1, u "NANOSECONDS_PER_MILLISECOND"), (0, u "DATE_EPOCH"), (0, u "J"), (2, u "NANOSECONDS_PER_DAY"), (2, u "UUID_TEXT"), (1, u "TIMESTAMP_TEXT"), (1, u "NOT_READ"), (0, u "SECONDS_PER_DAY"), (0, u "DAYS_TO_EPOCH"), (29, u "bigEndian"), (0, u "(JI)[B")] 65

def k7c0 : Code := { maxStack := 7, maxLocals := 5, code := prog_227_method_42_code, exceptionTable := #[], attributes := #[] }
def k7m0 : Method := { name := "bigEndian", desc := "(JI)[B", sig := { parameters := [.long, .int], returnType := some (.array .byte) }, accessFlags := 8, code := some k7c0 }
/-- shale/ValueType -/
def k7 : Class := { plain "shale/ValueType" (some 5) with
  accessFlags := 17440
  interfaces := #[6]
  cf := some (fileOf pool7 3 #[.nestMembers #[538, 388, 856, 848, 840, 832, 824, 816, 808, 798, 790, 780, 772, 762, 754, 741, 733, 723, 715, 707, 696, 683]] #[{ accessFlags := 8, nameIndex := 929, descriptorIndex := 930, attributes := #[] }] 17440 76 #[124] #[{ accessFlags := 16409, nameIndex := 7, descriptorIndex := 8, attributes := #[] }, { accessFlags := 16409, nameIndex := 11, descriptorIndex := 8, attributes := #[] }, { accessFlags := 16409, nameIndex := 14, descriptorIndex := 8, attributes := #[] }, { accessFlags := 16409, nameIndex := 17, descriptorIndex := 8, attributes := #[] }, { accessFlags := 16409, nameIndex := 20, descriptorIndex := 8, attributes := #[] }, { accessFlags := 16409, nameIndex := 23, descriptorIndex := 8, attributes := #[] }, { accessFlags := 16409, nameIndex := 26, descriptorIndex := 8, attributes := #[] }, { accessFlags := 16409, nameIndex := 29, descriptorIndex := 8, attributes := #[] }, { accessFlags := 16409, nameIndex := 32, descriptorIndex := 8, attributes := #[] }, { accessFlags := 16409, nameIndex := 35, descriptorIndex := 8, attributes := #[] }, { accessFlags := 16409, nameIndex := 38, descriptorIndex := 8, attributes := #[] }, { accessFlags := 16409, nameIndex := 41, descriptorIndex := 8, attributes := #[] }, { accessFlags := 16409, nameIndex := 44, descriptorIndex := 8, attributes := #[] }, { accessFlags := 16409, nameIndex := 47, descriptorIndex := 8, attributes := #[] }, { accessFlags := 16409, nameIndex := 50, descriptorIndex := 8, attributes := #[] }, { accessFlags := 16409, nameIndex := 53, descriptorIndex := 8, attributes := #[] }, { accessFlags := 16409, nameIndex := 56, descriptorIndex := 8, attributes := #[] }, { accessFlags := 16409, nameIndex := 59, descriptorIndex := 8, attributes := #[] }, { accessFlags := 16409, nameIndex := 62, descriptorIndex := 8, attributes := #[] }, { accessFlags := 16409, nameIndex := 65, descriptorIndex := 8, attributes := #[] }, { accessFlags := 24, nameIndex := 873, descriptorIndex := 95, attributes := #[] }, { accessFlags := 24, nameIndex := 876, descriptorIndex := 95, attributes := #[] }, { accessFlags := 26, nameIndex := 878, descriptorIndex := 95, attributes := #[] }, { accessFlags := 24, nameIndex := 880, descriptorIndex := 88, attributes := #[] }, { accessFlags := 26, nameIndex := 443, descriptorIndex := 444, attributes := #[] }, { accessFlags := 26, nameIndex := 883, descriptorIndex := 95, attributes := #[] }, { accessFlags := 26, nameIndex := 885, descriptorIndex := 95, attributes := #[] }, { accessFlags := 26, nameIndex := 886, descriptorIndex := 887, attributes := #[] }, { accessFlags := 26, nameIndex := 890, descriptorIndex := 887, attributes := #[] }, { accessFlags := 26, nameIndex := 893, descriptorIndex := 95, attributes := #[] }, { accessFlags := 26, nameIndex := 895, descriptorIndex := 95, attributes := #[] }, { accessFlags := 26, nameIndex := 897, descriptorIndex := 887, attributes := #[] }, { accessFlags := 26, nameIndex := 898, descriptorIndex := 887, attributes := #[] }, { accessFlags := 26, nameIndex := 583, descriptorIndex := 584, attributes := #[] }, { accessFlags := 26, nameIndex := 589, descriptorIndex := 584, attributes := #[] }, { accessFlags := 26, nameIndex := 899, descriptorIndex := 887, attributes := #[] }, { accessFlags := 18, nameIndex := 87, descriptorIndex := 88, attributes := #[] }, { accessFlags := 18, nameIndex := 91, descriptorIndex := 88, attributes := #[] }, { accessFlags := 18, nameIndex := 94, descriptorIndex := 95, attributes := #[] }, { accessFlags := 18, nameIndex := 98, descriptorIndex := 99, attributes := #[] }, { accessFlags := 18, nameIndex := 102, descriptorIndex := 103, attributes := #[] }, { accessFlags := 4122, nameIndex := 68, descriptorIndex := 69, attributes := #[] }])
  fields := #[{ name := "ASCII", type := (.object "shale/ValueType"), accessFlags := 16409, slot := 0, constantValue := 0 }, { name := "BIGINT", type := (.object "shale/ValueType"), accessFlags := 16409, slot := 1, constantValue := 0 }, { name := "BLOB", type := (.object "shale/ValueType"), accessFlags := 16409, slot := 2, constantValue := 0 }, { name := "BOOLEAN", type := (.object "shale/ValueType"), accessFlags := 16409, slot := 3, constantValue := 0 }, { name := "COUNTER", type := (.object "shale/ValueType"), accessFlags := 16409, slot := 4, constantValue := 0 }, { name := "DATE", type := (.object "shale/ValueType"), accessFlags := 16409, slot := 5, constantValue := 0 }, { name := "DECIMAL", type := (.object "shale/ValueType"), accessFlags := 16409, slot := 6, constantValue := 0 }, { name := "DOUBLE", type := (.object "shale/ValueType"), accessFlags := 16409, slot := 7, constantValue := 0 }, { name := "DURATION", type := (.object "shale/ValueType"), accessFlags := 16409, slot := 8, constantValue := 0 }, { name := "FLOAT", type := (.object "shale/ValueType"), accessFlags := 16409, slot := 9, constantValue := 0 }, { name := "INET", type := (.object "shale/ValueType"), accessFlags := 16409, slot := 10, constantValue := 0 }, { name := "INT", type := (.object "shale/ValueType"), accessFlags := 16409, slot := 11, constantValue := 0 }, { name := "SMALLINT", type := (.object "shale/ValueType"), accessFlags := 16409, slot := 12, constantValue := 0 }, { name := "TEXT", type := (.object "shale/ValueType"), accessFlags := 16409, slot := 13, constantValue := 0 }, { name := "TIME", type := (.object "shale/ValueType"), accessFlags := 16409, slot := 14, constantValue := 0 }, { name := "TIMESTAMP", type := (.object "shale/ValueType"), accessFlags := 16409, slot := 15, constantValue := 0 }, { name := "TIMEUUID", type := (.object "shale/ValueType"), accessFlags := 16409, slot := 16, constantValue := 0 }, { name := "TINYINT", type := (.object "shale/ValueType"), accessFlags := 16409, slot := 17, constantValue := 0 }, { name := "UUID", type := (.object "shale/ValueType"), accessFlags := 16409, slot := 18, constantValue := 0 }, { name := "VARINT", type := (.object "shale/ValueType"), accessFlags := 16409, slot := 19, constantValue := 0 }, { name := "LONGEST_INTEGER", type := .int, accessFlags := 24, slot := 20, constantValue := 0 }, { name := "LONGEST_COUNTER", type := .int, accessFlags := 24, slot := 21, constantValue := 0 }, { name := "COUNTER_SHARD", type := .int, accessFlags := 26, slot := 22, constantValue := 0 }, { name := "HEX_PREFIX", type := (.object "java/lang/String"), accessFlags := 24, slot := 23, constantValue := 0 }, { name := "HEX", type := (.object "java/util/HexFormat"), accessFlags := 26, slot := 24, constantValue := 0 }, { name := "DATE_TIME_ROOM", type := .int, accessFlags := 26, slot := 25, constantValue := 0 }, { name := "NANOSECONDS_PER_MILLISECOND", type := .int, accessFlags := 26, slot := 26, constantValue := 0 }, { name := "DATE_EPOCH", type := .long, accessFlags := 26, slot := 27, constantValue := 0 }, { name := "NANOSECONDS_PER_DAY", type := .long, accessFlags := 26, slot := 28, constantValue := 0 }, { name := "UUID_TEXT", type := .int, accessFlags := 26, slot := 29, constantValue := 0 }, { name := "TIMESTAMP_TEXT", type := .int, accessFlags := 26, slot := 30, constantValue := 0 }, { name := "NOT_READ", type := .long, accessFlags := 26, slot := 31, constantValue := 0 }, { name := "SECONDS_PER_DAY", type := .long, accessFlags := 26, slot := 32, constantValue := 0 }, { name := "DAYS_IN_MONTH", type := (.array .int), accessFlags := 26, slot := 33, constantValue := 0 }, { name := "DAYS_BEFORE_MONTH", type := (.array .int), accessFlags := 26, slot := 34, constantValue := 0 }, { name := "DAYS_TO_EPOCH", type := .long, accessFlags := 26, slot := 35, constantValue := 0 }, { name := "className", type := (.object "java/lang/String"), accessFlags := 18, slot := 3, constantValue := 0 }, { name := "label", type := (.object "java/lang/String"), accessFlags := 18, slot := 4, constantValue := 0 }, { name := "width", type := .int, accessFlags := 18, slot := 5, constantValue := 0 }, { name := "javaClass", type := (.object "java/lang/Class"), accessFlags := 18, slot := 6, constantValue := 0 }, { name := "order", type := (.object "shale/ValueType$Order"), accessFlags := 18, slot := 7, constantValue := 0 }, { name := "$VALUES", type := (.array (.object "shale/ValueType")), accessFlags := 4122, slot := 36, constantValue := 0 }]
  methods := #[k7m0]
  instanceTypes := #[(.object "java/lang/String"), .int, .int, (.object "java/lang/String"), (.object "java/lang/String"), .int, (.object "java/lang/Class"), (.object "shale/ValueType$Order")]
  staticTypes := #[(.object "shale/ValueType"), (.object "shale/ValueType"), (.object "shale/ValueType"), (.object "shale/ValueType"), (.object "shale/ValueType"), (.object "shale/ValueType"), (.object "shale/ValueType"), (.object "shale/ValueType"), (.object "shale/ValueType"), (.object "shale/ValueType"), (.object "shale/ValueType"), (.object "shale/ValueType"), (.object "shale/ValueType"), (.object "shale/ValueType"), (.object "shale/ValueType"), (.object "shale/ValueType"), (.object "shale/ValueType"), (.object "shale/ValueType"), (.object "shale/ValueType"), (.object "shale/ValueType"), .int, .int, .int, (.object "java/lang/String"), (.object "java/util/HexFormat"), .int, .int, .long, .long, .int, .int, .long, .long, (.array .int), (.array .int), .long, (.array (.object "shale/ValueType"))]
  resolved := Array.replicate 996 none
  statics := none }

def pool8 : Array CpInfo := pool [(1, u "java/lang/Cloneable"), (0, .class_ 1), (0, u "java/lang/Object"), (0, .class_ 3)] 3

/-- java/lang/Cloneable -/
def k8 : Class := { plain "java/lang/Cloneable" (some 0) with
  accessFlags := 1537
  interfaces := #[]
  cf := some (fileOf pool8 2 #[] #[] 1537 4 #[] #[])
  fields := #[]
  methods := #[]
  instanceTypes := #[]
  staticTypes := #[]
  resolved := Array.replicate 8 none
  statics := none }

/-- the primitive byte -/
def k9 : Class := { plain "byte" none with kind := .primitive 'B', accessFlags := 0x411 }
/-- [B -/
def k10 : Class := { plain "[B" (some 0) with kind := .array 9 .byte, interfaces := #[8, 4], accessFlags := 1041 }

/-- the primitive int -/
def k11 : Class := { plain "int" none with kind := .primitive 'I', accessFlags := 0x411 }
/-- [I -/
def k12 : Class := { plain "[I" (some 0) with kind := .array 11 .int, interfaces := #[8, 4], accessFlags := 1041 }

def heap : Heap := #[]
def classes : Array Class := #[k0, k1, k2, k3, k4, k5, k6, k7, k8, k9, k10, k11, k12]
def interned : List (Array UInt16 × Addr) := []
def slotsUsed : Nat := 0
def theMethod : MethodId := ⟨1, 2⟩
def args0 : Array Value := #[.long 1, .int 3]
def aboutOver (below : List Frame) : State where
  vm := { classes := classes, interned := interned.toArray }
  heap := heap
  slotsUsed := slotsUsed
  threads := #[{ frames := .invoking theMethod args0 :: below }]
def below0 : List Frame := [.native { method := ⟨0, 0⟩, args := #[] }]
def about1 : State := aboutOver below0
def p0 : Program := .bare "" "" ""
def e0 : Env := launch0.env 0 0 0
theorem w_frames : about1.frames = Frame.invoking theMethod args0 :: below0 := rfl
set_option maxRecDepth 65536 in
theorem w_args : argsFit about1.vm theMethod args0 = true := by decide +kernel
set_option maxRecDepth 65536 in
theorem w_heap : heapFits about1 = true := by decide +kernel
set_option maxRecDepth 65536 in
theorem w_runnable : about1.curStatus? = some .runnable := by decide +kernel
set_option maxRecDepth 65536 in
theorem w_alone : about1.alone = true := by decide +kernel
set_option maxRecDepth 65536 in
theorem w_named : about1.methodNamed? x = some theMethod := by decide +kernel
set_option maxRecDepth 65536 in
theorem w_hears : about1.hears theMethod below0 = true := by decide +kernel
set_option maxRecDepth 65536 in
theorem w_ripe : about1.ripe theMethod args0 below0 = true := by decide +kernel
theorem w_running : about1.status = .running := rfl
set_option maxRecDepth 65536 in
theorem w_room : about1.hasRoom e0.platform room_1 = true :=
  launch0.hasRoom_least _ room_1 (by decide +kernel) (by decide +kernel) (by decide +kernel) (by decide +kernel) (by decide +kernel) (by decide +kernel)
theorem allAtoms_all (ts : List Jvm.Cond) (a : Array Jvm.Value) (st : Jvm.State) : (allAtoms ts).before a st = ts.all (fun c => c.before a st) := by
  induction ts with
  | nil => rfl
  | cons c t ih =>
    show (Jvm.Cond.and c (allAtoms t)).before a st = _
    rw [Jvm.Cond.before_and, ih, List.all_cons]
def words1 : List Jvm.Cond := Jvm.Cond.code x code maxLocals ret :: tables_1
/-- a 'code' word, met by the world's own term for the bytes: nothing is compared byte by byte -/
theorem code_word {y : MethodName} {bytes : ByteArray} {mx : Nat} {rt : Option FieldType} {a : Array Value} {s : State} {m : MethodId} {meth : Method} {c : Code} (h1 : s.methodNamed? y = some m) (h2 : s.vm.method? m = some meth) (h3 : meth.code = some c) (h4 : c.code = bytes)
    (h5 : (c.maxLocals == mx && c.exceptionTable.isEmpty && decide (c.maxStack ≤ mostOperands) && decide (meth.sig.returnType = rt) && !meth.locks && decide (parseMethodDescriptor y.desc = some meth.sig)) = true) : (Jvm.Cond.code y bytes mx rt).before a s = true := by
  simp only [Bool.and_eq_true, beq_iff_eq, Bool.not_eq_true', decide_eq_true_eq] at h5
  obtain ⟨⟨⟨⟨⟨g1, g2⟩, g3⟩, g4⟩, g5⟩, g6⟩ := h5
  simp [Cond.before, Cond.holds, Cond.value, h1, h2, h3, h4, g1, g2, g3, g4, g5, g6]
def isCode : Jvm.Cond → Bool
  | .code _ _ _ _ => true
  | _ => false
theorem all_split {L : List Jvm.Cond} {P : Jvm.Cond → Bool} (h1 : L.all (fun c => isCode c || P c) = true) (h2 : ∀ c ∈ L.filter isCode, P c = true) : L.all P = true := by
  refine List.all_eq_true.mpr fun c hc => ?_
  have h := List.all_eq_true.mp h1 c hc
  rcases Bool.eq_false_or_eq_true (isCode c) with hi | hi
  · exact h2 c (List.mem_filter.mpr ⟨hc, hi⟩)
  · simpa [hi] using h
set_option maxRecDepth 65536 in
theorem w_c0 : (Jvm.Cond.code x code maxLocals ret).before args0 about1 = true := code_word (m := ⟨1, 2⟩) (meth := k1m2) (c := k1c2) (by decide +kernel) rfl rfl rfl (by decide +kernel)
set_option maxRecDepth 65536 in
theorem w_c1 : (Jvm.Cond.code ({ cls := "shale/ValueType", name := "bigEndian", desc := "(JI)[B" } : Jvm.MethodName) prog_227_method_42_code (5 : Nat) (Option.some (Jvm.ClassFile.FieldType.array Jvm.ClassFile.FieldType.byte))).before args0 about1 = true := code_word (m := ⟨7, 0⟩) (meth := k7m0) (c := k7c0) (by decide +kernel) rfl rfl rfl (by decide +kernel)
set_option maxRecDepth 65536 in
theorem w_c2 : (Jvm.Cond.code ({ cls := "shale/ValueTypeBigEndianPinLaw", name := "step", desc := "(J[BI)J" } : Jvm.MethodName) method_2_code (4 : Nat) (Option.some Jvm.ClassFile.FieldType.long)).before args0 about1 = true := code_word (m := ⟨1, 1⟩) (meth := k1m1) (c := k1c1) (by decide +kernel) rfl rfl rfl (by decide +kernel)
def codes1 : List Jvm.Cond := [Jvm.Cond.code x code maxLocals ret, Jvm.Cond.code ({ cls := "shale/ValueType", name := "bigEndian", desc := "(JI)[B" } : Jvm.MethodName) prog_227_method_42_code (5 : Nat) (Option.some (Jvm.ClassFile.FieldType.array Jvm.ClassFile.FieldType.byte)), Jvm.Cond.code ({ cls := "shale/ValueTypeBigEndianPinLaw", name := "step", desc := "(J[BI)J" } : Jvm.MethodName) method_2_code (4 : Nat) (Option.some Jvm.ClassFile.FieldType.long)]
set_option maxRecDepth 65536 in
theorem codes_eq : words1.filter isCode = codes1 := rfl
theorem w_codes : ∀ c ∈ words1.filter isCode, c.before args0 about1 = true := by
  rw [codes_eq]
  intro c hc
  simp only [codes1, List.mem_cons, List.not_mem_nil, or_false] at hc
  rcases hc with rfl | rfl | rfl
  · exact w_c0
  · exact w_c1
  · exact w_c2
set_option maxRecDepth 65536 in
theorem w_t1 : words1.all (fun c => isCode c || c.before args0 about1) = true := by decide +kernel
theorem w_tables : (allAtoms (Jvm.Cond.code x code maxLocals ret :: tables_1)).before args0 about1 = true := by
  rw [allAtoms_all]
  show words1.all (fun c => c.before args0 about1) = true
  refine all_split ?_ w_codes
  rw [w_t1]
set_option maxRecDepth 65536 in
theorem w_case : (Jvm.Cond.and given_1 narrow_1).before args0 about1 = true := by decide +kernel
theorem w_applies : (headSpec (Jvm.Cond.code x code maxLocals ret :: tables_1) room_1).applies x e0.platform about1 = true :=
  (Spec.applies_iff w_frames).mpr ⟨w_running, w_runnable, w_alone, w_named, w_hears, w_ripe, w_room, w_tables⟩
theorem atStart : AtStart classFile x code maxLocals ret World_1 tables_1 room_1 Calls_1 rest_1 Pre_1 launch0 p0 e0 about1 theMethod args0 below0 :=
  ⟨lists_1, trivial, launch0.admits_env _ _ _, launch0.least_env, fairChoices_fair.cas, fairChoices_fair.clock, w_frames, w_args, w_heap, w_applies, trivial, trivial, w_case⟩
end start1
theorem witness_1 : WitnessClaimed_1 := ⟨start1.p0, start1.e0, start1.about1, start1.theMethod, start1.args0, start1.below0, start1.atStart⟩
end Jvm.Pilot.@@N@@
