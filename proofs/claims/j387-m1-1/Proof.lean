import JvmDerived
import JvmDerived.Pilot.@@N@@Statement
import JvmDerived.Pilot.@@N@@Code
set_option linter.unusedVariables false
set_option linter.unusedSimpArgs false
namespace Jvm.Pilot.@@N@@
open Jvm Jvm.ClassFile Sem Op Lib Jvm.Free Jvm.Stand Jvm.LawKit Jvm.RoadKit Bundle Jvm.Pilot.@@N@@.Jvm.D
def own_us (x : Int64) (k : Int32) : Int64 := (x.toUInt64 >>> (k &&& 0x3f).toInt64.toUInt64).toInt64
def own_join (lo up : Int64) (k : Int32) : Int64 := if k = (0 : Int32) then lo else (own_us lo k ||| (up <<< (((64 : Int32) - k) &&& 0x3f).toInt64))
def own_bits (hi mi lo : Int64) (f : Int32) : Int64 := if f < (64 : Int32) then own_join lo mi (f &&& (63 : Int32)) else if f < (128 : Int32) then own_join mi hi (f &&& (63 : Int32)) else own_join hi (0 : Int64) (f &&& (63 : Int32))
def own_bitOf (hi mi lo : Int64) (k : Int32) : Int64 := if k < (64 : Int32) then (own_us lo k &&& (1 : Int64)) else if k < (128 : Int32) then (own_us mi (k - (64 : Int32)) &&& (1 : Int64)) else if k < (192 : Int32) then (own_us hi (k - (128 : Int32)) &&& (1 : Int64)) else (0 : Int64)
def own_b (x : Int64) (i : Nat) : Int64 := if x.toBitVec.getLsbD i = true then 1 else 0
theorem own_shrB (x : Int64) (q : Int32) (k : Nat) (hk : q.toBitVec.toNat % 64 = k) : (own_us x q).toBitVec = x.toBitVec >>> k := by
  show x.toBitVec >>> ((q &&& 0x3f).toInt64.toBitVec % 64) = _
  have h5 := (sm64 q k hk).2
  rw [BitVec.ushiftRight_eq', BitVec.toNat_umod, (sm64 q k hk).1, BitVec.toNat_ofNat]
  have h6 : k % 2 ^ 64 % (64 : BitVec 64).toNat = k := by show k % 2 ^ 64 % 64 = k; omega
  rw [h6]
theorem own_shlB (x : Int64) (q : Int32) (k : Nat) (hk : q.toBitVec.toNat % 64 = k) : (x <<< (q &&& 0x3f).toInt64).toBitVec = x.toBitVec <<< k := by
  show x.toBitVec <<< ((q &&& 0x3f).toInt64.toBitVec.smod 64) = _
  rw [BitVec.shiftLeft_eq', (sm64 q k hk).1, smod64 k (sm64 q k hk).2]
theorem own_nat (q : Int32) (h : 0 ≤ q.toInt) : (q.toBitVec.toNat : Int) = q.toInt := by
  have h1 : q.toInt = q.toBitVec.toInt := rfl
  have h2 := q.toBitVec.isLt
  rw [h1] at h ⊢
  rw [BitVec.toInt_eq_toNat_cond] at h ⊢
  split
  · rfl
  · rename_i h3
    rw [if_neg h3] at h
    omega
theorem own_and1 (x : Int64) (q : Int32) (k : Nat) (hk : q.toBitVec.toNat % 64 = k) : (own_us x q &&& (1 : Int64)) = own_b x k := by
  apply Int64.toBitVec_inj.mp
  rw [Int64.toBitVec_and, own_shrB x q k hk, show (1 : Int64).toBitVec = 1#64 from rfl, BitVec.and_one_eq_setWidth_ofBool_getLsbD, BitVec.getLsbD_ushiftRight]
  unfold own_b
  rw [Nat.add_zero]
  cases x.toBitVec.getLsbD k <;> decide
theorem own_joinB (lo up : Int64) (q : Int32) (S : Nat) (h0 : 0 ≤ q.toInt) (hq : q.toInt = S) (hS : S < 64) (J : Nat) (hJ : J < 64) :
    (own_join lo up q).toBitVec.getLsbD J = if S + J < 64 then lo.toBitVec.getLsbD (S + J) else up.toBitVec.getLsbD (S + J - 64) := by
  have hn := own_nat q h0
  unfold own_join
  by_cases hz : q = (0 : Int32)
  · have h1 : S = 0 := by
      have h2 : q.toInt = 0 := by rw [hz]; decide
      omega
    rw [if_pos hz, h1, if_pos (by omega), Nat.zero_add]
  · have h1 : S ≠ 0 := fun h2 => hz (Int32.toInt_inj.mp (by rw [hq, h2]; decide))
    rw [if_neg hz]
    have h3 := c_isub (64 : Int32) q
    have e1 : (64 : Int32).toInt = 64 := by decide
    rw [e1, hq] at h3
    have h4 : ((64 : Int32) - q).toInt = 64 - S := by
      have h5 := Int32.toInt_lt ((64 : Int32) - q)
      have h6 := Int32.le_toInt ((64 : Int32) - q)
      omega
    have h7 := own_nat ((64 : Int32) - q) (by omega)
    rw [Int64.toBitVec_or, own_shrB lo q S (by omega), own_shlB up ((64 : Int32) - q) (64 - S) (by omega), BitVec.getLsbD_or, BitVec.getLsbD_ushiftRight, BitVec.getLsbD_shiftLeft]
    by_cases hc : S + J < 64
    · rw [if_pos hc]
      have h8 : J < 64 - S := by omega
      simp [h8]
    · rw [if_neg hc]
      have h8 : ¬ J < 64 - S := by omega
      have h9 : lo.toBitVec.getLsbD (S + J) = false := BitVec.getLsbD_of_ge _ _ (by omega)
      have h10 : J - (64 - S) = S + J - 64 := by omega
      simp [h8, h9, hJ, h10]
theorem own_law (hi mi lo : Int64) (f j : Int32) (hf : 0 ≤ f.toInt ∧ f.toInt < 192) (hj : 0 ≤ j.toInt ∧ j.toInt < 64) : (own_us (own_bits hi mi lo f) j &&& (1 : Int64)) = own_bitOf hi mi lo (f + j) := by
  obtain ⟨F, hF⟩ : ∃ F : Nat, f.toInt = F := ⟨f.toInt.toNat, by omega⟩
  obtain ⟨J, hJ⟩ : ∃ J : Nat, j.toInt = J := ⟨j.toInt.toNat, by omega⟩
  have hjn := own_nat j hj.1
  rw [own_and1 _ j J (by omega)]
  have hk := c_iadd f j
  have hk1 := Int32.toInt_lt (f + j)
  have hk2 := Int32.le_toInt (f + j)
  have hK : (f + j).toInt = F + J := by omega
  have hm := c_mask f (63 : Int32) 6 (by decide) (by decide)
  have e6 : ((2 ^ 6 : Nat) : Int) = 64 := by decide
  rw [e6] at hm
  have e64 : (64 : Int32).toInt = 64 := by decide
  have e128 : (128 : Int32).toInt = 128 := by decide
  have e192 : (192 : Int32).toInt = 192 := by decide
  have kn := own_nat (f + j) (by omega)
  have s64 : 64 ≤ F + J → ((f + j - (64 : Int32)).toBitVec.toNat : Int) = F + J - 64 := fun q => by
    have h1 := c_isub (f + j) (64 : Int32)
    have h2 := Int32.toInt_lt (f + j - (64 : Int32))
    have h3 := Int32.le_toInt (f + j - (64 : Int32))
    have h4 := own_nat (f + j - (64 : Int32)) (by omega)
    omega
  have s128 : 128 ≤ F + J → ((f + j - (128 : Int32)).toBitVec.toNat : Int) = F + J - 128 := fun q => by
    have h1 := c_isub (f + j) (128 : Int32)
    have h2 := Int32.toInt_lt (f + j - (128 : Int32))
    have h3 := Int32.le_toInt (f + j - (128 : Int32))
    have h4 := own_nat (f + j - (128 : Int32)) (by omega)
    omega
  unfold own_bits own_bitOf
  simp only [Int32.lt_iff_toInt_lt, e64, e128, e192, hF, hK]
  by_cases c1 : (F : Int) < 64
  · rw [if_pos c1]
    unfold own_b
    rw [own_joinB lo mi (f &&& (63 : Int32)) F (by omega) (by omega) (by omega) J (by omega)]
    by_cases c2 : F + J < 64
    · rw [if_pos c2, if_pos (show (F : Int) + (J : Int) < 64 by omega), own_and1 lo (f + j) (F + J) (by omega)]; rfl
    · rw [if_neg c2, if_neg (show ¬ ((F : Int) + (J : Int) < 64) by omega), if_pos (show (F : Int) + (J : Int) < 128 by omega), own_and1 mi _ (F + J - 64) (by have := s64 (by omega); omega)]; rfl
  · rw [if_neg c1]
    by_cases c3 : (F : Int) < 128
    · rw [if_pos c3]
      unfold own_b
      rw [own_joinB mi hi (f &&& (63 : Int32)) (F - 64) (by omega) (by omega) (by omega) J (by omega)]
      by_cases c2 : F - 64 + J < 64
      · rw [if_pos c2, if_neg (show ¬ ((F : Int) + (J : Int) < 64) by omega), if_pos (show (F : Int) + (J : Int) < 128 by omega), own_and1 mi _ (F - 64 + J) (by have := s64 (by omega); omega)]; rfl
      · rw [if_neg c2, if_neg (show ¬ ((F : Int) + (J : Int) < 64) by omega), if_neg (show ¬ ((F : Int) + (J : Int) < 128) by omega), if_pos (show (F : Int) + (J : Int) < 192 by omega), own_and1 hi _ (F - 64 + J - 64) (by have := s128 (by omega); omega)]; rfl
    · rw [if_neg c3]
      unfold own_b
      rw [own_joinB hi 0 (f &&& (63 : Int32)) (F - 128) (by omega) (by omega) (by omega) J (by omega)]
      by_cases c2 : F - 128 + J < 64
      · rw [if_pos c2, if_neg (show ¬ ((F : Int) + (J : Int) < 64) by omega), if_neg (show ¬ ((F : Int) + (J : Int) < 128) by omega), if_pos (show (F : Int) + (J : Int) < 192 by omega), own_and1 hi _ (F - 128 + J) (by have := s128 (by omega); omega)]; rfl
      · rw [if_neg c2, if_neg (show ¬ ((F : Int) + (J : Int) < 64) by omega), if_neg (show ¬ ((F : Int) + (J : Int) < 128) by omega), if_neg (show ¬ ((F : Int) + (J : Int) < 192) by omega), show (0 : Int64).toBitVec = 0#64 from rfl, BitVec.getLsbD_zero]; rfl
theorem own_from (p : Int32) : 0 ≤ ((p &&& (2147483647 : Int32)) % (192 : Int32)).toInt ∧ ((p &&& (2147483647 : Int32)) % (192 : Int32)).toInt < 192 := by
  have h1 := c_mask p (2147483647 : Int32) 31 (by decide) (by decide)
  have e31 : ((2 ^ 31 : Nat) : Int) = 2147483648 := by decide
  rw [e31] at h1
  have h2 := (c_irem (p &&& (2147483647 : Int32)) (192 : Int32) 192 (by decide)).1 (by omega)
  omega
theorem own_bit (p : Int32) : 0 ≤ (p &&& (63 : Int32)).toInt ∧ (p &&& (63 : Int32)).toInt < 64 := by
  have h1 := c_mask p (63 : Int32) 6 (by decide) (by decide)
  have e6 : ((2 ^ 6 : Nat) : Int) = 64 := by decide
  rw [e6] at h1
  omega
theorem pn_0 : plainName "java/lang/Record" = true := by first | (simp [plainName, overriddenIn]; done) | decide +kernel
theorem pn_1 : plainName "shale/PowersOfTen$Product" = true := by first | (simp [plainName, overriddenIn]; done) | decide +kernel
theorem pd_0 : parseMethodDescriptor "()V" = some ⟨[], none⟩ := by decide +kernel
theorem pn_2 : plainName "shale/ProductBitsFromPinLaw" = true := by first | (simp [plainName, overriddenIn]; done) | decide +kernel
theorem pd_1 : parseMethodDescriptor "(JJJI)V" = some ⟨[.long, .long, .long, .int], none⟩ := by decide +kernel
theorem pd_2 : parseMethodDescriptor "(I)J" = some ⟨[.int], some .long⟩ := by decide +kernel
theorem pd_3 : parseMethodDescriptor "(JJJI)J" = some ⟨[.long, .long, .long, .int], some .long⟩ := by decide +kernel
theorem d2_0 : decode jdk_30_method_1_code 0 = .ok (.aload_n 0, 1) := by decide +kernel
theorem d2_1 : decode jdk_30_method_1_code 1 = .ok (.invokespecial 1, 3) := by decide +kernel
theorem d2_4 : decode jdk_30_method_1_code 4 = .ok (.return_, 1) := by decide +kernel
theorem ef_rm2 (m : MethodId) (o0 : Addr) : entryFrame m #[(.ref o0)] 1 = mkF m 0 #[.val (.ref o0)] [] := by first | (simp [entryFrame, mkF, argsToLocals, Value.category]; done) | rfl
def Q2 (Z : State) (o0 : Addr) (h0 : Heap) (n0 : Nat) (v : Option Value) (h : Heap) (L : List Loc) : Prop := v = none ∧ Fr n0 L ∧ h = h0
set_option maxRecDepth 65536 in
set_option maxHeartbeats 40000000 in
theorem rm2 (l : Launch) (Z : State) (a0 : Array Value) (hw : ∀ d ∈ tables_1, d.before a0 Z = true) (ws : List Jvm.Cond) (o0 : Addr) (h0 : Heap) (n0 : Nat) (Z0 : n0 ≤ h0.size) :
    MetFree l (⟨"java/lang/Record", "<init>", "()V"⟩ : MethodName) (head1 (Jvm.Cond.code (⟨"java/lang/Record", "<init>", "()V"⟩ : MethodName) jdk_30_method_1_code 1 none :: ws) ({ frames := 1, cells := 0, slots := 0, locals := 12 } : Room)) (fun a U => a = #[(.ref o0)] ∧ Z.Warmed39 U.vm ∧ U.heap = h0) (fun _ _ _ _ _ => True) (fun _ U o U' => ∃ v L, o = .returned v ∧ Q2 Z o0 h0 n0 v U'.heap L ∧ FrameEnd U o U' L ({ frames := 1, cells := 0, slots := 0, locals := 12 } : Room).cells ({ frames := 1, cells := 0, slots := 0, locals := 12 } : Room).slots) := by
  refine MetFree.of_bodySF (plainFor_of_name pn_0) hisR ?_
  intro p e s m args below meth c s₁ Bd hml0 hP hK
  obtain ⟨rfl, hZ, hh⟩ := hP
  have hx := Bd.exec
  have hby := Bd.bytes
  have hml : c.maxLocals = 1 := hml0
  have hown : s.vm.findClass "java/lang/Record" = some m.cls := findClass_of_methodNamed Bd.named
  have hnm := (name_of_methodNamed Bd.named Bd.method).1
  have X0 : Stand p l e ({ frames := 1, cells := 0, slots := 0, locals := 12 } : Room) s m #[(.ref o0)] below meth c s₁ [] 0 0 := Stand.of_body Bd
  have e0 : s₁.heap = h0 := by rw [← hh, Bd.state]; rfl
  have N0 := Fr.nil n0
  have pre0 : ∀ t, Steps p.tables e below (s₁.setTop (mkF m 0 #[.val (.ref o0)] [])) t → Steps p.tables e below (s₁.setTop (entryFrame m #[(.ref o0)] 1)) t := fun t k => castTop (ef_rm2 m o0) k
  obtain ⟨T1, X1, e1, st1⟩ := initO X0 hx hZ hown (hw _ (List.mem_of_getElem? (i := 12) rfl)) (hw _ (List.mem_of_getElem? (i := 13) rfl)) (hw _ (List.mem_of_getElem? (i := 14) rfl)) e0 (g := (mkF m 1 #[.val (.ref o0)] [(.ref o0)])) rfl (by rw [hml]; rfl) rfl (hb hby d2_1) (by decide) (W := 0) (by show 2 * 0 + _ ≤ _; exact Nat.le_of_eq rfl) (by decide)
  obtain ⟨fs, hr, hrun, hended, hW, hsame⟩ := X1.leave (v := none) (fun _ => rfl)
  refine ⟨_, _, pre0 _ ?_, hrun, hended, _, _, rfl, ?_, ⟨_, rfl⟩, hW, hsame.mono (by decide) (by decide)⟩
  · show Steps p.tables e below (s₁.setTop (mkF m 0 #[.val (.ref o0)] [])) _
    refine XS.aloadN X0.here hx rfl (hb hby d2_0) rfl rfl ?_
    show Steps p.tables e below (s₁.setTop (mkF m 1 #[.val (.ref o0)] [(.ref o0)])) _
    refine st1 _ ?_
    show Steps p.tables e below (T1.setTop (mkF m 4 #[.val (.ref o0)] [])) _
    exact X1.returnOut hx Bd.returns (hb hby d2_4) hr
  · show Q2 Z o0 h0 n0 _ T1.heap _
    rw [e1]
    exact ⟨rfl, N0, rfl⟩
theorem d1_0 : decode prog_171_method_1_code 0 = .ok (.aload_n 0, 1) := by decide +kernel
theorem d1_1 : decode prog_171_method_1_code 1 = .ok (.invokespecial 1, 3) := by decide +kernel
theorem d1_4 : decode prog_171_method_1_code 4 = .ok (.aload_n 0, 1) := by decide +kernel
theorem d1_5 : decode prog_171_method_1_code 5 = .ok (.lload_n 1, 1) := by decide +kernel
theorem d1_6 : decode prog_171_method_1_code 6 = .ok (.putfield 7, 3) := by decide +kernel
theorem d1_9 : decode prog_171_method_1_code 9 = .ok (.aload_n 0, 1) := by decide +kernel
theorem d1_10 : decode prog_171_method_1_code 10 = .ok (.lload_n 3, 1) := by decide +kernel
theorem d1_11 : decode prog_171_method_1_code 11 = .ok (.putfield 13, 3) := by decide +kernel
theorem d1_14 : decode prog_171_method_1_code 14 = .ok (.aload_n 0, 1) := by decide +kernel
theorem d1_15 : decode prog_171_method_1_code 15 = .ok (.lload 5, 2) := by decide +kernel
theorem d1_17 : decode prog_171_method_1_code 17 = .ok (.putfield 16, 3) := by decide +kernel
theorem d1_20 : decode prog_171_method_1_code 20 = .ok (.aload_n 0, 1) := by decide +kernel
theorem d1_21 : decode prog_171_method_1_code 21 = .ok (.iload 7, 2) := by decide +kernel
theorem d1_23 : decode prog_171_method_1_code 23 = .ok (.putfield 19, 3) := by decide +kernel
theorem d1_26 : decode prog_171_method_1_code 26 = .ok (.return_, 1) := by decide +kernel
theorem ef_rm1 (m : MethodId) (o0 : Addr) (q1 : Int64) (q2 : Int64) (q3 : Int64) (p4 : Int32) : entryFrame m #[(.ref o0), (.long q1), (.long q2), (.long q3), (.int p4)] 8 = mkF m 0 #[.val (.ref o0), .val (.long q1), .second, .val (.long q2), .second, .val (.long q3), .second, .val (.int p4)] [] := by first | (simp [entryFrame, mkF, argsToLocals, Value.category]; done) | rfl
def Q1 (Z : State) (o0 : Addr) (q1 : Int64) (q2 : Int64) (q3 : Int64) (p4 : Int32) (u0 : Value) (u1 : Value) (u2 : Value) (u3 : Value) (h0 : Heap) (n0 : Nat) (v : Option Value) (h : Heap) (L : List Loc) : Prop := v = none ∧ Fr n0 L ∧ Keep h0 h [o0] ∧ Exa Z h o0 "shale/PowersOfTen$Product" ∧ Fld Z h o0 "shale/PowersOfTen$Product" "high" "J" (.long q1) ∧ Fld Z h o0 "shale/PowersOfTen$Product" "middle" "J" (.long q2) ∧ Fld Z h o0 "shale/PowersOfTen$Product" "low" "J" (.long q3) ∧ Fld Z h o0 "shale/PowersOfTen$Product" "exponent" "I" (.int p4)
set_option maxRecDepth 65536 in
set_option maxHeartbeats 40000000 in
theorem rm1 (l : Launch) (Z : State) (a0 : Array Value) (hw : ∀ d ∈ tables_1, d.before a0 Z = true) (ws : List Jvm.Cond) (o0 : Addr) (q1 : Int64) (q2 : Int64) (q3 : Int64) (p4 : Int32) (u0 : Value) (u1 : Value) (u2 : Value) (u3 : Value) (h0 : Heap) (n0 : Nat) (Z0 : n0 ≤ h0.size) (E_a : Exa Z h0 o0 "shale/PowersOfTen$Product") (g_a : n0 ≤ o0) (F0 : Fld Z h0 o0 "shale/PowersOfTen$Product" "high" "J" u0) (F1 : Fld Z h0 o0 "shale/PowersOfTen$Product" "middle" "J" u1) (F2 : Fld Z h0 o0 "shale/PowersOfTen$Product" "low" "J" u2) (F3 : Fld Z h0 o0 "shale/PowersOfTen$Product" "exponent" "I" u3) :
    MetFree l (⟨"shale/PowersOfTen$Product", "<init>", "(JJJI)V"⟩ : MethodName) (head1 (Jvm.Cond.code (⟨"shale/PowersOfTen$Product", "<init>", "(JJJI)V"⟩ : MethodName) prog_171_method_1_code 8 none :: ws) ({ frames := 2, cells := 0, slots := 0, locals := 24 } : Room)) (fun a U => a = #[(.ref o0), (.long q1), (.long q2), (.long q3), (.int p4)] ∧ Z.Warmed39 U.vm ∧ U.heap = h0) (fun _ _ _ _ _ => True) (fun _ U o U' => ∃ v L, o = .returned v ∧ Q1 Z o0 q1 q2 q3 p4 u0 u1 u2 u3 h0 n0 v U'.heap L ∧ FrameEnd U o U' L ({ frames := 2, cells := 0, slots := 0, locals := 24 } : Room).cells ({ frames := 2, cells := 0, slots := 0, locals := 24 } : Room).slots) := by
  refine MetFree.of_bodySF (plainFor_of_name pn_1) hisR ?_
  intro p e s m args below meth c s₁ Bd hml0 hP hK
  obtain ⟨rfl, hZ, hh⟩ := hP
  have hx := Bd.exec
  have hby := Bd.bytes
  have hml : c.maxLocals = 8 := hml0
  have hown : s.vm.findClass "shale/PowersOfTen$Product" = some m.cls := findClass_of_methodNamed Bd.named
  have hnm := (name_of_methodNamed Bd.named Bd.method).1
  have X0 : Stand p l e ({ frames := 2, cells := 0, slots := 0, locals := 24 } : Room) s m #[(.ref o0), (.long q1), (.long q2), (.long q3), (.int p4)] below meth c s₁ [] 0 0 := Stand.of_body Bd
  have e0 : s₁.heap = h0 := by rw [← hh, Bd.state]; rfl
  have N0 := Fr.nil n0
  have pre0 : ∀ t, Steps p.tables e below (s₁.setTop (mkF m 0 #[.val (.ref o0), .val (.long q1), .second, .val (.long q2), .second, .val (.long q3), .second, .val (.int p4)] [])) t → Steps p.tables e below (s₁.setTop (entryFrame m #[(.ref o0), (.long q1), (.long q2), (.long q3), (.int p4)] 8)) t := fun t k => castTop (ef_rm1 m o0 q1 q2 q3 p4) k
  obtain ⟨_, _, ⟨T1, L1, k1, n1⟩, -, X1, ⟨Lc1, hQ1, l1, y1, z1⟩, st1⟩ := X0.specialBack hx (y := (⟨"java/lang/Record", "<init>", "()V"⟩ : MethodName)) rfl hown (mvT hZ (hw _ (List.mem_of_getElem? (i := 7) rfl))) (mvT hZ (hw _ (List.mem_of_getElem? (i := 8) rfl))) (mvT hZ (hw _ (List.mem_of_getElem? (i := 11) rfl))) (by decide) (backOf (W := 0) (rm2 l Z a0 hw [] o0 h0 n0 Z0 ) hZ (hw _ (List.mem_of_getElem? (i := 11) rfl)) (hw _ (List.mem_of_getElem? (i := 10) rfl)) (by decide) (by decide)) (g := (mkF m 1 #[.val (.ref o0), .val (.long q1), .second, .val (.long q2), .second, .val (.long q3), .second, .val (.int p4)] [(.ref o0)])) rfl (by rw [hml]; rfl) (Steps.refl _) (a := o0) (argsL := []) (rest := []) (lenOf pd_0 rfl) rfl (by show 2 * 0 + _ ≤ _; exact Nat.le_of_eq rfl) (hb hby d1_1) (fun _ _ => ⟨rfl, e0, (by decide : 0 + 0 ≤ _), (by decide : 0 + 0 ≤ _)⟩)
  dsimp only [Pt.U, Pt.locs, Pt.cells, Pt.slots] at X1 l1 y1 z1 st1 hQ1
  subst l1 y1 z1
  obtain ⟨rfl, N1q, e1q⟩ := hQ1
  have N1 := Fr.app N0 N1q
  obtain ⟨T2, h2, X2, e2, W2, st2⟩ := putF X1 hx hZ hown (host := "") (Or.inl (hw _ (List.mem_of_getElem? (i := 15) rfl))) Via.refl e1q F0 E_a (Or.inr ⟨(hw _ (List.mem_of_getElem? (i := 16) rfl)), rfl, hnm⟩) (hw _ (List.mem_of_getElem? (i := 2) rfl)) (ty := .long) (by decide) rfl rfl (g := (mkF m 6 #[.val (.ref o0), .val (.long q1), .second, .val (.long q2), .second, .val (.long q3), .second, .val (.int p4)] [(.long q1), (.ref o0)])) rfl rfl (hb hby d1_6)
  have Z3 : n0 ≤ h2.size := Nat.le_trans Z0 (Keep.of_wr W2).1
  have Fw2 := F0.same W2
  have K2 : Keep h0 h2 [o0] := (Keep.refl h0 [o0]).wr W2 (Or.inl (List.mem_of_getElem? (i := 0) rfl))
  have N2 := Fr.snoc X2 N1 g_a
  have f4 := (F1.other W2 (Or.inr (slot_ne (Or.inr (hw _ (List.mem_of_getElem? (i := 18) rfl))) (Or.inr (hw _ (List.mem_of_getElem? (i := 16) rfl))) (by decide) (t := .long) (t' := .long) (by decide) (by decide))))
  have f5 := (E_a.wr W2)
  obtain ⟨T6, h6, X6, e6, W6, st6⟩ := putF X2 hx hZ hown (host := "") (Or.inl (hw _ (List.mem_of_getElem? (i := 17) rfl))) Via.refl e2 f4 f5 (Or.inr ⟨(hw _ (List.mem_of_getElem? (i := 18) rfl)), rfl, hnm⟩) (hw _ (List.mem_of_getElem? (i := 2) rfl)) (ty := .long) (by decide) rfl rfl (g := (mkF m 11 #[.val (.ref o0), .val (.long q1), .second, .val (.long q2), .second, .val (.long q3), .second, .val (.int p4)] [(.long q2), (.ref o0)])) rfl rfl (hb hby d1_11)
  have Z7 : n0 ≤ h6.size := Nat.le_trans Z3 (Keep.of_wr W6).1
  have Fw6 := f4.same W6
  have K6 : Keep h0 h6 [o0] := K2.wr W6 (Or.inl (List.mem_of_getElem? (i := 0) rfl))
  have N6 := Fr.snoc X6 N2 g_a
  have f8 := ((F2.other W2 (Or.inr (slot_ne (Or.inr (hw _ (List.mem_of_getElem? (i := 20) rfl))) (Or.inr (hw _ (List.mem_of_getElem? (i := 16) rfl))) (by decide) (t := .long) (t' := .long) (by decide) (by decide)))).other W6 (Or.inr (slot_ne (Or.inr (hw _ (List.mem_of_getElem? (i := 20) rfl))) (Or.inr (hw _ (List.mem_of_getElem? (i := 18) rfl))) (by decide) (t := .long) (t' := .long) (by decide) (by decide))))
  have f9 := (f5.wr W6)
  obtain ⟨T10, h10, X10, e10, W10, st10⟩ := putF X6 hx hZ hown (host := "") (Or.inl (hw _ (List.mem_of_getElem? (i := 19) rfl))) Via.refl e6 f8 f9 (Or.inr ⟨(hw _ (List.mem_of_getElem? (i := 20) rfl)), rfl, hnm⟩) (hw _ (List.mem_of_getElem? (i := 2) rfl)) (ty := .long) (by decide) rfl rfl (g := (mkF m 17 #[.val (.ref o0), .val (.long q1), .second, .val (.long q2), .second, .val (.long q3), .second, .val (.int p4)] [(.long q3), (.ref o0)])) rfl rfl (hb hby d1_17)
  have Z11 : n0 ≤ h10.size := Nat.le_trans Z7 (Keep.of_wr W10).1
  have Fw10 := f8.same W10
  have K10 : Keep h0 h10 [o0] := K6.wr W10 (Or.inl (List.mem_of_getElem? (i := 0) rfl))
  have N10 := Fr.snoc X10 N6 g_a
  have f12 := (((F3.other W2 (Or.inr (slot_ne (Or.inr (hw _ (List.mem_of_getElem? (i := 22) rfl))) (Or.inr (hw _ (List.mem_of_getElem? (i := 16) rfl))) (by decide) (t := .int) (t' := .long) (by decide) (by decide)))).other W6 (Or.inr (slot_ne (Or.inr (hw _ (List.mem_of_getElem? (i := 22) rfl))) (Or.inr (hw _ (List.mem_of_getElem? (i := 18) rfl))) (by decide) (t := .int) (t' := .long) (by decide) (by decide)))).other W10 (Or.inr (slot_ne (Or.inr (hw _ (List.mem_of_getElem? (i := 22) rfl))) (Or.inr (hw _ (List.mem_of_getElem? (i := 20) rfl))) (by decide) (t := .int) (t' := .long) (by decide) (by decide))))
  have f13 := (f9.wr W10)
  obtain ⟨T14, h14, X14, e14, W14, st14⟩ := putF X10 hx hZ hown (host := "") (Or.inl (hw _ (List.mem_of_getElem? (i := 21) rfl))) Via.refl e10 f12 f13 (Or.inr ⟨(hw _ (List.mem_of_getElem? (i := 22) rfl)), rfl, hnm⟩) (hw _ (List.mem_of_getElem? (i := 2) rfl)) (ty := .int) (by decide) rfl rfl (g := (mkF m 23 #[.val (.ref o0), .val (.long q1), .second, .val (.long q2), .second, .val (.long q3), .second, .val (.int p4)] [(.int p4), (.ref o0)])) rfl rfl (hb hby d1_23)
  have Z15 : n0 ≤ h14.size := Nat.le_trans Z11 (Keep.of_wr W14).1
  have Fw14 := f12.same W14
  have K14 : Keep h0 h14 [o0] := K10.wr W14 (Or.inl (List.mem_of_getElem? (i := 0) rfl))
  have N14 := Fr.snoc X14 N10 g_a
  obtain ⟨fs, hr, hrun, hended, hW, hsame⟩ := X14.leave (v := none) (fun _ => rfl)
  refine ⟨_, _, pre0 _ ?_, hrun, hended, _, _, rfl, ?_, ⟨_, rfl⟩, hW, hsame.mono (by decide) (by decide)⟩
  · show Steps p.tables e below (s₁.setTop (mkF m 0 #[.val (.ref o0), .val (.long q1), .second, .val (.long q2), .second, .val (.long q3), .second, .val (.int p4)] [])) _
    refine XS.aloadN X0.here hx rfl (hb hby d1_0) rfl rfl ?_
    show Steps p.tables e below (s₁.setTop (mkF m 1 #[.val (.ref o0), .val (.long q1), .second, .val (.long q2), .second, .val (.long q3), .second, .val (.int p4)] [(.ref o0)])) _
    refine st1.trans ?_
    show Steps p.tables e below (T1.setTop (mkF m 4 #[.val (.ref o0), .val (.long q1), .second, .val (.long q2), .second, .val (.long q3), .second, .val (.int p4)] [])) _
    refine XS.aloadN X1.here hx rfl (hb hby d1_4) rfl rfl ?_
    show Steps p.tables e below (T1.setTop (mkF m 5 #[.val (.ref o0), .val (.long q1), .second, .val (.long q2), .second, .val (.long q3), .second, .val (.int p4)] [(.ref o0)])) _
    refine XS.lloadN X1.here hx rfl (hb hby d1_5) rfl ?_
    show Steps p.tables e below (T1.setTop (mkF m 6 #[.val (.ref o0), .val (.long q1), .second, .val (.long q2), .second, .val (.long q3), .second, .val (.int p4)] [(.long q1), (.ref o0)])) _
    refine st2 _ ?_
    show Steps p.tables e below (T2.setTop (mkF m 9 #[.val (.ref o0), .val (.long q1), .second, .val (.long q2), .second, .val (.long q3), .second, .val (.int p4)] [])) _
    refine XS.aloadN X2.here hx rfl (hb hby d1_9) rfl rfl ?_
    show Steps p.tables e below (T2.setTop (mkF m 10 #[.val (.ref o0), .val (.long q1), .second, .val (.long q2), .second, .val (.long q3), .second, .val (.int p4)] [(.ref o0)])) _
    refine XS.lloadN X2.here hx rfl (hb hby d1_10) rfl ?_
    show Steps p.tables e below (T2.setTop (mkF m 11 #[.val (.ref o0), .val (.long q1), .second, .val (.long q2), .second, .val (.long q3), .second, .val (.int p4)] [(.long q2), (.ref o0)])) _
    refine st6 _ ?_
    show Steps p.tables e below (T6.setTop (mkF m 14 #[.val (.ref o0), .val (.long q1), .second, .val (.long q2), .second, .val (.long q3), .second, .val (.int p4)] [])) _
    refine XS.aloadN X6.here hx rfl (hb hby d1_14) rfl rfl ?_
    show Steps p.tables e below (T6.setTop (mkF m 15 #[.val (.ref o0), .val (.long q1), .second, .val (.long q2), .second, .val (.long q3), .second, .val (.int p4)] [(.ref o0)])) _
    refine XS.lload X6.here hx rfl (hb hby d1_15) rfl ?_
    show Steps p.tables e below (T6.setTop (mkF m 17 #[.val (.ref o0), .val (.long q1), .second, .val (.long q2), .second, .val (.long q3), .second, .val (.int p4)] [(.long q3), (.ref o0)])) _
    refine st10 _ ?_
    show Steps p.tables e below (T10.setTop (mkF m 20 #[.val (.ref o0), .val (.long q1), .second, .val (.long q2), .second, .val (.long q3), .second, .val (.int p4)] [])) _
    refine XS.aloadN X10.here hx rfl (hb hby d1_20) rfl rfl ?_
    show Steps p.tables e below (T10.setTop (mkF m 21 #[.val (.ref o0), .val (.long q1), .second, .val (.long q2), .second, .val (.long q3), .second, .val (.int p4)] [(.ref o0)])) _
    refine XS.iload X10.here hx rfl (hb hby d1_21) rfl ?_
    show Steps p.tables e below (T10.setTop (mkF m 23 #[.val (.ref o0), .val (.long q1), .second, .val (.long q2), .second, .val (.long q3), .second, .val (.int p4)] [(.int p4), (.ref o0)])) _
    refine st14 _ ?_
    show Steps p.tables e below (T14.setTop (mkF m 26 #[.val (.ref o0), .val (.long q1), .second, .val (.long q2), .second, .val (.long q3), .second, .val (.int p4)] [])) _
    exact X14.returnOut hx Bd.returns (hb hby d1_26) hr
  · show Q1 Z o0 q1 q2 q3 p4 u0 u1 u2 u3 h0 n0 _ T14.heap _
    rw [e14]
    exact ⟨rfl, N14, K14, (f13.wr W14), (((Fw2.other W6 (Or.inr (slot_ne (Or.inr (hw _ (List.mem_of_getElem? (i := 16) rfl))) (Or.inr (hw _ (List.mem_of_getElem? (i := 18) rfl))) (by decide) (t := .long) (t' := .long) (by decide) (by decide)))).other W10 (Or.inr (slot_ne (Or.inr (hw _ (List.mem_of_getElem? (i := 16) rfl))) (Or.inr (hw _ (List.mem_of_getElem? (i := 20) rfl))) (by decide) (t := .long) (t' := .long) (by decide) (by decide)))).other W14 (Or.inr (slot_ne (Or.inr (hw _ (List.mem_of_getElem? (i := 16) rfl))) (Or.inr (hw _ (List.mem_of_getElem? (i := 22) rfl))) (by decide) (t := .long) (t' := .int) (by decide) (by decide)))), ((Fw6.other W10 (Or.inr (slot_ne (Or.inr (hw _ (List.mem_of_getElem? (i := 18) rfl))) (Or.inr (hw _ (List.mem_of_getElem? (i := 20) rfl))) (by decide) (t := .long) (t' := .long) (by decide) (by decide)))).other W14 (Or.inr (slot_ne (Or.inr (hw _ (List.mem_of_getElem? (i := 18) rfl))) (Or.inr (hw _ (List.mem_of_getElem? (i := 22) rfl))) (by decide) (t := .long) (t' := .int) (by decide) (by decide)))), (Fw10.other W14 (Or.inr (slot_ne (Or.inr (hw _ (List.mem_of_getElem? (i := 20) rfl))) (Or.inr (hw _ (List.mem_of_getElem? (i := 22) rfl))) (by decide) (t := .long) (t' := .int) (by decide) (by decide)))), Fw14⟩
theorem d4_0 : decode prog_171_method_2_code 0 = .ok (.iload_n 1, 1) := by decide +kernel
theorem d4_1 : decode prog_171_method_2_code 1 = .ok (.bipush 63, 2) := by decide +kernel
theorem d4_3 : decode prog_171_method_2_code 3 = .ok (.iand, 1) := by decide +kernel
theorem d4_4 : decode prog_171_method_2_code 4 = .ok (.istore_n 2, 1) := by decide +kernel
theorem d4_5 : decode prog_171_method_2_code 5 = .ok (.iload_n 1, 1) := by decide +kernel
theorem d4_6 : decode prog_171_method_2_code 6 = .ok (.bipush 64, 2) := by decide +kernel
theorem d4_8 : decode prog_171_method_2_code 8 = .ok (.if_icmp .ge 17, 3) := by decide +kernel
theorem d4_11 : decode prog_171_method_2_code 11 = .ok (.aload_n 0, 1) := by decide +kernel
theorem d4_12 : decode prog_171_method_2_code 12 = .ok (.getfield 16, 3) := by decide +kernel
theorem d4_15 : decode prog_171_method_2_code 15 = .ok (.lstore_n 3, 1) := by decide +kernel
theorem d4_16 : decode prog_171_method_2_code 16 = .ok (.aload_n 0, 1) := by decide +kernel
theorem d4_17 : decode prog_171_method_2_code 17 = .ok (.getfield 13, 3) := by decide +kernel
theorem d4_20 : decode prog_171_method_2_code 20 = .ok (.lstore 5, 2) := by decide +kernel
theorem d4_22 : decode prog_171_method_2_code 22 = .ok (.goto 32, 3) := by decide +kernel
theorem d4_25 : decode prog_171_method_2_code 25 = .ok (.iload_n 1, 1) := by decide +kernel
theorem d4_26 : decode prog_171_method_2_code 26 = .ok (.sipush 128, 3) := by decide +kernel
theorem d4_29 : decode prog_171_method_2_code 29 = .ok (.if_icmp .ge 17, 3) := by decide +kernel
theorem d4_32 : decode prog_171_method_2_code 32 = .ok (.aload_n 0, 1) := by decide +kernel
theorem d4_33 : decode prog_171_method_2_code 33 = .ok (.getfield 13, 3) := by decide +kernel
theorem d4_36 : decode prog_171_method_2_code 36 = .ok (.lstore_n 3, 1) := by decide +kernel
theorem d4_37 : decode prog_171_method_2_code 37 = .ok (.aload_n 0, 1) := by decide +kernel
theorem d4_38 : decode prog_171_method_2_code 38 = .ok (.getfield 7, 3) := by decide +kernel
theorem d4_41 : decode prog_171_method_2_code 41 = .ok (.lstore 5, 2) := by decide +kernel
theorem d4_43 : decode prog_171_method_2_code 43 = .ok (.goto 11, 3) := by decide +kernel
theorem d4_46 : decode prog_171_method_2_code 46 = .ok (.aload_n 0, 1) := by decide +kernel
theorem d4_47 : decode prog_171_method_2_code 47 = .ok (.getfield 7, 3) := by decide +kernel
theorem d4_50 : decode prog_171_method_2_code 50 = .ok (.lstore_n 3, 1) := by decide +kernel
theorem d4_51 : decode prog_171_method_2_code 51 = .ok (.lconst 0, 1) := by decide +kernel
theorem d4_52 : decode prog_171_method_2_code 52 = .ok (.lstore 5, 2) := by decide +kernel
theorem d4_54 : decode prog_171_method_2_code 54 = .ok (.iload_n 2, 1) := by decide +kernel
theorem d4_55 : decode prog_171_method_2_code 55 = .ok (.ifCond .ne 7, 3) := by decide +kernel
theorem d4_58 : decode prog_171_method_2_code 58 = .ok (.lload_n 3, 1) := by decide +kernel
theorem d4_59 : decode prog_171_method_2_code 59 = .ok (.goto 14, 3) := by decide +kernel
theorem d4_62 : decode prog_171_method_2_code 62 = .ok (.lload_n 3, 1) := by decide +kernel
theorem d4_63 : decode prog_171_method_2_code 63 = .ok (.iload_n 2, 1) := by decide +kernel
theorem d4_64 : decode prog_171_method_2_code 64 = .ok (.lushr, 1) := by decide +kernel
theorem d4_65 : decode prog_171_method_2_code 65 = .ok (.lload 5, 2) := by decide +kernel
theorem d4_67 : decode prog_171_method_2_code 67 = .ok (.bipush 64, 2) := by decide +kernel
theorem d4_69 : decode prog_171_method_2_code 69 = .ok (.iload_n 2, 1) := by decide +kernel
theorem d4_70 : decode prog_171_method_2_code 70 = .ok (.isub, 1) := by decide +kernel
theorem d4_71 : decode prog_171_method_2_code 71 = .ok (.lshl, 1) := by decide +kernel
theorem d4_72 : decode prog_171_method_2_code 72 = .ok (.lor, 1) := by decide +kernel
theorem d4_73 : decode prog_171_method_2_code 73 = .ok (.lreturn, 1) := by decide +kernel
theorem ef_rm4 (m : MethodId) (o0 : Addr) (p1 : Int32) : entryFrame m #[(.ref o0), (.int p1)] 7 = mkF m 0 #[.val (.ref o0), .val (.int p1), .unset, .unset, .unset, .unset, .unset] [] := by first | (simp [entryFrame, mkF, argsToLocals, Value.category]; done) | rfl
def Q4 (Z : State) (o0 : Addr) (p1 : Int32) (hi : Int64) (mi : Int64) (lo : Int64) (h0 : Heap) (n0 : Nat) (v : Option Value) (h : Heap) (L : List Loc) : Prop := v = some (.long (own_bits hi mi lo p1)) ∧ Fr n0 L ∧ h = h0
set_option maxRecDepth 65536 in
set_option maxHeartbeats 40000000 in
theorem rm4 (l : Launch) (Z : State) (a0 : Array Value) (hw : ∀ d ∈ tables_1, d.before a0 Z = true) (ws : List Jvm.Cond) (o0 : Addr) (p1 : Int32) (hi : Int64) (mi : Int64) (lo : Int64) (h0 : Heap) (n0 : Nat) (Z0 : n0 ≤ h0.size) (F_hi : Fld Z h0 o0 "shale/PowersOfTen$Product" "high" "J" (.long hi)) (F_mi : Fld Z h0 o0 "shale/PowersOfTen$Product" "middle" "J" (.long mi)) (F_lo : Fld Z h0 o0 "shale/PowersOfTen$Product" "low" "J" (.long lo)) :
    MetFree l (⟨"shale/PowersOfTen$Product", "bitsFrom", "(I)J"⟩ : MethodName) (head1 (Jvm.Cond.code (⟨"shale/PowersOfTen$Product", "bitsFrom", "(I)J"⟩ : MethodName) prog_171_method_2_code 7 (some .long) :: ws) ({ frames := 0, cells := 0, slots := 0, locals := 0 } : Room)) (fun a U => a = #[(.ref o0), (.int p1)] ∧ Z.Warmed39 U.vm ∧ U.heap = h0) (fun _ _ _ _ _ => True) (fun _ U o U' => ∃ v L, o = .returned v ∧ Q4 Z o0 p1 hi mi lo h0 n0 v U'.heap L ∧ FrameEnd U o U' L ({ frames := 0, cells := 0, slots := 0, locals := 0 } : Room).cells ({ frames := 0, cells := 0, slots := 0, locals := 0 } : Room).slots) := by
  refine MetFree.of_bodySF (plainFor_of_name pn_1) hisR ?_
  intro p e s m args below meth c s₁ Bd hml0 hP hK
  obtain ⟨rfl, hZ, hh⟩ := hP
  have hx := Bd.exec
  have hby := Bd.bytes
  have hml : c.maxLocals = 7 := hml0
  have hown : s.vm.findClass "shale/PowersOfTen$Product" = some m.cls := findClass_of_methodNamed Bd.named
  have hnm := (name_of_methodNamed Bd.named Bd.method).1
  have X0 : Stand p l e ({ frames := 0, cells := 0, slots := 0, locals := 0 } : Room) s m #[(.ref o0), (.int p1)] below meth c s₁ [] 0 0 := Stand.of_body Bd
  have e0 : s₁.heap = h0 := by rw [← hh, Bd.state]; rfl
  have N0 := Fr.nil n0
  have pre0 : ∀ t, Steps p.tables e below (s₁.setTop (mkF m 0 #[.val (.ref o0), .val (.int p1), .unset, .unset, .unset, .unset, .unset] [])) t → Steps p.tables e below (s₁.setTop (entryFrame m #[(.ref o0), (.int p1)] 7)) t := fun t k => castTop (ef_rm4 m o0 p1) k
  have pre1 : ∀ t, Steps p.tables e below (s₁.setTop (mkF m 8 #[.val (.ref o0), .val (.int p1), .val (.int (p1 &&& (63 : Int32))), .unset, .unset, .unset, .unset] [(.int (64 : Int32)), (.int p1)])) t → Steps p.tables e below (s₁.setTop (entryFrame m #[(.ref o0), (.int p1)] 7)) t := by
    intro t kt
    refine pre0 _ ?_
    show Steps p.tables e below (s₁.setTop (mkF m 0 #[.val (.ref o0), .val (.int p1), .unset, .unset, .unset, .unset, .unset] [])) _
    refine XS.iloadN X0.here hx rfl (hb hby d4_0) rfl ?_
    show Steps p.tables e below (s₁.setTop (mkF m 1 #[.val (.ref o0), .val (.int p1), .unset, .unset, .unset, .unset, .unset] [(.int p1)])) _
    refine XS.bipush X0.here hx rfl (hb hby d4_1) ?_
    show Steps p.tables e below (s₁.setTop (mkF m 3 #[.val (.ref o0), .val (.int p1), .unset, .unset, .unset, .unset, .unset] [(.int (63 : Int32)), (.int p1)])) _
    refine XS.iand X0.here hx rfl (hb hby d4_3) rfl ?_
    show Steps p.tables e below (s₁.setTop (mkF m 4 #[.val (.ref o0), .val (.int p1), .unset, .unset, .unset, .unset, .unset] [(.int (p1 &&& (63 : Int32)))])) _
    refine XS.istoreN X0.here hx rfl (hb hby d4_4) rfl (l' := #[.val (.ref o0), .val (.int p1), .val (.int (p1 &&& (63 : Int32))), .unset, .unset, .unset, .unset]) rfl ?_
    show Steps p.tables e below (s₁.setTop (mkF m 5 #[.val (.ref o0), .val (.int p1), .val (.int (p1 &&& (63 : Int32))), .unset, .unset, .unset, .unset] [])) _
    refine XS.iloadN X0.here hx rfl (hb hby d4_5) rfl ?_
    show Steps p.tables e below (s₁.setTop (mkF m 6 #[.val (.ref o0), .val (.int p1), .val (.int (p1 &&& (63 : Int32))), .unset, .unset, .unset, .unset] [(.int p1)])) _
    refine XS.bipush X0.here hx rfl (hb hby d4_6) ?_
    exact kt
  by_cases hc8 : p1 < (64 : Int32)
  · -- p1 < (64 : Int32)
    obtain ⟨T2, X2, e2, st2⟩ := getF X0 hx hZ hown (host := "") (Or.inl (hw _ (List.mem_of_getElem? (i := 19) rfl))) Via.refl e0 F_lo (g := (mkF m 12 #[.val (.ref o0), .val (.int p1), .val (.int (p1 &&& (63 : Int32))), .unset, .unset, .unset, .unset] [(.ref o0)])) rfl rfl (hb hby d4_12)
    obtain ⟨T3, X3, e3, st3⟩ := getF X2 hx hZ hown (host := "") (Or.inl (hw _ (List.mem_of_getElem? (i := 17) rfl))) Via.refl e2 F_mi (g := (mkF m 17 #[.val (.ref o0), .val (.int p1), .val (.int (p1 &&& (63 : Int32))), .val (.long lo), .second, .unset, .unset] [(.ref o0)])) rfl rfl (hb hby d4_17)
    have pre4 : ∀ t, Steps p.tables e below (T3.setTop (mkF m 55 #[.val (.ref o0), .val (.int p1), .val (.int (p1 &&& (63 : Int32))), .val (.long lo), .second, .val (.long mi), .second] [(.int (p1 &&& (63 : Int32)))])) t → Steps p.tables e below (s₁.setTop (entryFrame m #[(.ref o0), (.int p1)] 7)) t := by
      intro t kt
      refine pre1 _ ?_
      show Steps p.tables e below (s₁.setTop (mkF m 8 #[.val (.ref o0), .val (.int p1), .val (.int (p1 &&& (63 : Int32))), .unset, .unset, .unset, .unset] [(.int (64 : Int32)), (.int p1)])) _
      refine XS.icmpNo X0.here hx rfl (hb hby d4_8) rfl (tlt hc8).2.1 ?_
      show Steps p.tables e below (s₁.setTop (mkF m 11 #[.val (.ref o0), .val (.int p1), .val (.int (p1 &&& (63 : Int32))), .unset, .unset, .unset, .unset] [])) _
      refine XS.aloadN X0.here hx rfl (hb hby d4_11) rfl rfl ?_
      show Steps p.tables e below (s₁.setTop (mkF m 12 #[.val (.ref o0), .val (.int p1), .val (.int (p1 &&& (63 : Int32))), .unset, .unset, .unset, .unset] [(.ref o0)])) _
      refine st2 _ ?_
      show Steps p.tables e below (T2.setTop (mkF m 15 #[.val (.ref o0), .val (.int p1), .val (.int (p1 &&& (63 : Int32))), .unset, .unset, .unset, .unset] [(.long lo)])) _
      refine XS.lstoreN X2.here hx rfl (hb hby d4_15) rfl (l' := #[.val (.ref o0), .val (.int p1), .val (.int (p1 &&& (63 : Int32))), .val (.long lo), .second, .unset, .unset]) rfl ?_
      show Steps p.tables e below (T2.setTop (mkF m 16 #[.val (.ref o0), .val (.int p1), .val (.int (p1 &&& (63 : Int32))), .val (.long lo), .second, .unset, .unset] [])) _
      refine XS.aloadN X2.here hx rfl (hb hby d4_16) rfl rfl ?_
      show Steps p.tables e below (T2.setTop (mkF m 17 #[.val (.ref o0), .val (.int p1), .val (.int (p1 &&& (63 : Int32))), .val (.long lo), .second, .unset, .unset] [(.ref o0)])) _
      refine st3 _ ?_
      show Steps p.tables e below (T3.setTop (mkF m 20 #[.val (.ref o0), .val (.int p1), .val (.int (p1 &&& (63 : Int32))), .val (.long lo), .second, .unset, .unset] [(.long mi)])) _
      refine XS.lstore X3.here hx rfl (hb hby d4_20) rfl (l' := #[.val (.ref o0), .val (.int p1), .val (.int (p1 &&& (63 : Int32))), .val (.long lo), .second, .val (.long mi), .second]) rfl ?_
      show Steps p.tables e below (T3.setTop (mkF m 22 #[.val (.ref o0), .val (.int p1), .val (.int (p1 &&& (63 : Int32))), .val (.long lo), .second, .val (.long mi), .second] [])) _
      refine XS.goto X3.here hx rfl (pc0 := 22) (pc' := 54) rfl (hb hby d4_22) (by decide) (by decide) ?_
      show Steps p.tables e below (T3.setTop (mkF m 54 #[.val (.ref o0), .val (.int p1), .val (.int (p1 &&& (63 : Int32))), .val (.long lo), .second, .val (.long mi), .second] [])) _
      refine XS.iloadN X3.here hx rfl (hb hby d4_54) rfl ?_
      exact kt
    by_cases hc55 : (p1 &&& (63 : Int32)) = (0 : Int32)
    · -- (p1 &&& (63 : Int32)) = (0 : Int32)
      obtain ⟨fs, hr, hrun, hended, hW, hsame⟩ := X3.leave (v := some (.long lo)) (fun h => by rw [Bd.returns] at h; cases h)
      refine ⟨_, _, pre4 _ ?_, hrun, hended, _, _, rfl, ?_, ⟨_, rfl⟩, hW, hsame.mono (by decide) (by decide)⟩
      · show Steps p.tables e below (T3.setTop (mkF m 55 #[.val (.ref o0), .val (.int p1), .val (.int (p1 &&& (63 : Int32))), .val (.long lo), .second, .val (.long mi), .second] [(.int (p1 &&& (63 : Int32)))])) _
        refine XS.ifNo X3.here hx rfl (hb hby d4_55) rfl ((if0 _ _).trans (teq hc55).2) ?_
        show Steps p.tables e below (T3.setTop (mkF m 58 #[.val (.ref o0), .val (.int p1), .val (.int (p1 &&& (63 : Int32))), .val (.long lo), .second, .val (.long mi), .second] [])) _
        refine XS.lloadN X3.here hx rfl (hb hby d4_58) rfl ?_
        show Steps p.tables e below (T3.setTop (mkF m 59 #[.val (.ref o0), .val (.int p1), .val (.int (p1 &&& (63 : Int32))), .val (.long lo), .second, .val (.long mi), .second] [(.long lo)])) _
        refine XS.goto X3.here hx rfl (pc0 := 59) (pc' := 73) rfl (hb hby d4_59) (by decide) (by decide) ?_
        show Steps p.tables e below (T3.setTop (mkF m 73 #[.val (.ref o0), .val (.int p1), .val (.int (p1 &&& (63 : Int32))), .val (.long lo), .second, .val (.long mi), .second] [(.long lo)])) _
        exact retOut X3 hx (t := .long) Bd.returns rfl (Or.inr (Or.inl ⟨rfl, rfl, _, rfl⟩)) (hb hby d4_73) hr
      · show Q4 Z o0 p1 hi mi lo h0 n0 _ T3.heap _
        rw [e3]
        exact ⟨(congrArg (fun z => some (Value.long z)) (by simp only [own_bits, own_join, if_pos hc8, if_pos hc55] <;> rfl)), N0, rfl⟩
    · -- not (p1 &&& (63 : Int32)) = (0 : Int32)
      obtain ⟨fs, hr, hrun, hended, hW, hsame⟩ := X3.leave (v := some (.long (((lo.toUInt64 >>> ((p1 &&& (63 : Int32)) &&& 0x3f).toInt64.toUInt64).toInt64) ||| (mi <<< (((64 : Int32) - (p1 &&& (63 : Int32))) &&& 0x3f).toInt64)))) (fun h => by rw [Bd.returns] at h; cases h)
      refine ⟨_, _, pre4 _ ?_, hrun, hended, _, _, rfl, ?_, ⟨_, rfl⟩, hW, hsame.mono (by decide) (by decide)⟩
      · show Steps p.tables e below (T3.setTop (mkF m 55 #[.val (.ref o0), .val (.int p1), .val (.int (p1 &&& (63 : Int32))), .val (.long lo), .second, .val (.long mi), .second] [(.int (p1 &&& (63 : Int32)))])) _
        refine XS.ifYes X3.here hx rfl (pc0 := 55) (pc' := 62) rfl (hb hby d4_55) rfl ((if0 _ _).trans (feq hc55).2) (by decide) (by decide) ?_
        show Steps p.tables e below (T3.setTop (mkF m 62 #[.val (.ref o0), .val (.int p1), .val (.int (p1 &&& (63 : Int32))), .val (.long lo), .second, .val (.long mi), .second] [])) _
        refine XS.lloadN X3.here hx rfl (hb hby d4_62) rfl ?_
        show Steps p.tables e below (T3.setTop (mkF m 63 #[.val (.ref o0), .val (.int p1), .val (.int (p1 &&& (63 : Int32))), .val (.long lo), .second, .val (.long mi), .second] [(.long lo)])) _
        refine XS.iloadN X3.here hx rfl (hb hby d4_63) rfl ?_
        show Steps p.tables e below (T3.setTop (mkF m 64 #[.val (.ref o0), .val (.int p1), .val (.int (p1 &&& (63 : Int32))), .val (.long lo), .second, .val (.long mi), .second] [(.int (p1 &&& (63 : Int32))), (.long lo)])) _
        refine XS.lushr X3.here hx rfl (hb hby d4_64) rfl ?_
        show Steps p.tables e below (T3.setTop (mkF m 65 #[.val (.ref o0), .val (.int p1), .val (.int (p1 &&& (63 : Int32))), .val (.long lo), .second, .val (.long mi), .second] [(.long ((lo.toUInt64 >>> ((p1 &&& (63 : Int32)) &&& 0x3f).toInt64.toUInt64).toInt64))])) _
        refine XS.lload X3.here hx rfl (hb hby d4_65) rfl ?_
        show Steps p.tables e below (T3.setTop (mkF m 67 #[.val (.ref o0), .val (.int p1), .val (.int (p1 &&& (63 : Int32))), .val (.long lo), .second, .val (.long mi), .second] [(.long mi), (.long ((lo.toUInt64 >>> ((p1 &&& (63 : Int32)) &&& 0x3f).toInt64.toUInt64).toInt64))])) _
        refine XS.bipush X3.here hx rfl (hb hby d4_67) ?_
        show Steps p.tables e below (T3.setTop (mkF m 69 #[.val (.ref o0), .val (.int p1), .val (.int (p1 &&& (63 : Int32))), .val (.long lo), .second, .val (.long mi), .second] [(.int (64 : Int32)), (.long mi), (.long ((lo.toUInt64 >>> ((p1 &&& (63 : Int32)) &&& 0x3f).toInt64.toUInt64).toInt64))])) _
        refine XS.iloadN X3.here hx rfl (hb hby d4_69) rfl ?_
        show Steps p.tables e below (T3.setTop (mkF m 70 #[.val (.ref o0), .val (.int p1), .val (.int (p1 &&& (63 : Int32))), .val (.long lo), .second, .val (.long mi), .second] [(.int (p1 &&& (63 : Int32))), (.int (64 : Int32)), (.long mi), (.long ((lo.toUInt64 >>> ((p1 &&& (63 : Int32)) &&& 0x3f).toInt64.toUInt64).toInt64))])) _
        refine XS.isub X3.here hx rfl (hb hby d4_70) rfl ?_
        show Steps p.tables e below (T3.setTop (mkF m 71 #[.val (.ref o0), .val (.int p1), .val (.int (p1 &&& (63 : Int32))), .val (.long lo), .second, .val (.long mi), .second] [(.int ((64 : Int32) - (p1 &&& (63 : Int32)))), (.long mi), (.long ((lo.toUInt64 >>> ((p1 &&& (63 : Int32)) &&& 0x3f).toInt64.toUInt64).toInt64))])) _
        refine XS.lshl X3.here hx rfl (hb hby d4_71) rfl ?_
        show Steps p.tables e below (T3.setTop (mkF m 72 #[.val (.ref o0), .val (.int p1), .val (.int (p1 &&& (63 : Int32))), .val (.long lo), .second, .val (.long mi), .second] [(.long (mi <<< (((64 : Int32) - (p1 &&& (63 : Int32))) &&& 0x3f).toInt64)), (.long ((lo.toUInt64 >>> ((p1 &&& (63 : Int32)) &&& 0x3f).toInt64.toUInt64).toInt64))])) _
        refine XS.lor X3.here hx rfl (hb hby d4_72) rfl ?_
        show Steps p.tables e below (T3.setTop (mkF m 73 #[.val (.ref o0), .val (.int p1), .val (.int (p1 &&& (63 : Int32))), .val (.long lo), .second, .val (.long mi), .second] [(.long (((lo.toUInt64 >>> ((p1 &&& (63 : Int32)) &&& 0x3f).toInt64.toUInt64).toInt64) ||| (mi <<< (((64 : Int32) - (p1 &&& (63 : Int32))) &&& 0x3f).toInt64)))])) _
        exact retOut X3 hx (t := .long) Bd.returns rfl (Or.inr (Or.inl ⟨rfl, rfl, _, rfl⟩)) (hb hby d4_73) hr
      · show Q4 Z o0 p1 hi mi lo h0 n0 _ T3.heap _
        rw [e3]
        exact ⟨(congrArg (fun z => some (Value.long z)) (by simp only [own_bits, own_join, if_pos hc8, if_neg hc55] <;> rfl)), N0, rfl⟩
  · -- not p1 < (64 : Int32)
    have pre7 : ∀ t, Steps p.tables e below (s₁.setTop (mkF m 29 #[.val (.ref o0), .val (.int p1), .val (.int (p1 &&& (63 : Int32))), .unset, .unset, .unset, .unset] [(.int (128 : Int32)), (.int p1)])) t → Steps p.tables e below (s₁.setTop (entryFrame m #[(.ref o0), (.int p1)] 7)) t := by
      intro t kt
      refine pre1 _ ?_
      show Steps p.tables e below (s₁.setTop (mkF m 8 #[.val (.ref o0), .val (.int p1), .val (.int (p1 &&& (63 : Int32))), .unset, .unset, .unset, .unset] [(.int (64 : Int32)), (.int p1)])) _
      refine XS.icmpYes X0.here hx rfl (pc0 := 8) (pc' := 25) rfl (hb hby d4_8) rfl (flt hc8).2.1 (by decide) (by decide) ?_
      show Steps p.tables e below (s₁.setTop (mkF m 25 #[.val (.ref o0), .val (.int p1), .val (.int (p1 &&& (63 : Int32))), .unset, .unset, .unset, .unset] [])) _
      refine XS.iloadN X0.here hx rfl (hb hby d4_25) rfl ?_
      show Steps p.tables e below (s₁.setTop (mkF m 26 #[.val (.ref o0), .val (.int p1), .val (.int (p1 &&& (63 : Int32))), .unset, .unset, .unset, .unset] [(.int p1)])) _
      refine XS.sipush X0.here hx rfl (hb hby d4_26) ?_
      exact kt
    by_cases hc29 : p1 < (128 : Int32)
    · -- p1 < (128 : Int32)
      obtain ⟨T8, X8, e8, st8⟩ := getF X0 hx hZ hown (host := "") (Or.inl (hw _ (List.mem_of_getElem? (i := 17) rfl))) Via.refl e0 F_mi (g := (mkF m 33 #[.val (.ref o0), .val (.int p1), .val (.int (p1 &&& (63 : Int32))), .unset, .unset, .unset, .unset] [(.ref o0)])) rfl rfl (hb hby d4_33)
      obtain ⟨T9, X9, e9, st9⟩ := getF X8 hx hZ hown (host := "") (Or.inl (hw _ (List.mem_of_getElem? (i := 15) rfl))) Via.refl e8 F_hi (g := (mkF m 38 #[.val (.ref o0), .val (.int p1), .val (.int (p1 &&& (63 : Int32))), .val (.long mi), .second, .unset, .unset] [(.ref o0)])) rfl rfl (hb hby d4_38)
      have pre10 : ∀ t, Steps p.tables e below (T9.setTop (mkF m 55 #[.val (.ref o0), .val (.int p1), .val (.int (p1 &&& (63 : Int32))), .val (.long mi), .second, .val (.long hi), .second] [(.int (p1 &&& (63 : Int32)))])) t → Steps p.tables e below (s₁.setTop (entryFrame m #[(.ref o0), (.int p1)] 7)) t := by
        intro t kt
        refine pre7 _ ?_
        show Steps p.tables e below (s₁.setTop (mkF m 29 #[.val (.ref o0), .val (.int p1), .val (.int (p1 &&& (63 : Int32))), .unset, .unset, .unset, .unset] [(.int (128 : Int32)), (.int p1)])) _
        refine XS.icmpNo X0.here hx rfl (hb hby d4_29) rfl (tlt hc29).2.1 ?_
        show Steps p.tables e below (s₁.setTop (mkF m 32 #[.val (.ref o0), .val (.int p1), .val (.int (p1 &&& (63 : Int32))), .unset, .unset, .unset, .unset] [])) _
        refine XS.aloadN X0.here hx rfl (hb hby d4_32) rfl rfl ?_
        show Steps p.tables e below (s₁.setTop (mkF m 33 #[.val (.ref o0), .val (.int p1), .val (.int (p1 &&& (63 : Int32))), .unset, .unset, .unset, .unset] [(.ref o0)])) _
        refine st8 _ ?_
        show Steps p.tables e below (T8.setTop (mkF m 36 #[.val (.ref o0), .val (.int p1), .val (.int (p1 &&& (63 : Int32))), .unset, .unset, .unset, .unset] [(.long mi)])) _
        refine XS.lstoreN X8.here hx rfl (hb hby d4_36) rfl (l' := #[.val (.ref o0), .val (.int p1), .val (.int (p1 &&& (63 : Int32))), .val (.long mi), .second, .unset, .unset]) rfl ?_
        show Steps p.tables e below (T8.setTop (mkF m 37 #[.val (.ref o0), .val (.int p1), .val (.int (p1 &&& (63 : Int32))), .val (.long mi), .second, .unset, .unset] [])) _
        refine XS.aloadN X8.here hx rfl (hb hby d4_37) rfl rfl ?_
        show Steps p.tables e below (T8.setTop (mkF m 38 #[.val (.ref o0), .val (.int p1), .val (.int (p1 &&& (63 : Int32))), .val (.long mi), .second, .unset, .unset] [(.ref o0)])) _
        refine st9 _ ?_
        show Steps p.tables e below (T9.setTop (mkF m 41 #[.val (.ref o0), .val (.int p1), .val (.int (p1 &&& (63 : Int32))), .val (.long mi), .second, .unset, .unset] [(.long hi)])) _
        refine XS.lstore X9.here hx rfl (hb hby d4_41) rfl (l' := #[.val (.ref o0), .val (.int p1), .val (.int (p1 &&& (63 : Int32))), .val (.long mi), .second, .val (.long hi), .second]) rfl ?_
        show Steps p.tables e below (T9.setTop (mkF m 43 #[.val (.ref o0), .val (.int p1), .val (.int (p1 &&& (63 : Int32))), .val (.long mi), .second, .val (.long hi), .second] [])) _
        refine XS.goto X9.here hx rfl (pc0 := 43) (pc' := 54) rfl (hb hby d4_43) (by decide) (by decide) ?_
        show Steps p.tables e below (T9.setTop (mkF m 54 #[.val (.ref o0), .val (.int p1), .val (.int (p1 &&& (63 : Int32))), .val (.long mi), .second, .val (.long hi), .second] [])) _
        refine XS.iloadN X9.here hx rfl (hb hby d4_54) rfl ?_
        exact kt
      by_cases hc55 : (p1 &&& (63 : Int32)) = (0 : Int32)
      · -- (p1 &&& (63 : Int32)) = (0 : Int32)
        obtain ⟨fs, hr, hrun, hended, hW, hsame⟩ := X9.leave (v := some (.long mi)) (fun h => by rw [Bd.returns] at h; cases h)
        refine ⟨_, _, pre10 _ ?_, hrun, hended, _, _, rfl, ?_, ⟨_, rfl⟩, hW, hsame.mono (by decide) (by decide)⟩
        · show Steps p.tables e below (T9.setTop (mkF m 55 #[.val (.ref o0), .val (.int p1), .val (.int (p1 &&& (63 : Int32))), .val (.long mi), .second, .val (.long hi), .second] [(.int (p1 &&& (63 : Int32)))])) _
          refine XS.ifNo X9.here hx rfl (hb hby d4_55) rfl ((if0 _ _).trans (teq hc55).2) ?_
          show Steps p.tables e below (T9.setTop (mkF m 58 #[.val (.ref o0), .val (.int p1), .val (.int (p1 &&& (63 : Int32))), .val (.long mi), .second, .val (.long hi), .second] [])) _
          refine XS.lloadN X9.here hx rfl (hb hby d4_58) rfl ?_
          show Steps p.tables e below (T9.setTop (mkF m 59 #[.val (.ref o0), .val (.int p1), .val (.int (p1 &&& (63 : Int32))), .val (.long mi), .second, .val (.long hi), .second] [(.long mi)])) _
          refine XS.goto X9.here hx rfl (pc0 := 59) (pc' := 73) rfl (hb hby d4_59) (by decide) (by decide) ?_
          show Steps p.tables e below (T9.setTop (mkF m 73 #[.val (.ref o0), .val (.int p1), .val (.int (p1 &&& (63 : Int32))), .val (.long mi), .second, .val (.long hi), .second] [(.long mi)])) _
          exact retOut X9 hx (t := .long) Bd.returns rfl (Or.inr (Or.inl ⟨rfl, rfl, _, rfl⟩)) (hb hby d4_73) hr
        · show Q4 Z o0 p1 hi mi lo h0 n0 _ T9.heap _
          rw [e9]
          exact ⟨(congrArg (fun z => some (Value.long z)) (by simp only [own_bits, own_join, if_neg hc8, if_pos hc29, if_pos hc55] <;> rfl)), N0, rfl⟩
      · -- not (p1 &&& (63 : Int32)) = (0 : Int32)
        obtain ⟨fs, hr, hrun, hended, hW, hsame⟩ := X9.leave (v := some (.long (((mi.toUInt64 >>> ((p1 &&& (63 : Int32)) &&& 0x3f).toInt64.toUInt64).toInt64) ||| (hi <<< (((64 : Int32) - (p1 &&& (63 : Int32))) &&& 0x3f).toInt64)))) (fun h => by rw [Bd.returns] at h; cases h)
        refine ⟨_, _, pre10 _ ?_, hrun, hended, _, _, rfl, ?_, ⟨_, rfl⟩, hW, hsame.mono (by decide) (by decide)⟩
        · show Steps p.tables e below (T9.setTop (mkF m 55 #[.val (.ref o0), .val (.int p1), .val (.int (p1 &&& (63 : Int32))), .val (.long mi), .second, .val (.long hi), .second] [(.int (p1 &&& (63 : Int32)))])) _
          refine XS.ifYes X9.here hx rfl (pc0 := 55) (pc' := 62) rfl (hb hby d4_55) rfl ((if0 _ _).trans (feq hc55).2) (by decide) (by decide) ?_
          show Steps p.tables e below (T9.setTop (mkF m 62 #[.val (.ref o0), .val (.int p1), .val (.int (p1 &&& (63 : Int32))), .val (.long mi), .second, .val (.long hi), .second] [])) _
          refine XS.lloadN X9.here hx rfl (hb hby d4_62) rfl ?_
          show Steps p.tables e below (T9.setTop (mkF m 63 #[.val (.ref o0), .val (.int p1), .val (.int (p1 &&& (63 : Int32))), .val (.long mi), .second, .val (.long hi), .second] [(.long mi)])) _
          refine XS.iloadN X9.here hx rfl (hb hby d4_63) rfl ?_
          show Steps p.tables e below (T9.setTop (mkF m 64 #[.val (.ref o0), .val (.int p1), .val (.int (p1 &&& (63 : Int32))), .val (.long mi), .second, .val (.long hi), .second] [(.int (p1 &&& (63 : Int32))), (.long mi)])) _
          refine XS.lushr X9.here hx rfl (hb hby d4_64) rfl ?_
          show Steps p.tables e below (T9.setTop (mkF m 65 #[.val (.ref o0), .val (.int p1), .val (.int (p1 &&& (63 : Int32))), .val (.long mi), .second, .val (.long hi), .second] [(.long ((mi.toUInt64 >>> ((p1 &&& (63 : Int32)) &&& 0x3f).toInt64.toUInt64).toInt64))])) _
          refine XS.lload X9.here hx rfl (hb hby d4_65) rfl ?_
          show Steps p.tables e below (T9.setTop (mkF m 67 #[.val (.ref o0), .val (.int p1), .val (.int (p1 &&& (63 : Int32))), .val (.long mi), .second, .val (.long hi), .second] [(.long hi), (.long ((mi.toUInt64 >>> ((p1 &&& (63 : Int32)) &&& 0x3f).toInt64.toUInt64).toInt64))])) _
          refine XS.bipush X9.here hx rfl (hb hby d4_67) ?_
          show Steps p.tables e below (T9.setTop (mkF m 69 #[.val (.ref o0), .val (.int p1), .val (.int (p1 &&& (63 : Int32))), .val (.long mi), .second, .val (.long hi), .second] [(.int (64 : Int32)), (.long hi), (.long ((mi.toUInt64 >>> ((p1 &&& (63 : Int32)) &&& 0x3f).toInt64.toUInt64).toInt64))])) _
          refine XS.iloadN X9.here hx rfl (hb hby d4_69) rfl ?_
          show Steps p.tables e below (T9.setTop (mkF m 70 #[.val (.ref o0), .val (.int p1), .val (.int (p1 &&& (63 : Int32))), .val (.long mi), .second, .val (.long hi), .second] [(.int (p1 &&& (63 : Int32))), (.int (64 : Int32)), (.long hi), (.long ((mi.toUInt64 >>> ((p1 &&& (63 : Int32)) &&& 0x3f).toInt64.toUInt64).toInt64))])) _
          refine XS.isub X9.here hx rfl (hb hby d4_70) rfl ?_
          show Steps p.tables e below (T9.setTop (mkF m 71 #[.val (.ref o0), .val (.int p1), .val (.int (p1 &&& (63 : Int32))), .val (.long mi), .second, .val (.long hi), .second] [(.int ((64 : Int32) - (p1 &&& (63 : Int32)))), (.long hi), (.long ((mi.toUInt64 >>> ((p1 &&& (63 : Int32)) &&& 0x3f).toInt64.toUInt64).toInt64))])) _
          refine XS.lshl X9.here hx rfl (hb hby d4_71) rfl ?_
          show Steps p.tables e below (T9.setTop (mkF m 72 #[.val (.ref o0), .val (.int p1), .val (.int (p1 &&& (63 : Int32))), .val (.long mi), .second, .val (.long hi), .second] [(.long (hi <<< (((64 : Int32) - (p1 &&& (63 : Int32))) &&& 0x3f).toInt64)), (.long ((mi.toUInt64 >>> ((p1 &&& (63 : Int32)) &&& 0x3f).toInt64.toUInt64).toInt64))])) _
          refine XS.lor X9.here hx rfl (hb hby d4_72) rfl ?_
          show Steps p.tables e below (T9.setTop (mkF m 73 #[.val (.ref o0), .val (.int p1), .val (.int (p1 &&& (63 : Int32))), .val (.long mi), .second, .val (.long hi), .second] [(.long (((mi.toUInt64 >>> ((p1 &&& (63 : Int32)) &&& 0x3f).toInt64.toUInt64).toInt64) ||| (hi <<< (((64 : Int32) - (p1 &&& (63 : Int32))) &&& 0x3f).toInt64)))])) _
          exact retOut X9 hx (t := .long) Bd.returns rfl (Or.inr (Or.inl ⟨rfl, rfl, _, rfl⟩)) (hb hby d4_73) hr
        · show Q4 Z o0 p1 hi mi lo h0 n0 _ T9.heap _
          rw [e9]
          exact ⟨(congrArg (fun z => some (Value.long z)) (by simp only [own_bits, own_join, if_neg hc8, if_pos hc29, if_neg hc55] <;> rfl)), N0, rfl⟩
    · -- not p1 < (128 : Int32)
      obtain ⟨T13, X13, e13, st13⟩ := getF X0 hx hZ hown (host := "") (Or.inl (hw _ (List.mem_of_getElem? (i := 15) rfl))) Via.refl e0 F_hi (g := (mkF m 47 #[.val (.ref o0), .val (.int p1), .val (.int (p1 &&& (63 : Int32))), .unset, .unset, .unset, .unset] [(.ref o0)])) rfl rfl (hb hby d4_47)
      have pre14 : ∀ t, Steps p.tables e below (T13.setTop (mkF m 55 #[.val (.ref o0), .val (.int p1), .val (.int (p1 &&& (63 : Int32))), .val (.long hi), .second, .val (.long (0 : Int64)), .second] [(.int (p1 &&& (63 : Int32)))])) t → Steps p.tables e below (s₁.setTop (entryFrame m #[(.ref o0), (.int p1)] 7)) t := by
        intro t kt
        refine pre7 _ ?_
        show Steps p.tables e below (s₁.setTop (mkF m 29 #[.val (.ref o0), .val (.int p1), .val (.int (p1 &&& (63 : Int32))), .unset, .unset, .unset, .unset] [(.int (128 : Int32)), (.int p1)])) _
        refine XS.icmpYes X0.here hx rfl (pc0 := 29) (pc' := 46) rfl (hb hby d4_29) rfl (flt hc29).2.1 (by decide) (by decide) ?_
        show Steps p.tables e below (s₁.setTop (mkF m 46 #[.val (.ref o0), .val (.int p1), .val (.int (p1 &&& (63 : Int32))), .unset, .unset, .unset, .unset] [])) _
        refine XS.aloadN X0.here hx rfl (hb hby d4_46) rfl rfl ?_
        show Steps p.tables e below (s₁.setTop (mkF m 47 #[.val (.ref o0), .val (.int p1), .val (.int (p1 &&& (63 : Int32))), .unset, .unset, .unset, .unset] [(.ref o0)])) _
        refine st13 _ ?_
        show Steps p.tables e below (T13.setTop (mkF m 50 #[.val (.ref o0), .val (.int p1), .val (.int (p1 &&& (63 : Int32))), .unset, .unset, .unset, .unset] [(.long hi)])) _
        refine XS.lstoreN X13.here hx rfl (hb hby d4_50) rfl (l' := #[.val (.ref o0), .val (.int p1), .val (.int (p1 &&& (63 : Int32))), .val (.long hi), .second, .unset, .unset]) rfl ?_
        show Steps p.tables e below (T13.setTop (mkF m 51 #[.val (.ref o0), .val (.int p1), .val (.int (p1 &&& (63 : Int32))), .val (.long hi), .second, .unset, .unset] [])) _
        refine XS.lconst X13.here hx rfl (hb hby d4_51) ?_
        show Steps p.tables e below (T13.setTop (mkF m 52 #[.val (.ref o0), .val (.int p1), .val (.int (p1 &&& (63 : Int32))), .val (.long hi), .second, .unset, .unset] [(.long (0 : Int64))])) _
        refine XS.lstore X13.here hx rfl (hb hby d4_52) rfl (l' := #[.val (.ref o0), .val (.int p1), .val (.int (p1 &&& (63 : Int32))), .val (.long hi), .second, .val (.long (0 : Int64)), .second]) rfl ?_
        show Steps p.tables e below (T13.setTop (mkF m 54 #[.val (.ref o0), .val (.int p1), .val (.int (p1 &&& (63 : Int32))), .val (.long hi), .second, .val (.long (0 : Int64)), .second] [])) _
        refine XS.iloadN X13.here hx rfl (hb hby d4_54) rfl ?_
        exact kt
      by_cases hc55 : (p1 &&& (63 : Int32)) = (0 : Int32)
      · -- (p1 &&& (63 : Int32)) = (0 : Int32)
        obtain ⟨fs, hr, hrun, hended, hW, hsame⟩ := X13.leave (v := some (.long hi)) (fun h => by rw [Bd.returns] at h; cases h)
        refine ⟨_, _, pre14 _ ?_, hrun, hended, _, _, rfl, ?_, ⟨_, rfl⟩, hW, hsame.mono (by decide) (by decide)⟩
        · show Steps p.tables e below (T13.setTop (mkF m 55 #[.val (.ref o0), .val (.int p1), .val (.int (p1 &&& (63 : Int32))), .val (.long hi), .second, .val (.long (0 : Int64)), .second] [(.int (p1 &&& (63 : Int32)))])) _
          refine XS.ifNo X13.here hx rfl (hb hby d4_55) rfl ((if0 _ _).trans (teq hc55).2) ?_
          show Steps p.tables e below (T13.setTop (mkF m 58 #[.val (.ref o0), .val (.int p1), .val (.int (p1 &&& (63 : Int32))), .val (.long hi), .second, .val (.long (0 : Int64)), .second] [])) _
          refine XS.lloadN X13.here hx rfl (hb hby d4_58) rfl ?_
          show Steps p.tables e below (T13.setTop (mkF m 59 #[.val (.ref o0), .val (.int p1), .val (.int (p1 &&& (63 : Int32))), .val (.long hi), .second, .val (.long (0 : Int64)), .second] [(.long hi)])) _
          refine XS.goto X13.here hx rfl (pc0 := 59) (pc' := 73) rfl (hb hby d4_59) (by decide) (by decide) ?_
          show Steps p.tables e below (T13.setTop (mkF m 73 #[.val (.ref o0), .val (.int p1), .val (.int (p1 &&& (63 : Int32))), .val (.long hi), .second, .val (.long (0 : Int64)), .second] [(.long hi)])) _
          exact retOut X13 hx (t := .long) Bd.returns rfl (Or.inr (Or.inl ⟨rfl, rfl, _, rfl⟩)) (hb hby d4_73) hr
        · show Q4 Z o0 p1 hi mi lo h0 n0 _ T13.heap _
          rw [e13]
          exact ⟨(congrArg (fun z => some (Value.long z)) (by simp only [own_bits, own_join, if_neg hc8, if_neg hc29, if_pos hc55] <;> rfl)), N0, rfl⟩
      · -- not (p1 &&& (63 : Int32)) = (0 : Int32)
        obtain ⟨fs, hr, hrun, hended, hW, hsame⟩ := X13.leave (v := some (.long (((hi.toUInt64 >>> ((p1 &&& (63 : Int32)) &&& 0x3f).toInt64.toUInt64).toInt64) ||| ((0 : Int64) <<< (((64 : Int32) - (p1 &&& (63 : Int32))) &&& 0x3f).toInt64)))) (fun h => by rw [Bd.returns] at h; cases h)
        refine ⟨_, _, pre14 _ ?_, hrun, hended, _, _, rfl, ?_, ⟨_, rfl⟩, hW, hsame.mono (by decide) (by decide)⟩
        · show Steps p.tables e below (T13.setTop (mkF m 55 #[.val (.ref o0), .val (.int p1), .val (.int (p1 &&& (63 : Int32))), .val (.long hi), .second, .val (.long (0 : Int64)), .second] [(.int (p1 &&& (63 : Int32)))])) _
          refine XS.ifYes X13.here hx rfl (pc0 := 55) (pc' := 62) rfl (hb hby d4_55) rfl ((if0 _ _).trans (feq hc55).2) (by decide) (by decide) ?_
          show Steps p.tables e below (T13.setTop (mkF m 62 #[.val (.ref o0), .val (.int p1), .val (.int (p1 &&& (63 : Int32))), .val (.long hi), .second, .val (.long (0 : Int64)), .second] [])) _
          refine XS.lloadN X13.here hx rfl (hb hby d4_62) rfl ?_
          show Steps p.tables e below (T13.setTop (mkF m 63 #[.val (.ref o0), .val (.int p1), .val (.int (p1 &&& (63 : Int32))), .val (.long hi), .second, .val (.long (0 : Int64)), .second] [(.long hi)])) _
          refine XS.iloadN X13.here hx rfl (hb hby d4_63) rfl ?_
          show Steps p.tables e below (T13.setTop (mkF m 64 #[.val (.ref o0), .val (.int p1), .val (.int (p1 &&& (63 : Int32))), .val (.long hi), .second, .val (.long (0 : Int64)), .second] [(.int (p1 &&& (63 : Int32))), (.long hi)])) _
          refine XS.lushr X13.here hx rfl (hb hby d4_64) rfl ?_
          show Steps p.tables e below (T13.setTop (mkF m 65 #[.val (.ref o0), .val (.int p1), .val (.int (p1 &&& (63 : Int32))), .val (.long hi), .second, .val (.long (0 : Int64)), .second] [(.long ((hi.toUInt64 >>> ((p1 &&& (63 : Int32)) &&& 0x3f).toInt64.toUInt64).toInt64))])) _
          refine XS.lload X13.here hx rfl (hb hby d4_65) rfl ?_
          show Steps p.tables e below (T13.setTop (mkF m 67 #[.val (.ref o0), .val (.int p1), .val (.int (p1 &&& (63 : Int32))), .val (.long hi), .second, .val (.long (0 : Int64)), .second] [(.long (0 : Int64)), (.long ((hi.toUInt64 >>> ((p1 &&& (63 : Int32)) &&& 0x3f).toInt64.toUInt64).toInt64))])) _
          refine XS.bipush X13.here hx rfl (hb hby d4_67) ?_
          show Steps p.tables e below (T13.setTop (mkF m 69 #[.val (.ref o0), .val (.int p1), .val (.int (p1 &&& (63 : Int32))), .val (.long hi), .second, .val (.long (0 : Int64)), .second] [(.int (64 : Int32)), (.long (0 : Int64)), (.long ((hi.toUInt64 >>> ((p1 &&& (63 : Int32)) &&& 0x3f).toInt64.toUInt64).toInt64))])) _
          refine XS.iloadN X13.here hx rfl (hb hby d4_69) rfl ?_
          show Steps p.tables e below (T13.setTop (mkF m 70 #[.val (.ref o0), .val (.int p1), .val (.int (p1 &&& (63 : Int32))), .val (.long hi), .second, .val (.long (0 : Int64)), .second] [(.int (p1 &&& (63 : Int32))), (.int (64 : Int32)), (.long (0 : Int64)), (.long ((hi.toUInt64 >>> ((p1 &&& (63 : Int32)) &&& 0x3f).toInt64.toUInt64).toInt64))])) _
          refine XS.isub X13.here hx rfl (hb hby d4_70) rfl ?_
          show Steps p.tables e below (T13.setTop (mkF m 71 #[.val (.ref o0), .val (.int p1), .val (.int (p1 &&& (63 : Int32))), .val (.long hi), .second, .val (.long (0 : Int64)), .second] [(.int ((64 : Int32) - (p1 &&& (63 : Int32)))), (.long (0 : Int64)), (.long ((hi.toUInt64 >>> ((p1 &&& (63 : Int32)) &&& 0x3f).toInt64.toUInt64).toInt64))])) _
          refine XS.lshl X13.here hx rfl (hb hby d4_71) rfl ?_
          show Steps p.tables e below (T13.setTop (mkF m 72 #[.val (.ref o0), .val (.int p1), .val (.int (p1 &&& (63 : Int32))), .val (.long hi), .second, .val (.long (0 : Int64)), .second] [(.long ((0 : Int64) <<< (((64 : Int32) - (p1 &&& (63 : Int32))) &&& 0x3f).toInt64)), (.long ((hi.toUInt64 >>> ((p1 &&& (63 : Int32)) &&& 0x3f).toInt64.toUInt64).toInt64))])) _
          refine XS.lor X13.here hx rfl (hb hby d4_72) rfl ?_
          show Steps p.tables e below (T13.setTop (mkF m 73 #[.val (.ref o0), .val (.int p1), .val (.int (p1 &&& (63 : Int32))), .val (.long hi), .second, .val (.long (0 : Int64)), .second] [(.long (((hi.toUInt64 >>> ((p1 &&& (63 : Int32)) &&& 0x3f).toInt64.toUInt64).toInt64) ||| ((0 : Int64) <<< (((64 : Int32) - (p1 &&& (63 : Int32))) &&& 0x3f).toInt64)))])) _
          exact retOut X13 hx (t := .long) Bd.returns rfl (Or.inr (Or.inl ⟨rfl, rfl, _, rfl⟩)) (hb hby d4_73) hr
        · show Q4 Z o0 p1 hi mi lo h0 n0 _ T13.heap _
          rw [e13]
          exact ⟨(congrArg (fun z => some (Value.long z)) (by simp only [own_bits, own_join, if_neg hc8, if_neg hc29, if_neg hc55] <;> rfl)), N0, rfl⟩
theorem d5_0 : decode method_2_code 0 = .ok (.iload 6, 2) := by decide +kernel
theorem d5_2 : decode method_2_code 2 = .ok (.bipush 64, 2) := by decide +kernel
theorem d5_4 : decode method_2_code 4 = .ok (.if_icmp .ge 11, 3) := by decide +kernel
theorem d5_7 : decode method_2_code 7 = .ok (.lload 4, 2) := by decide +kernel
theorem d5_9 : decode method_2_code 9 = .ok (.iload 6, 2) := by decide +kernel
theorem d5_11 : decode method_2_code 11 = .ok (.lushr, 1) := by decide +kernel
theorem d5_12 : decode method_2_code 12 = .ok (.lconst 1, 1) := by decide +kernel
theorem d5_13 : decode method_2_code 13 = .ok (.land, 1) := by decide +kernel
theorem d5_14 : decode method_2_code 14 = .ok (.lreturn, 1) := by decide +kernel
theorem d5_15 : decode method_2_code 15 = .ok (.iload 6, 2) := by decide +kernel
theorem d5_17 : decode method_2_code 17 = .ok (.sipush 128, 3) := by decide +kernel
theorem d5_20 : decode method_2_code 20 = .ok (.if_icmp .ge 13, 3) := by decide +kernel
theorem d5_23 : decode method_2_code 23 = .ok (.lload_n 2, 1) := by decide +kernel
theorem d5_24 : decode method_2_code 24 = .ok (.iload 6, 2) := by decide +kernel
theorem d5_26 : decode method_2_code 26 = .ok (.bipush 64, 2) := by decide +kernel
theorem d5_28 : decode method_2_code 28 = .ok (.isub, 1) := by decide +kernel
theorem d5_29 : decode method_2_code 29 = .ok (.lushr, 1) := by decide +kernel
theorem d5_30 : decode method_2_code 30 = .ok (.lconst 1, 1) := by decide +kernel
theorem d5_31 : decode method_2_code 31 = .ok (.land, 1) := by decide +kernel
theorem d5_32 : decode method_2_code 32 = .ok (.lreturn, 1) := by decide +kernel
theorem d5_33 : decode method_2_code 33 = .ok (.iload 6, 2) := by decide +kernel
theorem d5_35 : decode method_2_code 35 = .ok (.sipush 192, 3) := by decide +kernel
theorem d5_38 : decode method_2_code 38 = .ok (.if_icmp .ge 14, 3) := by decide +kernel
theorem d5_41 : decode method_2_code 41 = .ok (.lload_n 0, 1) := by decide +kernel
theorem d5_42 : decode method_2_code 42 = .ok (.iload 6, 2) := by decide +kernel
theorem d5_44 : decode method_2_code 44 = .ok (.sipush 128, 3) := by decide +kernel
theorem d5_47 : decode method_2_code 47 = .ok (.isub, 1) := by decide +kernel
theorem d5_48 : decode method_2_code 48 = .ok (.lushr, 1) := by decide +kernel
theorem d5_49 : decode method_2_code 49 = .ok (.lconst 1, 1) := by decide +kernel
theorem d5_50 : decode method_2_code 50 = .ok (.land, 1) := by decide +kernel
theorem d5_51 : decode method_2_code 51 = .ok (.lreturn, 1) := by decide +kernel
theorem d5_52 : decode method_2_code 52 = .ok (.lconst 0, 1) := by decide +kernel
theorem d5_53 : decode method_2_code 53 = .ok (.lreturn, 1) := by decide +kernel
theorem ef_rm5 (m : MethodId) (q0 : Int64) (q1 : Int64) (q2 : Int64) (p3 : Int32) : entryFrame m #[(.long q0), (.long q1), (.long q2), (.int p3)] 7 = mkF m 0 #[.val (.long q0), .second, .val (.long q1), .second, .val (.long q2), .second, .val (.int p3)] [] := by first | (simp [entryFrame, mkF, argsToLocals, Value.category]; done) | rfl
def Q5 (Z : State) (q0 : Int64) (q1 : Int64) (q2 : Int64) (p3 : Int32) (h0 : Heap) (n0 : Nat) (v : Option Value) (h : Heap) (L : List Loc) : Prop := v = some (.long (own_bitOf q0 q1 q2 p3)) ∧ Fr n0 L ∧ h = h0
set_option maxRecDepth 65536 in
set_option maxHeartbeats 40000000 in
theorem rm5 (l : Launch) (Z : State) (a0 : Array Value) (hw : ∀ d ∈ tables_1, d.before a0 Z = true) (ws : List Jvm.Cond) (q0 : Int64) (q1 : Int64) (q2 : Int64) (p3 : Int32) (h0 : Heap) (n0 : Nat) (Z0 : n0 ≤ h0.size) :
    MetFree l (⟨"shale/ProductBitsFromPinLaw", "bitOf", "(JJJI)J"⟩ : MethodName) (head1 (Jvm.Cond.code (⟨"shale/ProductBitsFromPinLaw", "bitOf", "(JJJI)J"⟩ : MethodName) method_2_code 7 (some .long) :: ws) ({ frames := 0, cells := 0, slots := 0, locals := 0 } : Room)) (fun a U => a = #[(.long q0), (.long q1), (.long q2), (.int p3)] ∧ Z.Warmed39 U.vm ∧ U.heap = h0) (fun _ _ _ _ _ => True) (fun _ U o U' => ∃ v L, o = .returned v ∧ Q5 Z q0 q1 q2 p3 h0 n0 v U'.heap L ∧ FrameEnd U o U' L ({ frames := 0, cells := 0, slots := 0, locals := 0 } : Room).cells ({ frames := 0, cells := 0, slots := 0, locals := 0 } : Room).slots) := by
  refine MetFree.of_bodySF (plainFor_of_name pn_2) hisR ?_
  intro p e s m args below meth c s₁ Bd hml0 hP hK
  obtain ⟨rfl, hZ, hh⟩ := hP
  have hx := Bd.exec
  have hby := Bd.bytes
  have hml : c.maxLocals = 7 := hml0
  have hown : s.vm.findClass "shale/ProductBitsFromPinLaw" = some m.cls := findClass_of_methodNamed Bd.named
  have hnm := (name_of_methodNamed Bd.named Bd.method).1
  have X0 : Stand p l e ({ frames := 0, cells := 0, slots := 0, locals := 0 } : Room) s m #[(.long q0), (.long q1), (.long q2), (.int p3)] below meth c s₁ [] 0 0 := Stand.of_body Bd
  have e0 : s₁.heap = h0 := by rw [← hh, Bd.state]; rfl
  have N0 := Fr.nil n0
  have pre0 : ∀ t, Steps p.tables e below (s₁.setTop (mkF m 0 #[.val (.long q0), .second, .val (.long q1), .second, .val (.long q2), .second, .val (.int p3)] [])) t → Steps p.tables e below (s₁.setTop (entryFrame m #[(.long q0), (.long q1), (.long q2), (.int p3)] 7)) t := fun t k => castTop (ef_rm5 m q0 q1 q2 p3) k
  have pre1 : ∀ t, Steps p.tables e below (s₁.setTop (mkF m 4 #[.val (.long q0), .second, .val (.long q1), .second, .val (.long q2), .second, .val (.int p3)] [(.int (64 : Int32)), (.int p3)])) t → Steps p.tables e below (s₁.setTop (entryFrame m #[(.long q0), (.long q1), (.long q2), (.int p3)] 7)) t := by
    intro t kt
    refine pre0 _ ?_
    show Steps p.tables e below (s₁.setTop (mkF m 0 #[.val (.long q0), .second, .val (.long q1), .second, .val (.long q2), .second, .val (.int p3)] [])) _
    refine XS.iload X0.here hx rfl (hb hby d5_0) rfl ?_
    show Steps p.tables e below (s₁.setTop (mkF m 2 #[.val (.long q0), .second, .val (.long q1), .second, .val (.long q2), .second, .val (.int p3)] [(.int p3)])) _
    refine XS.bipush X0.here hx rfl (hb hby d5_2) ?_
    exact kt
  by_cases hc4 : p3 < (64 : Int32)
  · -- p3 < (64 : Int32)
    obtain ⟨fs, hr, hrun, hended, hW, hsame⟩ := X0.leave (v := some (.long (((q2.toUInt64 >>> (p3 &&& 0x3f).toInt64.toUInt64).toInt64) &&& (1 : Int64)))) (fun h => by rw [Bd.returns] at h; cases h)
    refine ⟨_, _, pre1 _ ?_, hrun, hended, _, _, rfl, ?_, ⟨_, rfl⟩, hW, hsame.mono (by decide) (by decide)⟩
    · show Steps p.tables e below (s₁.setTop (mkF m 4 #[.val (.long q0), .second, .val (.long q1), .second, .val (.long q2), .second, .val (.int p3)] [(.int (64 : Int32)), (.int p3)])) _
      refine XS.icmpNo X0.here hx rfl (hb hby d5_4) rfl (tlt hc4).2.1 ?_
      show Steps p.tables e below (s₁.setTop (mkF m 7 #[.val (.long q0), .second, .val (.long q1), .second, .val (.long q2), .second, .val (.int p3)] [])) _
      refine XS.lload X0.here hx rfl (hb hby d5_7) rfl ?_
      show Steps p.tables e below (s₁.setTop (mkF m 9 #[.val (.long q0), .second, .val (.long q1), .second, .val (.long q2), .second, .val (.int p3)] [(.long q2)])) _
      refine XS.iload X0.here hx rfl (hb hby d5_9) rfl ?_
      show Steps p.tables e below (s₁.setTop (mkF m 11 #[.val (.long q0), .second, .val (.long q1), .second, .val (.long q2), .second, .val (.int p3)] [(.int p3), (.long q2)])) _
      refine XS.lushr X0.here hx rfl (hb hby d5_11) rfl ?_
      show Steps p.tables e below (s₁.setTop (mkF m 12 #[.val (.long q0), .second, .val (.long q1), .second, .val (.long q2), .second, .val (.int p3)] [(.long ((q2.toUInt64 >>> (p3 &&& 0x3f).toInt64.toUInt64).toInt64))])) _
      refine XS.lconst X0.here hx rfl (hb hby d5_12) ?_
      show Steps p.tables e below (s₁.setTop (mkF m 13 #[.val (.long q0), .second, .val (.long q1), .second, .val (.long q2), .second, .val (.int p3)] [(.long (1 : Int64)), (.long ((q2.toUInt64 >>> (p3 &&& 0x3f).toInt64.toUInt64).toInt64))])) _
      refine XS.land X0.here hx rfl (hb hby d5_13) rfl ?_
      show Steps p.tables e below (s₁.setTop (mkF m 14 #[.val (.long q0), .second, .val (.long q1), .second, .val (.long q2), .second, .val (.int p3)] [(.long (((q2.toUInt64 >>> (p3 &&& 0x3f).toInt64.toUInt64).toInt64) &&& (1 : Int64)))])) _
      exact retOut X0 hx (t := .long) Bd.returns rfl (Or.inr (Or.inl ⟨rfl, rfl, _, rfl⟩)) (hb hby d5_14) hr
    · show Q5 Z q0 q1 q2 p3 h0 n0 _ s₁.heap _
      rw [e0]
      exact ⟨(congrArg (fun z => some (Value.long z)) (by simp only [own_bitOf, if_pos hc4] <;> rfl)), N0, rfl⟩
  · -- not p3 < (64 : Int32)
    have pre3 : ∀ t, Steps p.tables e below (s₁.setTop (mkF m 20 #[.val (.long q0), .second, .val (.long q1), .second, .val (.long q2), .second, .val (.int p3)] [(.int (128 : Int32)), (.int p3)])) t → Steps p.tables e below (s₁.setTop (entryFrame m #[(.long q0), (.long q1), (.long q2), (.int p3)] 7)) t := by
      intro t kt
      refine pre1 _ ?_
      show Steps p.tables e below (s₁.setTop (mkF m 4 #[.val (.long q0), .second, .val (.long q1), .second, .val (.long q2), .second, .val (.int p3)] [(.int (64 : Int32)), (.int p3)])) _
      refine XS.icmpYes X0.here hx rfl (pc0 := 4) (pc' := 15) rfl (hb hby d5_4) rfl (flt hc4).2.1 (by decide) (by decide) ?_
      show Steps p.tables e below (s₁.setTop (mkF m 15 #[.val (.long q0), .second, .val (.long q1), .second, .val (.long q2), .second, .val (.int p3)] [])) _
      refine XS.iload X0.here hx rfl (hb hby d5_15) rfl ?_
      show Steps p.tables e below (s₁.setTop (mkF m 17 #[.val (.long q0), .second, .val (.long q1), .second, .val (.long q2), .second, .val (.int p3)] [(.int p3)])) _
      refine XS.sipush X0.here hx rfl (hb hby d5_17) ?_
      exact kt
    by_cases hc20 : p3 < (128 : Int32)
    · -- p3 < (128 : Int32)
      obtain ⟨fs, hr, hrun, hended, hW, hsame⟩ := X0.leave (v := some (.long (((q1.toUInt64 >>> ((p3 - (64 : Int32)) &&& 0x3f).toInt64.toUInt64).toInt64) &&& (1 : Int64)))) (fun h => by rw [Bd.returns] at h; cases h)
      refine ⟨_, _, pre3 _ ?_, hrun, hended, _, _, rfl, ?_, ⟨_, rfl⟩, hW, hsame.mono (by decide) (by decide)⟩
      · show Steps p.tables e below (s₁.setTop (mkF m 20 #[.val (.long q0), .second, .val (.long q1), .second, .val (.long q2), .second, .val (.int p3)] [(.int (128 : Int32)), (.int p3)])) _
        refine XS.icmpNo X0.here hx rfl (hb hby d5_20) rfl (tlt hc20).2.1 ?_
        show Steps p.tables e below (s₁.setTop (mkF m 23 #[.val (.long q0), .second, .val (.long q1), .second, .val (.long q2), .second, .val (.int p3)] [])) _
        refine XS.lloadN X0.here hx rfl (hb hby d5_23) rfl ?_
        show Steps p.tables e below (s₁.setTop (mkF m 24 #[.val (.long q0), .second, .val (.long q1), .second, .val (.long q2), .second, .val (.int p3)] [(.long q1)])) _
        refine XS.iload X0.here hx rfl (hb hby d5_24) rfl ?_
        show Steps p.tables e below (s₁.setTop (mkF m 26 #[.val (.long q0), .second, .val (.long q1), .second, .val (.long q2), .second, .val (.int p3)] [(.int p3), (.long q1)])) _
        refine XS.bipush X0.here hx rfl (hb hby d5_26) ?_
        show Steps p.tables e below (s₁.setTop (mkF m 28 #[.val (.long q0), .second, .val (.long q1), .second, .val (.long q2), .second, .val (.int p3)] [(.int (64 : Int32)), (.int p3), (.long q1)])) _
        refine XS.isub X0.here hx rfl (hb hby d5_28) rfl ?_
        show Steps p.tables e below (s₁.setTop (mkF m 29 #[.val (.long q0), .second, .val (.long q1), .second, .val (.long q2), .second, .val (.int p3)] [(.int (p3 - (64 : Int32))), (.long q1)])) _
        refine XS.lushr X0.here hx rfl (hb hby d5_29) rfl ?_
        show Steps p.tables e below (s₁.setTop (mkF m 30 #[.val (.long q0), .second, .val (.long q1), .second, .val (.long q2), .second, .val (.int p3)] [(.long ((q1.toUInt64 >>> ((p3 - (64 : Int32)) &&& 0x3f).toInt64.toUInt64).toInt64))])) _
        refine XS.lconst X0.here hx rfl (hb hby d5_30) ?_
        show Steps p.tables e below (s₁.setTop (mkF m 31 #[.val (.long q0), .second, .val (.long q1), .second, .val (.long q2), .second, .val (.int p3)] [(.long (1 : Int64)), (.long ((q1.toUInt64 >>> ((p3 - (64 : Int32)) &&& 0x3f).toInt64.toUInt64).toInt64))])) _
        refine XS.land X0.here hx rfl (hb hby d5_31) rfl ?_
        show Steps p.tables e below (s₁.setTop (mkF m 32 #[.val (.long q0), .second, .val (.long q1), .second, .val (.long q2), .second, .val (.int p3)] [(.long (((q1.toUInt64 >>> ((p3 - (64 : Int32)) &&& 0x3f).toInt64.toUInt64).toInt64) &&& (1 : Int64)))])) _
        exact retOut X0 hx (t := .long) Bd.returns rfl (Or.inr (Or.inl ⟨rfl, rfl, _, rfl⟩)) (hb hby d5_32) hr
      · show Q5 Z q0 q1 q2 p3 h0 n0 _ s₁.heap _
        rw [e0]
        exact ⟨(congrArg (fun z => some (Value.long z)) (by simp only [own_bitOf, if_neg hc4, if_pos hc20] <;> rfl)), N0, rfl⟩
    · -- not p3 < (128 : Int32)
      have pre5 : ∀ t, Steps p.tables e below (s₁.setTop (mkF m 38 #[.val (.long q0), .second, .val (.long q1), .second, .val (.long q2), .second, .val (.int p3)] [(.int (192 : Int32)), (.int p3)])) t → Steps p.tables e below (s₁.setTop (entryFrame m #[(.long q0), (.long q1), (.long q2), (.int p3)] 7)) t := by
        intro t kt
        refine pre3 _ ?_
        show Steps p.tables e below (s₁.setTop (mkF m 20 #[.val (.long q0), .second, .val (.long q1), .second, .val (.long q2), .second, .val (.int p3)] [(.int (128 : Int32)), (.int p3)])) _
        refine XS.icmpYes X0.here hx rfl (pc0 := 20) (pc' := 33) rfl (hb hby d5_20) rfl (flt hc20).2.1 (by decide) (by decide) ?_
        show Steps p.tables e below (s₁.setTop (mkF m 33 #[.val (.long q0), .second, .val (.long q1), .second, .val (.long q2), .second, .val (.int p3)] [])) _
        refine XS.iload X0.here hx rfl (hb hby d5_33) rfl ?_
        show Steps p.tables e below (s₁.setTop (mkF m 35 #[.val (.long q0), .second, .val (.long q1), .second, .val (.long q2), .second, .val (.int p3)] [(.int p3)])) _
        refine XS.sipush X0.here hx rfl (hb hby d5_35) ?_
        exact kt
      by_cases hc38 : p3 < (192 : Int32)
      · -- p3 < (192 : Int32)
        obtain ⟨fs, hr, hrun, hended, hW, hsame⟩ := X0.leave (v := some (.long (((q0.toUInt64 >>> ((p3 - (128 : Int32)) &&& 0x3f).toInt64.toUInt64).toInt64) &&& (1 : Int64)))) (fun h => by rw [Bd.returns] at h; cases h)
        refine ⟨_, _, pre5 _ ?_, hrun, hended, _, _, rfl, ?_, ⟨_, rfl⟩, hW, hsame.mono (by decide) (by decide)⟩
        · show Steps p.tables e below (s₁.setTop (mkF m 38 #[.val (.long q0), .second, .val (.long q1), .second, .val (.long q2), .second, .val (.int p3)] [(.int (192 : Int32)), (.int p3)])) _
          refine XS.icmpNo X0.here hx rfl (hb hby d5_38) rfl (tlt hc38).2.1 ?_
          show Steps p.tables e below (s₁.setTop (mkF m 41 #[.val (.long q0), .second, .val (.long q1), .second, .val (.long q2), .second, .val (.int p3)] [])) _
          refine XS.lloadN X0.here hx rfl (hb hby d5_41) rfl ?_
          show Steps p.tables e below (s₁.setTop (mkF m 42 #[.val (.long q0), .second, .val (.long q1), .second, .val (.long q2), .second, .val (.int p3)] [(.long q0)])) _
          refine XS.iload X0.here hx rfl (hb hby d5_42) rfl ?_
          show Steps p.tables e below (s₁.setTop (mkF m 44 #[.val (.long q0), .second, .val (.long q1), .second, .val (.long q2), .second, .val (.int p3)] [(.int p3), (.long q0)])) _
          refine XS.sipush X0.here hx rfl (hb hby d5_44) ?_
          show Steps p.tables e below (s₁.setTop (mkF m 47 #[.val (.long q0), .second, .val (.long q1), .second, .val (.long q2), .second, .val (.int p3)] [(.int (128 : Int32)), (.int p3), (.long q0)])) _
          refine XS.isub X0.here hx rfl (hb hby d5_47) rfl ?_
          show Steps p.tables e below (s₁.setTop (mkF m 48 #[.val (.long q0), .second, .val (.long q1), .second, .val (.long q2), .second, .val (.int p3)] [(.int (p3 - (128 : Int32))), (.long q0)])) _
          refine XS.lushr X0.here hx rfl (hb hby d5_48) rfl ?_
          show Steps p.tables e below (s₁.setTop (mkF m 49 #[.val (.long q0), .second, .val (.long q1), .second, .val (.long q2), .second, .val (.int p3)] [(.long ((q0.toUInt64 >>> ((p3 - (128 : Int32)) &&& 0x3f).toInt64.toUInt64).toInt64))])) _
          refine XS.lconst X0.here hx rfl (hb hby d5_49) ?_
          show Steps p.tables e below (s₁.setTop (mkF m 50 #[.val (.long q0), .second, .val (.long q1), .second, .val (.long q2), .second, .val (.int p3)] [(.long (1 : Int64)), (.long ((q0.toUInt64 >>> ((p3 - (128 : Int32)) &&& 0x3f).toInt64.toUInt64).toInt64))])) _
          refine XS.land X0.here hx rfl (hb hby d5_50) rfl ?_
          show Steps p.tables e below (s₁.setTop (mkF m 51 #[.val (.long q0), .second, .val (.long q1), .second, .val (.long q2), .second, .val (.int p3)] [(.long (((q0.toUInt64 >>> ((p3 - (128 : Int32)) &&& 0x3f).toInt64.toUInt64).toInt64) &&& (1 : Int64)))])) _
          exact retOut X0 hx (t := .long) Bd.returns rfl (Or.inr (Or.inl ⟨rfl, rfl, _, rfl⟩)) (hb hby d5_51) hr
        · show Q5 Z q0 q1 q2 p3 h0 n0 _ s₁.heap _
          rw [e0]
          exact ⟨(congrArg (fun z => some (Value.long z)) (by simp only [own_bitOf, if_neg hc4, if_neg hc20, if_pos hc38] <;> rfl)), N0, rfl⟩
      · -- not p3 < (192 : Int32)
        obtain ⟨fs, hr, hrun, hended, hW, hsame⟩ := X0.leave (v := some (.long (0 : Int64))) (fun h => by rw [Bd.returns] at h; cases h)
        refine ⟨_, _, pre5 _ ?_, hrun, hended, _, _, rfl, ?_, ⟨_, rfl⟩, hW, hsame.mono (by decide) (by decide)⟩
        · show Steps p.tables e below (s₁.setTop (mkF m 38 #[.val (.long q0), .second, .val (.long q1), .second, .val (.long q2), .second, .val (.int p3)] [(.int (192 : Int32)), (.int p3)])) _
          refine XS.icmpYes X0.here hx rfl (pc0 := 38) (pc' := 52) rfl (hb hby d5_38) rfl (flt hc38).2.1 (by decide) (by decide) ?_
          show Steps p.tables e below (s₁.setTop (mkF m 52 #[.val (.long q0), .second, .val (.long q1), .second, .val (.long q2), .second, .val (.int p3)] [])) _
          refine XS.lconst X0.here hx rfl (hb hby d5_52) ?_
          show Steps p.tables e below (s₁.setTop (mkF m 53 #[.val (.long q0), .second, .val (.long q1), .second, .val (.long q2), .second, .val (.int p3)] [(.long (0 : Int64))])) _
          exact retOut X0 hx (t := .long) Bd.returns rfl (Or.inr (Or.inl ⟨rfl, rfl, _, rfl⟩)) (hb hby d5_53) hr
        · show Q5 Z q0 q1 q2 p3 h0 n0 _ s₁.heap _
          rw [e0]
          exact ⟨(congrArg (fun z => some (Value.long z)) (by simp only [own_bitOf, if_neg hc4, if_neg hc20, if_neg hc38] <;> rfl)), N0, rfl⟩
theorem ef_rm0 (m : MethodId) (q0 : Int64) (q1 : Int64) (q2 : Int64) (p3 : Int32) (p4 : Int32) (p5 : Int32) : entryFrame m #[(.long q0), (.long q1), (.long q2), (.int p3), (.int p4), (.int p5)] maxLocals = mkF m 0 #[.val (.long q0), .second, .val (.long q1), .second, .val (.long q2), .second, .val (.int p3), .val (.int p4), .val (.int p5), .unset, .unset, .unset, .unset, .unset, .unset, .unset] [] := by first | (simp [entryFrame, mkF, argsToLocals, Value.category, maxLocals]; done) | rfl
def Q0 (Z : State) (q0 : Int64) (q1 : Int64) (q2 : Int64) (p3 : Int32) (p4 : Int32) (p5 : Int32) (h0 : Heap) (n0 : Nat) (v : Option Value) (h : Heap) (L : List Loc) : Prop := v = some (.int (1 : Int32)) ∧ Fr n0 L
set_option maxRecDepth 65536 in
set_option maxHeartbeats 40000000 in
theorem rm0 (l : Launch) (Z : State) (a0 : Array Value) (hw : ∀ d ∈ tables_1, d.before a0 Z = true) (ws : List Jvm.Cond) (q0 : Int64) (q1 : Int64) (q2 : Int64) (p3 : Int32) (p4 : Int32) (p5 : Int32) (h0 : Heap) (n0 : Nat) (Z0 : n0 ≤ h0.size) :
    MetFree l x (head1 (Jvm.Cond.code x code maxLocals ret :: ws) room_1) (fun a U => a = #[(.long q0), (.long q1), (.long q2), (.int p3), (.int p4), (.int p5)] ∧ Z.Warmed39 U.vm ∧ U.heap = h0) (fun _ _ _ _ _ => True) (fun _ U o U' => ∃ v L, o = .returned v ∧ Q0 Z q0 q1 q2 p3 p4 p5 h0 n0 v U'.heap L ∧ FrameEnd U o U' L room_1.cells room_1.slots) := by
  refine MetFree.of_bodySF (plainFor_of_name pn_2) hisR ?_
  intro p e s m args below meth c s₁ Bd hml0 hP hK
  obtain ⟨rfl, hZ, hh⟩ := hP
  have hx := Bd.exec
  have hby := Bd.bytes
  have hml : c.maxLocals = 16 := hml0
  have hown : s.vm.findClass "shale/ProductBitsFromPinLaw" = some m.cls := findClass_of_methodNamed Bd.named
  have hnm := (name_of_methodNamed Bd.named Bd.method).1
  have X0 : Stand p l e room_1 s m #[(.long q0), (.long q1), (.long q2), (.int p3), (.int p4), (.int p5)] below meth c s₁ [] 0 0 := Stand.of_body Bd
  have e0 : s₁.heap = h0 := by rw [← hh, Bd.state]; rfl
  have N0 := Fr.nil n0
  have pre0 : ∀ t, Steps p.tables e below (s₁.setTop (mkF m 0 #[.val (.long q0), .second, .val (.long q1), .second, .val (.long q2), .second, .val (.int p3), .val (.int p4), .val (.int p5), .unset, .unset, .unset, .unset, .unset, .unset, .unset] [])) t → Steps p.tables e below (s₁.setTop (entryFrame m #[(.long q0), (.long q1), (.long q2), (.int p3), (.int p4), (.int p5)] maxLocals)) t := fun t k => castTop (ef_rm0 m q0 q1 q2 p3 p4 p5) k
  obtain ⟨fr, hm1, pre2⟩ : ∃ (fr : Int32), (0 ≤ fr.toInt ∧ fr.toInt < 192) ∧ ∀ t, Steps p.tables e below (s₁.setTop (mkF m 9 #[.val (.long q0), .second, .val (.long q1), .second, .val (.long q2), .second, .val (.int p3), .val (.int p4), .val (.int p5), .unset, .unset, .unset, .unset, .unset, .unset, .unset] [(.int fr)])) t → Steps p.tables e below (s₁.setTop (entryFrame m #[(.long q0), (.long q1), (.long q2), (.int p3), (.int p4), (.int p5)] maxLocals)) t := by
    refine ⟨((p4 &&& (2147483647 : Int32)) % (192 : Int32)), own_from _, fun t kt => ?_⟩
    refine pre0 _ ?_
    show Steps p.tables e below (s₁.setTop (mkF m 0 #[.val (.long q0), .second, .val (.long q1), .second, .val (.long q2), .second, .val (.int p3), .val (.int p4), .val (.int p5), .unset, .unset, .unset, .unset, .unset, .unset, .unset] [])) _
    refine XS.iload X0.here hx rfl (hb hby at_0) rfl ?_
    show Steps p.tables e below (s₁.setTop (mkF m 2 #[.val (.long q0), .second, .val (.long q1), .second, .val (.long q2), .second, .val (.int p3), .val (.int p4), .val (.int p5), .unset, .unset, .unset, .unset, .unset, .unset, .unset] [(.int p4)])) _
    refine X0.ldcInt hx hown (mvT hZ (hw _ (List.mem_of_getElem? (i := 0) rfl))) (g := (mkF m 2 #[.val (.long q0), .second, .val (.long q1), .second, .val (.long q2), .second, .val (.int p3), .val (.int p4), .val (.int p5), .unset, .unset, .unset, .unset, .unset, .unset, .unset] [(.int p4)])) rfl (hb hby at_2) _ ?_
    show Steps p.tables e below (s₁.setTop (mkF m 4 #[.val (.long q0), .second, .val (.long q1), .second, .val (.long q2), .second, .val (.int p3), .val (.int p4), .val (.int p5), .unset, .unset, .unset, .unset, .unset, .unset, .unset] [(.int (2147483647 : Int32)), (.int p4)])) _
    refine XS.iand X0.here hx rfl (hb hby at_4) rfl ?_
    show Steps p.tables e below (s₁.setTop (mkF m 5 #[.val (.long q0), .second, .val (.long q1), .second, .val (.long q2), .second, .val (.int p3), .val (.int p4), .val (.int p5), .unset, .unset, .unset, .unset, .unset, .unset, .unset] [(.int (p4 &&& (2147483647 : Int32)))])) _
    refine XS.sipush X0.here hx rfl (hb hby at_5) ?_
    show Steps p.tables e below (s₁.setTop (mkF m 8 #[.val (.long q0), .second, .val (.long q1), .second, .val (.long q2), .second, .val (.int p3), .val (.int p4), .val (.int p5), .unset, .unset, .unset, .unset, .unset, .unset, .unset] [(.int (192 : Int32)), (.int (p4 &&& (2147483647 : Int32)))])) _
    refine iremM X0 hx rfl (hb hby at_8) rfl (by decide) ?_
    exact kt
  have pre3 : ∀ t, Steps p.tables e below (s₁.setTop (mkF m 11 #[.val (.long q0), .second, .val (.long q1), .second, .val (.long q2), .second, .val (.int p3), .val (.int p4), .val (.int p5), .val (.int fr), .unset, .unset, .unset, .unset, .unset, .unset] [])) t → Steps p.tables e below (s₁.setTop (entryFrame m #[(.long q0), (.long q1), (.long q2), (.int p3), (.int p4), (.int p5)] maxLocals)) t := by
    intro t kt
    refine pre2 _ ?_
    show Steps p.tables e below (s₁.setTop (mkF m 9 #[.val (.long q0), .second, .val (.long q1), .second, .val (.long q2), .second, .val (.int p3), .val (.int p4), .val (.int p5), .unset, .unset, .unset, .unset, .unset, .unset, .unset] [(.int fr)])) _
    refine XS.istore X0.here hx rfl (hb hby at_9) rfl (l' := #[.val (.long q0), .second, .val (.long q1), .second, .val (.long q2), .second, .val (.int p3), .val (.int p4), .val (.int p5), .val (.int fr), .unset, .unset, .unset, .unset, .unset, .unset]) rfl ?_
    exact kt
  obtain ⟨bt, hm4, pre5⟩ : ∃ (bt : Int32), (0 ≤ bt.toInt ∧ bt.toInt < 64) ∧ ∀ t, Steps p.tables e below (s₁.setTop (mkF m 16 #[.val (.long q0), .second, .val (.long q1), .second, .val (.long q2), .second, .val (.int p3), .val (.int p4), .val (.int p5), .val (.int fr), .unset, .unset, .unset, .unset, .unset, .unset] [(.int bt)])) t → Steps p.tables e below (s₁.setTop (entryFrame m #[(.long q0), (.long q1), (.long q2), (.int p3), (.int p4), (.int p5)] maxLocals)) t := by
    refine ⟨(p5 &&& (63 : Int32)), own_bit _, fun t kt => ?_⟩
    refine pre3 _ ?_
    show Steps p.tables e below (s₁.setTop (mkF m 11 #[.val (.long q0), .second, .val (.long q1), .second, .val (.long q2), .second, .val (.int p3), .val (.int p4), .val (.int p5), .val (.int fr), .unset, .unset, .unset, .unset, .unset, .unset] [])) _
    refine XS.iload X0.here hx rfl (hb hby at_11) rfl ?_
    show Steps p.tables e below (s₁.setTop (mkF m 13 #[.val (.long q0), .second, .val (.long q1), .second, .val (.long q2), .second, .val (.int p3), .val (.int p4), .val (.int p5), .val (.int fr), .unset, .unset, .unset, .unset, .unset, .unset] [(.int p5)])) _
    refine XS.bipush X0.here hx rfl (hb hby at_13) ?_
    show Steps p.tables e below (s₁.setTop (mkF m 15 #[.val (.long q0), .second, .val (.long q1), .second, .val (.long q2), .second, .val (.int p3), .val (.int p4), .val (.int p5), .val (.int fr), .unset, .unset, .unset, .unset, .unset, .unset] [(.int (63 : Int32)), (.int p5)])) _
    refine XS.iand X0.here hx rfl (hb hby at_15) rfl ?_
    exact kt
  obtain ⟨T6, h6, X6, e6, E6, A6, D6, -, st6⟩ := newO X0 hx hZ hown (hw _ (List.mem_of_getElem? (i := 1) rfl)) (hw _ (List.mem_of_getElem? (i := 2) rfl)) (hw _ (List.mem_of_getElem? (i := 3) rfl)) e0 (g := (mkF m 18 #[.val (.long q0), .second, .val (.long q1), .second, .val (.long q2), .second, .val (.int p3), .val (.int p4), .val (.int p5), .val (.int fr), .val (.int bt), .unset, .unset, .unset, .unset, .unset] [])) rfl (hb hby at_18) (by decide) (by decide)
  obtain ⟨b6, g6⟩ : ∃ z, z = h0.size := ⟨_, rfl⟩
  rw [← g6] at A6 D6 st6
  have gn6 : n0 ≤ b6 := Nat.le_trans Z0 (Nat.le_of_eq g6.symm)
  have Z7 : n0 ≤ h6.size := Nat.le_trans Z0 E6.1
  have Fn6_16 : Fld Z h6 b6 "shale/PowersOfTen$Product" "high" "J" (.long (0 : Int64)) := D6 (Or.inr (hw _ (List.mem_of_getElem? (i := 16) rfl))) (ty := .long) (by decide)
  have Fn6_18 : Fld Z h6 b6 "shale/PowersOfTen$Product" "middle" "J" (.long (0 : Int64)) := D6 (Or.inr (hw _ (List.mem_of_getElem? (i := 18) rfl))) (ty := .long) (by decide)
  have Fn6_20 : Fld Z h6 b6 "shale/PowersOfTen$Product" "low" "J" (.long (0 : Int64)) := D6 (Or.inr (hw _ (List.mem_of_getElem? (i := 20) rfl))) (ty := .long) (by decide)
  have Fn6_22 : Fld Z h6 b6 "shale/PowersOfTen$Product" "exponent" "I" (.int (0 : Int32)) := D6 (Or.inr (hw _ (List.mem_of_getElem? (i := 22) rfl))) (ty := .int) (by decide)
  obtain ⟨_, _, ⟨T8, L8, k8, n8⟩, -, X8, ⟨Lc8, hQ8, l8, y8, z8⟩, st8⟩ := X6.specialBack hx (y := (⟨"shale/PowersOfTen$Product", "<init>", "(JJJI)V"⟩ : MethodName)) rfl hown (mvT hZ (hw _ (List.mem_of_getElem? (i := 4) rfl))) (mvT hZ (hw _ (List.mem_of_getElem? (i := 5) rfl))) (mvT hZ (hw _ (List.mem_of_getElem? (i := 6) rfl))) (by decide) (backOf (W := 1) (rm1 l Z a0 hw [] b6 q0 q1 q2 p3 _ _ _ _ h6 n0 Z7 A6 gn6 Fn6_16 Fn6_18 Fn6_20 Fn6_22) hZ (hw _ (List.mem_of_getElem? (i := 6) rfl)) (hw _ (List.mem_of_getElem? (i := 3) rfl)) (by decide) (by decide)) (g := (mkF m 28 #[.val (.long q0), .second, .val (.long q1), .second, .val (.long q2), .second, .val (.int p3), .val (.int p4), .val (.int p5), .val (.int fr), .val (.int bt), .unset, .unset, .unset, .unset, .unset] [(.int p3), (.long q2), (.long q1), (.long q0), (.ref b6), (.ref b6)])) rfl (by rw [hml]; rfl) (Steps.refl _) (a := b6) (argsL := [(.long q0), (.long q1), (.long q2), (.int p3)]) (rest := [(.ref b6)]) (lenOf pd_1 rfl) rfl (by show 2 * 0 + _ ≤ _; exact Nat.le_of_eq rfl) (hb hby at_28) (fun _ _ => ⟨rfl, e6, (by decide : 1 + 0 ≤ _), (by decide : 4 + 0 ≤ _)⟩)
  dsimp only [Pt.U, Pt.locs, Pt.cells, Pt.slots] at X8 l8 y8 z8 st8 hQ8
  subst l8 y8 z8
  obtain ⟨rfl, N8q, K8, A8x, Fc8_0, Fc8_1, Fc8_2, Fc8_3⟩ := hQ8
  have N8 := Fr.app N0 N8q
  have Z9 : n0 ≤ T8.heap.size := Nat.le_trans Z7 K8.1
  have Fg8_0 : Fld Z T8.heap b6 "shale/PowersOfTen$Product" "high" "J" (.long q0) := Fc8_0
  have Fg8_1 : Fld Z T8.heap b6 "shale/PowersOfTen$Product" "middle" "J" (.long q1) := Fc8_1
  have Fg8_2 : Fld Z T8.heap b6 "shale/PowersOfTen$Product" "low" "J" (.long q2) := Fc8_2
  have Fg8_3 : Fld Z T8.heap b6 "shale/PowersOfTen$Product" "exponent" "I" (.int p3) := Fc8_3
  obtain ⟨cq10, kq10, q10a, q10b, q10c⟩ := isOf hZ rfl A8x
  obtain ⟨_, _, ⟨T10, L10, k10, n10⟩, -, X10, ⟨Lc10, hQ10, l10, y10, z10⟩, st10⟩ := X8.virtualBack hx (y := (⟨"shale/PowersOfTen$Product", "bitsFrom", "(I)J"⟩ : MethodName)) (z := (⟨"shale/PowersOfTen$Product", "bitsFrom", "(I)J"⟩ : MethodName)) hown (mvT hZ (hw _ (List.mem_of_getElem? (i := 23) rfl))) (mvT hZ (hw _ (List.mem_of_getElem? (i := 24) rfl))) (notFace_of_selects (args := #[]) (mvT hZ (hw _ (List.mem_of_getElem? (i := 26) rfl)))) (mvT hZ (hw _ (List.mem_of_getElem? (i := 26) rfl))) (mvT hZ (hw _ (List.mem_of_getElem? (i := 25) rfl))) (by decide) (backOf (W := 0) (rm4 l Z a0 hw [] b6 fr q0 q1 q2 T8.heap n0 Z9 Fg8_0 Fg8_1 Fg8_2) hZ (hw _ (List.mem_of_getElem? (i := 27) rfl)) (hw _ (List.mem_of_getElem? (i := 3) rfl)) (by decide) (by decide)) q10a q10c (g := (mkF m 37 #[.val (.long q0), .second, .val (.long q1), .second, .val (.long q2), .second, .val (.int p3), .val (.int p4), .val (.int p5), .val (.int fr), .val (.int bt), .val (.ref b6), .unset, .unset, .unset, .unset] [(.int fr), (.ref b6)])) rfl (by rw [hml]; rfl) (Steps.refl _) (argsL := [(.int fr)]) (rest := []) (lenOf pd_2 rfl) rfl (by show 2 * 0 + _ ≤ _; exact Nat.le_of_eq rfl) (hb hby at_37) (fun _ _ => ⟨rfl, rfl, (by decide : 1 + 0 ≤ _), (by decide : 4 + 0 ≤ _)⟩)
  dsimp only [Pt.U, Pt.locs, Pt.cells, Pt.slots] at X10 l10 y10 z10 st10 hQ10
  subst l10 y10 z10
  obtain ⟨rfl, N10q, e10q⟩ := hQ10
  have N10 := Fr.app N8 N10q
  obtain ⟨_, _, ⟨T11, L11, k11, n11⟩, -, X11, ⟨Lc11, hQ11, l11, y11, z11⟩, st11⟩ := Jvm.LawKit.callS X10 hx (y := (⟨"shale/ProductBitsFromPinLaw", "bitOf", "(JJJI)J"⟩ : MethodName)) hown (mvT hZ (hw _ (List.mem_of_getElem? (i := 28) rfl))) (mvT hZ (hw _ (List.mem_of_getElem? (i := 29) rfl))) (mvT hZ (hw _ (List.mem_of_getElem? (i := 30) rfl))) (mvT hZ (hw _ (List.mem_of_getElem? (i := 31) rfl))) (by decide) (backOf (W := 2) (rm5 l Z a0 hw [] q0 q1 q2 (fr + bt) T8.heap n0 Z9 ) hZ (hw _ (List.mem_of_getElem? (i := 31) rfl)) (hw _ (List.mem_of_getElem? (i := 30) rfl)) (by decide) (by decide)) (g := (mkF m 62 #[.val (.long q0), .second, .val (.long q1), .second, .val (.long q2), .second, .val (.int p3), .val (.int p4), .val (.int p5), .val (.int fr), .val (.int bt), .val (.ref b6), .val (.long (own_bits q0 q1 q2 fr)), .second, .val (.long ((((own_bits q0 q1 q2 fr).toUInt64 >>> (bt &&& 0x3f).toInt64.toUInt64).toInt64) &&& (1 : Int64))), .second] [(.int (fr + bt)), (.long q2), (.long q1), (.long q0), (.long ((((own_bits q0 q1 q2 fr).toUInt64 >>> (bt &&& 0x3f).toInt64.toUInt64).toInt64) &&& (1 : Int64)))])) rfl (by rw [hml]; rfl) (argsL := [(.long q0), (.long q1), (.long q2), (.int (fr + bt))]) (rest := [(.long ((((own_bits q0 q1 q2 fr).toUInt64 >>> (bt &&& 0x3f).toInt64.toUInt64).toInt64) &&& (1 : Int64)))]) (lenOf pd_3 rfl) rfl (by show 2 * 0 + _ ≤ _; exact Nat.le_of_eq rfl) (hb hby at_62) (fun _ _ => ⟨rfl, e10q, (by decide : 1 + 0 ≤ _), (by decide : 4 + 0 ≤ _)⟩)
  dsimp only [Pt.U, Pt.locs, Pt.cells, Pt.slots] at X11 l11 y11 z11 st11 hQ11
  subst l11 y11 z11
  obtain ⟨rfl, N11q, e11q⟩ := hQ11
  have N11 := Fr.app N10 N11q
  obtain ⟨fs, hr, hrun, hended, hW, hsame⟩ := X11.leave (v := some (.int (1 : Int32))) (fun h => by rw [Bd.returns] at h; cases h)
  refine ⟨_, _, pre5 _ ?_, hrun, hended, _, _, rfl, ?_, ⟨_, rfl⟩, hW, hsame.mono (by decide) (by decide)⟩
  · show Steps p.tables e below (s₁.setTop (mkF m 16 #[.val (.long q0), .second, .val (.long q1), .second, .val (.long q2), .second, .val (.int p3), .val (.int p4), .val (.int p5), .val (.int fr), .unset, .unset, .unset, .unset, .unset, .unset] [(.int bt)])) _
    refine XS.istore X0.here hx rfl (hb hby at_16) rfl (l' := #[.val (.long q0), .second, .val (.long q1), .second, .val (.long q2), .second, .val (.int p3), .val (.int p4), .val (.int p5), .val (.int fr), .val (.int bt), .unset, .unset, .unset, .unset, .unset]) rfl ?_
    show Steps p.tables e below (s₁.setTop (mkF m 18 #[.val (.long q0), .second, .val (.long q1), .second, .val (.long q2), .second, .val (.int p3), .val (.int p4), .val (.int p5), .val (.int fr), .val (.int bt), .unset, .unset, .unset, .unset, .unset] [])) _
    refine st6 _ ?_
    show Steps p.tables e below (T6.setTop (mkF m 21 #[.val (.long q0), .second, .val (.long q1), .second, .val (.long q2), .second, .val (.int p3), .val (.int p4), .val (.int p5), .val (.int fr), .val (.int bt), .unset, .unset, .unset, .unset, .unset] [(.ref b6)])) _
    refine XS.dup X6.here hx rfl (hb hby at_21) rfl rfl ?_
    show Steps p.tables e below (T6.setTop (mkF m 22 #[.val (.long q0), .second, .val (.long q1), .second, .val (.long q2), .second, .val (.int p3), .val (.int p4), .val (.int p5), .val (.int fr), .val (.int bt), .unset, .unset, .unset, .unset, .unset] [(.ref b6), (.ref b6)])) _
    refine XS.lloadN X6.here hx rfl (hb hby at_22) rfl ?_
    show Steps p.tables e below (T6.setTop (mkF m 23 #[.val (.long q0), .second, .val (.long q1), .second, .val (.long q2), .second, .val (.int p3), .val (.int p4), .val (.int p5), .val (.int fr), .val (.int bt), .unset, .unset, .unset, .unset, .unset] [(.long q0), (.ref b6), (.ref b6)])) _
    refine XS.lloadN X6.here hx rfl (hb hby at_23) rfl ?_
    show Steps p.tables e below (T6.setTop (mkF m 24 #[.val (.long q0), .second, .val (.long q1), .second, .val (.long q2), .second, .val (.int p3), .val (.int p4), .val (.int p5), .val (.int fr), .val (.int bt), .unset, .unset, .unset, .unset, .unset] [(.long q1), (.long q0), (.ref b6), (.ref b6)])) _
    refine XS.lload X6.here hx rfl (hb hby at_24) rfl ?_
    show Steps p.tables e below (T6.setTop (mkF m 26 #[.val (.long q0), .second, .val (.long q1), .second, .val (.long q2), .second, .val (.int p3), .val (.int p4), .val (.int p5), .val (.int fr), .val (.int bt), .unset, .unset, .unset, .unset, .unset] [(.long q2), (.long q1), (.long q0), (.ref b6), (.ref b6)])) _
    refine XS.iload X6.here hx rfl (hb hby at_26) rfl ?_
    show Steps p.tables e below (T6.setTop (mkF m 28 #[.val (.long q0), .second, .val (.long q1), .second, .val (.long q2), .second, .val (.int p3), .val (.int p4), .val (.int p5), .val (.int fr), .val (.int bt), .unset, .unset, .unset, .unset, .unset] [(.int p3), (.long q2), (.long q1), (.long q0), (.ref b6), (.ref b6)])) _
    refine st8.trans ?_
    show Steps p.tables e below (T8.setTop (mkF m 31 #[.val (.long q0), .second, .val (.long q1), .second, .val (.long q2), .second, .val (.int p3), .val (.int p4), .val (.int p5), .val (.int fr), .val (.int bt), .unset, .unset, .unset, .unset, .unset] [(.ref b6)])) _
    refine XS.astore X8.here hx rfl (hb hby at_31) rfl rfl (l' := #[.val (.long q0), .second, .val (.long q1), .second, .val (.long q2), .second, .val (.int p3), .val (.int p4), .val (.int p5), .val (.int fr), .val (.int bt), .val (.ref b6), .unset, .unset, .unset, .unset]) rfl ?_
    show Steps p.tables e below (T8.setTop (mkF m 33 #[.val (.long q0), .second, .val (.long q1), .second, .val (.long q2), .second, .val (.int p3), .val (.int p4), .val (.int p5), .val (.int fr), .val (.int bt), .val (.ref b6), .unset, .unset, .unset, .unset] [])) _
    refine XS.aload X8.here hx rfl (hb hby at_33) rfl rfl ?_
    show Steps p.tables e below (T8.setTop (mkF m 35 #[.val (.long q0), .second, .val (.long q1), .second, .val (.long q2), .second, .val (.int p3), .val (.int p4), .val (.int p5), .val (.int fr), .val (.int bt), .val (.ref b6), .unset, .unset, .unset, .unset] [(.ref b6)])) _
    refine XS.iload X8.here hx rfl (hb hby at_35) rfl ?_
    show Steps p.tables e below (T8.setTop (mkF m 37 #[.val (.long q0), .second, .val (.long q1), .second, .val (.long q2), .second, .val (.int p3), .val (.int p4), .val (.int p5), .val (.int fr), .val (.int bt), .val (.ref b6), .unset, .unset, .unset, .unset] [(.int fr), (.ref b6)])) _
    refine st10.trans ?_
    show Steps p.tables e below (T10.setTop (mkF m 40 #[.val (.long q0), .second, .val (.long q1), .second, .val (.long q2), .second, .val (.int p3), .val (.int p4), .val (.int p5), .val (.int fr), .val (.int bt), .val (.ref b6), .unset, .unset, .unset, .unset] [(.long (own_bits q0 q1 q2 fr))])) _
    refine XS.lstore X10.here hx rfl (hb hby at_40) rfl (l' := #[.val (.long q0), .second, .val (.long q1), .second, .val (.long q2), .second, .val (.int p3), .val (.int p4), .val (.int p5), .val (.int fr), .val (.int bt), .val (.ref b6), .val (.long (own_bits q0 q1 q2 fr)), .second, .unset, .unset]) rfl ?_
    show Steps p.tables e below (T10.setTop (mkF m 42 #[.val (.long q0), .second, .val (.long q1), .second, .val (.long q2), .second, .val (.int p3), .val (.int p4), .val (.int p5), .val (.int fr), .val (.int bt), .val (.ref b6), .val (.long (own_bits q0 q1 q2 fr)), .second, .unset, .unset] [])) _
    refine XS.lload X10.here hx rfl (hb hby at_42) rfl ?_
    show Steps p.tables e below (T10.setTop (mkF m 44 #[.val (.long q0), .second, .val (.long q1), .second, .val (.long q2), .second, .val (.int p3), .val (.int p4), .val (.int p5), .val (.int fr), .val (.int bt), .val (.ref b6), .val (.long (own_bits q0 q1 q2 fr)), .second, .unset, .unset] [(.long (own_bits q0 q1 q2 fr))])) _
    refine XS.iload X10.here hx rfl (hb hby at_44) rfl ?_
    show Steps p.tables e below (T10.setTop (mkF m 46 #[.val (.long q0), .second, .val (.long q1), .second, .val (.long q2), .second, .val (.int p3), .val (.int p4), .val (.int p5), .val (.int fr), .val (.int bt), .val (.ref b6), .val (.long (own_bits q0 q1 q2 fr)), .second, .unset, .unset] [(.int bt), (.long (own_bits q0 q1 q2 fr))])) _
    refine XS.lushr X10.here hx rfl (hb hby at_46) rfl ?_
    show Steps p.tables e below (T10.setTop (mkF m 47 #[.val (.long q0), .second, .val (.long q1), .second, .val (.long q2), .second, .val (.int p3), .val (.int p4), .val (.int p5), .val (.int fr), .val (.int bt), .val (.ref b6), .val (.long (own_bits q0 q1 q2 fr)), .second, .unset, .unset] [(.long (((own_bits q0 q1 q2 fr).toUInt64 >>> (bt &&& 0x3f).toInt64.toUInt64).toInt64))])) _
    refine XS.lconst X10.here hx rfl (hb hby at_47) ?_
    show Steps p.tables e below (T10.setTop (mkF m 48 #[.val (.long q0), .second, .val (.long q1), .second, .val (.long q2), .second, .val (.int p3), .val (.int p4), .val (.int p5), .val (.int fr), .val (.int bt), .val (.ref b6), .val (.long (own_bits q0 q1 q2 fr)), .second, .unset, .unset] [(.long (1 : Int64)), (.long (((own_bits q0 q1 q2 fr).toUInt64 >>> (bt &&& 0x3f).toInt64.toUInt64).toInt64))])) _
    refine XS.land X10.here hx rfl (hb hby at_48) rfl ?_
    show Steps p.tables e below (T10.setTop (mkF m 49 #[.val (.long q0), .second, .val (.long q1), .second, .val (.long q2), .second, .val (.int p3), .val (.int p4), .val (.int p5), .val (.int fr), .val (.int bt), .val (.ref b6), .val (.long (own_bits q0 q1 q2 fr)), .second, .unset, .unset] [(.long ((((own_bits q0 q1 q2 fr).toUInt64 >>> (bt &&& 0x3f).toInt64.toUInt64).toInt64) &&& (1 : Int64)))])) _
    refine XS.lstore X10.here hx rfl (hb hby at_49) rfl (l' := #[.val (.long q0), .second, .val (.long q1), .second, .val (.long q2), .second, .val (.int p3), .val (.int p4), .val (.int p5), .val (.int fr), .val (.int bt), .val (.ref b6), .val (.long (own_bits q0 q1 q2 fr)), .second, .val (.long ((((own_bits q0 q1 q2 fr).toUInt64 >>> (bt &&& 0x3f).toInt64.toUInt64).toInt64) &&& (1 : Int64))), .second]) rfl ?_
    show Steps p.tables e below (T10.setTop (mkF m 51 #[.val (.long q0), .second, .val (.long q1), .second, .val (.long q2), .second, .val (.int p3), .val (.int p4), .val (.int p5), .val (.int fr), .val (.int bt), .val (.ref b6), .val (.long (own_bits q0 q1 q2 fr)), .second, .val (.long ((((own_bits q0 q1 q2 fr).toUInt64 >>> (bt &&& 0x3f).toInt64.toUInt64).toInt64) &&& (1 : Int64))), .second] [])) _
    refine XS.lload X10.here hx rfl (hb hby at_51) rfl ?_
    show Steps p.tables e below (T10.setTop (mkF m 53 #[.val (.long q0), .second, .val (.long q1), .second, .val (.long q2), .second, .val (.int p3), .val (.int p4), .val (.int p5), .val (.int fr), .val (.int bt), .val (.ref b6), .val (.long (own_bits q0 q1 q2 fr)), .second, .val (.long ((((own_bits q0 q1 q2 fr).toUInt64 >>> (bt &&& 0x3f).toInt64.toUInt64).toInt64) &&& (1 : Int64))), .second] [(.long ((((own_bits q0 q1 q2 fr).toUInt64 >>> (bt &&& 0x3f).toInt64.toUInt64).toInt64) &&& (1 : Int64)))])) _
    refine XS.lloadN X10.here hx rfl (hb hby at_53) rfl ?_
    show Steps p.tables e below (T10.setTop (mkF m 54 #[.val (.long q0), .second, .val (.long q1), .second, .val (.long q2), .second, .val (.int p3), .val (.int p4), .val (.int p5), .val (.int fr), .val (.int bt), .val (.ref b6), .val (.long (own_bits q0 q1 q2 fr)), .second, .val (.long ((((own_bits q0 q1 q2 fr).toUInt64 >>> (bt &&& 0x3f).toInt64.toUInt64).toInt64) &&& (1 : Int64))), .second] [(.long q0), (.long ((((own_bits q0 q1 q2 fr).toUInt64 >>> (bt &&& 0x3f).toInt64.toUInt64).toInt64) &&& (1 : Int64)))])) _
    refine XS.lloadN X10.here hx rfl (hb hby at_54) rfl ?_
    show Steps p.tables e below (T10.setTop (mkF m 55 #[.val (.long q0), .second, .val (.long q1), .second, .val (.long q2), .second, .val (.int p3), .val (.int p4), .val (.int p5), .val (.int fr), .val (.int bt), .val (.ref b6), .val (.long (own_bits q0 q1 q2 fr)), .second, .val (.long ((((own_bits q0 q1 q2 fr).toUInt64 >>> (bt &&& 0x3f).toInt64.toUInt64).toInt64) &&& (1 : Int64))), .second] [(.long q1), (.long q0), (.long ((((own_bits q0 q1 q2 fr).toUInt64 >>> (bt &&& 0x3f).toInt64.toUInt64).toInt64) &&& (1 : Int64)))])) _
    refine XS.lload X10.here hx rfl (hb hby at_55) rfl ?_
    show Steps p.tables e below (T10.setTop (mkF m 57 #[.val (.long q0), .second, .val (.long q1), .second, .val (.long q2), .second, .val (.int p3), .val (.int p4), .val (.int p5), .val (.int fr), .val (.int bt), .val (.ref b6), .val (.long (own_bits q0 q1 q2 fr)), .second, .val (.long ((((own_bits q0 q1 q2 fr).toUInt64 >>> (bt &&& 0x3f).toInt64.toUInt64).toInt64) &&& (1 : Int64))), .second] [(.long q2), (.long q1), (.long q0), (.long ((((own_bits q0 q1 q2 fr).toUInt64 >>> (bt &&& 0x3f).toInt64.toUInt64).toInt64) &&& (1 : Int64)))])) _
    refine XS.iload X10.here hx rfl (hb hby at_57) rfl ?_
    show Steps p.tables e below (T10.setTop (mkF m 59 #[.val (.long q0), .second, .val (.long q1), .second, .val (.long q2), .second, .val (.int p3), .val (.int p4), .val (.int p5), .val (.int fr), .val (.int bt), .val (.ref b6), .val (.long (own_bits q0 q1 q2 fr)), .second, .val (.long ((((own_bits q0 q1 q2 fr).toUInt64 >>> (bt &&& 0x3f).toInt64.toUInt64).toInt64) &&& (1 : Int64))), .second] [(.int fr), (.long q2), (.long q1), (.long q0), (.long ((((own_bits q0 q1 q2 fr).toUInt64 >>> (bt &&& 0x3f).toInt64.toUInt64).toInt64) &&& (1 : Int64)))])) _
    refine XS.iload X10.here hx rfl (hb hby at_59) rfl ?_
    show Steps p.tables e below (T10.setTop (mkF m 61 #[.val (.long q0), .second, .val (.long q1), .second, .val (.long q2), .second, .val (.int p3), .val (.int p4), .val (.int p5), .val (.int fr), .val (.int bt), .val (.ref b6), .val (.long (own_bits q0 q1 q2 fr)), .second, .val (.long ((((own_bits q0 q1 q2 fr).toUInt64 >>> (bt &&& 0x3f).toInt64.toUInt64).toInt64) &&& (1 : Int64))), .second] [(.int bt), (.int fr), (.long q2), (.long q1), (.long q0), (.long ((((own_bits q0 q1 q2 fr).toUInt64 >>> (bt &&& 0x3f).toInt64.toUInt64).toInt64) &&& (1 : Int64)))])) _
    refine XS.iadd X10.here hx rfl (hb hby at_61) rfl ?_
    show Steps p.tables e below (T10.setTop (mkF m 62 #[.val (.long q0), .second, .val (.long q1), .second, .val (.long q2), .second, .val (.int p3), .val (.int p4), .val (.int p5), .val (.int fr), .val (.int bt), .val (.ref b6), .val (.long (own_bits q0 q1 q2 fr)), .second, .val (.long ((((own_bits q0 q1 q2 fr).toUInt64 >>> (bt &&& 0x3f).toInt64.toUInt64).toInt64) &&& (1 : Int64))), .second] [(.int (fr + bt)), (.long q2), (.long q1), (.long q0), (.long ((((own_bits q0 q1 q2 fr).toUInt64 >>> (bt &&& 0x3f).toInt64.toUInt64).toInt64) &&& (1 : Int64)))])) _
    refine st11 _ ?_
    show Steps p.tables e below (T11.setTop (mkF m 65 #[.val (.long q0), .second, .val (.long q1), .second, .val (.long q2), .second, .val (.int p3), .val (.int p4), .val (.int p5), .val (.int fr), .val (.int bt), .val (.ref b6), .val (.long (own_bits q0 q1 q2 fr)), .second, .val (.long ((((own_bits q0 q1 q2 fr).toUInt64 >>> (bt &&& 0x3f).toInt64.toUInt64).toInt64) &&& (1 : Int64))), .second] [(.long (own_bitOf q0 q1 q2 (fr + bt))), (.long ((((own_bits q0 q1 q2 fr).toUInt64 >>> (bt &&& 0x3f).toInt64.toUInt64).toInt64) &&& (1 : Int64)))])) _
    refine XS.lcmp X11.here hx rfl (hb hby at_65) rfl ?_
    show Steps p.tables e below (T11.setTop (mkF m 66 #[.val (.long q0), .second, .val (.long q1), .second, .val (.long q2), .second, .val (.int p3), .val (.int p4), .val (.int p5), .val (.int fr), .val (.int bt), .val (.ref b6), .val (.long (own_bits q0 q1 q2 fr)), .second, .val (.long ((((own_bits q0 q1 q2 fr).toUInt64 >>> (bt &&& 0x3f).toInt64.toUInt64).toInt64) &&& (1 : Int64))), .second] [(.int (lcmpW ((((own_bits q0 q1 q2 fr).toUInt64 >>> (bt &&& 0x3f).toInt64.toUInt64).toInt64) &&& (1 : Int64)) (own_bitOf q0 q1 q2 (fr + bt))))])) _
    refine XS.ifNo X11.here hx rfl (hb hby at_66) rfl ((if0 _ _).trans (teq ((lw_eq _ _).mpr (own_law _ _ _ fr bt hm1 hm4))).2) ?_
    show Steps p.tables e below (T11.setTop (mkF m 69 #[.val (.long q0), .second, .val (.long q1), .second, .val (.long q2), .second, .val (.int p3), .val (.int p4), .val (.int p5), .val (.int fr), .val (.int bt), .val (.ref b6), .val (.long (own_bits q0 q1 q2 fr)), .second, .val (.long ((((own_bits q0 q1 q2 fr).toUInt64 >>> (bt &&& 0x3f).toInt64.toUInt64).toInt64) &&& (1 : Int64))), .second] [])) _
    refine XS.iconst X11.here hx rfl (hb hby at_69) ?_
    show Steps p.tables e below (T11.setTop (mkF m 70 #[.val (.long q0), .second, .val (.long q1), .second, .val (.long q2), .second, .val (.int p3), .val (.int p4), .val (.int p5), .val (.int fr), .val (.int bt), .val (.ref b6), .val (.long (own_bits q0 q1 q2 fr)), .second, .val (.long ((((own_bits q0 q1 q2 fr).toUInt64 >>> (bt &&& 0x3f).toInt64.toUInt64).toInt64) &&& (1 : Int64))), .second] [(.int (1 : Int32))])) _
    refine XS.goto X11.here hx rfl (pc0 := 70) (pc' := 74) rfl (hb hby at_70) (by decide) (by decide) ?_
    show Steps p.tables e below (T11.setTop (mkF m 74 #[.val (.long q0), .second, .val (.long q1), .second, .val (.long q2), .second, .val (.int p3), .val (.int p4), .val (.int p5), .val (.int fr), .val (.int bt), .val (.ref b6), .val (.long (own_bits q0 q1 q2 fr)), .second, .val (.long ((((own_bits q0 q1 q2 fr).toUInt64 >>> (bt &&& 0x3f).toInt64.toUInt64).toInt64) &&& (1 : Int64))), .second] [(.int (1 : Int32))])) _
    exact retN X11 hx (t := .boolean) Bd.returns (by simp) (hb hby at_74) hr
  · show Q0 Z q0 q1 q2 p3 p4 p5 h0 n0 _ T11.heap _
    rw [e11q]
    exact ⟨rfl, N11⟩
set_option maxRecDepth 65536 in
set_option maxHeartbeats 40000000 in
theorem comes_1 {Post : Tables → Env → Array Value → State → Outcome → State → Prop} (hpost : ∀ tb e args s v u, (limb_1_1.after args s (.returned v) u = true ∧ limb_1_2.after args s (.returned v) u = true ∧ True) → FrameEnd s (.returned v) u (Jvm.fieldLocs frame_1_writes args s ++ Jvm.arrayLocs frame_1_arrays args s ++ Jvm.staticLocs frame_1_statics s) 16 128 → Post tb e args s (.returned v) u) :
    ArmFor flags0 classFile x code maxLocals ret World_1 tables_1 room_1 Calls_1 rest_1 Pre_1 Post := by
  intro l hfl _ _ p e ha hc hk s m args below hf hA hF happ hP
  obtain ⟨hcalls, hrest, hpre⟩ := hP
  obtain ⟨-, -, -, hnamed, -, -, -, hat⟩ := (Spec.applies_iff hf).mp happ
  obtain ⟨hg, hn⟩ := and_e (Cond.before_iff.mp (show (Jvm.Cond.and given_1 narrow_1).before args s = true from hpre))
  obtain ⟨g1, g2⟩ := and_e hg
  obtain ⟨g3, g4⟩ := and_e g2
  obtain ⟨g5, g6⟩ := and_e g4
  obtain ⟨g7, g8⟩ := and_e g6
  obtain ⟨g9, g10⟩ := and_e g8
  obtain ⟨g11, g12⟩ := and_e g10
  obtain ⟨w0, w1, w2, w3, w4, w5, rfl⟩ : ∃ w0 w1 w2 w3 w4 w5 : Value, args = #[w0, w1, w2, w3, w4, w5] := by
    have hs : args.size = 6 := by simpa [Cond.value, given_1] using g1
    obtain ⟨L⟩ := args
    match L, hs with
    | [w0, w1, w2, w3, w4, w5], _ => exact ⟨w0, w1, w2, w3, w4, w5, rfl⟩
  have hw := fun d (hd : d ∈ tables_1) => atoms_spec (ws := Jvm.Cond.code x code maxLocals ret :: tables_1) hat d (List.mem_cons_of_mem _ hd)
  have hfit : Fit s := fun {y c} hc i hi => by
    obtain ⟨ha, rfl⟩ := Array.getElem?_eq_some_iff.mp hc
    have q := List.all_eq_true.mp ((Array.all_eq_true_iff_forall_mem.mp hF) _ (Array.getElem_mem ha)) i (List.mem_range.mpr hi)
    simpa [Array.getElem?_eq_getElem hi] using q
  obtain ⟨i0, ei0⟩ := isL_v g3
  obtain rfl : w0 = (.long i0) := Option.some.inj ei0
  obtain ⟨i1, ei1⟩ := isL_v g5
  obtain rfl : w1 = (.long i1) := Option.some.inj ei1
  obtain ⟨i2, ei2⟩ := isL_v g7
  obtain rfl : w2 = (.long i2) := Option.some.inj ei2
  obtain ⟨i3, ei3⟩ := is_v g9
  obtain rfl : w3 = (.int i3) := Option.some.inj ei3
  obtain ⟨i4, ei4⟩ := is_v g11
  obtain rfl : w4 = (.int i4) := Option.some.inj ei4
  obtain ⟨i5, ei5⟩ := is_v g12
  obtain rfl : w5 = (.int i5) := Option.some.inj ei5
  obtain ⟨n, o, h1, h2, h3, _, L, rfl, ⟨rfl, N⟩, hq⟩ := rm0 l s _ hw tables_1 i0 i1 i2 i3 i4 i5  s.heap s.heap.size (Nat.le_refl _)  p e ha hc hk s m _ below hf ((Spec.applies_iff_loose hf).mp happ).1 ⟨rfl, State.Warmed39.refl s, rfl⟩ trivial
  refine ⟨n, _, h1, h2, h3, hpost _ _ _ _ _ _ ⟨Cond.after_iff.mpr rfl, Cond.after_iff.mpr (eq_i res_at (Term.int_eval (1)) rfl), trivial⟩ ⟨hq.1, hq.2.1, (hq.2.2.sift fun y hy => Or.inr (N y hy)).mono (by decide) (by decide)⟩⟩
theorem main_1_1 : Claimed_1_1 := comes_1 fun _ _ _ _ _ _ h hF => ⟨h.1, hF⟩
theorem main_1_2 : Claimed_1_2 := comes_1 fun _ _ _ _ _ _ h hF => ⟨h.2.1, hF⟩
end Jvm.Pilot.@@N@@
namespace Jvm.Pilot.@@N@@
open Jvm Jvm.ClassFile Sem Op Lib Jvm.Free Jvm.Stand Jvm.Pilot.@@N@@.Jvm.D
/-! MADE BY PROGRAM (witnessworld.py) out of the Statement's table words and the real class files: 10 classes; the members and pool entries that the words name. The judged class is class 1, her method 2. -/
namespace start1
open Jvm.ClassFile
def u (s : String) : CpInfo := .utf8 (stringToUtf16 s)
/-- a pool by its gaps: so many unusable entries, then the entry; so many at the end -/
def gap : Nat → List CpInfo → List CpInfo
  | 0, r => r
  | n + 1, r => .unusable :: gap n r
def poolList (es : List (Nat × CpInfo)) (last : Nat) : List CpInfo := es.foldr (fun e r => gap e.1 (e.2 :: r)) (gap last [])
def pool (es : List (Nat × CpInfo)) (last : Nat) : Array CpInfo := ⟨poolList es last⟩
def fileOf (pool : Array CpInfo) (this : Nat) (attrs : Array Attribute := #[]) (ms : Array MethodInfo := #[]) (fl : Nat := 33) (sup : Nat := 0) (ifs : Array Nat := #[]) (fds : Array FieldInfo := #[]) : ClassFile where
  minorVersion := 0
  majorVersion := 65
  constantPool := pool
  accessFlags := fl
  thisClass := this
  superClass := sup
  interfaces := ifs
  fields := fds
  methods := ms
  attributes := attrs
def plain (name : String) (sup : Option ClassId) : Class where
  name := name
  kind := .ordinary
  loader := none
  accessFlags := 33
  super := sup
  interfaces := #[]
  cf := none
  fields := #[]
  methods := #[]
  instanceTypes := #[]
  staticTypes := #[]
  resolved := #[]
  callSites := []
  init := .initialized
  statics := none
  mirror := none

def pool0 : Array CpInfo := pool [(5, u "<init>"), (0, u "()V"), (1, .class_ 10), (1, u "java/lang/Object")] 113

def k0c0 : Code := { maxStack := 0, maxLocals := 1, code := object_method_1_code, exceptionTable := #[], attributes := #[] }
def k0m0 : Method := { name := "<init>", desc := "()V", sig := { parameters := [], returnType := none }, accessFlags := 1, code := some k0c0 }
/-- java/lang/Object -/
def k0 : Class := { plain "java/lang/Object" none with
  accessFlags := 33
  interfaces := #[]
  cf := some (fileOf pool0 8 #[] #[{ accessFlags := 1, nameIndex := 5, descriptorIndex := 6, attributes := #[] }] 33 0 #[] #[])
  fields := #[]
  methods := #[k0m0]
  instanceTypes := #[]
  staticTypes := #[]
  resolved := Array.replicate 124 none
  statics := none }

def pool1 : Array CpInfo := pool [(2, .class_ 4), (1, u "java/lang/Object"), (0, u "<init>"), (0, u "()V"), (0, .integer 2147483647), (0, .class_ 9), (0, u "shale/PowersOfTen$Product"), (0, .methodref 8 11), (0, .nameAndType 5 12), (0, u "(JJJI)V"), (0, .methodref 8 14), (0, .nameAndType 15 16), (0, u "bitsFrom"), (0, u "(I)J"), (0, .methodref 18 19), (0, .class_ 20), (0, .nameAndType 21 22), (0, u "shale/ProductBitsFromPinLaw"), (0, u "bitOf"), (0, u "(JJJI)J"), (3, u "law"), (0, u "(JJJIII)Z")] 6

def k1m0 : Method := { name := "<init>", desc := "()V", sig := { parameters := [], returnType := none }, accessFlags := 2, code := none }
def k1c1 : Code := { maxStack := 4, maxLocals := 7, code := method_2_code, exceptionTable := #[], attributes := #[] }
def k1m1 : Method := { name := "bitOf", desc := "(JJJI)J", sig := { parameters := [.long, .long, .long, .int], returnType := some .long }, accessFlags := 10, code := some k1c1 }
def k1c2 : Code := { maxStack := 10, maxLocals := 16, code := code, exceptionTable := #[], attributes := #[] }
def k1m2 : Method := { name := "law", desc := "(JJJIII)Z", sig := { parameters := [.long, .long, .long, .int, .int, .int], returnType := some .boolean }, accessFlags := 9, code := some k1c2 }
/-- shale/ProductBitsFromPinLaw -/
def k1 : Class := { plain "shale/ProductBitsFromPinLaw" (some 0) with
  accessFlags := 49
  interfaces := #[]
  cf := some (fileOf pool1 18 #[] #[{ accessFlags := 2, nameIndex := 5, descriptorIndex := 6, attributes := #[] }, { accessFlags := 10, nameIndex := 21, descriptorIndex := 22, attributes := #[] }, { accessFlags := 9, nameIndex := 26, descriptorIndex := 27, attributes := #[] }] 49 2 #[] #[])
  fields := #[]
  methods := #[k1m0, k1m1, k1m2]
  instanceTypes := #[]
  staticTypes := #[]
  resolved := Array.replicate 34 none
  statics := none }

def pool2 : Array CpInfo := pool [(1, .methodref 2 3), (0, .class_ 4), (0, .nameAndType 5 6), (0, u "java/lang/Object"), (0, u "<init>"), (0, u "()V"), (0, .class_ 8), (0, u "java/lang/Record")] 13

def k2c0 : Code := { maxStack := 1, maxLocals := 1, code := jdk_30_method_1_code, exceptionTable := #[], attributes := #[] }
def k2m0 : Method := { name := "<init>", desc := "()V", sig := { parameters := [], returnType := none }, accessFlags := 4, code := some k2c0 }
/-- java/lang/Record -/
def k2 : Class := { plain "java/lang/Record" (some 0) with
  accessFlags := 1057
  interfaces := #[]
  cf := some (fileOf pool2 7 #[] #[{ accessFlags := 4, nameIndex := 5, descriptorIndex := 6, attributes := #[] }] 1057 2 #[] #[])
  fields := #[]
  methods := #[k2m0]
  instanceTypes := #[]
  staticTypes := #[]
  resolved := Array.replicate 22 none
  statics := none }

def pool3 : Array CpInfo := pool [(1, .methodref 2 3), (0, .class_ 4), (0, .nameAndType 5 6), (0, u "java/lang/Record"), (0, u "<init>"), (0, u "()V"), (0, .fieldref 8 9), (0, .class_ 10), (0, .nameAndType 11 12), (0, u "shale/PowersOfTen$Product"), (0, u "high"), (0, u "J"), (0, .fieldref 8 14), (0, .nameAndType 15 12), (0, u "middle"), (0, .fieldref 8 17), (0, .nameAndType 18 12), (0, u "low"), (0, .fieldref 8 20), (0, .nameAndType 21 22), (0, u "exponent"), (0, u "I"), (12, u "(JJJI)V"), (3, u "bitsFrom"), (0, u "(I)J"), (8, .class_ 50), (0, u "shale/PowersOfTen")] 22

def k3c0 : Code := { maxStack := 3, maxLocals := 8, code := prog_171_method_1_code, exceptionTable := #[], attributes := #[] }
def k3m0 : Method := { name := "<init>", desc := "(JJJI)V", sig := { parameters := [.long, .long, .long, .int], returnType := none }, accessFlags := 0, code := some k3c0 }
def k3c1 : Code := { maxStack := 6, maxLocals := 7, code := prog_171_method_2_code, exceptionTable := #[], attributes := #[] }
def k3m1 : Method := { name := "bitsFrom", desc := "(I)J", sig := { parameters := [.int], returnType := some .long }, accessFlags := 0, code := some k3c1 }
/-- shale/PowersOfTen$Product -/
def k3 : Class := { plain "shale/PowersOfTen$Product" (some 2) with
  accessFlags := 48
  interfaces := #[]
  cf := some (fileOf pool3 8 #[.nestHost 49] #[{ accessFlags := 0, nameIndex := 5, descriptorIndex := 35, attributes := #[] }, { accessFlags := 0, nameIndex := 39, descriptorIndex := 40, attributes := #[] }] 48 2 #[] #[{ accessFlags := 18, nameIndex := 11, descriptorIndex := 12, attributes := #[] }, { accessFlags := 18, nameIndex := 15, descriptorIndex := 12, attributes := #[] }, { accessFlags := 18, nameIndex := 18, descriptorIndex := 12, attributes := #[] }, { accessFlags := 18, nameIndex := 21, descriptorIndex := 22, attributes := #[] }])
  fields := #[{ name := "high", type := .long, accessFlags := 18, slot := 0, constantValue := 0 }, { name := "middle", type := .long, accessFlags := 18, slot := 1, constantValue := 0 }, { name := "low", type := .long, accessFlags := 18, slot := 2, constantValue := 0 }, { name := "exponent", type := .int, accessFlags := 18, slot := 3, constantValue := 0 }]
  methods := #[k3m0, k3m1]
  instanceTypes := #[.long, .long, .long, .int]
  staticTypes := #[]
  resolved := Array.replicate 73 none
  statics := none }

def pool4 : Array CpInfo := pool [(1, u "java/lang/Cloneable"), (0, .class_ 1), (0, u "java/lang/Object"), (0, .class_ 3)] 3

/-- java/lang/Cloneable -/
def k4 : Class := { plain "java/lang/Cloneable" (some 0) with
  accessFlags := 1537
  interfaces := #[]
  cf := some (fileOf pool4 2 #[] #[] 1537 4 #[] #[])
  fields := #[]
  methods := #[]
  instanceTypes := #[]
  staticTypes := #[]
  resolved := Array.replicate 8 none
  statics := none }

def pool5 : Array CpInfo := pool [(1, u "java/io/Serializable"), (0, .class_ 1), (0, u "java/lang/Object"), (0, .class_ 3)] 3

/-- java/io/Serializable -/
def k5 : Class := { plain "java/io/Serializable" (some 0) with
  accessFlags := 1537
  interfaces := #[]
  cf := some (fileOf pool5 2 #[] #[] 1537 4 #[] #[])
  fields := #[]
  methods := #[]
  instanceTypes := #[]
  staticTypes := #[]
  resolved := Array.replicate 8 none
  statics := none }

/-- the primitive byte -/
def k6 : Class := { plain "byte" none with kind := .primitive 'B', accessFlags := 0x411 }
/-- [B -/
def k7 : Class := { plain "[B" (some 0) with kind := .array 6 .byte, interfaces := #[4, 5], accessFlags := 1041 }

/-- the primitive int -/
def k8 : Class := { plain "int" none with kind := .primitive 'I', accessFlags := 0x411 }
/-- [I -/
def k9 : Class := { plain "[I" (some 0) with kind := .array 8 .int, interfaces := #[4, 5], accessFlags := 1041 }

def heap : Heap := #[]
def classes : Array Class := #[k0, k1, k2, k3, k4, k5, k6, k7, k8, k9]
def interned : List (Array UInt16 × Addr) := []
def slotsUsed : Nat := 0
def theMethod : MethodId := ⟨1, 2⟩
def args0 : Array Value := #[.long 1, .long 2, .long 3, .int 4, .int 5, .int 6]
def aboutOver (below : List Frame) : State where
  vm := { classes := classes, interned := interned.toArray }
  heap := heap
  slotsUsed := slotsUsed
  threads := #[{ frames := .invoking theMethod args0 :: below }]
def below0 : List Frame := [.native { method := ⟨0, 0⟩, args := #[] }]
def about1 : State := aboutOver below0
def p0 : Program := .bare "" "" ""
def e0 : Env := launch0.env 0 0 0
theorem w_frames : about1.frames = Frame.invoking theMethod args0 :: below0 := rfl
set_option maxRecDepth 65536 in
theorem w_args : argsFit about1.vm theMethod args0 = true := by decide +kernel
set_option maxRecDepth 65536 in
theorem w_heap : heapFits about1 = true := by decide +kernel
set_option maxRecDepth 65536 in
theorem w_runnable : about1.curStatus? = some .runnable := by decide +kernel
set_option maxRecDepth 65536 in
theorem w_alone : about1.alone = true := by decide +kernel
set_option maxRecDepth 65536 in
theorem w_named : about1.methodNamed? x = some theMethod := by decide +kernel
set_option maxRecDepth 65536 in
theorem w_hears : about1.hears theMethod below0 = true := by decide +kernel
set_option maxRecDepth 65536 in
theorem w_ripe : about1.ripe theMethod args0 below0 = true := by decide +kernel
theorem w_running : about1.status = .running := rfl
set_option maxRecDepth 65536 in
theorem w_room : about1.hasRoom e0.platform room_1 = true :=
  launch0.hasRoom_least _ room_1 (by decide +kernel) (by decide +kernel) (by decide +kernel) (by decide +kernel) (by decide +kernel) (by decide +kernel)
theorem allAtoms_all (ts : List Jvm.Cond) (a : Array Jvm.Value) (st : Jvm.State) : (allAtoms ts).before a st = ts.all (fun c => c.before a st) := by
  induction ts with
  | nil => rfl
  | cons c t ih =>
    show (Jvm.Cond.and c (allAtoms t)).before a st = _
    rw [Jvm.Cond.before_and, ih, List.all_cons]
def words1 : List Jvm.Cond := Jvm.Cond.code x code maxLocals ret :: tables_1
/-- a 'code' word, met by the world's own term for the bytes: nothing is compared byte by byte -/
theorem code_word {y : MethodName} {bytes : ByteArray} {mx : Nat} {rt : Option FieldType} {a : Array Value} {s : State} {m : MethodId} {meth : Method} {c : Code} (h1 : s.methodNamed? y = some m) (h2 : s.vm.method? m = some meth) (h3 : meth.code = some c) (h4 : c.code = bytes)
    (h5 : (c.maxLocals == mx && c.exceptionTable.isEmpty && decide (c.maxStack ≤ mostOperands) && decide (meth.sig.returnType = rt) && !meth.locks && decide (parseMethodDescriptor y.desc = some meth.sig)) = true) : (Jvm.Cond.code y bytes mx rt).before a s = true := by
  simp only [Bool.and_eq_true, beq_iff_eq, Bool.not_eq_true', decide_eq_true_eq] at h5
  obtain ⟨⟨⟨⟨⟨g1, g2⟩, g3⟩, g4⟩, g5⟩, g6⟩ := h5
  simp [Cond.before, Cond.holds, Cond.value, h1, h2, h3, h4, g1, g2, g3, g4, g5, g6]
def isCode : Jvm.Cond → Bool
  | .code _ _ _ _ => true
  | _ => false
theorem all_split {L : List Jvm.Cond} {P : Jvm.Cond → Bool} (h1 : L.all (fun c => isCode c || P c) = true) (h2 : ∀ c ∈ L.filter isCode, P c = true) : L.all P = true := by
  refine List.all_eq_true.mpr fun c hc => ?_
  have h := List.all_eq_true.mp h1 c hc
  rcases Bool.eq_false_or_eq_true (isCode c) with hi | hi
  · exact h2 c (List.mem_filter.mpr ⟨hc, hi⟩)
  · simpa [hi] using h
set_option maxRecDepth 65536 in
theorem w_c0 : (Jvm.Cond.code x code maxLocals ret).before args0 about1 = true := code_word (m := ⟨1, 2⟩) (meth := k1m2) (c := k1c2) (by decide +kernel) rfl rfl rfl (by decide +kernel)
set_option maxRecDepth 65536 in
theorem w_c1 : (Jvm.Cond.code ({ cls := "shale/PowersOfTen$Product", name := "<init>", desc := "(JJJI)V" } : Jvm.MethodName) prog_171_method_1_code (8 : Nat) (Option.none : Option Jvm.ClassFile.FieldType)).before args0 about1 = true := code_word (m := ⟨3, 0⟩) (meth := k3m0) (c := k3c0) (by decide +kernel) rfl rfl rfl (by decide +kernel)
set_option maxRecDepth 65536 in
theorem w_c2 : (Jvm.Cond.code ({ cls := "java/lang/Record", name := "<init>", desc := "()V" } : Jvm.MethodName) jdk_30_method_1_code (1 : Nat) (Option.none : Option Jvm.ClassFile.FieldType)).before args0 about1 = true := code_word (m := ⟨2, 0⟩) (meth := k2m0) (c := k2c0) (by decide +kernel) rfl rfl rfl (by decide +kernel)
set_option maxRecDepth 65536 in
theorem w_c3 : (Jvm.Cond.code ({ cls := "java/lang/Object", name := "<init>", desc := "()V" } : Jvm.MethodName) object_method_1_code (1 : Nat) (Option.none : Option Jvm.ClassFile.FieldType)).before args0 about1 = true := code_word (m := ⟨0, 0⟩) (meth := k0m0) (c := k0c0) (by decide +kernel) rfl rfl rfl (by decide +kernel)
set_option maxRecDepth 65536 in
theorem w_c4 : (Jvm.Cond.code ({ cls := "shale/PowersOfTen$Product", name := "bitsFrom", desc := "(I)J" } : Jvm.MethodName) prog_171_method_2_code (7 : Nat) (Option.some Jvm.ClassFile.FieldType.long)).before args0 about1 = true := code_word (m := ⟨3, 1⟩) (meth := k3m1) (c := k3c1) (by decide +kernel) rfl rfl rfl (by decide +kernel)
set_option maxRecDepth 65536 in
theorem w_c5 : (Jvm.Cond.code ({ cls := "shale/ProductBitsFromPinLaw", name := "bitOf", desc := "(JJJI)J" } : Jvm.MethodName) method_2_code (7 : Nat) (Option.some Jvm.ClassFile.FieldType.long)).before args0 about1 = true := code_word (m := ⟨1, 1⟩) (meth := k1m1) (c := k1c1) (by decide +kernel) rfl rfl rfl (by decide +kernel)
def codes1 : List Jvm.Cond := [Jvm.Cond.code x code maxLocals ret, Jvm.Cond.code ({ cls := "shale/PowersOfTen$Product", name := "<init>", desc := "(JJJI)V" } : Jvm.MethodName) prog_171_method_1_code (8 : Nat) (Option.none : Option Jvm.ClassFile.FieldType), Jvm.Cond.code ({ cls := "java/lang/Record", name := "<init>", desc := "()V" } : Jvm.MethodName) jdk_30_method_1_code (1 : Nat) (Option.none : Option Jvm.ClassFile.FieldType), Jvm.Cond.code ({ cls := "java/lang/Object", name := "<init>", desc := "()V" } : Jvm.MethodName) object_method_1_code (1 : Nat) (Option.none : Option Jvm.ClassFile.FieldType), Jvm.Cond.code ({ cls := "shale/PowersOfTen$Product", name := "bitsFrom", desc := "(I)J" } : Jvm.MethodName) prog_171_method_2_code (7 : Nat) (Option.some Jvm.ClassFile.FieldType.long), Jvm.Cond.code ({ cls := "shale/ProductBitsFromPinLaw", name := "bitOf", desc := "(JJJI)J" } : Jvm.MethodName) method_2_code (7 : Nat) (Option.some Jvm.ClassFile.FieldType.long)]
set_option maxRecDepth 65536 in
theorem codes_eq : words1.filter isCode = codes1 := rfl
theorem w_codes : ∀ c ∈ words1.filter isCode, c.before args0 about1 = true := by
  rw [codes_eq]
  intro c hc
  simp only [codes1, List.mem_cons, List.not_mem_nil, or_false] at hc
  rcases hc with rfl | rfl | rfl | rfl | rfl | rfl
  · exact w_c0
  · exact w_c1
  · exact w_c2
  · exact w_c3
  · exact w_c4
  · exact w_c5
set_option maxRecDepth 65536 in
theorem w_t1 : (words1.take 24).all (fun c => isCode c || c.before args0 about1) = true := by decide +kernel
set_option maxRecDepth 65536 in
theorem w_t2 : (words1.drop 24).all (fun c => isCode c || c.before args0 about1) = true := by decide +kernel
theorem w_tables : (allAtoms (Jvm.Cond.code x code maxLocals ret :: tables_1)).before args0 about1 = true := by
  rw [allAtoms_all]
  show words1.all (fun c => c.before args0 about1) = true
  refine all_split ?_ w_codes
  rw [← List.take_append_drop 24 words1, List.all_append, w_t1, w_t2]
  rfl
set_option maxRecDepth 65536 in
theorem w_case : (Jvm.Cond.and given_1 narrow_1).before args0 about1 = true := by decide +kernel
theorem w_applies : (headSpec (Jvm.Cond.code x code maxLocals ret :: tables_1) room_1).applies x e0.platform about1 = true :=
  (Spec.applies_iff w_frames).mpr ⟨w_running, w_runnable, w_alone, w_named, w_hears, w_ripe, w_room, w_tables⟩
theorem atStart : AtStart classFile x code maxLocals ret World_1 tables_1 room_1 Calls_1 rest_1 Pre_1 launch0 p0 e0 about1 theMethod args0 below0 :=
  ⟨lists_1, trivial, launch0.admits_env _ _ _, launch0.least_env, fairChoices_fair.cas, fairChoices_fair.clock, w_frames, w_args, w_heap, w_applies, trivial, trivial, w_case⟩
end start1
theorem witness_1 : WitnessClaimed_1 := ⟨start1.p0, start1.e0, start1.about1, start1.theMethod, start1.args0, start1.below0, start1.atStart⟩
end Jvm.Pilot.@@N@@
