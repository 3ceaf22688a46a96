import JvmDerived
import JvmDerived.Pilot.@@N@@Statement
import JvmDerived.Pilot.@@N@@Code
set_option linter.unusedVariables false
set_option linter.unusedSimpArgs false
namespace Jvm.RoadKit
open Sem ClassFile Op Lib Jvm.Stand Jvm.Free Jvm.LawKit
section New
variable {p : Program} {l : Launch} {e : Env} {R : Room} {s : State} {m : MethodId} {args : Array Value} {below : List Frame} {meth : Method} {c : Code} {T : State} {locs : List Loc} {cells slots : Nat}
theorem retI (X : Stand p l e R s m args below meth c T locs cells slots) (hx : p.tables.exec = Jvm.exec) {pc : Nat} {Ls : Array Slot} {z : Int32} {rest : List Value} (hret : meth.sig.returnType = some .int) (hd : decode c.code pc = .ok (.ireturn, 1)) {fs : List Frame}
    (hl : ∀ (f : JFrame) (acts : List Action), f.method = m → f.locked = none → f.entered = [] → (doReturn e (T.setTop f) acts (some (.int z))).1 = T.setFrames fs) : Steps p.tables e below (T.setTop (mkF m pc Ls (.int z :: rest))) (T.setFrames fs) := by
  have hm' : T.vm.method? m = some meth := X.method'
  have hn : narrow .int (.int z) = .int z := rfl
  show Steps p.tables e below (T.setTop { method := m, pc := pc, locals := Ls, stack := _ :: rest, locked := none }) _
  jvm_step X.here [X.here.top, hx, hd, hm', hret, hn]
  first | (intro acts; rw [hl _ acts rfl rfl rfl]) | rw [hl _ _ rfl rfl rfl]
  exact Steps.refl _
end New
end Jvm.RoadKit
namespace Jvm.Pilot.@@N@@
open Jvm Jvm.ClassFile Sem Op Lib Jvm.Free Jvm.Stand Jvm.LawKit Jvm.RoadKit Bundle Jvm.Pilot.@@N@@.Jvm.D
def own_us (x : Int64) (k : Int32) : Int64 := (x.toUInt64 >>> (k &&& 0x3f).toInt64.toUInt64).toInt64
def own_pack (a : Int64) (x : Int32) : Int64 := ((a <<< ((16 : Int32) &&& 0x3f).toInt64) ||| x.toInt64) ^^^ (-9223372036854775808 : Int64)
def own_hashOf (p : Int64) : Int64 := own_us (p ^^^ (-9223372036854775808 : Int64)) (16 : Int32)
def own_indexOf (p : Int64) : Int32 := p.toInt32 &&& (65535 : Int32)
theorem own_flip (z : Int64) : (z ^^^ (-9223372036854775808 : Int64)).toInt % 9223372036854775808 = z.toInt % 9223372036854775808 := by
  have h1 : (z ^^^ (-9223372036854775808 : Int64)) &&& (9223372036854775807 : Int64) = z &&& (9223372036854775807 : Int64) := by
    apply Int64.toBitVec_inj.mp
    rw [Int64.toBitVec_and, Int64.toBitVec_and, Int64.toBitVec_xor]
    apply BitVec.eq_of_getLsbD_eq
    intro i hi
    have h0 : ((-9223372036854775808 : Int64).toBitVec &&& (9223372036854775807 : Int64).toBitVec) = 0#64 := by decide
    have h2 := congrArg (fun b : BitVec 64 => b.getLsbD i) h0
    simp only [BitVec.getLsbD_and, BitVec.getLsbD_zero] at h2
    simp only [BitVec.getLsbD_and, BitVec.getLsbD_xor]
    revert h2
    generalize (-9223372036854775808 : Int64).toBitVec.getLsbD i = p
    generalize (9223372036854775807 : Int64).toBitVec.getLsbD i = q
    generalize z.toBitVec.getLsbD i = r
    cases p <;> cases q <;> cases r <;> decide
  have h3 := c_maskL z (9223372036854775807 : Int64) 63 (by decide) (by decide)
  have h4 := c_maskL (z ^^^ (-9223372036854775808 : Int64)) (9223372036854775807 : Int64) 63 (by decide) (by decide)
  rw [h1, h3] at h4
  exact h4.symm
theorem own_flipI (z : Int64) : (0 ≤ z.toInt → (z ^^^ (-9223372036854775808 : Int64)).toInt = z.toInt - 9223372036854775808) ∧ (z.toInt < 0 → (z ^^^ (-9223372036854775808 : Int64)).toInt = z.toInt + 9223372036854775808) := by
  have h1 := own_flip z
  have h2 := c_xorSL z (-9223372036854775808 : Int64)
  have h3 : (-9223372036854775808 : Int64).toInt = -9223372036854775808 := by decide
  rw [h3] at h2
  have h4 := Int64.toInt_lt z
  have h5 := Int64.le_toInt z
  have h6 := Int64.toInt_lt (z ^^^ (-9223372036854775808 : Int64))
  have h7 := Int64.le_toInt (z ^^^ (-9223372036854775808 : Int64))
  generalize (z ^^^ (-9223372036854775808 : Int64)).toInt = y at *
  generalize z.toInt = w at *
  omega
/-- the word ahead of the flip -/
theorem own_word (a : Int64) (x : Int32) (ha : 0 ≤ a.toInt ∧ a.toInt < 281474976710656) (hx : 0 ≤ x.toInt ∧ x.toInt < 65536) :
    (((a <<< ((16 : Int32) &&& 0x3f).toInt64) ||| x.toInt64).toInt - (a.toInt * 65536 + x.toInt)) % 18446744073709551616 = 0 := by
  have h1 := c_lshl a (16 : Int32) 16 (by decide)
  have e1 : ((2 ^ 16 : Nat) : Int) = 65536 := by decide
  rw [e1] at h1
  have h2 := c_i2l x
  generalize (a <<< ((16 : Int32) &&& 0x3f).toInt64) = A at *
  have h3 := c_orL A x.toInt64 16 (by decide) 65536 (by decide) (by omega) (by omega) (by omega)
  generalize (A ||| x.toInt64).toInt = y at *
  omega
theorem own_pint (a : Int64) (x : Int32) (ha : 0 ≤ a.toInt ∧ a.toInt < 281474976710656) (hx : 0 ≤ x.toInt ∧ x.toInt < 65536) :
    (own_pack a x).toInt = a.toInt * 65536 + x.toInt - 9223372036854775808 := by
  have h1 := own_word a x ha hx
  unfold own_pack
  generalize ((a <<< ((16 : Int32) &&& 0x3f).toInt64) ||| x.toInt64) = z at *
  have h2 := own_flipI z
  have h4 := Int64.toInt_lt z
  have h5 := Int64.le_toInt z
  omega
theorem own_hash (a : Int64) (x : Int32) (ha : 0 ≤ a.toInt ∧ a.toInt < 281474976710656) (hx : 0 ≤ x.toInt ∧ x.toInt < 65536) : own_hashOf (own_pack a x) = a := by
  have h1 := own_pint a x ha hx
  unfold own_hashOf own_us
  have h2 := c_lushr (own_pack a x ^^^ (-9223372036854775808 : Int64)) (16 : Int32) 16 (by decide) (by decide)
  have e1 : ((2 ^ 16 : Nat) : Int) = 65536 := by decide
  rw [e1] at h2
  have h3 := own_flipI (own_pack a x)
  apply Int64.toInt_inj.mp
  rw [h2]
  omega
theorem own_index (a : Int64) (x : Int32) (ha : 0 ≤ a.toInt ∧ a.toInt < 281474976710656) (hx : 0 ≤ x.toInt ∧ x.toInt < 65536) : own_indexOf (own_pack a x) = x := by
  have h1 := own_pint a x ha hx
  have h2 := c_l2i (own_pack a x)
  have h3 := c_mask (own_pack a x).toInt32 (65535 : Int32) 16 (by decide) (by decide)
  have e1 : ((2 ^ 16 : Nat) : Int) = 65536 := by decide
  rw [e1] at h3
  unfold own_indexOf
  apply Int32.toInt_inj.mp
  rw [h3]
  omega
theorem own_plt (a b : Int64) (x y : Int32) (ha : 0 ≤ a.toInt ∧ a.toInt < 281474976710656) (hb : 0 ≤ b.toInt ∧ b.toInt < 281474976710656) (hx : 0 ≤ x.toInt ∧ x.toInt < 65536) (hy : 0 ≤ y.toInt ∧ y.toInt < 65536) : own_pack a x < own_pack b y ↔ a < b ∨ (a = b ∧ x < y) := by
  rw [Int64.lt_iff_toInt_lt, own_pint a x ha hx, own_pint b y hb hy, Int64.lt_iff_toInt_lt, ← Int64.toInt_inj, Int32.lt_iff_toInt_lt]
  omega
theorem own_peq (a b : Int64) (x y : Int32) (ha : 0 ≤ a.toInt ∧ a.toInt < 281474976710656) (hb : 0 ≤ b.toInt ∧ b.toInt < 281474976710656) (hx : 0 ≤ x.toInt ∧ x.toInt < 65536) (hy : 0 ≤ y.toInt ∧ y.toInt < 65536) : own_pack a x = own_pack b y ↔ (a = b ∧ x = y) := by
  rw [← Int64.toInt_inj, own_pint a x ha hx, own_pint b y hb hy, ← Int64.toInt_inj, ← Int32.toInt_inj]
  omega
theorem own_neL {a b : Int64} (h : a < b) : ¬ a = b := fun q => by rw [q, Int64.lt_iff_toInt_lt] at h; omega
theorem own_neI {a b : Int32} (h : a < b) : ¬ a = b := fun q => by rw [q, Int32.lt_iff_toInt_lt] at h; omega
theorem own_mL (h : Int64) : 0 ≤ (h &&& (281474976710655 : Int64)).toInt ∧ (h &&& (281474976710655 : Int64)).toInt < 281474976710656 := by
  have h3 := c_maskL h (281474976710655 : Int64) 48 (by decide) (by decide)
  have e1 : ((2 ^ 48 : Nat) : Int) = 281474976710656 := by decide
  rw [e1] at h3
  omega
theorem own_mI (h : Int32) : 0 ≤ (h &&& (65535 : Int32)).toInt ∧ (h &&& (65535 : Int32)).toInt < 65536 := by
  have h3 := c_mask h (65535 : Int32) 16 (by decide) (by decide)
  have e1 : ((2 ^ 16 : Nat) : Int) = 65536 := by decide
  rw [e1] at h3
  omega
theorem pn_0 : plainName "com/example/sarasvati/sarasvati/dedup/IndexRun" = true := by first | (simp [plainName, overriddenIn]; done) | decide +kernel
theorem pn_1 : plainName "com/example/sarasvati/sarasvati/dedup/IndexRunPackPinLaw" = true := by first | (simp [plainName, overriddenIn]; done) | decide +kernel
theorem pd_0 : parseMethodDescriptor "(JI)J" = some ⟨[.long, .int], some .long⟩ := by decide +kernel
theorem pd_1 : parseMethodDescriptor "(J)J" = some ⟨[.long], some .long⟩ := by decide +kernel
theorem pd_2 : parseMethodDescriptor "(J)I" = some ⟨[.long], some .int⟩ := by decide +kernel
theorem d1_0 : decode prog_22_method_11_code 0 = .ok (.lload_n 0, 1) := by decide +kernel
theorem d1_1 : decode prog_22_method_11_code 1 = .ok (.bipush 16, 2) := by decide +kernel
theorem d1_3 : decode prog_22_method_11_code 3 = .ok (.lshl, 1) := by decide +kernel
theorem d1_4 : decode prog_22_method_11_code 4 = .ok (.iload_n 2, 1) := by decide +kernel
theorem d1_5 : decode prog_22_method_11_code 5 = .ok (.i2l, 1) := by decide +kernel
theorem d1_6 : decode prog_22_method_11_code 6 = .ok (.lor, 1) := by decide +kernel
theorem d1_7 : decode prog_22_method_11_code 7 = .ok (.ldc2_w 172, 3) := by decide +kernel
theorem d1_10 : decode prog_22_method_11_code 10 = .ok (.lxor, 1) := by decide +kernel
theorem d1_11 : decode prog_22_method_11_code 11 = .ok (.lreturn, 1) := by decide +kernel
theorem ef_rm1 (m : MethodId) (q0 : Int64) (p1 : Int32) : entryFrame m #[(.long q0), (.int p1)] 3 = mkF m 0 #[.val (.long q0), .second, .val (.int p1)] [] := by first | (simp [entryFrame, mkF, argsToLocals, Value.category]; done) | rfl
def Q1 (Z : State) (q0 : Int64) (p1 : Int32) (h0 : Heap) (n0 : Nat) (v : Option Value) (h : Heap) (L : List Loc) : Prop := v = some (.long (own_pack q0 p1)) ∧ Fr n0 L ∧ h = h0
set_option maxRecDepth 65536 in
set_option maxHeartbeats 40000000 in
theorem rm1 (l : Launch) (Z : State) (a0 : Array Value) (hw : ∀ d ∈ tables_1, d.before a0 Z = true) (ws : List Jvm.Cond) (q0 : Int64) (p1 : Int32) (h0 : Heap) (n0 : Nat) (Z0 : n0 ≤ h0.size) :
    MetFree l (⟨"com/example/sarasvati/sarasvati/dedup/IndexRun", "pack", "(JI)J"⟩ : MethodName) (head1 (Jvm.Cond.code (⟨"com/example/sarasvati/sarasvati/dedup/IndexRun", "pack", "(JI)J"⟩ : MethodName) prog_22_method_11_code 3 (some .long) :: ws) ({ frames := 0, cells := 0, slots := 0, locals := 0 } : Room)) (fun a U => a = #[(.long q0), (.int p1)] ∧ Z.Warmed39 U.vm ∧ U.heap = h0) (fun _ _ _ _ _ => True) (fun _ U o U' => ∃ v L, o = .returned v ∧ Q1 Z q0 p1 h0 n0 v U'.heap L ∧ FrameEnd U o U' L ({ frames := 0, cells := 0, slots := 0, locals := 0 } : Room).cells ({ frames := 0, cells := 0, slots := 0, locals := 0 } : Room).slots) := by
  refine MetFree.of_bodySF (plainFor_of_name pn_0) hisR ?_
  intro p e s m args below meth c s₁ Bd hml0 hP hK
  obtain ⟨rfl, hZ, hh⟩ := hP
  have hx := Bd.exec
  have hby := Bd.bytes
  have hml : c.maxLocals = 3 := hml0
  have hown : s.vm.findClass "com/example/sarasvati/sarasvati/dedup/IndexRun" = some m.cls := findClass_of_methodNamed Bd.named
  have hnm := (name_of_methodNamed Bd.named Bd.method).1
  have X0 : Stand p l e ({ frames := 0, cells := 0, slots := 0, locals := 0 } : Room) s m #[(.long q0), (.int p1)] below meth c s₁ [] 0 0 := Stand.of_body Bd
  have e0 : s₁.heap = h0 := by rw [← hh, Bd.state]; rfl
  have N0 := Fr.nil n0
  have pre0 : ∀ t, Steps p.tables e below (s₁.setTop (mkF m 0 #[.val (.long q0), .second, .val (.int p1)] [])) t → Steps p.tables e below (s₁.setTop (entryFrame m #[(.long q0), (.int p1)] 3)) t := fun t k => castTop (ef_rm1 m q0 p1) k
  obtain ⟨fs, hr, hrun, hended, hW, hsame⟩ := X0.leave (v := some (.long (((q0 <<< ((16 : Int32) &&& 0x3f).toInt64) ||| (p1.toInt64)) ^^^ (-9223372036854775808 : Int64)))) (fun h => by rw [Bd.returns] at h; cases h)
  refine ⟨_, _, pre0 _ ?_, hrun, hended, _, _, rfl, ?_, ⟨_, rfl⟩, hW, hsame.mono (by decide) (by decide)⟩
  · show Steps p.tables e below (s₁.setTop (mkF m 0 #[.val (.long q0), .second, .val (.int p1)] [])) _
    refine XS.lloadN X0.here hx rfl (hb hby d1_0) rfl ?_
    show Steps p.tables e below (s₁.setTop (mkF m 1 #[.val (.long q0), .second, .val (.int p1)] [(.long q0)])) _
    refine XS.bipush X0.here hx rfl (hb hby d1_1) ?_
    show Steps p.tables e below (s₁.setTop (mkF m 3 #[.val (.long q0), .second, .val (.int p1)] [(.int (16 : Int32)), (.long q0)])) _
    refine XS.lshl X0.here hx rfl (hb hby d1_3) rfl ?_
    show Steps p.tables e below (s₁.setTop (mkF m 4 #[.val (.long q0), .second, .val (.int p1)] [(.long (q0 <<< ((16 : Int32) &&& 0x3f).toInt64))])) _
    refine XS.iloadN X0.here hx rfl (hb hby d1_4) rfl ?_
    show Steps p.tables e below (s₁.setTop (mkF m 5 #[.val (.long q0), .second, .val (.int p1)] [(.int p1), (.long (q0 <<< ((16 : Int32) &&& 0x3f).toInt64))])) _
    refine XS.i2l X0.here hx rfl (hb hby d1_5) rfl ?_
    show Steps p.tables e below (s₁.setTop (mkF m 6 #[.val (.long q0), .second, .val (.int p1)] [(.long (p1.toInt64)), (.long (q0 <<< ((16 : Int32) &&& 0x3f).toInt64))])) _
    refine XS.lor X0.here hx rfl (hb hby d1_6) rfl ?_
    show Steps p.tables e below (s₁.setTop (mkF m 7 #[.val (.long q0), .second, .val (.int p1)] [(.long ((q0 <<< ((16 : Int32) &&& 0x3f).toInt64) ||| (p1.toInt64)))])) _
    refine X0.ldc2Long hx hown (mvT hZ (hw _ (List.mem_of_getElem? (i := 6) rfl))) (g := (mkF m 7 #[.val (.long q0), .second, .val (.int p1)] [(.long ((q0 <<< ((16 : Int32) &&& 0x3f).toInt64) ||| (p1.toInt64)))])) rfl (hb hby d1_7) _ ?_
    show Steps p.tables e below (s₁.setTop (mkF m 10 #[.val (.long q0), .second, .val (.int p1)] [(.long (-9223372036854775808 : Int64)), (.long ((q0 <<< ((16 : Int32) &&& 0x3f).toInt64) ||| (p1.toInt64)))])) _
    refine XS.lxor X0.here hx rfl (hb hby d1_10) rfl ?_
    show Steps p.tables e below (s₁.setTop (mkF m 11 #[.val (.long q0), .second, .val (.int p1)] [(.long (((q0 <<< ((16 : Int32) &&& 0x3f).toInt64) ||| (p1.toInt64)) ^^^ (-9223372036854775808 : Int64)))])) _
    exact retOut X0 hx (t := .long) Bd.returns rfl (Or.inr (Or.inl ⟨rfl, rfl, _, rfl⟩)) (hb hby d1_11) hr
  · show Q1 Z q0 p1 h0 n0 _ s₁.heap _
    rw [e0]
    exact ⟨rfl, N0, rfl⟩
theorem d2_0 : decode prog_22_method_12_code 0 = .ok (.lload_n 0, 1) := by decide +kernel
theorem d2_1 : decode prog_22_method_12_code 1 = .ok (.ldc2_w 172, 3) := by decide +kernel
theorem d2_4 : decode prog_22_method_12_code 4 = .ok (.lxor, 1) := by decide +kernel
theorem d2_5 : decode prog_22_method_12_code 5 = .ok (.bipush 16, 2) := by decide +kernel
theorem d2_7 : decode prog_22_method_12_code 7 = .ok (.lushr, 1) := by decide +kernel
theorem d2_8 : decode prog_22_method_12_code 8 = .ok (.lreturn, 1) := by decide +kernel
theorem ef_rm2 (m : MethodId) (q0 : Int64) : entryFrame m #[(.long q0)] 2 = mkF m 0 #[.val (.long q0), .second] [] := by first | (simp [entryFrame, mkF, argsToLocals, Value.category]; done) | rfl
def Q2 (Z : State) (q0 : Int64) (h0 : Heap) (n0 : Nat) (v : Option Value) (h : Heap) (L : List Loc) : Prop := v = some (.long (own_hashOf q0)) ∧ Fr n0 L ∧ h = h0
set_option maxRecDepth 65536 in
set_option maxHeartbeats 40000000 in
theorem rm2 (l : Launch) (Z : State) (a0 : Array Value) (hw : ∀ d ∈ tables_1, d.before a0 Z = true) (ws : List Jvm.Cond) (q0 : Int64) (h0 : Heap) (n0 : Nat) (Z0 : n0 ≤ h0.size) :
    MetFree l (⟨"com/example/sarasvati/sarasvati/dedup/IndexRun", "hashOf", "(J)J"⟩ : MethodName) (head1 (Jvm.Cond.code (⟨"com/example/sarasvati/sarasvati/dedup/IndexRun", "hashOf", "(J)J"⟩ : MethodName) prog_22_method_12_code 2 (some .long) :: ws) ({ frames := 0, cells := 0, slots := 0, locals := 0 } : Room)) (fun a U => a = #[(.long q0)] ∧ Z.Warmed39 U.vm ∧ U.heap = h0) (fun _ _ _ _ _ => True) (fun _ U o U' => ∃ v L, o = .returned v ∧ Q2 Z q0 h0 n0 v U'.heap L ∧ FrameEnd U o U' L ({ frames := 0, cells := 0, slots := 0, locals := 0 } : Room).cells ({ frames := 0, cells := 0, slots := 0, locals := 0 } : Room).slots) := by
  refine MetFree.of_bodySF (plainFor_of_name pn_0) hisR ?_
  intro p e s m args below meth c s₁ Bd hml0 hP hK
  obtain ⟨rfl, hZ, hh⟩ := hP
  have hx := Bd.exec
  have hby := Bd.bytes
  have hml : c.maxLocals = 2 := hml0
  have hown : s.vm.findClass "com/example/sarasvati/sarasvati/dedup/IndexRun" = some m.cls := findClass_of_methodNamed Bd.named
  have hnm := (name_of_methodNamed Bd.named Bd.method).1
  have X0 : Stand p l e ({ frames := 0, cells := 0, slots := 0, locals := 0 } : Room) s m #[(.long q0)] below meth c s₁ [] 0 0 := Stand.of_body Bd
  have e0 : s₁.heap = h0 := by rw [← hh, Bd.state]; rfl
  have N0 := Fr.nil n0
  have pre0 : ∀ t, Steps p.tables e below (s₁.setTop (mkF m 0 #[.val (.long q0), .second] [])) t → Steps p.tables e below (s₁.setTop (entryFrame m #[(.long q0)] 2)) t := fun t k => castTop (ef_rm2 m q0) k
  obtain ⟨fs, hr, hrun, hended, hW, hsame⟩ := X0.leave (v := some (.long (((q0 ^^^ (-9223372036854775808 : Int64)).toUInt64 >>> ((16 : Int32) &&& 0x3f).toInt64.toUInt64).toInt64))) (fun h => by rw [Bd.returns] at h; cases h)
  refine ⟨_, _, pre0 _ ?_, hrun, hended, _, _, rfl, ?_, ⟨_, rfl⟩, hW, hsame.mono (by decide) (by decide)⟩
  · show Steps p.tables e below (s₁.setTop (mkF m 0 #[.val (.long q0), .second] [])) _
    refine XS.lloadN X0.here hx rfl (hb hby d2_0) rfl ?_
    show Steps p.tables e below (s₁.setTop (mkF m 1 #[.val (.long q0), .second] [(.long q0)])) _
    refine X0.ldc2Long hx hown (mvT hZ (hw _ (List.mem_of_getElem? (i := 6) rfl))) (g := (mkF m 1 #[.val (.long q0), .second] [(.long q0)])) rfl (hb hby d2_1) _ ?_
    show Steps p.tables e below (s₁.setTop (mkF m 4 #[.val (.long q0), .second] [(.long (-9223372036854775808 : Int64)), (.long q0)])) _
    refine XS.lxor X0.here hx rfl (hb hby d2_4) rfl ?_
    show Steps p.tables e below (s₁.setTop (mkF m 5 #[.val (.long q0), .second] [(.long (q0 ^^^ (-9223372036854775808 : Int64)))])) _
    refine XS.bipush X0.here hx rfl (hb hby d2_5) ?_
    show Steps p.tables e below (s₁.setTop (mkF m 7 #[.val (.long q0), .second] [(.int (16 : Int32)), (.long (q0 ^^^ (-9223372036854775808 : Int64)))])) _
    refine XS.lushr X0.here hx rfl (hb hby d2_7) rfl ?_
    show Steps p.tables e below (s₁.setTop (mkF m 8 #[.val (.long q0), .second] [(.long (((q0 ^^^ (-9223372036854775808 : Int64)).toUInt64 >>> ((16 : Int32) &&& 0x3f).toInt64.toUInt64).toInt64))])) _
    exact retOut X0 hx (t := .long) Bd.returns rfl (Or.inr (Or.inl ⟨rfl, rfl, _, rfl⟩)) (hb hby d2_8) hr
  · show Q2 Z q0 h0 n0 _ s₁.heap _
    rw [e0]
    exact ⟨rfl, N0, rfl⟩
theorem d3_0 : decode prog_22_method_13_code 0 = .ok (.lload_n 0, 1) := by decide +kernel
theorem d3_1 : decode prog_22_method_13_code 1 = .ok (.l2i, 1) := by decide +kernel
theorem d3_2 : decode prog_22_method_13_code 2 = .ok (.ldc 174, 2) := by decide +kernel
theorem d3_4 : decode prog_22_method_13_code 4 = .ok (.iand, 1) := by decide +kernel
theorem d3_5 : decode prog_22_method_13_code 5 = .ok (.ireturn, 1) := by decide +kernel
theorem ef_rm3 (m : MethodId) (q0 : Int64) : entryFrame m #[(.long q0)] 2 = mkF m 0 #[.val (.long q0), .second] [] := by first | (simp [entryFrame, mkF, argsToLocals, Value.category]; done) | rfl
def Q3 (Z : State) (q0 : Int64) (h0 : Heap) (n0 : Nat) (v : Option Value) (h : Heap) (L : List Loc) : Prop := v = some (.int (own_indexOf q0)) ∧ Fr n0 L ∧ h = h0
set_option maxRecDepth 65536 in
set_option maxHeartbeats 40000000 in
theorem rm3 (l : Launch) (Z : State) (a0 : Array Value) (hw : ∀ d ∈ tables_1, d.before a0 Z = true) (ws : List Jvm.Cond) (q0 : Int64) (h0 : Heap) (n0 : Nat) (Z0 : n0 ≤ h0.size) :
    MetFree l (⟨"com/example/sarasvati/sarasvati/dedup/IndexRun", "indexOf", "(J)I"⟩ : MethodName) (head1 (Jvm.Cond.code (⟨"com/example/sarasvati/sarasvati/dedup/IndexRun", "indexOf", "(J)I"⟩ : MethodName) prog_22_method_13_code 2 (some .int) :: ws) ({ frames := 0, cells := 0, slots := 0, locals := 0 } : Room)) (fun a U => a = #[(.long q0)] ∧ Z.Warmed39 U.vm ∧ U.heap = h0) (fun _ _ _ _ _ => True) (fun _ U o U' => ∃ v L, o = .returned v ∧ Q3 Z q0 h0 n0 v U'.heap L ∧ FrameEnd U o U' L ({ frames := 0, cells := 0, slots := 0, locals := 0 } : Room).cells ({ frames := 0, cells := 0, slots := 0, locals := 0 } : Room).slots) := by
  refine MetFree.of_bodySF (plainFor_of_name pn_0) hisR ?_
  intro p e s m args below meth c s₁ Bd hml0 hP hK
  obtain ⟨rfl, hZ, hh⟩ := hP
  have hx := Bd.exec
  have hby := Bd.bytes
  have hml : c.maxLocals = 2 := hml0
  have hown : s.vm.findClass "com/example/sarasvati/sarasvati/dedup/IndexRun" = some m.cls := findClass_of_methodNamed Bd.named
  have hnm := (name_of_methodNamed Bd.named Bd.method).1
  have X0 : Stand p l e ({ frames := 0, cells := 0, slots := 0, locals := 0 } : Room) s m #[(.long q0)] below meth c s₁ [] 0 0 := Stand.of_body Bd
  have e0 : s₁.heap = h0 := by rw [← hh, Bd.state]; rfl
  have N0 := Fr.nil n0
  have pre0 : ∀ t, Steps p.tables e below (s₁.setTop (mkF m 0 #[.val (.long q0), .second] [])) t → Steps p.tables e below (s₁.setTop (entryFrame m #[(.long q0)] 2)) t := fun t k => castTop (ef_rm3 m q0) k
  obtain ⟨fs, hr, hrun, hended, hW, hsame⟩ := X0.leave (v := some (.int ((q0.toInt32) &&& (65535 : Int32)))) (fun h => by rw [Bd.returns] at h; cases h)
  refine ⟨_, _, pre0 _ ?_, hrun, hended, _, _, rfl, ?_, ⟨_, rfl⟩, hW, hsame.mono (by decide) (by decide)⟩
  · show Steps p.tables e below (s₁.setTop (mkF m 0 #[.val (.long q0), .second] [])) _
    refine XS.lloadN X0.here hx rfl (hb hby d3_0) rfl ?_
    show Steps p.tables e below (s₁.setTop (mkF m 1 #[.val (.long q0), .second] [(.long q0)])) _
    refine XS.l2i X0.here hx rfl (hb hby d3_1) rfl ?_
    show Steps p.tables e below (s₁.setTop (mkF m 2 #[.val (.long q0), .second] [(.int (q0.toInt32))])) _
    refine X0.ldcInt hx hown (mvT hZ (hw _ (List.mem_of_getElem? (i := 13) rfl))) (g := (mkF m 2 #[.val (.long q0), .second] [(.int (q0.toInt32))])) rfl (hb hby d3_2) _ ?_
    show Steps p.tables e below (s₁.setTop (mkF m 4 #[.val (.long q0), .second] [(.int (65535 : Int32)), (.int (q0.toInt32))])) _
    refine XS.iand X0.here hx rfl (hb hby d3_4) rfl ?_
    show Steps p.tables e below (s₁.setTop (mkF m 5 #[.val (.long q0), .second] [(.int ((q0.toInt32) &&& (65535 : Int32)))])) _
    exact retI X0 hx Bd.returns (hb hby d3_5) hr
  · show Q3 Z q0 h0 n0 _ s₁.heap _
    rw [e0]
    exact ⟨rfl, N0, rfl⟩
theorem ef_rm0 (m : MethodId) (q0 : Int64) (p1 : Int32) (q2 : Int64) (p3 : Int32) (p4 : Int32) : entryFrame m #[(.long q0), (.int p1), (.long q2), (.int p3), (.int p4)] maxLocals = mkF m 0 #[.val (.long q0), .second, .val (.int p1), .val (.long q2), .second, .val (.int p3), .val (.int p4), .unset, .unset, .unset, .unset, .unset, .unset, .unset, .unset, .unset, .unset, .unset, .unset, .unset, .unset, .unset] [] := by first | (simp [entryFrame, mkF, argsToLocals, Value.category, maxLocals]; done) | rfl
def Q0 (Z : State) (q0 : Int64) (p1 : Int32) (q2 : Int64) (p3 : Int32) (p4 : Int32) (h0 : Heap) (n0 : Nat) (v : Option Value) (h : Heap) (L : List Loc) : Prop := v = some (.int (1 : Int32)) ∧ Fr n0 L
set_option maxRecDepth 65536 in
set_option maxHeartbeats 40000000 in
theorem rm0 (l : Launch) (Z : State) (a0 : Array Value) (hw : ∀ d ∈ tables_1, d.before a0 Z = true) (ws : List Jvm.Cond) (q0 : Int64) (p1 : Int32) (q2 : Int64) (p3 : Int32) (p4 : Int32) (h0 : Heap) (n0 : Nat) (Z0 : n0 ≤ h0.size) :
    MetFree l x (head1 (Jvm.Cond.code x code maxLocals ret :: ws) room_1) (fun a U => a = #[(.long q0), (.int p1), (.long q2), (.int p3), (.int p4)] ∧ Z.Warmed39 U.vm ∧ U.heap = h0) (fun _ _ _ _ _ => True) (fun _ U o U' => ∃ v L, o = .returned v ∧ Q0 Z q0 p1 q2 p3 p4 h0 n0 v U'.heap L ∧ FrameEnd U o U' L room_1.cells room_1.slots) := by
  refine MetFree.of_bodySF (plainFor_of_name pn_1) hisR ?_
  intro p e s m args below meth c s₁ Bd hml0 hP hK
  obtain ⟨rfl, hZ, hh⟩ := hP
  have hx := Bd.exec
  have hby := Bd.bytes
  have hml : c.maxLocals = 22 := hml0
  have hown : s.vm.findClass "com/example/sarasvati/sarasvati/dedup/IndexRunPackPinLaw" = some m.cls := findClass_of_methodNamed Bd.named
  have hnm := (name_of_methodNamed Bd.named Bd.method).1
  have X0 : Stand p l e room_1 s m #[(.long q0), (.int p1), (.long q2), (.int p3), (.int p4)] below meth c s₁ [] 0 0 := Stand.of_body Bd
  have e0 : s₁.heap = h0 := by rw [← hh, Bd.state]; rfl
  have N0 := Fr.nil n0
  have pre0 : ∀ t, Steps p.tables e below (s₁.setTop (mkF m 0 #[.val (.long q0), .second, .val (.int p1), .val (.long q2), .second, .val (.int p3), .val (.int p4), .unset, .unset, .unset, .unset, .unset, .unset, .unset, .unset, .unset, .unset, .unset, .unset, .unset, .unset, .unset] [])) t → Steps p.tables e below (s₁.setTop (entryFrame m #[(.long q0), (.int p1), (.long q2), (.int p3), (.int p4)] maxLocals)) t := fun t k => castTop (ef_rm0 m q0 p1 q2 p3 p4) k
  obtain ⟨a, hm1, pre2⟩ : ∃ (a : Int64), (0 ≤ a.toInt ∧ a.toInt < 281474976710656) ∧ ∀ t, Steps p.tables e below (s₁.setTop (mkF m 5 #[.val (.long q0), .second, .val (.int p1), .val (.long q2), .second, .val (.int p3), .val (.int p4), .unset, .unset, .unset, .unset, .unset, .unset, .unset, .unset, .unset, .unset, .unset, .unset, .unset, .unset, .unset] [(.long a)])) t → Steps p.tables e below (s₁.setTop (entryFrame m #[(.long q0), (.int p1), (.long q2), (.int p3), (.int p4)] maxLocals)) t := by
    refine ⟨(q0 &&& (281474976710655 : Int64)), own_mL _, fun t kt => ?_⟩
    refine pre0 _ ?_
    show Steps p.tables e below (s₁.setTop (mkF m 0 #[.val (.long q0), .second, .val (.int p1), .val (.long q2), .second, .val (.int p3), .val (.int p4), .unset, .unset, .unset, .unset, .unset, .unset, .unset, .unset, .unset, .unset, .unset, .unset, .unset, .unset, .unset] [])) _
    refine XS.lloadN X0.here hx rfl (hb hby at_0) rfl ?_
    show Steps p.tables e below (s₁.setTop (mkF m 1 #[.val (.long q0), .second, .val (.int p1), .val (.long q2), .second, .val (.int p3), .val (.int p4), .unset, .unset, .unset, .unset, .unset, .unset, .unset, .unset, .unset, .unset, .unset, .unset, .unset, .unset, .unset] [(.long q0)])) _
    refine X0.ldc2Long hx hown (mvT hZ (hw _ (List.mem_of_getElem? (i := 0) rfl))) (g := (mkF m 1 #[.val (.long q0), .second, .val (.int p1), .val (.long q2), .second, .val (.int p3), .val (.int p4), .unset, .unset, .unset, .unset, .unset, .unset, .unset, .unset, .unset, .unset, .unset, .unset, .unset, .unset, .unset] [(.long q0)])) rfl (hb hby at_1) _ ?_
    show Steps p.tables e below (s₁.setTop (mkF m 4 #[.val (.long q0), .second, .val (.int p1), .val (.long q2), .second, .val (.int p3), .val (.int p4), .unset, .unset, .unset, .unset, .unset, .unset, .unset, .unset, .unset, .unset, .unset, .unset, .unset, .unset, .unset] [(.long (281474976710655 : Int64)), (.long q0)])) _
    refine XS.land X0.here hx rfl (hb hby at_4) rfl ?_
    exact kt
  have pre3 : ∀ t, Steps p.tables e below (s₁.setTop (mkF m 7 #[.val (.long q0), .second, .val (.int p1), .val (.long q2), .second, .val (.int p3), .val (.int p4), .val (.long a), .second, .unset, .unset, .unset, .unset, .unset, .unset, .unset, .unset, .unset, .unset, .unset, .unset, .unset] [])) t → Steps p.tables e below (s₁.setTop (entryFrame m #[(.long q0), (.int p1), (.long q2), (.int p3), (.int p4)] maxLocals)) t := by
    intro t kt
    refine pre2 _ ?_
    show Steps p.tables e below (s₁.setTop (mkF m 5 #[.val (.long q0), .second, .val (.int p1), .val (.long q2), .second, .val (.int p3), .val (.int p4), .unset, .unset, .unset, .unset, .unset, .unset, .unset, .unset, .unset, .unset, .unset, .unset, .unset, .unset, .unset] [(.long a)])) _
    refine XS.lstore X0.here hx rfl (hb hby at_5) rfl (l' := #[.val (.long q0), .second, .val (.int p1), .val (.long q2), .second, .val (.int p3), .val (.int p4), .val (.long a), .second, .unset, .unset, .unset, .unset, .unset, .unset, .unset, .unset, .unset, .unset, .unset, .unset, .unset]) rfl ?_
    exact kt
  obtain ⟨x, hm4, pre5⟩ : ∃ (x : Int32), (0 ≤ x.toInt ∧ x.toInt < 65536) ∧ ∀ t, Steps p.tables e below (s₁.setTop (mkF m 11 #[.val (.long q0), .second, .val (.int p1), .val (.long q2), .second, .val (.int p3), .val (.int p4), .val (.long a), .second, .unset, .unset, .unset, .unset, .unset, .unset, .unset, .unset, .unset, .unset, .unset, .unset, .unset] [(.int x)])) t → Steps p.tables e below (s₁.setTop (entryFrame m #[(.long q0), (.int p1), (.long q2), (.int p3), (.int p4)] maxLocals)) t := by
    refine ⟨(p1 &&& (65535 : Int32)), own_mI _, fun t kt => ?_⟩
    refine pre3 _ ?_
    show Steps p.tables e below (s₁.setTop (mkF m 7 #[.val (.long q0), .second, .val (.int p1), .val (.long q2), .second, .val (.int p3), .val (.int p4), .val (.long a), .second, .unset, .unset, .unset, .unset, .unset, .unset, .unset, .unset, .unset, .unset, .unset, .unset, .unset] [])) _
    refine XS.iloadN X0.here hx rfl (hb hby at_7) rfl ?_
    show Steps p.tables e below (s₁.setTop (mkF m 8 #[.val (.long q0), .second, .val (.int p1), .val (.long q2), .second, .val (.int p3), .val (.int p4), .val (.long a), .second, .unset, .unset, .unset, .unset, .unset, .unset, .unset, .unset, .unset, .unset, .unset, .unset, .unset] [(.int p1)])) _
    refine X0.ldcInt hx hown (mvT hZ (hw _ (List.mem_of_getElem? (i := 1) rfl))) (g := (mkF m 8 #[.val (.long q0), .second, .val (.int p1), .val (.long q2), .second, .val (.int p3), .val (.int p4), .val (.long a), .second, .unset, .unset, .unset, .unset, .unset, .unset, .unset, .unset, .unset, .unset, .unset, .unset, .unset] [(.int p1)])) rfl (hb hby at_8) _ ?_
    show Steps p.tables e below (s₁.setTop (mkF m 10 #[.val (.long q0), .second, .val (.int p1), .val (.long q2), .second, .val (.int p3), .val (.int p4), .val (.long a), .second, .unset, .unset, .unset, .unset, .unset, .unset, .unset, .unset, .unset, .unset, .unset, .unset, .unset] [(.int (65535 : Int32)), (.int p1)])) _
    refine XS.iand X0.here hx rfl (hb hby at_10) rfl ?_
    exact kt
  have pre6 : ∀ t, Steps p.tables e below (s₁.setTop (mkF m 13 #[.val (.long q0), .second, .val (.int p1), .val (.long q2), .second, .val (.int p3), .val (.int p4), .val (.long a), .second, .val (.int x), .unset, .unset, .unset, .unset, .unset, .unset, .unset, .unset, .unset, .unset, .unset, .unset] [])) t → Steps p.tables e below (s₁.setTop (entryFrame m #[(.long q0), (.int p1), (.long q2), (.int p3), (.int p4)] maxLocals)) t := by
    intro t kt
    refine pre5 _ ?_
    show Steps p.tables e below (s₁.setTop (mkF m 11 #[.val (.long q0), .second, .val (.int p1), .val (.long q2), .second, .val (.int p3), .val (.int p4), .val (.long a), .second, .unset, .unset, .unset, .unset, .unset, .unset, .unset, .unset, .unset, .unset, .unset, .unset, .unset] [(.int x)])) _
    refine XS.istore X0.here hx rfl (hb hby at_11) rfl (l' := #[.val (.long q0), .second, .val (.int p1), .val (.long q2), .second, .val (.int p3), .val (.int p4), .val (.long a), .second, .val (.int x), .unset, .unset, .unset, .unset, .unset, .unset, .unset, .unset, .unset, .unset, .unset, .unset]) rfl ?_
    exact kt
  obtain ⟨b, hm7, pre8⟩ : ∃ (b : Int64), (0 ≤ b.toInt ∧ b.toInt < 281474976710656) ∧ ∀ t, Steps p.tables e below (s₁.setTop (mkF m 30 #[.val (.long q0), .second, .val (.int p1), .val (.long q2), .second, .val (.int p3), .val (.int p4), .val (.long a), .second, .val (.int x), .unset, .unset, .unset, .unset, .unset, .unset, .unset, .unset, .unset, .unset, .unset, .unset] [(.long b)])) t → Steps p.tables e below (s₁.setTop (entryFrame m #[(.long q0), (.int p1), (.long q2), (.int p3), (.int p4)] maxLocals)) t := by
    have pre9 : ∀ t, Steps p.tables e below (s₁.setTop (mkF m 17 #[.val (.long q0), .second, .val (.int p1), .val (.long q2), .second, .val (.int p3), .val (.int p4), .val (.long a), .second, .val (.int x), .unset, .unset, .unset, .unset, .unset, .unset, .unset, .unset, .unset, .unset, .unset, .unset] [(.int (p4 &&& (1 : Int32)))])) t → Steps p.tables e below (s₁.setTop (entryFrame m #[(.long q0), (.int p1), (.long q2), (.int p3), (.int p4)] maxLocals)) t := by
      intro t kt
      refine pre6 _ ?_
      show Steps p.tables e below (s₁.setTop (mkF m 13 #[.val (.long q0), .second, .val (.int p1), .val (.long q2), .second, .val (.int p3), .val (.int p4), .val (.long a), .second, .val (.int x), .unset, .unset, .unset, .unset, .unset, .unset, .unset, .unset, .unset, .unset, .unset, .unset] [])) _
      refine XS.iload X0.here hx rfl (hb hby at_13) rfl ?_
      show Steps p.tables e below (s₁.setTop (mkF m 15 #[.val (.long q0), .second, .val (.int p1), .val (.long q2), .second, .val (.int p3), .val (.int p4), .val (.long a), .second, .val (.int x), .unset, .unset, .unset, .unset, .unset, .unset, .unset, .unset, .unset, .unset, .unset, .unset] [(.int p4)])) _
      refine XS.iconst X0.here hx rfl (hb hby at_15) ?_
      show Steps p.tables e below (s₁.setTop (mkF m 16 #[.val (.long q0), .second, .val (.int p1), .val (.long q2), .second, .val (.int p3), .val (.int p4), .val (.long a), .second, .val (.int x), .unset, .unset, .unset, .unset, .unset, .unset, .unset, .unset, .unset, .unset, .unset, .unset] [(.int (1 : Int32)), (.int p4)])) _
      refine XS.iand X0.here hx rfl (hb hby at_16) rfl ?_
      exact kt
    by_cases hc17 : (p4 &&& (1 : Int32)) = (0 : Int32)
    · -- (p4 &&& (1 : Int32)) = (0 : Int32)
      refine ⟨(q2 &&& (281474976710655 : Int64)), own_mL _, fun t kt => ?_⟩
      refine pre9 _ ?_
      show Steps p.tables e below (s₁.setTop (mkF m 17 #[.val (.long q0), .second, .val (.int p1), .val (.long q2), .second, .val (.int p3), .val (.int p4), .val (.long a), .second, .val (.int x), .unset, .unset, .unset, .unset, .unset, .unset, .unset, .unset, .unset, .unset, .unset, .unset] [(.int (p4 &&& (1 : Int32)))])) _
      refine XS.ifYes X0.here hx rfl (pc0 := 17) (pc' := 25) rfl (hb hby at_17) rfl ((if0 _ _).trans (teq hc17).1) (by decide) (by decide) ?_
      show Steps p.tables e below (s₁.setTop (mkF m 25 #[.val (.long q0), .second, .val (.int p1), .val (.long q2), .second, .val (.int p3), .val (.int p4), .val (.long a), .second, .val (.int x), .unset, .unset, .unset, .unset, .unset, .unset, .unset, .unset, .unset, .unset, .unset, .unset] [])) _
      refine XS.lloadN X0.here hx rfl (hb hby at_25) rfl ?_
      show Steps p.tables e below (s₁.setTop (mkF m 26 #[.val (.long q0), .second, .val (.int p1), .val (.long q2), .second, .val (.int p3), .val (.int p4), .val (.long a), .second, .val (.int x), .unset, .unset, .unset, .unset, .unset, .unset, .unset, .unset, .unset, .unset, .unset, .unset] [(.long q2)])) _
      refine X0.ldc2Long hx hown (mvT hZ (hw _ (List.mem_of_getElem? (i := 0) rfl))) (g := (mkF m 26 #[.val (.long q0), .second, .val (.int p1), .val (.long q2), .second, .val (.int p3), .val (.int p4), .val (.long a), .second, .val (.int x), .unset, .unset, .unset, .unset, .unset, .unset, .unset, .unset, .unset, .unset, .unset, .unset] [(.long q2)])) rfl (hb hby at_26) _ ?_
      show Steps p.tables e below (s₁.setTop (mkF m 29 #[.val (.long q0), .second, .val (.int p1), .val (.long q2), .second, .val (.int p3), .val (.int p4), .val (.long a), .second, .val (.int x), .unset, .unset, .unset, .unset, .unset, .unset, .unset, .unset, .unset, .unset, .unset, .unset] [(.long (281474976710655 : Int64)), (.long q2)])) _
      refine XS.land X0.here hx rfl (hb hby at_29) rfl ?_
      exact kt
    · -- not (p4 &&& (1 : Int32)) = (0 : Int32)
      refine ⟨a, hm1, fun t kt => ?_⟩
      refine pre9 _ ?_
      show Steps p.tables e below (s₁.setTop (mkF m 17 #[.val (.long q0), .second, .val (.int p1), .val (.long q2), .second, .val (.int p3), .val (.int p4), .val (.long a), .second, .val (.int x), .unset, .unset, .unset, .unset, .unset, .unset, .unset, .unset, .unset, .unset, .unset, .unset] [(.int (p4 &&& (1 : Int32)))])) _
      refine XS.ifNo X0.here hx rfl (hb hby at_17) rfl ((if0 _ _).trans (feq hc17).1) ?_
      show Steps p.tables e below (s₁.setTop (mkF m 20 #[.val (.long q0), .second, .val (.int p1), .val (.long q2), .second, .val (.int p3), .val (.int p4), .val (.long a), .second, .val (.int x), .unset, .unset, .unset, .unset, .unset, .unset, .unset, .unset, .unset, .unset, .unset, .unset] [])) _
      refine XS.lload X0.here hx rfl (hb hby at_20) rfl ?_
      show Steps p.tables e below (s₁.setTop (mkF m 22 #[.val (.long q0), .second, .val (.int p1), .val (.long q2), .second, .val (.int p3), .val (.int p4), .val (.long a), .second, .val (.int x), .unset, .unset, .unset, .unset, .unset, .unset, .unset, .unset, .unset, .unset, .unset, .unset] [(.long a)])) _
      refine XS.goto X0.here hx rfl (pc0 := 22) (pc' := 30) rfl (hb hby at_22) (by decide) (by decide) ?_
      exact kt
  have pre10 : ∀ t, Steps p.tables e below (s₁.setTop (mkF m 32 #[.val (.long q0), .second, .val (.int p1), .val (.long q2), .second, .val (.int p3), .val (.int p4), .val (.long a), .second, .val (.int x), .val (.long b), .second, .unset, .unset, .unset, .unset, .unset, .unset, .unset, .unset, .unset, .unset] [])) t → Steps p.tables e below (s₁.setTop (entryFrame m #[(.long q0), (.int p1), (.long q2), (.int p3), (.int p4)] maxLocals)) t := by
    intro t kt
    refine pre8 _ ?_
    show Steps p.tables e below (s₁.setTop (mkF m 30 #[.val (.long q0), .second, .val (.int p1), .val (.long q2), .second, .val (.int p3), .val (.int p4), .val (.long a), .second, .val (.int x), .unset, .unset, .unset, .unset, .unset, .unset, .unset, .unset, .unset, .unset, .unset, .unset] [(.long b)])) _
    refine XS.lstore X0.here hx rfl (hb hby at_30) rfl (l' := #[.val (.long q0), .second, .val (.int p1), .val (.long q2), .second, .val (.int p3), .val (.int p4), .val (.long a), .second, .val (.int x), .val (.long b), .second, .unset, .unset, .unset, .unset, .unset, .unset, .unset, .unset, .unset, .unset]) rfl ?_
    exact kt
  obtain ⟨y, hm11, pre12⟩ : ∃ (y : Int32), (0 ≤ y.toInt ∧ y.toInt < 65536) ∧ ∀ t, Steps p.tables e below (s₁.setTop (mkF m 49 #[.val (.long q0), .second, .val (.int p1), .val (.long q2), .second, .val (.int p3), .val (.int p4), .val (.long a), .second, .val (.int x), .val (.long b), .second, .unset, .unset, .unset, .unset, .unset, .unset, .unset, .unset, .unset, .unset] [(.int y)])) t → Steps p.tables e below (s₁.setTop (entryFrame m #[(.long q0), (.int p1), (.long q2), (.int p3), (.int p4)] maxLocals)) t := by
    have pre13 : ∀ t, Steps p.tables e below (s₁.setTop (mkF m 36 #[.val (.long q0), .second, .val (.int p1), .val (.long q2), .second, .val (.int p3), .val (.int p4), .val (.long a), .second, .val (.int x), .val (.long b), .second, .unset, .unset, .unset, .unset, .unset, .unset, .unset, .unset, .unset, .unset] [(.int (p4 &&& (2 : Int32)))])) t → Steps p.tables e below (s₁.setTop (entryFrame m #[(.long q0), (.int p1), (.long q2), (.int p3), (.int p4)] maxLocals)) t := by
      intro t kt
      refine pre10 _ ?_
      show Steps p.tables e below (s₁.setTop (mkF m 32 #[.val (.long q0), .second, .val (.int p1), .val (.long q2), .second, .val (.int p3), .val (.int p4), .val (.long a), .second, .val (.int x), .val (.long b), .second, .unset, .unset, .unset, .unset, .unset, .unset, .unset, .unset, .unset, .unset] [])) _
      refine XS.iload X0.here hx rfl (hb hby at_32) rfl ?_
      show Steps p.tables e below (s₁.setTop (mkF m 34 #[.val (.long q0), .second, .val (.int p1), .val (.long q2), .second, .val (.int p3), .val (.int p4), .val (.long a), .second, .val (.int x), .val (.long b), .second, .unset, .unset, .unset, .unset, .unset, .unset, .unset, .unset, .unset, .unset] [(.int p4)])) _
      refine XS.iconst X0.here hx rfl (hb hby at_34) ?_
      show Steps p.tables e below (s₁.setTop (mkF m 35 #[.val (.long q0), .second, .val (.int p1), .val (.long q2), .second, .val (.int p3), .val (.int p4), .val (.long a), .second, .val (.int x), .val (.long b), .second, .unset, .unset, .unset, .unset, .unset, .unset, .unset, .unset, .unset, .unset] [(.int (2 : Int32)), (.int p4)])) _
      refine XS.iand X0.here hx rfl (hb hby at_35) rfl ?_
      exact kt
    by_cases hc36 : (p4 &&& (2 : Int32)) = (0 : Int32)
    · -- (p4 &&& (2 : Int32)) = (0 : Int32)
      refine ⟨(p3 &&& (65535 : Int32)), own_mI _, fun t kt => ?_⟩
      refine pre13 _ ?_
      show Steps p.tables e below (s₁.setTop (mkF m 36 #[.val (.long q0), .second, .val (.int p1), .val (.long q2), .second, .val (.int p3), .val (.int p4), .val (.long a), .second, .val (.int x), .val (.long b), .second, .unset, .unset, .unset, .unset, .unset, .unset, .unset, .unset, .unset, .unset] [(.int (p4 &&& (2 : Int32)))])) _
      refine XS.ifYes X0.here hx rfl (pc0 := 36) (pc' := 44) rfl (hb hby at_36) rfl ((if0 _ _).trans (teq hc36).1) (by decide) (by decide) ?_
      show Steps p.tables e below (s₁.setTop (mkF m 44 #[.val (.long q0), .second, .val (.int p1), .val (.long q2), .second, .val (.int p3), .val (.int p4), .val (.long a), .second, .val (.int x), .val (.long b), .second, .unset, .unset, .unset, .unset, .unset, .unset, .unset, .unset, .unset, .unset] [])) _
      refine XS.iload X0.here hx rfl (hb hby at_44) rfl ?_
      show Steps p.tables e below (s₁.setTop (mkF m 46 #[.val (.long q0), .second, .val (.int p1), .val (.long q2), .second, .val (.int p3), .val (.int p4), .val (.long a), .second, .val (.int x), .val (.long b), .second, .unset, .unset, .unset, .unset, .unset, .unset, .unset, .unset, .unset, .unset] [(.int p3)])) _
      refine X0.ldcInt hx hown (mvT hZ (hw _ (List.mem_of_getElem? (i := 1) rfl))) (g := (mkF m 46 #[.val (.long q0), .second, .val (.int p1), .val (.long q2), .second, .val (.int p3), .val (.int p4), .val (.long a), .second, .val (.int x), .val (.long b), .second, .unset, .unset, .unset, .unset, .unset, .unset, .unset, .unset, .unset, .unset] [(.int p3)])) rfl (hb hby at_46) _ ?_
      show Steps p.tables e below (s₁.setTop (mkF m 48 #[.val (.long q0), .second, .val (.int p1), .val (.long q2), .second, .val (.int p3), .val (.int p4), .val (.long a), .second, .val (.int x), .val (.long b), .second, .unset, .unset, .unset, .unset, .unset, .unset, .unset, .unset, .unset, .unset] [(.int (65535 : Int32)), (.int p3)])) _
      refine XS.iand X0.here hx rfl (hb hby at_48) rfl ?_
      exact kt
    · -- not (p4 &&& (2 : Int32)) = (0 : Int32)
      refine ⟨x, hm4, fun t kt => ?_⟩
      refine pre13 _ ?_
      show Steps p.tables e below (s₁.setTop (mkF m 36 #[.val (.long q0), .second, .val (.int p1), .val (.long q2), .second, .val (.int p3), .val (.int p4), .val (.long a), .second, .val (.int x), .val (.long b), .second, .unset, .unset, .unset, .unset, .unset, .unset, .unset, .unset, .unset, .unset] [(.int (p4 &&& (2 : Int32)))])) _
      refine XS.ifNo X0.here hx rfl (hb hby at_36) rfl ((if0 _ _).trans (feq hc36).1) ?_
      show Steps p.tables e below (s₁.setTop (mkF m 39 #[.val (.long q0), .second, .val (.int p1), .val (.long q2), .second, .val (.int p3), .val (.int p4), .val (.long a), .second, .val (.int x), .val (.long b), .second, .unset, .unset, .unset, .unset, .unset, .unset, .unset, .unset, .unset, .unset] [])) _
      refine XS.iload X0.here hx rfl (hb hby at_39) rfl ?_
      show Steps p.tables e below (s₁.setTop (mkF m 41 #[.val (.long q0), .second, .val (.int p1), .val (.long q2), .second, .val (.int p3), .val (.int p4), .val (.long a), .second, .val (.int x), .val (.long b), .second, .unset, .unset, .unset, .unset, .unset, .unset, .unset, .unset, .unset, .unset] [(.int x)])) _
      refine XS.goto X0.here hx rfl (pc0 := 41) (pc' := 49) rfl (hb hby at_41) (by decide) (by decide) ?_
      exact kt
  obtain ⟨_, _, ⟨T14, L14, k14, n14⟩, -, X14, ⟨Lc14, hQ14, l14, y14, z14⟩, st14⟩ := Jvm.LawKit.callS X0 hx (y := (⟨"com/example/sarasvati/sarasvati/dedup/IndexRun", "pack", "(JI)J"⟩ : MethodName)) hown (mvT hZ (hw _ (List.mem_of_getElem? (i := 2) rfl))) (mvT hZ (hw _ (List.mem_of_getElem? (i := 3) rfl))) (mvT hZ (hw _ (List.mem_of_getElem? (i := 4) rfl))) (mvT hZ (hw _ (List.mem_of_getElem? (i := 5) rfl))) (by decide) (backOf (W := 0) (rm1 l Z a0 hw [] a x h0 n0 Z0 ) hZ (hw _ (List.mem_of_getElem? (i := 5) rfl)) (hw _ (List.mem_of_getElem? (i := 4) rfl)) (by decide) (by decide)) (g := (mkF m 55 #[.val (.long q0), .second, .val (.int p1), .val (.long q2), .second, .val (.int p3), .val (.int p4), .val (.long a), .second, .val (.int x), .val (.long b), .second, .val (.int y), .unset, .unset, .unset, .unset, .unset, .unset, .unset, .unset, .unset] [(.int x), (.long a)])) rfl (by rw [hml]; rfl) (argsL := [(.long a), (.int x)]) (rest := []) (lenOf pd_0 rfl) rfl (by show 2 * 0 + _ ≤ _; exact Nat.le_of_eq rfl) (hb hby at_55) (fun _ _ => ⟨rfl, e0, (by decide : 0 + 0 ≤ _), (by decide : 0 + 0 ≤ _)⟩)
  dsimp only [Pt.U, Pt.locs, Pt.cells, Pt.slots] at X14 l14 y14 z14 st14 hQ14
  subst l14 y14 z14
  obtain ⟨rfl, N14q, e14q⟩ := hQ14
  have N14 := Fr.app N0 N14q
  obtain ⟨_, _, ⟨T15, L15, k15, n15⟩, -, X15, ⟨Lc15, hQ15, l15, y15, z15⟩, st15⟩ := Jvm.LawKit.callS X14 hx (y := (⟨"com/example/sarasvati/sarasvati/dedup/IndexRun", "pack", "(JI)J"⟩ : MethodName)) hown (mvT hZ (hw _ (List.mem_of_getElem? (i := 2) rfl))) (mvT hZ (hw _ (List.mem_of_getElem? (i := 3) rfl))) (mvT hZ (hw _ (List.mem_of_getElem? (i := 4) rfl))) (mvT hZ (hw _ (List.mem_of_getElem? (i := 5) rfl))) (by decide) (backOf (W := 0) (rm1 l Z a0 hw [] b y h0 n0 Z0 ) hZ (hw _ (List.mem_of_getElem? (i := 5) rfl)) (hw _ (List.mem_of_getElem? (i := 4) rfl)) (by decide) (by decide)) (g := (mkF m 64 #[.val (.long q0), .second, .val (.int p1), .val (.long q2), .second, .val (.int p3), .val (.int p4), .val (.long a), .second, .val (.int x), .val (.long b), .second, .val (.int y), .val (.long (own_pack a x)), .second, .unset, .unset, .unset, .unset, .unset, .unset, .unset] [(.int y), (.long b)])) rfl (by rw [hml]; rfl) (argsL := [(.long b), (.int y)]) (rest := []) (lenOf pd_0 rfl) rfl (by show 2 * 0 + _ ≤ _; exact Nat.le_of_eq rfl) (hb hby at_64) (fun _ _ => ⟨rfl, e14q, (by decide : 0 + 0 ≤ _), (by decide : 0 + 0 ≤ _)⟩)
  dsimp only [Pt.U, Pt.locs, Pt.cells, Pt.slots] at X15 l15 y15 z15 st15 hQ15
  subst l15 y15 z15
  obtain ⟨rfl, N15q, e15q⟩ := hQ15
  have N15 := Fr.app N14 N15q
  have pre16 : ∀ t, Steps p.tables e below (T15.setTop (mkF m 74 #[.val (.long q0), .second, .val (.int p1), .val (.long q2), .second, .val (.int p3), .val (.int p4), .val (.long a), .second, .val (.int x), .val (.long b), .second, .val (.int y), .val (.long (own_pack a x)), .second, .val (.long (own_pack b y)), .second, .unset, .unset, .unset, .unset, .unset] [(.int (lcmpW a b))])) t → Steps p.tables e below (s₁.setTop (entryFrame m #[(.long q0), (.int p1), (.long q2), (.int p3), (.int p4)] maxLocals)) t := by
    intro t kt
    refine pre12 _ ?_
    show Steps p.tables e below (s₁.setTop (mkF m 49 #[.val (.long q0), .second, .val (.int p1), .val (.long q2), .second, .val (.int p3), .val (.int p4), .val (.long a), .second, .val (.int x), .val (.long b), .second, .unset, .unset, .unset, .unset, .unset, .unset, .unset, .unset, .unset, .unset] [(.int y)])) _
    refine XS.istore X0.here hx rfl (hb hby at_49) rfl (l' := #[.val (.long q0), .second, .val (.int p1), .val (.long q2), .second, .val (.int p3), .val (.int p4), .val (.long a), .second, .val (.int x), .val (.long b), .second, .val (.int y), .unset, .unset, .unset, .unset, .unset, .unset, .unset, .unset, .unset]) rfl ?_
    show Steps p.tables e below (s₁.setTop (mkF m 51 #[.val (.long q0), .second, .val (.int p1), .val (.long q2), .second, .val (.int p3), .val (.int p4), .val (.long a), .second, .val (.int x), .val (.long b), .second, .val (.int y), .unset, .unset, .unset, .unset, .unset, .unset, .unset, .unset, .unset] [])) _
    refine XS.lload X0.here hx rfl (hb hby at_51) rfl ?_
    show Steps p.tables e below (s₁.setTop (mkF m 53 #[.val (.long q0), .second, .val (.int p1), .val (.long q2), .second, .val (.int p3), .val (.int p4), .val (.long a), .second, .val (.int x), .val (.long b), .second, .val (.int y), .unset, .unset, .unset, .unset, .unset, .unset, .unset, .unset, .unset] [(.long a)])) _
    refine XS.iload X0.here hx rfl (hb hby at_53) rfl ?_
    show Steps p.tables e below (s₁.setTop (mkF m 55 #[.val (.long q0), .second, .val (.int p1), .val (.long q2), .second, .val (.int p3), .val (.int p4), .val (.long a), .second, .val (.int x), .val (.long b), .second, .val (.int y), .unset, .unset, .unset, .unset, .unset, .unset, .unset, .unset, .unset] [(.int x), (.long a)])) _
    refine st14 _ ?_
    show Steps p.tables e below (T14.setTop (mkF m 58 #[.val (.long q0), .second, .val (.int p1), .val (.long q2), .second, .val (.int p3), .val (.int p4), .val (.long a), .second, .val (.int x), .val (.long b), .second, .val (.int y), .unset, .unset, .unset, .unset, .unset, .unset, .unset, .unset, .unset] [(.long (own_pack a x))])) _
    refine XS.lstore X14.here hx rfl (hb hby at_58) rfl (l' := #[.val (.long q0), .second, .val (.int p1), .val (.long q2), .second, .val (.int p3), .val (.int p4), .val (.long a), .second, .val (.int x), .val (.long b), .second, .val (.int y), .val (.long (own_pack a x)), .second, .unset, .unset, .unset, .unset, .unset, .unset, .unset]) rfl ?_
    show Steps p.tables e below (T14.setTop (mkF m 60 #[.val (.long q0), .second, .val (.int p1), .val (.long q2), .second, .val (.int p3), .val (.int p4), .val (.long a), .second, .val (.int x), .val (.long b), .second, .val (.int y), .val (.long (own_pack a x)), .second, .unset, .unset, .unset, .unset, .unset, .unset, .unset] [])) _
    refine XS.lload X14.here hx rfl (hb hby at_60) rfl ?_
    show Steps p.tables e below (T14.setTop (mkF m 62 #[.val (.long q0), .second, .val (.int p1), .val (.long q2), .second, .val (.int p3), .val (.int p4), .val (.long a), .second, .val (.int x), .val (.long b), .second, .val (.int y), .val (.long (own_pack a x)), .second, .unset, .unset, .unset, .unset, .unset, .unset, .unset] [(.long b)])) _
    refine XS.iload X14.here hx rfl (hb hby at_62) rfl ?_
    show Steps p.tables e below (T14.setTop (mkF m 64 #[.val (.long q0), .second, .val (.int p1), .val (.long q2), .second, .val (.int p3), .val (.int p4), .val (.long a), .second, .val (.int x), .val (.long b), .second, .val (.int y), .val (.long (own_pack a x)), .second, .unset, .unset, .unset, .unset, .unset, .unset, .unset] [(.int y), (.long b)])) _
    refine st15 _ ?_
    show Steps p.tables e below (T15.setTop (mkF m 67 #[.val (.long q0), .second, .val (.int p1), .val (.long q2), .second, .val (.int p3), .val (.int p4), .val (.long a), .second, .val (.int x), .val (.long b), .second, .val (.int y), .val (.long (own_pack a x)), .second, .unset, .unset, .unset, .unset, .unset, .unset, .unset] [(.long (own_pack b y))])) _
    refine XS.lstore X15.here hx rfl (hb hby at_67) rfl (l' := #[.val (.long q0), .second, .val (.int p1), .val (.long q2), .second, .val (.int p3), .val (.int p4), .val (.long a), .second, .val (.int x), .val (.long b), .second, .val (.int y), .val (.long (own_pack a x)), .second, .val (.long (own_pack b y)), .second, .unset, .unset, .unset, .unset, .unset]) rfl ?_
    show Steps p.tables e below (T15.setTop (mkF m 69 #[.val (.long q0), .second, .val (.int p1), .val (.long q2), .second, .val (.int p3), .val (.int p4), .val (.long a), .second, .val (.int x), .val (.long b), .second, .val (.int y), .val (.long (own_pack a x)), .second, .val (.long (own_pack b y)), .second, .unset, .unset, .unset, .unset, .unset] [])) _
    refine XS.lload X15.here hx rfl (hb hby at_69) rfl ?_
    show Steps p.tables e below (T15.setTop (mkF m 71 #[.val (.long q0), .second, .val (.int p1), .val (.long q2), .second, .val (.int p3), .val (.int p4), .val (.long a), .second, .val (.int x), .val (.long b), .second, .val (.int y), .val (.long (own_pack a x)), .second, .val (.long (own_pack b y)), .second, .unset, .unset, .unset, .unset, .unset] [(.long a)])) _
    refine XS.lload X15.here hx rfl (hb hby at_71) rfl ?_
    show Steps p.tables e below (T15.setTop (mkF m 73 #[.val (.long q0), .second, .val (.int p1), .val (.long q2), .second, .val (.int p3), .val (.int p4), .val (.long a), .second, .val (.int x), .val (.long b), .second, .val (.int y), .val (.long (own_pack a x)), .second, .val (.long (own_pack b y)), .second, .unset, .unset, .unset, .unset, .unset] [(.long b), (.long a)])) _
    refine XS.lcmp X15.here hx rfl (hb hby at_73) rfl ?_
    exact kt
  by_cases hc74 : a < b
  · -- a < b
    obtain ⟨_, _, ⟨T17, L17, k17, n17⟩, -, X17, ⟨Lc17, hQ17, l17, y17, z17⟩, st17⟩ := Jvm.LawKit.callS X15 hx (y := (⟨"com/example/sarasvati/sarasvati/dedup/IndexRun", "hashOf", "(J)J"⟩ : MethodName)) hown (mvT hZ (hw _ (List.mem_of_getElem? (i := 7) rfl))) (mvT hZ (hw _ (List.mem_of_getElem? (i := 8) rfl))) (mvT hZ (hw _ (List.mem_of_getElem? (i := 4) rfl))) (mvT hZ (hw _ (List.mem_of_getElem? (i := 9) rfl))) (by decide) (backOf (W := 0) (rm2 l Z a0 hw [] (own_pack a x) h0 n0 Z0 ) hZ (hw _ (List.mem_of_getElem? (i := 9) rfl)) (hw _ (List.mem_of_getElem? (i := 4) rfl)) (by decide) (by decide)) (g := (mkF m 166 #[.val (.long q0), .second, .val (.int p1), .val (.long q2), .second, .val (.int p3), .val (.int p4), .val (.long a), .second, .val (.int x), .val (.long b), .second, .val (.int y), .val (.long (own_pack a x)), .second, .val (.long (own_pack b y)), .second, .val (.int (1 : Int32)), .val (.int (0 : Int32)), .val (.int (1 : Int32)), .unset, .unset] [(.long (own_pack a x))])) rfl (by rw [hml]; rfl) (argsL := [(.long (own_pack a x))]) (rest := []) (lenOf pd_1 rfl) rfl (by show 2 * 0 + _ ≤ _; exact Nat.le_of_eq rfl) (hb hby at_166) (fun _ _ => ⟨rfl, e15q, (by decide : 0 + 0 ≤ _), (by decide : 0 + 0 ≤ _)⟩)
    dsimp only [Pt.U, Pt.locs, Pt.cells, Pt.slots] at X17 l17 y17 z17 st17 hQ17
    subst l17 y17 z17
    obtain ⟨rfl, N17q, e17q⟩ := hQ17
    have N17 := Fr.app N15 N17q
    obtain ⟨_, _, ⟨T18, L18, k18, n18⟩, -, X18, ⟨Lc18, hQ18, l18, y18, z18⟩, st18⟩ := Jvm.LawKit.callS X17 hx (y := (⟨"com/example/sarasvati/sarasvati/dedup/IndexRun", "indexOf", "(J)I"⟩ : MethodName)) hown (mvT hZ (hw _ (List.mem_of_getElem? (i := 10) rfl))) (mvT hZ (hw _ (List.mem_of_getElem? (i := 11) rfl))) (mvT hZ (hw _ (List.mem_of_getElem? (i := 4) rfl))) (mvT hZ (hw _ (List.mem_of_getElem? (i := 12) rfl))) (by decide) (backOf (W := 0) (rm3 l Z a0 hw [] (own_pack a x) h0 n0 Z0 ) hZ (hw _ (List.mem_of_getElem? (i := 12) rfl)) (hw _ (List.mem_of_getElem? (i := 4) rfl)) (by decide) (by decide)) (g := (mkF m 177 #[.val (.long q0), .second, .val (.int p1), .val (.long q2), .second, .val (.int p3), .val (.int p4), .val (.long a), .second, .val (.int x), .val (.long b), .second, .val (.int y), .val (.long (own_pack a x)), .second, .val (.long (own_pack b y)), .second, .val (.int (1 : Int32)), .val (.int (0 : Int32)), .val (.int (1 : Int32)), .unset, .unset] [(.long (own_pack a x))])) rfl (by rw [hml]; rfl) (argsL := [(.long (own_pack a x))]) (rest := []) (lenOf pd_2 rfl) rfl (by show 2 * 0 + _ ≤ _; exact Nat.le_of_eq rfl) (hb hby at_177) (fun _ _ => ⟨rfl, e17q, (by decide : 0 + 0 ≤ _), (by decide : 0 + 0 ≤ _)⟩)
    dsimp only [Pt.U, Pt.locs, Pt.cells, Pt.slots] at X18 l18 y18 z18 st18 hQ18
    subst l18 y18 z18
    obtain ⟨rfl, N18q, e18q⟩ := hQ18
    have N18 := Fr.app N17 N18q
    obtain ⟨_, _, ⟨T19, L19, k19, n19⟩, -, X19, ⟨Lc19, hQ19, l19, y19, z19⟩, st19⟩ := Jvm.LawKit.callS X18 hx (y := (⟨"com/example/sarasvati/sarasvati/dedup/IndexRun", "hashOf", "(J)J"⟩ : MethodName)) hown (mvT hZ (hw _ (List.mem_of_getElem? (i := 7) rfl))) (mvT hZ (hw _ (List.mem_of_getElem? (i := 8) rfl))) (mvT hZ (hw _ (List.mem_of_getElem? (i := 4) rfl))) (mvT hZ (hw _ (List.mem_of_getElem? (i := 9) rfl))) (by decide) (backOf (W := 0) (rm2 l Z a0 hw [] (own_pack b y) h0 n0 Z0 ) hZ (hw _ (List.mem_of_getElem? (i := 9) rfl)) (hw _ (List.mem_of_getElem? (i := 4) rfl)) (by decide) (by decide)) (g := (mkF m 194 #[.val (.long q0), .second, .val (.int p1), .val (.long q2), .second, .val (.int p3), .val (.int p4), .val (.long a), .second, .val (.int x), .val (.long b), .second, .val (.int y), .val (.long (own_pack a x)), .second, .val (.long (own_pack b y)), .second, .val (.int (1 : Int32)), .val (.int (0 : Int32)), .val (.int (1 : Int32)), .val (.int (1 : Int32)), .unset] [(.long (own_pack b y))])) rfl (by rw [hml]; rfl) (argsL := [(.long (own_pack b y))]) (rest := []) (lenOf pd_1 rfl) rfl (by show 2 * 0 + _ ≤ _; exact Nat.le_of_eq rfl) (hb hby at_194) (fun _ _ => ⟨rfl, e18q, (by decide : 0 + 0 ≤ _), (by decide : 0 + 0 ≤ _)⟩)
    dsimp only [Pt.U, Pt.locs, Pt.cells, Pt.slots] at X19 l19 y19 z19 st19 hQ19
    subst l19 y19 z19
    obtain ⟨rfl, N19q, e19q⟩ := hQ19
    have N19 := Fr.app N18 N19q
    obtain ⟨_, _, ⟨T20, L20, k20, n20⟩, -, X20, ⟨Lc20, hQ20, l20, y20, z20⟩, st20⟩ := Jvm.LawKit.callS X19 hx (y := (⟨"com/example/sarasvati/sarasvati/dedup/IndexRun", "indexOf", "(J)I"⟩ : MethodName)) hown (mvT hZ (hw _ (List.mem_of_getElem? (i := 10) rfl))) (mvT hZ (hw _ (List.mem_of_getElem? (i := 11) rfl))) (mvT hZ (hw _ (List.mem_of_getElem? (i := 4) rfl))) (mvT hZ (hw _ (List.mem_of_getElem? (i := 12) rfl))) (by decide) (backOf (W := 0) (rm3 l Z a0 hw [] (own_pack b y) h0 n0 Z0 ) hZ (hw _ (List.mem_of_getElem? (i := 12) rfl)) (hw _ (List.mem_of_getElem? (i := 4) rfl)) (by decide) (by decide)) (g := (mkF m 205 #[.val (.long q0), .second, .val (.int p1), .val (.long q2), .second, .val (.int p3), .val (.int p4), .val (.long a), .second, .val (.int x), .val (.long b), .second, .val (.int y), .val (.long (own_pack a x)), .second, .val (.long (own_pack b y)), .second, .val (.int (1 : Int32)), .val (.int (0 : Int32)), .val (.int (1 : Int32)), .val (.int (1 : Int32)), .unset] [(.long (own_pack b y))])) rfl (by rw [hml]; rfl) (argsL := [(.long (own_pack b y))]) (rest := []) (lenOf pd_2 rfl) rfl (by show 2 * 0 + _ ≤ _; exact Nat.le_of_eq rfl) (hb hby at_205) (fun _ _ => ⟨rfl, e19q, (by decide : 0 + 0 ≤ _), (by decide : 0 + 0 ≤ _)⟩)
    dsimp only [Pt.U, Pt.locs, Pt.cells, Pt.slots] at X20 l20 y20 z20 st20 hQ20
    subst l20 y20 z20
    obtain ⟨rfl, N20q, e20q⟩ := hQ20
    have N20 := Fr.app N19 N20q
    obtain ⟨fs, hr, hrun, hended, hW, hsame⟩ := X20.leave (v := some (.int (1 : Int32))) (fun h => by rw [Bd.returns] at h; cases h)
    refine ⟨_, _, pre16 _ ?_, hrun, hended, _, _, rfl, ?_, ⟨_, rfl⟩, hW, hsame.mono (by decide) (by decide)⟩
    · show Steps p.tables e below (T15.setTop (mkF m 74 #[.val (.long q0), .second, .val (.int p1), .val (.long q2), .second, .val (.int p3), .val (.int p4), .val (.long a), .second, .val (.int x), .val (.long b), .second, .val (.int y), .val (.long (own_pack a x)), .second, .val (.long (own_pack b y)), .second, .unset, .unset, .unset, .unset, .unset] [(.int (lcmpW a b))])) _
      refine XS.ifYes X15.here hx rfl (pc0 := 74) (pc' := 92) rfl (hb hby at_74) rfl ((if0 _ _).trans (tlt ((lw_lt _ _).mpr hc74)).1) (by decide) (by decide) ?_
      show Steps p.tables e below (T15.setTop (mkF m 92 #[.val (.long q0), .second, .val (.int p1), .val (.long q2), .second, .val (.int p3), .val (.int p4), .val (.long a), .second, .val (.int x), .val (.long b), .second, .val (.int y), .val (.long (own_pack a x)), .second, .val (.long (own_pack b y)), .second, .unset, .unset, .unset, .unset, .unset] [])) _
      refine XS.iconst X15.here hx rfl (hb hby at_92) ?_
      show Steps p.tables e below (T15.setTop (mkF m 93 #[.val (.long q0), .second, .val (.int p1), .val (.long q2), .second, .val (.int p3), .val (.int p4), .val (.long a), .second, .val (.int x), .val (.long b), .second, .val (.int y), .val (.long (own_pack a x)), .second, .val (.long (own_pack b y)), .second, .unset, .unset, .unset, .unset, .unset] [(.int (1 : Int32))])) _
      refine XS.goto X15.here hx rfl (pc0 := 93) (pc' := 97) rfl (hb hby at_93) (by decide) (by decide) ?_
      show Steps p.tables e below (T15.setTop (mkF m 97 #[.val (.long q0), .second, .val (.int p1), .val (.long q2), .second, .val (.int p3), .val (.int p4), .val (.long a), .second, .val (.int x), .val (.long b), .second, .val (.int y), .val (.long (own_pack a x)), .second, .val (.long (own_pack b y)), .second, .unset, .unset, .unset, .unset, .unset] [(.int (1 : Int32))])) _
      refine XS.istore X15.here hx rfl (hb hby at_97) rfl (l' := #[.val (.long q0), .second, .val (.int p1), .val (.long q2), .second, .val (.int p3), .val (.int p4), .val (.long a), .second, .val (.int x), .val (.long b), .second, .val (.int y), .val (.long (own_pack a x)), .second, .val (.long (own_pack b y)), .second, .val (.int (1 : Int32)), .unset, .unset, .unset, .unset]) rfl ?_
      show Steps p.tables e below (T15.setTop (mkF m 99 #[.val (.long q0), .second, .val (.int p1), .val (.long q2), .second, .val (.int p3), .val (.int p4), .val (.long a), .second, .val (.int x), .val (.long b), .second, .val (.int y), .val (.long (own_pack a x)), .second, .val (.long (own_pack b y)), .second, .val (.int (1 : Int32)), .unset, .unset, .unset, .unset] [])) _
      refine XS.lload X15.here hx rfl (hb hby at_99) rfl ?_
      show Steps p.tables e below (T15.setTop (mkF m 101 #[.val (.long q0), .second, .val (.int p1), .val (.long q2), .second, .val (.int p3), .val (.int p4), .val (.long a), .second, .val (.int x), .val (.long b), .second, .val (.int y), .val (.long (own_pack a x)), .second, .val (.long (own_pack b y)), .second, .val (.int (1 : Int32)), .unset, .unset, .unset, .unset] [(.long a)])) _
      refine XS.lload X15.here hx rfl (hb hby at_101) rfl ?_
      show Steps p.tables e below (T15.setTop (mkF m 103 #[.val (.long q0), .second, .val (.int p1), .val (.long q2), .second, .val (.int p3), .val (.int p4), .val (.long a), .second, .val (.int x), .val (.long b), .second, .val (.int y), .val (.long (own_pack a x)), .second, .val (.long (own_pack b y)), .second, .val (.int (1 : Int32)), .unset, .unset, .unset, .unset] [(.long b), (.long a)])) _
      refine XS.lcmp X15.here hx rfl (hb hby at_103) rfl ?_
      show Steps p.tables e below (T15.setTop (mkF m 104 #[.val (.long q0), .second, .val (.int p1), .val (.long q2), .second, .val (.int p3), .val (.int p4), .val (.long a), .second, .val (.int x), .val (.long b), .second, .val (.int y), .val (.long (own_pack a x)), .second, .val (.long (own_pack b y)), .second, .val (.int (1 : Int32)), .unset, .unset, .unset, .unset] [(.int (lcmpW a b))])) _
      refine XS.ifYes X15.here hx rfl (pc0 := 104) (pc' := 118) rfl (hb hby at_104) rfl ((if0 _ _).trans (feq ((not_congr (lw_eq _ _)).mpr (own_neL hc74))).2) (by decide) (by decide) ?_
      show Steps p.tables e below (T15.setTop (mkF m 118 #[.val (.long q0), .second, .val (.int p1), .val (.long q2), .second, .val (.int p3), .val (.int p4), .val (.long a), .second, .val (.int x), .val (.long b), .second, .val (.int y), .val (.long (own_pack a x)), .second, .val (.long (own_pack b y)), .second, .val (.int (1 : Int32)), .unset, .unset, .unset, .unset] [])) _
      refine XS.iconst X15.here hx rfl (hb hby at_118) ?_
      show Steps p.tables e below (T15.setTop (mkF m 119 #[.val (.long q0), .second, .val (.int p1), .val (.long q2), .second, .val (.int p3), .val (.int p4), .val (.long a), .second, .val (.int x), .val (.long b), .second, .val (.int y), .val (.long (own_pack a x)), .second, .val (.long (own_pack b y)), .second, .val (.int (1 : Int32)), .unset, .unset, .unset, .unset] [(.int (0 : Int32))])) _
      refine XS.istore X15.here hx rfl (hb hby at_119) rfl (l' := #[.val (.long q0), .second, .val (.int p1), .val (.long q2), .second, .val (.int p3), .val (.int p4), .val (.long a), .second, .val (.int x), .val (.long b), .second, .val (.int y), .val (.long (own_pack a x)), .second, .val (.long (own_pack b y)), .second, .val (.int (1 : Int32)), .val (.int (0 : Int32)), .unset, .unset, .unset]) rfl ?_
      show Steps p.tables e below (T15.setTop (mkF m 121 #[.val (.long q0), .second, .val (.int p1), .val (.long q2), .second, .val (.int p3), .val (.int p4), .val (.long a), .second, .val (.int x), .val (.long b), .second, .val (.int y), .val (.long (own_pack a x)), .second, .val (.long (own_pack b y)), .second, .val (.int (1 : Int32)), .val (.int (0 : Int32)), .unset, .unset, .unset] [])) _
      refine XS.lload X15.here hx rfl (hb hby at_121) rfl ?_
      show Steps p.tables e below (T15.setTop (mkF m 123 #[.val (.long q0), .second, .val (.int p1), .val (.long q2), .second, .val (.int p3), .val (.int p4), .val (.long a), .second, .val (.int x), .val (.long b), .second, .val (.int y), .val (.long (own_pack a x)), .second, .val (.long (own_pack b y)), .second, .val (.int (1 : Int32)), .val (.int (0 : Int32)), .unset, .unset, .unset] [(.long (own_pack a x))])) _
      refine XS.lload X15.here hx rfl (hb hby at_123) rfl ?_
      show Steps p.tables e below (T15.setTop (mkF m 125 #[.val (.long q0), .second, .val (.int p1), .val (.long q2), .second, .val (.int p3), .val (.int p4), .val (.long a), .second, .val (.int x), .val (.long b), .second, .val (.int y), .val (.long (own_pack a x)), .second, .val (.long (own_pack b y)), .second, .val (.int (1 : Int32)), .val (.int (0 : Int32)), .unset, .unset, .unset] [(.long (own_pack b y)), (.long (own_pack a x))])) _
      refine XS.lcmp X15.here hx rfl (hb hby at_125) rfl ?_
      show Steps p.tables e below (T15.setTop (mkF m 126 #[.val (.long q0), .second, .val (.int p1), .val (.long q2), .second, .val (.int p3), .val (.int p4), .val (.long a), .second, .val (.int x), .val (.long b), .second, .val (.int y), .val (.long (own_pack a x)), .second, .val (.long (own_pack b y)), .second, .val (.int (1 : Int32)), .val (.int (0 : Int32)), .unset, .unset, .unset] [(.int (lcmpW (own_pack a x) (own_pack b y)))])) _
      refine XS.ifNo X15.here hx rfl (hb hby at_126) rfl ((if0 _ _).trans (tlt ((lw_lt _ _).mpr ((own_plt a b x y hm1 hm7 hm4 hm11).mpr (Or.inl hc74)))).2.1) ?_
      show Steps p.tables e below (T15.setTop (mkF m 129 #[.val (.long q0), .second, .val (.int p1), .val (.long q2), .second, .val (.int p3), .val (.int p4), .val (.long a), .second, .val (.int x), .val (.long b), .second, .val (.int y), .val (.long (own_pack a x)), .second, .val (.long (own_pack b y)), .second, .val (.int (1 : Int32)), .val (.int (0 : Int32)), .unset, .unset, .unset] [])) _
      refine XS.iconst X15.here hx rfl (hb hby at_129) ?_
      show Steps p.tables e below (T15.setTop (mkF m 130 #[.val (.long q0), .second, .val (.int p1), .val (.long q2), .second, .val (.int p3), .val (.int p4), .val (.long a), .second, .val (.int x), .val (.long b), .second, .val (.int y), .val (.long (own_pack a x)), .second, .val (.long (own_pack b y)), .second, .val (.int (1 : Int32)), .val (.int (0 : Int32)), .unset, .unset, .unset] [(.int (1 : Int32))])) _
      refine XS.goto X15.here hx rfl (pc0 := 130) (pc' := 134) rfl (hb hby at_130) (by decide) (by decide) ?_
      show Steps p.tables e below (T15.setTop (mkF m 134 #[.val (.long q0), .second, .val (.int p1), .val (.long q2), .second, .val (.int p3), .val (.int p4), .val (.long a), .second, .val (.int x), .val (.long b), .second, .val (.int y), .val (.long (own_pack a x)), .second, .val (.long (own_pack b y)), .second, .val (.int (1 : Int32)), .val (.int (0 : Int32)), .unset, .unset, .unset] [(.int (1 : Int32))])) _
      refine XS.iload X15.here hx rfl (hb hby at_134) rfl ?_
      show Steps p.tables e below (T15.setTop (mkF m 136 #[.val (.long q0), .second, .val (.int p1), .val (.long q2), .second, .val (.int p3), .val (.int p4), .val (.long a), .second, .val (.int x), .val (.long b), .second, .val (.int y), .val (.long (own_pack a x)), .second, .val (.long (own_pack b y)), .second, .val (.int (1 : Int32)), .val (.int (0 : Int32)), .unset, .unset, .unset] [(.int (1 : Int32)), (.int (1 : Int32))])) _
      refine XS.icmpNo X15.here hx rfl (hb hby at_136) rfl (teq (by decide : (1 : Int32) = (1 : Int32))).2 ?_
      show Steps p.tables e below (T15.setTop (mkF m 139 #[.val (.long q0), .second, .val (.int p1), .val (.long q2), .second, .val (.int p3), .val (.int p4), .val (.long a), .second, .val (.int x), .val (.long b), .second, .val (.int y), .val (.long (own_pack a x)), .second, .val (.long (own_pack b y)), .second, .val (.int (1 : Int32)), .val (.int (0 : Int32)), .unset, .unset, .unset] [])) _
      refine XS.lload X15.here hx rfl (hb hby at_139) rfl ?_
      show Steps p.tables e below (T15.setTop (mkF m 141 #[.val (.long q0), .second, .val (.int p1), .val (.long q2), .second, .val (.int p3), .val (.int p4), .val (.long a), .second, .val (.int x), .val (.long b), .second, .val (.int y), .val (.long (own_pack a x)), .second, .val (.long (own_pack b y)), .second, .val (.int (1 : Int32)), .val (.int (0 : Int32)), .unset, .unset, .unset] [(.long (own_pack a x))])) _
      refine XS.lload X15.here hx rfl (hb hby at_141) rfl ?_
      show Steps p.tables e below (T15.setTop (mkF m 143 #[.val (.long q0), .second, .val (.int p1), .val (.long q2), .second, .val (.int p3), .val (.int p4), .val (.long a), .second, .val (.int x), .val (.long b), .second, .val (.int y), .val (.long (own_pack a x)), .second, .val (.long (own_pack b y)), .second, .val (.int (1 : Int32)), .val (.int (0 : Int32)), .unset, .unset, .unset] [(.long (own_pack b y)), (.long (own_pack a x))])) _
      refine XS.lcmp X15.here hx rfl (hb hby at_143) rfl ?_
      show Steps p.tables e below (T15.setTop (mkF m 144 #[.val (.long q0), .second, .val (.int p1), .val (.long q2), .second, .val (.int p3), .val (.int p4), .val (.long a), .second, .val (.int x), .val (.long b), .second, .val (.int y), .val (.long (own_pack a x)), .second, .val (.long (own_pack b y)), .second, .val (.int (1 : Int32)), .val (.int (0 : Int32)), .unset, .unset, .unset] [(.int (lcmpW (own_pack a x) (own_pack b y)))])) _
      refine XS.ifYes X15.here hx rfl (pc0 := 144) (pc' := 151) rfl (hb hby at_144) rfl ((if0 _ _).trans (feq ((not_congr (lw_eq _ _)).mpr (fun z => (fun q => own_neL hc74 q.1) ((own_peq a b x y hm1 hm7 hm4 hm11).mp z)))).2) (by decide) (by decide) ?_
      show Steps p.tables e below (T15.setTop (mkF m 151 #[.val (.long q0), .second, .val (.int p1), .val (.long q2), .second, .val (.int p3), .val (.int p4), .val (.long a), .second, .val (.int x), .val (.long b), .second, .val (.int y), .val (.long (own_pack a x)), .second, .val (.long (own_pack b y)), .second, .val (.int (1 : Int32)), .val (.int (0 : Int32)), .unset, .unset, .unset] [])) _
      refine XS.iconst X15.here hx rfl (hb hby at_151) ?_
      show Steps p.tables e below (T15.setTop (mkF m 152 #[.val (.long q0), .second, .val (.int p1), .val (.long q2), .second, .val (.int p3), .val (.int p4), .val (.long a), .second, .val (.int x), .val (.long b), .second, .val (.int y), .val (.long (own_pack a x)), .second, .val (.long (own_pack b y)), .second, .val (.int (1 : Int32)), .val (.int (0 : Int32)), .unset, .unset, .unset] [(.int (0 : Int32))])) _
      refine XS.iload X15.here hx rfl (hb hby at_152) rfl ?_
      show Steps p.tables e below (T15.setTop (mkF m 154 #[.val (.long q0), .second, .val (.int p1), .val (.long q2), .second, .val (.int p3), .val (.int p4), .val (.long a), .second, .val (.int x), .val (.long b), .second, .val (.int y), .val (.long (own_pack a x)), .second, .val (.long (own_pack b y)), .second, .val (.int (1 : Int32)), .val (.int (0 : Int32)), .unset, .unset, .unset] [(.int (0 : Int32)), (.int (0 : Int32))])) _
      refine XS.icmpNo X15.here hx rfl (hb hby at_154) rfl (teq (by decide : (0 : Int32) = (0 : Int32))).2 ?_
      show Steps p.tables e below (T15.setTop (mkF m 157 #[.val (.long q0), .second, .val (.int p1), .val (.long q2), .second, .val (.int p3), .val (.int p4), .val (.long a), .second, .val (.int x), .val (.long b), .second, .val (.int y), .val (.long (own_pack a x)), .second, .val (.long (own_pack b y)), .second, .val (.int (1 : Int32)), .val (.int (0 : Int32)), .unset, .unset, .unset] [])) _
      refine XS.iconst X15.here hx rfl (hb hby at_157) ?_
      show Steps p.tables e below (T15.setTop (mkF m 158 #[.val (.long q0), .second, .val (.int p1), .val (.long q2), .second, .val (.int p3), .val (.int p4), .val (.long a), .second, .val (.int x), .val (.long b), .second, .val (.int y), .val (.long (own_pack a x)), .second, .val (.long (own_pack b y)), .second, .val (.int (1 : Int32)), .val (.int (0 : Int32)), .unset, .unset, .unset] [(.int (1 : Int32))])) _
      refine XS.goto X15.here hx rfl (pc0 := 158) (pc' := 162) rfl (hb hby at_158) (by decide) (by decide) ?_
      show Steps p.tables e below (T15.setTop (mkF m 162 #[.val (.long q0), .second, .val (.int p1), .val (.long q2), .second, .val (.int p3), .val (.int p4), .val (.long a), .second, .val (.int x), .val (.long b), .second, .val (.int y), .val (.long (own_pack a x)), .second, .val (.long (own_pack b y)), .second, .val (.int (1 : Int32)), .val (.int (0 : Int32)), .unset, .unset, .unset] [(.int (1 : Int32))])) _
      refine XS.istore X15.here hx rfl (hb hby at_162) rfl (l' := #[.val (.long q0), .second, .val (.int p1), .val (.long q2), .second, .val (.int p3), .val (.int p4), .val (.long a), .second, .val (.int x), .val (.long b), .second, .val (.int y), .val (.long (own_pack a x)), .second, .val (.long (own_pack b y)), .second, .val (.int (1 : Int32)), .val (.int (0 : Int32)), .val (.int (1 : Int32)), .unset, .unset]) rfl ?_
      show Steps p.tables e below (T15.setTop (mkF m 164 #[.val (.long q0), .second, .val (.int p1), .val (.long q2), .second, .val (.int p3), .val (.int p4), .val (.long a), .second, .val (.int x), .val (.long b), .second, .val (.int y), .val (.long (own_pack a x)), .second, .val (.long (own_pack b y)), .second, .val (.int (1 : Int32)), .val (.int (0 : Int32)), .val (.int (1 : Int32)), .unset, .unset] [])) _
      refine XS.lload X15.here hx rfl (hb hby at_164) rfl ?_
      show Steps p.tables e below (T15.setTop (mkF m 166 #[.val (.long q0), .second, .val (.int p1), .val (.long q2), .second, .val (.int p3), .val (.int p4), .val (.long a), .second, .val (.int x), .val (.long b), .second, .val (.int y), .val (.long (own_pack a x)), .second, .val (.long (own_pack b y)), .second, .val (.int (1 : Int32)), .val (.int (0 : Int32)), .val (.int (1 : Int32)), .unset, .unset] [(.long (own_pack a x))])) _
      refine st17 _ ?_
      show Steps p.tables e below (T17.setTop (mkF m 169 #[.val (.long q0), .second, .val (.int p1), .val (.long q2), .second, .val (.int p3), .val (.int p4), .val (.long a), .second, .val (.int x), .val (.long b), .second, .val (.int y), .val (.long (own_pack a x)), .second, .val (.long (own_pack b y)), .second, .val (.int (1 : Int32)), .val (.int (0 : Int32)), .val (.int (1 : Int32)), .unset, .unset] [(.long (own_hashOf (own_pack a x)))])) _
      refine XS.lload X17.here hx rfl (hb hby at_169) rfl ?_
      show Steps p.tables e below (T17.setTop (mkF m 171 #[.val (.long q0), .second, .val (.int p1), .val (.long q2), .second, .val (.int p3), .val (.int p4), .val (.long a), .second, .val (.int x), .val (.long b), .second, .val (.int y), .val (.long (own_pack a x)), .second, .val (.long (own_pack b y)), .second, .val (.int (1 : Int32)), .val (.int (0 : Int32)), .val (.int (1 : Int32)), .unset, .unset] [(.long a), (.long (own_hashOf (own_pack a x)))])) _
      refine XS.lcmp X17.here hx rfl (hb hby at_171) rfl ?_
      show Steps p.tables e below (T17.setTop (mkF m 172 #[.val (.long q0), .second, .val (.int p1), .val (.long q2), .second, .val (.int p3), .val (.int p4), .val (.long a), .second, .val (.int x), .val (.long b), .second, .val (.int y), .val (.long (own_pack a x)), .second, .val (.long (own_pack b y)), .second, .val (.int (1 : Int32)), .val (.int (0 : Int32)), .val (.int (1 : Int32)), .unset, .unset] [(.int (lcmpW (own_hashOf (own_pack a x)) a))])) _
      refine XS.ifNo X17.here hx rfl (hb hby at_172) rfl ((if0 _ _).trans (teq ((lw_eq _ _).mpr (own_hash a x hm1 hm4))).2) ?_
      show Steps p.tables e below (T17.setTop (mkF m 175 #[.val (.long q0), .second, .val (.int p1), .val (.long q2), .second, .val (.int p3), .val (.int p4), .val (.long a), .second, .val (.int x), .val (.long b), .second, .val (.int y), .val (.long (own_pack a x)), .second, .val (.long (own_pack b y)), .second, .val (.int (1 : Int32)), .val (.int (0 : Int32)), .val (.int (1 : Int32)), .unset, .unset] [])) _
      refine XS.lload X17.here hx rfl (hb hby at_175) rfl ?_
      show Steps p.tables e below (T17.setTop (mkF m 177 #[.val (.long q0), .second, .val (.int p1), .val (.long q2), .second, .val (.int p3), .val (.int p4), .val (.long a), .second, .val (.int x), .val (.long b), .second, .val (.int y), .val (.long (own_pack a x)), .second, .val (.long (own_pack b y)), .second, .val (.int (1 : Int32)), .val (.int (0 : Int32)), .val (.int (1 : Int32)), .unset, .unset] [(.long (own_pack a x))])) _
      refine st18 _ ?_
      show Steps p.tables e below (T18.setTop (mkF m 180 #[.val (.long q0), .second, .val (.int p1), .val (.long q2), .second, .val (.int p3), .val (.int p4), .val (.long a), .second, .val (.int x), .val (.long b), .second, .val (.int y), .val (.long (own_pack a x)), .second, .val (.long (own_pack b y)), .second, .val (.int (1 : Int32)), .val (.int (0 : Int32)), .val (.int (1 : Int32)), .unset, .unset] [(.int (own_indexOf (own_pack a x)))])) _
      refine XS.iload X18.here hx rfl (hb hby at_180) rfl ?_
      show Steps p.tables e below (T18.setTop (mkF m 182 #[.val (.long q0), .second, .val (.int p1), .val (.long q2), .second, .val (.int p3), .val (.int p4), .val (.long a), .second, .val (.int x), .val (.long b), .second, .val (.int y), .val (.long (own_pack a x)), .second, .val (.long (own_pack b y)), .second, .val (.int (1 : Int32)), .val (.int (0 : Int32)), .val (.int (1 : Int32)), .unset, .unset] [(.int x), (.int (own_indexOf (own_pack a x)))])) _
      refine XS.icmpNo X18.here hx rfl (hb hby at_182) rfl (teq (own_index a x hm1 hm4)).2 ?_
      show Steps p.tables e below (T18.setTop (mkF m 185 #[.val (.long q0), .second, .val (.int p1), .val (.long q2), .second, .val (.int p3), .val (.int p4), .val (.long a), .second, .val (.int x), .val (.long b), .second, .val (.int y), .val (.long (own_pack a x)), .second, .val (.long (own_pack b y)), .second, .val (.int (1 : Int32)), .val (.int (0 : Int32)), .val (.int (1 : Int32)), .unset, .unset] [])) _
      refine XS.iconst X18.here hx rfl (hb hby at_185) ?_
      show Steps p.tables e below (T18.setTop (mkF m 186 #[.val (.long q0), .second, .val (.int p1), .val (.long q2), .second, .val (.int p3), .val (.int p4), .val (.long a), .second, .val (.int x), .val (.long b), .second, .val (.int y), .val (.long (own_pack a x)), .second, .val (.long (own_pack b y)), .second, .val (.int (1 : Int32)), .val (.int (0 : Int32)), .val (.int (1 : Int32)), .unset, .unset] [(.int (1 : Int32))])) _
      refine XS.goto X18.here hx rfl (pc0 := 186) (pc' := 190) rfl (hb hby at_186) (by decide) (by decide) ?_
      show Steps p.tables e below (T18.setTop (mkF m 190 #[.val (.long q0), .second, .val (.int p1), .val (.long q2), .second, .val (.int p3), .val (.int p4), .val (.long a), .second, .val (.int x), .val (.long b), .second, .val (.int y), .val (.long (own_pack a x)), .second, .val (.long (own_pack b y)), .second, .val (.int (1 : Int32)), .val (.int (0 : Int32)), .val (.int (1 : Int32)), .unset, .unset] [(.int (1 : Int32))])) _
      refine XS.istore X18.here hx rfl (hb hby at_190) rfl (l' := #[.val (.long q0), .second, .val (.int p1), .val (.long q2), .second, .val (.int p3), .val (.int p4), .val (.long a), .second, .val (.int x), .val (.long b), .second, .val (.int y), .val (.long (own_pack a x)), .second, .val (.long (own_pack b y)), .second, .val (.int (1 : Int32)), .val (.int (0 : Int32)), .val (.int (1 : Int32)), .val (.int (1 : Int32)), .unset]) rfl ?_
      show Steps p.tables e below (T18.setTop (mkF m 192 #[.val (.long q0), .second, .val (.int p1), .val (.long q2), .second, .val (.int p3), .val (.int p4), .val (.long a), .second, .val (.int x), .val (.long b), .second, .val (.int y), .val (.long (own_pack a x)), .second, .val (.long (own_pack b y)), .second, .val (.int (1 : Int32)), .val (.int (0 : Int32)), .val (.int (1 : Int32)), .val (.int (1 : Int32)), .unset] [])) _
      refine XS.lload X18.here hx rfl (hb hby at_192) rfl ?_
      show Steps p.tables e below (T18.setTop (mkF m 194 #[.val (.long q0), .second, .val (.int p1), .val (.long q2), .second, .val (.int p3), .val (.int p4), .val (.long a), .second, .val (.int x), .val (.long b), .second, .val (.int y), .val (.long (own_pack a x)), .second, .val (.long (own_pack b y)), .second, .val (.int (1 : Int32)), .val (.int (0 : Int32)), .val (.int (1 : Int32)), .val (.int (1 : Int32)), .unset] [(.long (own_pack b y))])) _
      refine st19 _ ?_
      show Steps p.tables e below (T19.setTop (mkF m 197 #[.val (.long q0), .second, .val (.int p1), .val (.long q2), .second, .val (.int p3), .val (.int p4), .val (.long a), .second, .val (.int x), .val (.long b), .second, .val (.int y), .val (.long (own_pack a x)), .second, .val (.long (own_pack b y)), .second, .val (.int (1 : Int32)), .val (.int (0 : Int32)), .val (.int (1 : Int32)), .val (.int (1 : Int32)), .unset] [(.long (own_hashOf (own_pack b y)))])) _
      refine XS.lload X19.here hx rfl (hb hby at_197) rfl ?_
      show Steps p.tables e below (T19.setTop (mkF m 199 #[.val (.long q0), .second, .val (.int p1), .val (.long q2), .second, .val (.int p3), .val (.int p4), .val (.long a), .second, .val (.int x), .val (.long b), .second, .val (.int y), .val (.long (own_pack a x)), .second, .val (.long (own_pack b y)), .second, .val (.int (1 : Int32)), .val (.int (0 : Int32)), .val (.int (1 : Int32)), .val (.int (1 : Int32)), .unset] [(.long b), (.long (own_hashOf (own_pack b y)))])) _
      refine XS.lcmp X19.here hx rfl (hb hby at_199) rfl ?_
      show Steps p.tables e below (T19.setTop (mkF m 200 #[.val (.long q0), .second, .val (.int p1), .val (.long q2), .second, .val (.int p3), .val (.int p4), .val (.long a), .second, .val (.int x), .val (.long b), .second, .val (.int y), .val (.long (own_pack a x)), .second, .val (.long (own_pack b y)), .second, .val (.int (1 : Int32)), .val (.int (0 : Int32)), .val (.int (1 : Int32)), .val (.int (1 : Int32)), .unset] [(.int (lcmpW (own_hashOf (own_pack b y)) b))])) _
      refine XS.ifNo X19.here hx rfl (hb hby at_200) rfl ((if0 _ _).trans (teq ((lw_eq _ _).mpr (own_hash b y hm7 hm11))).2) ?_
      show Steps p.tables e below (T19.setTop (mkF m 203 #[.val (.long q0), .second, .val (.int p1), .val (.long q2), .second, .val (.int p3), .val (.int p4), .val (.long a), .second, .val (.int x), .val (.long b), .second, .val (.int y), .val (.long (own_pack a x)), .second, .val (.long (own_pack b y)), .second, .val (.int (1 : Int32)), .val (.int (0 : Int32)), .val (.int (1 : Int32)), .val (.int (1 : Int32)), .unset] [])) _
      refine XS.lload X19.here hx rfl (hb hby at_203) rfl ?_
      show Steps p.tables e below (T19.setTop (mkF m 205 #[.val (.long q0), .second, .val (.int p1), .val (.long q2), .second, .val (.int p3), .val (.int p4), .val (.long a), .second, .val (.int x), .val (.long b), .second, .val (.int y), .val (.long (own_pack a x)), .second, .val (.long (own_pack b y)), .second, .val (.int (1 : Int32)), .val (.int (0 : Int32)), .val (.int (1 : Int32)), .val (.int (1 : Int32)), .unset] [(.long (own_pack b y))])) _
      refine st20 _ ?_
      show Steps p.tables e below (T20.setTop (mkF m 208 #[.val (.long q0), .second, .val (.int p1), .val (.long q2), .second, .val (.int p3), .val (.int p4), .val (.long a), .second, .val (.int x), .val (.long b), .second, .val (.int y), .val (.long (own_pack a x)), .second, .val (.long (own_pack b y)), .second, .val (.int (1 : Int32)), .val (.int (0 : Int32)), .val (.int (1 : Int32)), .val (.int (1 : Int32)), .unset] [(.int (own_indexOf (own_pack b y)))])) _
      refine XS.iload X20.here hx rfl (hb hby at_208) rfl ?_
      show Steps p.tables e below (T20.setTop (mkF m 210 #[.val (.long q0), .second, .val (.int p1), .val (.long q2), .second, .val (.int p3), .val (.int p4), .val (.long a), .second, .val (.int x), .val (.long b), .second, .val (.int y), .val (.long (own_pack a x)), .second, .val (.long (own_pack b y)), .second, .val (.int (1 : Int32)), .val (.int (0 : Int32)), .val (.int (1 : Int32)), .val (.int (1 : Int32)), .unset] [(.int y), (.int (own_indexOf (own_pack b y)))])) _
      refine XS.icmpNo X20.here hx rfl (hb hby at_210) rfl (teq (own_index b y hm7 hm11)).2 ?_
      show Steps p.tables e below (T20.setTop (mkF m 213 #[.val (.long q0), .second, .val (.int p1), .val (.long q2), .second, .val (.int p3), .val (.int p4), .val (.long a), .second, .val (.int x), .val (.long b), .second, .val (.int y), .val (.long (own_pack a x)), .second, .val (.long (own_pack b y)), .second, .val (.int (1 : Int32)), .val (.int (0 : Int32)), .val (.int (1 : Int32)), .val (.int (1 : Int32)), .unset] [])) _
      refine XS.iconst X20.here hx rfl (hb hby at_213) ?_
      show Steps p.tables e below (T20.setTop (mkF m 214 #[.val (.long q0), .second, .val (.int p1), .val (.long q2), .second, .val (.int p3), .val (.int p4), .val (.long a), .second, .val (.int x), .val (.long b), .second, .val (.int y), .val (.long (own_pack a x)), .second, .val (.long (own_pack b y)), .second, .val (.int (1 : Int32)), .val (.int (0 : Int32)), .val (.int (1 : Int32)), .val (.int (1 : Int32)), .unset] [(.int (1 : Int32))])) _
      refine XS.goto X20.here hx rfl (pc0 := 214) (pc' := 218) rfl (hb hby at_214) (by decide) (by decide) ?_
      show Steps p.tables e below (T20.setTop (mkF m 218 #[.val (.long q0), .second, .val (.int p1), .val (.long q2), .second, .val (.int p3), .val (.int p4), .val (.long a), .second, .val (.int x), .val (.long b), .second, .val (.int y), .val (.long (own_pack a x)), .second, .val (.long (own_pack b y)), .second, .val (.int (1 : Int32)), .val (.int (0 : Int32)), .val (.int (1 : Int32)), .val (.int (1 : Int32)), .unset] [(.int (1 : Int32))])) _
      refine XS.istore X20.here hx rfl (hb hby at_218) rfl (l' := #[.val (.long q0), .second, .val (.int p1), .val (.long q2), .second, .val (.int p3), .val (.int p4), .val (.long a), .second, .val (.int x), .val (.long b), .second, .val (.int y), .val (.long (own_pack a x)), .second, .val (.long (own_pack b y)), .second, .val (.int (1 : Int32)), .val (.int (0 : Int32)), .val (.int (1 : Int32)), .val (.int (1 : Int32)), .val (.int (1 : Int32))]) rfl ?_
      show Steps p.tables e below (T20.setTop (mkF m 220 #[.val (.long q0), .second, .val (.int p1), .val (.long q2), .second, .val (.int p3), .val (.int p4), .val (.long a), .second, .val (.int x), .val (.long b), .second, .val (.int y), .val (.long (own_pack a x)), .second, .val (.long (own_pack b y)), .second, .val (.int (1 : Int32)), .val (.int (0 : Int32)), .val (.int (1 : Int32)), .val (.int (1 : Int32)), .val (.int (1 : Int32))] [])) _
      refine XS.iload X20.here hx rfl (hb hby at_220) rfl ?_
      show Steps p.tables e below (T20.setTop (mkF m 222 #[.val (.long q0), .second, .val (.int p1), .val (.long q2), .second, .val (.int p3), .val (.int p4), .val (.long a), .second, .val (.int x), .val (.long b), .second, .val (.int y), .val (.long (own_pack a x)), .second, .val (.long (own_pack b y)), .second, .val (.int (1 : Int32)), .val (.int (0 : Int32)), .val (.int (1 : Int32)), .val (.int (1 : Int32)), .val (.int (1 : Int32))] [(.int (1 : Int32))])) _
      refine XS.ifNo X20.here hx rfl (hb hby at_222) rfl ((if0 _ _).trans (feq (by decide : ¬ ((1 : Int32) = (0 : Int32)))).1) ?_
      show Steps p.tables e below (T20.setTop (mkF m 225 #[.val (.long q0), .second, .val (.int p1), .val (.long q2), .second, .val (.int p3), .val (.int p4), .val (.long a), .second, .val (.int x), .val (.long b), .second, .val (.int y), .val (.long (own_pack a x)), .second, .val (.long (own_pack b y)), .second, .val (.int (1 : Int32)), .val (.int (0 : Int32)), .val (.int (1 : Int32)), .val (.int (1 : Int32)), .val (.int (1 : Int32))] [])) _
      refine XS.iload X20.here hx rfl (hb hby at_225) rfl ?_
      show Steps p.tables e below (T20.setTop (mkF m 227 #[.val (.long q0), .second, .val (.int p1), .val (.long q2), .second, .val (.int p3), .val (.int p4), .val (.long a), .second, .val (.int x), .val (.long b), .second, .val (.int y), .val (.long (own_pack a x)), .second, .val (.long (own_pack b y)), .second, .val (.int (1 : Int32)), .val (.int (0 : Int32)), .val (.int (1 : Int32)), .val (.int (1 : Int32)), .val (.int (1 : Int32))] [(.int (1 : Int32))])) _
      refine XS.ifNo X20.here hx rfl (hb hby at_227) rfl ((if0 _ _).trans (feq (by decide : ¬ ((1 : Int32) = (0 : Int32)))).1) ?_
      show Steps p.tables e below (T20.setTop (mkF m 230 #[.val (.long q0), .second, .val (.int p1), .val (.long q2), .second, .val (.int p3), .val (.int p4), .val (.long a), .second, .val (.int x), .val (.long b), .second, .val (.int y), .val (.long (own_pack a x)), .second, .val (.long (own_pack b y)), .second, .val (.int (1 : Int32)), .val (.int (0 : Int32)), .val (.int (1 : Int32)), .val (.int (1 : Int32)), .val (.int (1 : Int32))] [])) _
      refine XS.iload X20.here hx rfl (hb hby at_230) rfl ?_
      show Steps p.tables e below (T20.setTop (mkF m 232 #[.val (.long q0), .second, .val (.int p1), .val (.long q2), .second, .val (.int p3), .val (.int p4), .val (.long a), .second, .val (.int x), .val (.long b), .second, .val (.int y), .val (.long (own_pack a x)), .second, .val (.long (own_pack b y)), .second, .val (.int (1 : Int32)), .val (.int (0 : Int32)), .val (.int (1 : Int32)), .val (.int (1 : Int32)), .val (.int (1 : Int32))] [(.int (1 : Int32))])) _
      refine XS.ifNo X20.here hx rfl (hb hby at_232) rfl ((if0 _ _).trans (feq (by decide : ¬ ((1 : Int32) = (0 : Int32)))).1) ?_
      show Steps p.tables e below (T20.setTop (mkF m 235 #[.val (.long q0), .second, .val (.int p1), .val (.long q2), .second, .val (.int p3), .val (.int p4), .val (.long a), .second, .val (.int x), .val (.long b), .second, .val (.int y), .val (.long (own_pack a x)), .second, .val (.long (own_pack b y)), .second, .val (.int (1 : Int32)), .val (.int (0 : Int32)), .val (.int (1 : Int32)), .val (.int (1 : Int32)), .val (.int (1 : Int32))] [])) _
      refine XS.iconst X20.here hx rfl (hb hby at_235) ?_
      show Steps p.tables e below (T20.setTop (mkF m 236 #[.val (.long q0), .second, .val (.int p1), .val (.long q2), .second, .val (.int p3), .val (.int p4), .val (.long a), .second, .val (.int x), .val (.long b), .second, .val (.int y), .val (.long (own_pack a x)), .second, .val (.long (own_pack b y)), .second, .val (.int (1 : Int32)), .val (.int (0 : Int32)), .val (.int (1 : Int32)), .val (.int (1 : Int32)), .val (.int (1 : Int32))] [(.int (1 : Int32))])) _
      refine XS.goto X20.here hx rfl (pc0 := 236) (pc' := 240) rfl (hb hby at_236) (by decide) (by decide) ?_
      show Steps p.tables e below (T20.setTop (mkF m 240 #[.val (.long q0), .second, .val (.int p1), .val (.long q2), .second, .val (.int p3), .val (.int p4), .val (.long a), .second, .val (.int x), .val (.long b), .second, .val (.int y), .val (.long (own_pack a x)), .second, .val (.long (own_pack b y)), .second, .val (.int (1 : Int32)), .val (.int (0 : Int32)), .val (.int (1 : Int32)), .val (.int (1 : Int32)), .val (.int (1 : Int32))] [(.int (1 : Int32))])) _
      exact retN X20 hx (t := .boolean) Bd.returns (by simp) (hb hby at_240) hr
    · show Q0 Z q0 p1 q2 p3 p4 h0 n0 _ T20.heap _
      rw [e20q]
      exact ⟨rfl, N20⟩
  · -- not a < b
    have pre22 : ∀ t, Steps p.tables e below (T15.setTop (mkF m 82 #[.val (.long q0), .second, .val (.int p1), .val (.long q2), .second, .val (.int p3), .val (.int p4), .val (.long a), .second, .val (.int x), .val (.long b), .second, .val (.int y), .val (.long (own_pack a x)), .second, .val (.long (own_pack b y)), .second, .unset, .unset, .unset, .unset, .unset] [(.int (lcmpW a b))])) t → Steps p.tables e below (s₁.setTop (entryFrame m #[(.long q0), (.int p1), (.long q2), (.int p3), (.int p4)] maxLocals)) t := by
      intro t kt
      refine pre16 _ ?_
      show Steps p.tables e below (T15.setTop (mkF m 74 #[.val (.long q0), .second, .val (.int p1), .val (.long q2), .second, .val (.int p3), .val (.int p4), .val (.long a), .second, .val (.int x), .val (.long b), .second, .val (.int y), .val (.long (own_pack a x)), .second, .val (.long (own_pack b y)), .second, .unset, .unset, .unset, .unset, .unset] [(.int (lcmpW a b))])) _
      refine XS.ifNo X15.here hx rfl (hb hby at_74) rfl ((if0 _ _).trans (flt ((not_congr (lw_lt _ _)).mpr hc74)).1) ?_
      show Steps p.tables e below (T15.setTop (mkF m 77 #[.val (.long q0), .second, .val (.int p1), .val (.long q2), .second, .val (.int p3), .val (.int p4), .val (.long a), .second, .val (.int x), .val (.long b), .second, .val (.int y), .val (.long (own_pack a x)), .second, .val (.long (own_pack b y)), .second, .unset, .unset, .unset, .unset, .unset] [])) _
      refine XS.lload X15.here hx rfl (hb hby at_77) rfl ?_
      show Steps p.tables e below (T15.setTop (mkF m 79 #[.val (.long q0), .second, .val (.int p1), .val (.long q2), .second, .val (.int p3), .val (.int p4), .val (.long a), .second, .val (.int x), .val (.long b), .second, .val (.int y), .val (.long (own_pack a x)), .second, .val (.long (own_pack b y)), .second, .unset, .unset, .unset, .unset, .unset] [(.long a)])) _
      refine XS.lload X15.here hx rfl (hb hby at_79) rfl ?_
      show Steps p.tables e below (T15.setTop (mkF m 81 #[.val (.long q0), .second, .val (.int p1), .val (.long q2), .second, .val (.int p3), .val (.int p4), .val (.long a), .second, .val (.int x), .val (.long b), .second, .val (.int y), .val (.long (own_pack a x)), .second, .val (.long (own_pack b y)), .second, .unset, .unset, .unset, .unset, .unset] [(.long b), (.long a)])) _
      refine XS.lcmp X15.here hx rfl (hb hby at_81) rfl ?_
      exact kt
    by_cases hc82 : a = b
    · -- a = b
      have pre23 : ∀ t, Steps p.tables e below (T15.setTop (mkF m 89 #[.val (.long q0), .second, .val (.int p1), .val (.long q2), .second, .val (.int p3), .val (.int p4), .val (.long a), .second, .val (.int x), .val (.long b), .second, .val (.int y), .val (.long (own_pack a x)), .second, .val (.long (own_pack b y)), .second, .unset, .unset, .unset, .unset, .unset] [(.int y), (.int x)])) t → Steps p.tables e below (s₁.setTop (entryFrame m #[(.long q0), (.int p1), (.long q2), (.int p3), (.int p4)] maxLocals)) t := by
        intro t kt
        refine pre22 _ ?_
        show Steps p.tables e below (T15.setTop (mkF m 82 #[.val (.long q0), .second, .val (.int p1), .val (.long q2), .second, .val (.int p3), .val (.int p4), .val (.long a), .second, .val (.int x), .val (.long b), .second, .val (.int y), .val (.long (own_pack a x)), .second, .val (.long (own_pack b y)), .second, .unset, .unset, .unset, .unset, .unset] [(.int (lcmpW a b))])) _
        refine XS.ifNo X15.here hx rfl (hb hby at_82) rfl ((if0 _ _).trans (teq ((lw_eq _ _).mpr hc82)).2) ?_
        show Steps p.tables e below (T15.setTop (mkF m 85 #[.val (.long q0), .second, .val (.int p1), .val (.long q2), .second, .val (.int p3), .val (.int p4), .val (.long a), .second, .val (.int x), .val (.long b), .second, .val (.int y), .val (.long (own_pack a x)), .second, .val (.long (own_pack b y)), .second, .unset, .unset, .unset, .unset, .unset] [])) _
        refine XS.iload X15.here hx rfl (hb hby at_85) rfl ?_
        show Steps p.tables e below (T15.setTop (mkF m 87 #[.val (.long q0), .second, .val (.int p1), .val (.long q2), .second, .val (.int p3), .val (.int p4), .val (.long a), .second, .val (.int x), .val (.long b), .second, .val (.int y), .val (.long (own_pack a x)), .second, .val (.long (own_pack b y)), .second, .unset, .unset, .unset, .unset, .unset] [(.int x)])) _
        refine XS.iload X15.here hx rfl (hb hby at_87) rfl ?_
        exact kt
      by_cases hc89 : x < y
      · -- x < y
        obtain ⟨_, _, ⟨T24, L24, k24, n24⟩, -, X24, ⟨Lc24, hQ24, l24, y24, z24⟩, st24⟩ := Jvm.LawKit.callS X15 hx (y := (⟨"com/example/sarasvati/sarasvati/dedup/IndexRun", "hashOf", "(J)J"⟩ : MethodName)) hown (mvT hZ (hw _ (List.mem_of_getElem? (i := 7) rfl))) (mvT hZ (hw _ (List.mem_of_getElem? (i := 8) rfl))) (mvT hZ (hw _ (List.mem_of_getElem? (i := 4) rfl))) (mvT hZ (hw _ (List.mem_of_getElem? (i := 9) rfl))) (by decide) (backOf (W := 0) (rm2 l Z a0 hw [] (own_pack a x) h0 n0 Z0 ) hZ (hw _ (List.mem_of_getElem? (i := 9) rfl)) (hw _ (List.mem_of_getElem? (i := 4) rfl)) (by decide) (by decide)) (g := (mkF m 166 #[.val (.long q0), .second, .val (.int p1), .val (.long q2), .second, .val (.int p3), .val (.int p4), .val (.long a), .second, .val (.int x), .val (.long b), .second, .val (.int y), .val (.long (own_pack a x)), .second, .val (.long (own_pack b y)), .second, .val (.int (1 : Int32)), .val (.int (0 : Int32)), .val (.int (1 : Int32)), .unset, .unset] [(.long (own_pack a x))])) rfl (by rw [hml]; rfl) (argsL := [(.long (own_pack a x))]) (rest := []) (lenOf pd_1 rfl) rfl (by show 2 * 0 + _ ≤ _; exact Nat.le_of_eq rfl) (hb hby at_166) (fun _ _ => ⟨rfl, e15q, (by decide : 0 + 0 ≤ _), (by decide : 0 + 0 ≤ _)⟩)
        dsimp only [Pt.U, Pt.locs, Pt.cells, Pt.slots] at X24 l24 y24 z24 st24 hQ24
        subst l24 y24 z24
        obtain ⟨rfl, N24q, e24q⟩ := hQ24
        have N24 := Fr.app N15 N24q
        obtain ⟨_, _, ⟨T25, L25, k25, n25⟩, -, X25, ⟨Lc25, hQ25, l25, y25, z25⟩, st25⟩ := Jvm.LawKit.callS X24 hx (y := (⟨"com/example/sarasvati/sarasvati/dedup/IndexRun", "indexOf", "(J)I"⟩ : MethodName)) hown (mvT hZ (hw _ (List.mem_of_getElem? (i := 10) rfl))) (mvT hZ (hw _ (List.mem_of_getElem? (i := 11) rfl))) (mvT hZ (hw _ (List.mem_of_getElem? (i := 4) rfl))) (mvT hZ (hw _ (List.mem_of_getElem? (i := 12) rfl))) (by decide) (backOf (W := 0) (rm3 l Z a0 hw [] (own_pack a x) h0 n0 Z0 ) hZ (hw _ (List.mem_of_getElem? (i := 12) rfl)) (hw _ (List.mem_of_getElem? (i := 4) rfl)) (by decide) (by decide)) (g := (mkF m 177 #[.val (.long q0), .second, .val (.int p1), .val (.long q2), .second, .val (.int p3), .val (.int p4), .val (.long a), .second, .val (.int x), .val (.long b), .second, .val (.int y), .val (.long (own_pack a x)), .second, .val (.long (own_pack b y)), .second, .val (.int (1 : Int32)), .val (.int (0 : Int32)), .val (.int (1 : Int32)), .unset, .unset] [(.long (own_pack a x))])) rfl (by rw [hml]; rfl) (argsL := [(.long (own_pack a x))]) (rest := []) (lenOf pd_2 rfl) rfl (by show 2 * 0 + _ ≤ _; exact Nat.le_of_eq rfl) (hb hby at_177) (fun _ _ => ⟨rfl, e24q, (by decide : 0 + 0 ≤ _), (by decide : 0 + 0 ≤ _)⟩)
        dsimp only [Pt.U, Pt.locs, Pt.cells, Pt.slots] at X25 l25 y25 z25 st25 hQ25
        subst l25 y25 z25
        obtain ⟨rfl, N25q, e25q⟩ := hQ25
        have N25 := Fr.app N24 N25q
        obtain ⟨_, _, ⟨T26, L26, k26, n26⟩, -, X26, ⟨Lc26, hQ26, l26, y26, z26⟩, st26⟩ := Jvm.LawKit.callS X25 hx (y := (⟨"com/example/sarasvati/sarasvati/dedup/IndexRun", "hashOf", "(J)J"⟩ : MethodName)) hown (mvT hZ (hw _ (List.mem_of_getElem? (i := 7) rfl))) (mvT hZ (hw _ (List.mem_of_getElem? (i := 8) rfl))) (mvT hZ (hw _ (List.mem_of_getElem? (i := 4) rfl))) (mvT hZ (hw _ (List.mem_of_getElem? (i := 9) rfl))) (by decide) (backOf (W := 0) (rm2 l Z a0 hw [] (own_pack b y) h0 n0 Z0 ) hZ (hw _ (List.mem_of_getElem? (i := 9) rfl)) (hw _ (List.mem_of_getElem? (i := 4) rfl)) (by decide) (by decide)) (g := (mkF m 194 #[.val (.long q0), .second, .val (.int p1), .val (.long q2), .second, .val (.int p3), .val (.int p4), .val (.long a), .second, .val (.int x), .val (.long b), .second, .val (.int y), .val (.long (own_pack a x)), .second, .val (.long (own_pack b y)), .second, .val (.int (1 : Int32)), .val (.int (0 : Int32)), .val (.int (1 : Int32)), .val (.int (1 : Int32)), .unset] [(.long (own_pack b y))])) rfl (by rw [hml]; rfl) (argsL := [(.long (own_pack b y))]) (rest := []) (lenOf pd_1 rfl) rfl (by show 2 * 0 + _ ≤ _; exact Nat.le_of_eq rfl) (hb hby at_194) (fun _ _ => ⟨rfl, e25q, (by decide : 0 + 0 ≤ _), (by decide : 0 + 0 ≤ _)⟩)
        dsimp only [Pt.U, Pt.locs, Pt.cells, Pt.slots] at X26 l26 y26 z26 st26 hQ26
        subst l26 y26 z26
        obtain ⟨rfl, N26q, e26q⟩ := hQ26
        have N26 := Fr.app N25 N26q
        obtain ⟨_, _, ⟨T27, L27, k27, n27⟩, -, X27, ⟨Lc27, hQ27, l27, y27, z27⟩, st27⟩ := Jvm.LawKit.callS X26 hx (y := (⟨"com/example/sarasvati/sarasvati/dedup/IndexRun", "indexOf", "(J)I"⟩ : MethodName)) hown (mvT hZ (hw _ (List.mem_of_getElem? (i := 10) rfl))) (mvT hZ (hw _ (List.mem_of_getElem? (i := 11) rfl))) (mvT hZ (hw _ (List.mem_of_getElem? (i := 4) rfl))) (mvT hZ (hw _ (List.mem_of_getElem? (i := 12) rfl))) (by decide) (backOf (W := 0) (rm3 l Z a0 hw [] (own_pack b y) h0 n0 Z0 ) hZ (hw _ (List.mem_of_getElem? (i := 12) rfl)) (hw _ (List.mem_of_getElem? (i := 4) rfl)) (by decide) (by decide)) (g := (mkF m 205 #[.val (.long q0), .second, .val (.int p1), .val (.long q2), .second, .val (.int p3), .val (.int p4), .val (.long a), .second, .val (.int x), .val (.long b), .second, .val (.int y), .val (.long (own_pack a x)), .second, .val (.long (own_pack b y)), .second, .val (.int (1 : Int32)), .val (.int (0 : Int32)), .val (.int (1 : Int32)), .val (.int (1 : Int32)), .unset] [(.long (own_pack b y))])) rfl (by rw [hml]; rfl) (argsL := [(.long (own_pack b y))]) (rest := []) (lenOf pd_2 rfl) rfl (by show 2 * 0 + _ ≤ _; exact Nat.le_of_eq rfl) (hb hby at_205) (fun _ _ => ⟨rfl, e26q, (by decide : 0 + 0 ≤ _), (by decide : 0 + 0 ≤ _)⟩)
        dsimp only [Pt.U, Pt.locs, Pt.cells, Pt.slots] at X27 l27 y27 z27 st27 hQ27
        subst l27 y27 z27
        obtain ⟨rfl, N27q, e27q⟩ := hQ27
        have N27 := Fr.app N26 N27q
        obtain ⟨fs, hr, hrun, hended, hW, hsame⟩ := X27.leave (v := some (.int (1 : Int32))) (fun h => by rw [Bd.returns] at h; cases h)
        refine ⟨_, _, pre23 _ ?_, hrun, hended, _, _, rfl, ?_, ⟨_, rfl⟩, hW, hsame.mono (by decide) (by decide)⟩
        · show Steps p.tables e below (T15.setTop (mkF m 89 #[.val (.long q0), .second, .val (.int p1), .val (.long q2), .second, .val (.int p3), .val (.int p4), .val (.long a), .second, .val (.int x), .val (.long b), .second, .val (.int y), .val (.long (own_pack a x)), .second, .val (.long (own_pack b y)), .second, .unset, .unset, .unset, .unset, .unset] [(.int y), (.int x)])) _
          refine XS.icmpNo X15.here hx rfl (hb hby at_89) rfl (tlt hc89).2.1 ?_
          show Steps p.tables e below (T15.setTop (mkF m 92 #[.val (.long q0), .second, .val (.int p1), .val (.long q2), .second, .val (.int p3), .val (.int p4), .val (.long a), .second, .val (.int x), .val (.long b), .second, .val (.int y), .val (.long (own_pack a x)), .second, .val (.long (own_pack b y)), .second, .unset, .unset, .unset, .unset, .unset] [])) _
          refine XS.iconst X15.here hx rfl (hb hby at_92) ?_
          show Steps p.tables e below (T15.setTop (mkF m 93 #[.val (.long q0), .second, .val (.int p1), .val (.long q2), .second, .val (.int p3), .val (.int p4), .val (.long a), .second, .val (.int x), .val (.long b), .second, .val (.int y), .val (.long (own_pack a x)), .second, .val (.long (own_pack b y)), .second, .unset, .unset, .unset, .unset, .unset] [(.int (1 : Int32))])) _
          refine XS.goto X15.here hx rfl (pc0 := 93) (pc' := 97) rfl (hb hby at_93) (by decide) (by decide) ?_
          show Steps p.tables e below (T15.setTop (mkF m 97 #[.val (.long q0), .second, .val (.int p1), .val (.long q2), .second, .val (.int p3), .val (.int p4), .val (.long a), .second, .val (.int x), .val (.long b), .second, .val (.int y), .val (.long (own_pack a x)), .second, .val (.long (own_pack b y)), .second, .unset, .unset, .unset, .unset, .unset] [(.int (1 : Int32))])) _
          refine XS.istore X15.here hx rfl (hb hby at_97) rfl (l' := #[.val (.long q0), .second, .val (.int p1), .val (.long q2), .second, .val (.int p3), .val (.int p4), .val (.long a), .second, .val (.int x), .val (.long b), .second, .val (.int y), .val (.long (own_pack a x)), .second, .val (.long (own_pack b y)), .second, .val (.int (1 : Int32)), .unset, .unset, .unset, .unset]) rfl ?_
          show Steps p.tables e below (T15.setTop (mkF m 99 #[.val (.long q0), .second, .val (.int p1), .val (.long q2), .second, .val (.int p3), .val (.int p4), .val (.long a), .second, .val (.int x), .val (.long b), .second, .val (.int y), .val (.long (own_pack a x)), .second, .val (.long (own_pack b y)), .second, .val (.int (1 : Int32)), .unset, .unset, .unset, .unset] [])) _
          refine XS.lload X15.here hx rfl (hb hby at_99) rfl ?_
          show Steps p.tables e below (T15.setTop (mkF m 101 #[.val (.long q0), .second, .val (.int p1), .val (.long q2), .second, .val (.int p3), .val (.int p4), .val (.long a), .second, .val (.int x), .val (.long b), .second, .val (.int y), .val (.long (own_pack a x)), .second, .val (.long (own_pack b y)), .second, .val (.int (1 : Int32)), .unset, .unset, .unset, .unset] [(.long a)])) _
          refine XS.lload X15.here hx rfl (hb hby at_101) rfl ?_
          show Steps p.tables e below (T15.setTop (mkF m 103 #[.val (.long q0), .second, .val (.int p1), .val (.long q2), .second, .val (.int p3), .val (.int p4), .val (.long a), .second, .val (.int x), .val (.long b), .second, .val (.int y), .val (.long (own_pack a x)), .second, .val (.long (own_pack b y)), .second, .val (.int (1 : Int32)), .unset, .unset, .unset, .unset] [(.long b), (.long a)])) _
          refine XS.lcmp X15.here hx rfl (hb hby at_103) rfl ?_
          show Steps p.tables e below (T15.setTop (mkF m 104 #[.val (.long q0), .second, .val (.int p1), .val (.long q2), .second, .val (.int p3), .val (.int p4), .val (.long a), .second, .val (.int x), .val (.long b), .second, .val (.int y), .val (.long (own_pack a x)), .second, .val (.long (own_pack b y)), .second, .val (.int (1 : Int32)), .unset, .unset, .unset, .unset] [(.int (lcmpW a b))])) _
          refine XS.ifNo X15.here hx rfl (hb hby at_104) rfl ((if0 _ _).trans (teq ((lw_eq _ _).mpr hc82)).2) ?_
          show Steps p.tables e below (T15.setTop (mkF m 107 #[.val (.long q0), .second, .val (.int p1), .val (.long q2), .second, .val (.int p3), .val (.int p4), .val (.long a), .second, .val (.int x), .val (.long b), .second, .val (.int y), .val (.long (own_pack a x)), .second, .val (.long (own_pack b y)), .second, .val (.int (1 : Int32)), .unset, .unset, .unset, .unset] [])) _
          refine XS.iload X15.here hx rfl (hb hby at_107) rfl ?_
          show Steps p.tables e below (T15.setTop (mkF m 109 #[.val (.long q0), .second, .val (.int p1), .val (.long q2), .second, .val (.int p3), .val (.int p4), .val (.long a), .second, .val (.int x), .val (.long b), .second, .val (.int y), .val (.long (own_pack a x)), .second, .val (.long (own_pack b y)), .second, .val (.int (1 : Int32)), .unset, .unset, .unset, .unset] [(.int x)])) _
          refine XS.iload X15.here hx rfl (hb hby at_109) rfl ?_
          show Steps p.tables e below (T15.setTop (mkF m 111 #[.val (.long q0), .second, .val (.int p1), .val (.long q2), .second, .val (.int p3), .val (.int p4), .val (.long a), .second, .val (.int x), .val (.long b), .second, .val (.int y), .val (.long (own_pack a x)), .second, .val (.long (own_pack b y)), .second, .val (.int (1 : Int32)), .unset, .unset, .unset, .unset] [(.int y), (.int x)])) _
          refine XS.icmpYes X15.here hx rfl (pc0 := 111) (pc' := 118) rfl (hb hby at_111) rfl (feq (own_neI hc89)).2 (by decide) (by decide) ?_
          show Steps p.tables e below (T15.setTop (mkF m 118 #[.val (.long q0), .second, .val (.int p1), .val (.long q2), .second, .val (.int p3), .val (.int p4), .val (.long a), .second, .val (.int x), .val (.long b), .second, .val (.int y), .val (.long (own_pack a x)), .second, .val (.long (own_pack b y)), .second, .val (.int (1 : Int32)), .unset, .unset, .unset, .unset] [])) _
          refine XS.iconst X15.here hx rfl (hb hby at_118) ?_
          show Steps p.tables e below (T15.setTop (mkF m 119 #[.val (.long q0), .second, .val (.int p1), .val (.long q2), .second, .val (.int p3), .val (.int p4), .val (.long a), .second, .val (.int x), .val (.long b), .second, .val (.int y), .val (.long (own_pack a x)), .second, .val (.long (own_pack b y)), .second, .val (.int (1 : Int32)), .unset, .unset, .unset, .unset] [(.int (0 : Int32))])) _
          refine XS.istore X15.here hx rfl (hb hby at_119) rfl (l' := #[.val (.long q0), .second, .val (.int p1), .val (.long q2), .second, .val (.int p3), .val (.int p4), .val (.long a), .second, .val (.int x), .val (.long b), .second, .val (.int y), .val (.long (own_pack a x)), .second, .val (.long (own_pack b y)), .second, .val (.int (1 : Int32)), .val (.int (0 : Int32)), .unset, .unset, .unset]) rfl ?_
          show Steps p.tables e below (T15.setTop (mkF m 121 #[.val (.long q0), .second, .val (.int p1), .val (.long q2), .second, .val (.int p3), .val (.int p4), .val (.long a), .second, .val (.int x), .val (.long b), .second, .val (.int y), .val (.long (own_pack a x)), .second, .val (.long (own_pack b y)), .second, .val (.int (1 : Int32)), .val (.int (0 : Int32)), .unset, .unset, .unset] [])) _
          refine XS.lload X15.here hx rfl (hb hby at_121) rfl ?_
          show Steps p.tables e below (T15.setTop (mkF m 123 #[.val (.long q0), .second, .val (.int p1), .val (.long q2), .second, .val (.int p3), .val (.int p4), .val (.long a), .second, .val (.int x), .val (.long b), .second, .val (.int y), .val (.long (own_pack a x)), .second, .val (.long (own_pack b y)), .second, .val (.int (1 : Int32)), .val (.int (0 : Int32)), .unset, .unset, .unset] [(.long (own_pack a x))])) _
          refine XS.lload X15.here hx rfl (hb hby at_123) rfl ?_
          show Steps p.tables e below (T15.setTop (mkF m 125 #[.val (.long q0), .second, .val (.int p1), .val (.long q2), .second, .val (.int p3), .val (.int p4), .val (.long a), .second, .val (.int x), .val (.long b), .second, .val (.int y), .val (.long (own_pack a x)), .second, .val (.long (own_pack b y)), .second, .val (.int (1 : Int32)), .val (.int (0 : Int32)), .unset, .unset, .unset] [(.long (own_pack b y)), (.long (own_pack a x))])) _
          refine XS.lcmp X15.here hx rfl (hb hby at_125) rfl ?_
          show Steps p.tables e below (T15.setTop (mkF m 126 #[.val (.long q0), .second, .val (.int p1), .val (.long q2), .second, .val (.int p3), .val (.int p4), .val (.long a), .second, .val (.int x), .val (.long b), .second, .val (.int y), .val (.long (own_pack a x)), .second, .val (.long (own_pack b y)), .second, .val (.int (1 : Int32)), .val (.int (0 : Int32)), .unset, .unset, .unset] [(.int (lcmpW (own_pack a x) (own_pack b y)))])) _
          refine XS.ifNo X15.here hx rfl (hb hby at_126) rfl ((if0 _ _).trans (tlt ((lw_lt _ _).mpr ((own_plt a b x y hm1 hm7 hm4 hm11).mpr (Or.inr ⟨hc82, hc89⟩)))).2.1) ?_
          show Steps p.tables e below (T15.setTop (mkF m 129 #[.val (.long q0), .second, .val (.int p1), .val (.long q2), .second, .val (.int p3), .val (.int p4), .val (.long a), .second, .val (.int x), .val (.long b), .second, .val (.int y), .val (.long (own_pack a x)), .second, .val (.long (own_pack b y)), .second, .val (.int (1 : Int32)), .val (.int (0 : Int32)), .unset, .unset, .unset] [])) _
          refine XS.iconst X15.here hx rfl (hb hby at_129) ?_
          show Steps p.tables e below (T15.setTop (mkF m 130 #[.val (.long q0), .second, .val (.int p1), .val (.long q2), .second, .val (.int p3), .val (.int p4), .val (.long a), .second, .val (.int x), .val (.long b), .second, .val (.int y), .val (.long (own_pack a x)), .second, .val (.long (own_pack b y)), .second, .val (.int (1 : Int32)), .val (.int (0 : Int32)), .unset, .unset, .unset] [(.int (1 : Int32))])) _
          refine XS.goto X15.here hx rfl (pc0 := 130) (pc' := 134) rfl (hb hby at_130) (by decide) (by decide) ?_
          show Steps p.tables e below (T15.setTop (mkF m 134 #[.val (.long q0), .second, .val (.int p1), .val (.long q2), .second, .val (.int p3), .val (.int p4), .val (.long a), .second, .val (.int x), .val (.long b), .second, .val (.int y), .val (.long (own_pack a x)), .second, .val (.long (own_pack b y)), .second, .val (.int (1 : Int32)), .val (.int (0 : Int32)), .unset, .unset, .unset] [(.int (1 : Int32))])) _
          refine XS.iload X15.here hx rfl (hb hby at_134) rfl ?_
          show Steps p.tables e below (T15.setTop (mkF m 136 #[.val (.long q0), .second, .val (.int p1), .val (.long q2), .second, .val (.int p3), .val (.int p4), .val (.long a), .second, .val (.int x), .val (.long b), .second, .val (.int y), .val (.long (own_pack a x)), .second, .val (.long (own_pack b y)), .second, .val (.int (1 : Int32)), .val (.int (0 : Int32)), .unset, .unset, .unset] [(.int (1 : Int32)), (.int (1 : Int32))])) _
          refine XS.icmpNo X15.here hx rfl (hb hby at_136) rfl (teq (by decide : (1 : Int32) = (1 : Int32))).2 ?_
          show Steps p.tables e below (T15.setTop (mkF m 139 #[.val (.long q0), .second, .val (.int p1), .val (.long q2), .second, .val (.int p3), .val (.int p4), .val (.long a), .second, .val (.int x), .val (.long b), .second, .val (.int y), .val (.long (own_pack a x)), .second, .val (.long (own_pack b y)), .second, .val (.int (1 : Int32)), .val (.int (0 : Int32)), .unset, .unset, .unset] [])) _
          refine XS.lload X15.here hx rfl (hb hby at_139) rfl ?_
          show Steps p.tables e below (T15.setTop (mkF m 141 #[.val (.long q0), .second, .val (.int p1), .val (.long q2), .second, .val (.int p3), .val (.int p4), .val (.long a), .second, .val (.int x), .val (.long b), .second, .val (.int y), .val (.long (own_pack a x)), .second, .val (.long (own_pack b y)), .second, .val (.int (1 : Int32)), .val (.int (0 : Int32)), .unset, .unset, .unset] [(.long (own_pack a x))])) _
          refine XS.lload X15.here hx rfl (hb hby at_141) rfl ?_
          show Steps p.tables e below (T15.setTop (mkF m 143 #[.val (.long q0), .second, .val (.int p1), .val (.long q2), .second, .val (.int p3), .val (.int p4), .val (.long a), .second, .val (.int x), .val (.long b), .second, .val (.int y), .val (.long (own_pack a x)), .second, .val (.long (own_pack b y)), .second, .val (.int (1 : Int32)), .val (.int (0 : Int32)), .unset, .unset, .unset] [(.long (own_pack b y)), (.long (own_pack a x))])) _
          refine XS.lcmp X15.here hx rfl (hb hby at_143) rfl ?_
          show Steps p.tables e below (T15.setTop (mkF m 144 #[.val (.long q0), .second, .val (.int p1), .val (.long q2), .second, .val (.int p3), .val (.int p4), .val (.long a), .second, .val (.int x), .val (.long b), .second, .val (.int y), .val (.long (own_pack a x)), .second, .val (.long (own_pack b y)), .second, .val (.int (1 : Int32)), .val (.int (0 : Int32)), .unset, .unset, .unset] [(.int (lcmpW (own_pack a x) (own_pack b y)))])) _
          refine XS.ifYes X15.here hx rfl (pc0 := 144) (pc' := 151) rfl (hb hby at_144) rfl ((if0 _ _).trans (feq ((not_congr (lw_eq _ _)).mpr (fun z => (fun q => own_neI hc89 q.2) ((own_peq a b x y hm1 hm7 hm4 hm11).mp z)))).2) (by decide) (by decide) ?_
          show Steps p.tables e below (T15.setTop (mkF m 151 #[.val (.long q0), .second, .val (.int p1), .val (.long q2), .second, .val (.int p3), .val (.int p4), .val (.long a), .second, .val (.int x), .val (.long b), .second, .val (.int y), .val (.long (own_pack a x)), .second, .val (.long (own_pack b y)), .second, .val (.int (1 : Int32)), .val (.int (0 : Int32)), .unset, .unset, .unset] [])) _
          refine XS.iconst X15.here hx rfl (hb hby at_151) ?_
          show Steps p.tables e below (T15.setTop (mkF m 152 #[.val (.long q0), .second, .val (.int p1), .val (.long q2), .second, .val (.int p3), .val (.int p4), .val (.long a), .second, .val (.int x), .val (.long b), .second, .val (.int y), .val (.long (own_pack a x)), .second, .val (.long (own_pack b y)), .second, .val (.int (1 : Int32)), .val (.int (0 : Int32)), .unset, .unset, .unset] [(.int (0 : Int32))])) _
          refine XS.iload X15.here hx rfl (hb hby at_152) rfl ?_
          show Steps p.tables e below (T15.setTop (mkF m 154 #[.val (.long q0), .second, .val (.int p1), .val (.long q2), .second, .val (.int p3), .val (.int p4), .val (.long a), .second, .val (.int x), .val (.long b), .second, .val (.int y), .val (.long (own_pack a x)), .second, .val (.long (own_pack b y)), .second, .val (.int (1 : Int32)), .val (.int (0 : Int32)), .unset, .unset, .unset] [(.int (0 : Int32)), (.int (0 : Int32))])) _
          refine XS.icmpNo X15.here hx rfl (hb hby at_154) rfl (teq (by decide : (0 : Int32) = (0 : Int32))).2 ?_
          show Steps p.tables e below (T15.setTop (mkF m 157 #[.val (.long q0), .second, .val (.int p1), .val (.long q2), .second, .val (.int p3), .val (.int p4), .val (.long a), .second, .val (.int x), .val (.long b), .second, .val (.int y), .val (.long (own_pack a x)), .second, .val (.long (own_pack b y)), .second, .val (.int (1 : Int32)), .val (.int (0 : Int32)), .unset, .unset, .unset] [])) _
          refine XS.iconst X15.here hx rfl (hb hby at_157) ?_
          show Steps p.tables e below (T15.setTop (mkF m 158 #[.val (.long q0), .second, .val (.int p1), .val (.long q2), .second, .val (.int p3), .val (.int p4), .val (.long a), .second, .val (.int x), .val (.long b), .second, .val (.int y), .val (.long (own_pack a x)), .second, .val (.long (own_pack b y)), .second, .val (.int (1 : Int32)), .val (.int (0 : Int32)), .unset, .unset, .unset] [(.int (1 : Int32))])) _
          refine XS.goto X15.here hx rfl (pc0 := 158) (pc' := 162) rfl (hb hby at_158) (by decide) (by decide) ?_
          show Steps p.tables e below (T15.setTop (mkF m 162 #[.val (.long q0), .second, .val (.int p1), .val (.long q2), .second, .val (.int p3), .val (.int p4), .val (.long a), .second, .val (.int x), .val (.long b), .second, .val (.int y), .val (.long (own_pack a x)), .second, .val (.long (own_pack b y)), .second, .val (.int (1 : Int32)), .val (.int (0 : Int32)), .unset, .unset, .unset] [(.int (1 : Int32))])) _
          refine XS.istore X15.here hx rfl (hb hby at_162) rfl (l' := #[.val (.long q0), .second, .val (.int p1), .val (.long q2), .second, .val (.int p3), .val (.int p4), .val (.long a), .second, .val (.int x), .val (.long b), .second, .val (.int y), .val (.long (own_pack a x)), .second, .val (.long (own_pack b y)), .second, .val (.int (1 : Int32)), .val (.int (0 : Int32)), .val (.int (1 : Int32)), .unset, .unset]) rfl ?_
          show Steps p.tables e below (T15.setTop (mkF m 164 #[.val (.long q0), .second, .val (.int p1), .val (.long q2), .second, .val (.int p3), .val (.int p4), .val (.long a), .second, .val (.int x), .val (.long b), .second, .val (.int y), .val (.long (own_pack a x)), .second, .val (.long (own_pack b y)), .second, .val (.int (1 : Int32)), .val (.int (0 : Int32)), .val (.int (1 : Int32)), .unset, .unset] [])) _
          refine XS.lload X15.here hx rfl (hb hby at_164) rfl ?_
          show Steps p.tables e below (T15.setTop (mkF m 166 #[.val (.long q0), .second, .val (.int p1), .val (.long q2), .second, .val (.int p3), .val (.int p4), .val (.long a), .second, .val (.int x), .val (.long b), .second, .val (.int y), .val (.long (own_pack a x)), .second, .val (.long (own_pack b y)), .second, .val (.int (1 : Int32)), .val (.int (0 : Int32)), .val (.int (1 : Int32)), .unset, .unset] [(.long (own_pack a x))])) _
          refine st24 _ ?_
          show Steps p.tables e below (T24.setTop (mkF m 169 #[.val (.long q0), .second, .val (.int p1), .val (.long q2), .second, .val (.int p3), .val (.int p4), .val (.long a), .second, .val (.int x), .val (.long b), .second, .val (.int y), .val (.long (own_pack a x)), .second, .val (.long (own_pack b y)), .second, .val (.int (1 : Int32)), .val (.int (0 : Int32)), .val (.int (1 : Int32)), .unset, .unset] [(.long (own_hashOf (own_pack a x)))])) _
          refine XS.lload X24.here hx rfl (hb hby at_169) rfl ?_
          show Steps p.tables e below (T24.setTop (mkF m 171 #[.val (.long q0), .second, .val (.int p1), .val (.long q2), .second, .val (.int p3), .val (.int p4), .val (.long a), .second, .val (.int x), .val (.long b), .second, .val (.int y), .val (.long (own_pack a x)), .second, .val (.long (own_pack b y)), .second, .val (.int (1 : Int32)), .val (.int (0 : Int32)), .val (.int (1 : Int32)), .unset, .unset] [(.long a), (.long (own_hashOf (own_pack a x)))])) _
          refine XS.lcmp X24.here hx rfl (hb hby at_171) rfl ?_
          show Steps p.tables e below (T24.setTop (mkF m 172 #[.val (.long q0), .second, .val (.int p1), .val (.long q2), .second, .val (.int p3), .val (.int p4), .val (.long a), .second, .val (.int x), .val (.long b), .second, .val (.int y), .val (.long (own_pack a x)), .second, .val (.long (own_pack b y)), .second, .val (.int (1 : Int32)), .val (.int (0 : Int32)), .val (.int (1 : Int32)), .unset, .unset] [(.int (lcmpW (own_hashOf (own_pack a x)) a))])) _
          refine XS.ifNo X24.here hx rfl (hb hby at_172) rfl ((if0 _ _).trans (teq ((lw_eq _ _).mpr (own_hash a x hm1 hm4))).2) ?_
          show Steps p.tables e below (T24.setTop (mkF m 175 #[.val (.long q0), .second, .val (.int p1), .val (.long q2), .second, .val (.int p3), .val (.int p4), .val (.long a), .second, .val (.int x), .val (.long b), .second, .val (.int y), .val (.long (own_pack a x)), .second, .val (.long (own_pack b y)), .second, .val (.int (1 : Int32)), .val (.int (0 : Int32)), .val (.int (1 : Int32)), .unset, .unset] [])) _
          refine XS.lload X24.here hx rfl (hb hby at_175) rfl ?_
          show Steps p.tables e below (T24.setTop (mkF m 177 #[.val (.long q0), .second, .val (.int p1), .val (.long q2), .second, .val (.int p3), .val (.int p4), .val (.long a), .second, .val (.int x), .val (.long b), .second, .val (.int y), .val (.long (own_pack a x)), .second, .val (.long (own_pack b y)), .second, .val (.int (1 : Int32)), .val (.int (0 : Int32)), .val (.int (1 : Int32)), .unset, .unset] [(.long (own_pack a x))])) _
          refine st25 _ ?_
          show Steps p.tables e below (T25.setTop (mkF m 180 #[.val (.long q0), .second, .val (.int p1), .val (.long q2), .second, .val (.int p3), .val (.int p4), .val (.long a), .second, .val (.int x), .val (.long b), .second, .val (.int y), .val (.long (own_pack a x)), .second, .val (.long (own_pack b y)), .second, .val (.int (1 : Int32)), .val (.int (0 : Int32)), .val (.int (1 : Int32)), .unset, .unset] [(.int (own_indexOf (own_pack a x)))])) _
          refine XS.iload X25.here hx rfl (hb hby at_180) rfl ?_
          show Steps p.tables e below (T25.setTop (mkF m 182 #[.val (.long q0), .second, .val (.int p1), .val (.long q2), .second, .val (.int p3), .val (.int p4), .val (.long a), .second, .val (.int x), .val (.long b), .second, .val (.int y), .val (.long (own_pack a x)), .second, .val (.long (own_pack b y)), .second, .val (.int (1 : Int32)), .val (.int (0 : Int32)), .val (.int (1 : Int32)), .unset, .unset] [(.int x), (.int (own_indexOf (own_pack a x)))])) _
          refine XS.icmpNo X25.here hx rfl (hb hby at_182) rfl (teq (own_index a x hm1 hm4)).2 ?_
          show Steps p.tables e below (T25.setTop (mkF m 185 #[.val (.long q0), .second, .val (.int p1), .val (.long q2), .second, .val (.int p3), .val (.int p4), .val (.long a), .second, .val (.int x), .val (.long b), .second, .val (.int y), .val (.long (own_pack a x)), .second, .val (.long (own_pack b y)), .second, .val (.int (1 : Int32)), .val (.int (0 : Int32)), .val (.int (1 : Int32)), .unset, .unset] [])) _
          refine XS.iconst X25.here hx rfl (hb hby at_185) ?_
          show Steps p.tables e below (T25.setTop (mkF m 186 #[.val (.long q0), .second, .val (.int p1), .val (.long q2), .second, .val (.int p3), .val (.int p4), .val (.long a), .second, .val (.int x), .val (.long b), .second, .val (.int y), .val (.long (own_pack a x)), .second, .val (.long (own_pack b y)), .second, .val (.int (1 : Int32)), .val (.int (0 : Int32)), .val (.int (1 : Int32)), .unset, .unset] [(.int (1 : Int32))])) _
          refine XS.goto X25.here hx rfl (pc0 := 186) (pc' := 190) rfl (hb hby at_186) (by decide) (by decide) ?_
          show Steps p.tables e below (T25.setTop (mkF m 190 #[.val (.long q0), .second, .val (.int p1), .val (.long q2), .second, .val (.int p3), .val (.int p4), .val (.long a), .second, .val (.int x), .val (.long b), .second, .val (.int y), .val (.long (own_pack a x)), .second, .val (.long (own_pack b y)), .second, .val (.int (1 : Int32)), .val (.int (0 : Int32)), .val (.int (1 : Int32)), .unset, .unset] [(.int (1 : Int32))])) _
          refine XS.istore X25.here hx rfl (hb hby at_190) rfl (l' := #[.val (.long q0), .second, .val (.int p1), .val (.long q2), .second, .val (.int p3), .val (.int p4), .val (.long a), .second, .val (.int x), .val (.long b), .second, .val (.int y), .val (.long (own_pack a x)), .second, .val (.long (own_pack b y)), .second, .val (.int (1 : Int32)), .val (.int (0 : Int32)), .val (.int (1 : Int32)), .val (.int (1 : Int32)), .unset]) rfl ?_
          show Steps p.tables e below (T25.setTop (mkF m 192 #[.val (.long q0), .second, .val (.int p1), .val (.long q2), .second, .val (.int p3), .val (.int p4), .val (.long a), .second, .val (.int x), .val (.long b), .second, .val (.int y), .val (.long (own_pack a x)), .second, .val (.long (own_pack b y)), .second, .val (.int (1 : Int32)), .val (.int (0 : Int32)), .val (.int (1 : Int32)), .val (.int (1 : Int32)), .unset] [])) _
          refine XS.lload X25.here hx rfl (hb hby at_192) rfl ?_
          show Steps p.tables e below (T25.setTop (mkF m 194 #[.val (.long q0), .second, .val (.int p1), .val (.long q2), .second, .val (.int p3), .val (.int p4), .val (.long a), .second, .val (.int x), .val (.long b), .second, .val (.int y), .val (.long (own_pack a x)), .second, .val (.long (own_pack b y)), .second, .val (.int (1 : Int32)), .val (.int (0 : Int32)), .val (.int (1 : Int32)), .val (.int (1 : Int32)), .unset] [(.long (own_pack b y))])) _
          refine st26 _ ?_
          show Steps p.tables e below (T26.setTop (mkF m 197 #[.val (.long q0), .second, .val (.int p1), .val (.long q2), .second, .val (.int p3), .val (.int p4), .val (.long a), .second, .val (.int x), .val (.long b), .second, .val (.int y), .val (.long (own_pack a x)), .second, .val (.long (own_pack b y)), .second, .val (.int (1 : Int32)), .val (.int (0 : Int32)), .val (.int (1 : Int32)), .val (.int (1 : Int32)), .unset] [(.long (own_hashOf (own_pack b y)))])) _
          refine XS.lload X26.here hx rfl (hb hby at_197) rfl ?_
          show Steps p.tables e below (T26.setTop (mkF m 199 #[.val (.long q0), .second, .val (.int p1), .val (.long q2), .second, .val (.int p3), .val (.int p4), .val (.long a), .second, .val (.int x), .val (.long b), .second, .val (.int y), .val (.long (own_pack a x)), .second, .val (.long (own_pack b y)), .second, .val (.int (1 : Int32)), .val (.int (0 : Int32)), .val (.int (1 : Int32)), .val (.int (1 : Int32)), .unset] [(.long b), (.long (own_hashOf (own_pack b y)))])) _
          refine XS.lcmp X26.here hx rfl (hb hby at_199) rfl ?_
          show Steps p.tables e below (T26.setTop (mkF m 200 #[.val (.long q0), .second, .val (.int p1), .val (.long q2), .second, .val (.int p3), .val (.int p4), .val (.long a), .second, .val (.int x), .val (.long b), .second, .val (.int y), .val (.long (own_pack a x)), .second, .val (.long (own_pack b y)), .second, .val (.int (1 : Int32)), .val (.int (0 : Int32)), .val (.int (1 : Int32)), .val (.int (1 : Int32)), .unset] [(.int (lcmpW (own_hashOf (own_pack b y)) b))])) _
          refine XS.ifNo X26.here hx rfl (hb hby at_200) rfl ((if0 _ _).trans (teq ((lw_eq _ _).mpr (own_hash b y hm7 hm11))).2) ?_
          show Steps p.tables e below (T26.setTop (mkF m 203 #[.val (.long q0), .second, .val (.int p1), .val (.long q2), .second, .val (.int p3), .val (.int p4), .val (.long a), .second, .val (.int x), .val (.long b), .second, .val (.int y), .val (.long (own_pack a x)), .second, .val (.long (own_pack b y)), .second, .val (.int (1 : Int32)), .val (.int (0 : Int32)), .val (.int (1 : Int32)), .val (.int (1 : Int32)), .unset] [])) _
          refine XS.lload X26.here hx rfl (hb hby at_203) rfl ?_
          show Steps p.tables e below (T26.setTop (mkF m 205 #[.val (.long q0), .second, .val (.int p1), .val (.long q2), .second, .val (.int p3), .val (.int p4), .val (.long a), .second, .val (.int x), .val (.long b), .second, .val (.int y), .val (.long (own_pack a x)), .second, .val (.long (own_pack b y)), .second, .val (.int (1 : Int32)), .val (.int (0 : Int32)), .val (.int (1 : Int32)), .val (.int (1 : Int32)), .unset] [(.long (own_pack b y))])) _
          refine st27 _ ?_
          show Steps p.tables e below (T27.setTop (mkF m 208 #[.val (.long q0), .second, .val (.int p1), .val (.long q2), .second, .val (.int p3), .val (.int p4), .val (.long a), .second, .val (.int x), .val (.long b), .second, .val (.int y), .val (.long (own_pack a x)), .second, .val (.long (own_pack b y)), .second, .val (.int (1 : Int32)), .val (.int (0 : Int32)), .val (.int (1 : Int32)), .val (.int (1 : Int32)), .unset] [(.int (own_indexOf (own_pack b y)))])) _
          refine XS.iload X27.here hx rfl (hb hby at_208) rfl ?_
          show Steps p.tables e below (T27.setTop (mkF m 210 #[.val (.long q0), .second, .val (.int p1), .val (.long q2), .second, .val (.int p3), .val (.int p4), .val (.long a), .second, .val (.int x), .val (.long b), .second, .val (.int y), .val (.long (own_pack a x)), .second, .val (.long (own_pack b y)), .second, .val (.int (1 : Int32)), .val (.int (0 : Int32)), .val (.int (1 : Int32)), .val (.int (1 : Int32)), .unset] [(.int y), (.int (own_indexOf (own_pack b y)))])) _
          refine XS.icmpNo X27.here hx rfl (hb hby at_210) rfl (teq (own_index b y hm7 hm11)).2 ?_
          show Steps p.tables e below (T27.setTop (mkF m 213 #[.val (.long q0), .second, .val (.int p1), .val (.long q2), .second, .val (.int p3), .val (.int p4), .val (.long a), .second, .val (.int x), .val (.long b), .second, .val (.int y), .val (.long (own_pack a x)), .second, .val (.long (own_pack b y)), .second, .val (.int (1 : Int32)), .val (.int (0 : Int32)), .val (.int (1 : Int32)), .val (.int (1 : Int32)), .unset] [])) _
          refine XS.iconst X27.here hx rfl (hb hby at_213) ?_
          show Steps p.tables e below (T27.setTop (mkF m 214 #[.val (.long q0), .second, .val (.int p1), .val (.long q2), .second, .val (.int p3), .val (.int p4), .val (.long a), .second, .val (.int x), .val (.long b), .second, .val (.int y), .val (.long (own_pack a x)), .second, .val (.long (own_pack b y)), .second, .val (.int (1 : Int32)), .val (.int (0 : Int32)), .val (.int (1 : Int32)), .val (.int (1 : Int32)), .unset] [(.int (1 : Int32))])) _
          refine XS.goto X27.here hx rfl (pc0 := 214) (pc' := 218) rfl (hb hby at_214) (by decide) (by decide) ?_
          show Steps p.tables e below (T27.setTop (mkF m 218 #[.val (.long q0), .second, .val (.int p1), .val (.long q2), .second, .val (.int p3), .val (.int p4), .val (.long a), .second, .val (.int x), .val (.long b), .second, .val (.int y), .val (.long (own_pack a x)), .second, .val (.long (own_pack b y)), .second, .val (.int (1 : Int32)), .val (.int (0 : Int32)), .val (.int (1 : Int32)), .val (.int (1 : Int32)), .unset] [(.int (1 : Int32))])) _
          refine XS.istore X27.here hx rfl (hb hby at_218) rfl (l' := #[.val (.long q0), .second, .val (.int p1), .val (.long q2), .second, .val (.int p3), .val (.int p4), .val (.long a), .second, .val (.int x), .val (.long b), .second, .val (.int y), .val (.long (own_pack a x)), .second, .val (.long (own_pack b y)), .second, .val (.int (1 : Int32)), .val (.int (0 : Int32)), .val (.int (1 : Int32)), .val (.int (1 : Int32)), .val (.int (1 : Int32))]) rfl ?_
          show Steps p.tables e below (T27.setTop (mkF m 220 #[.val (.long q0), .second, .val (.int p1), .val (.long q2), .second, .val (.int p3), .val (.int p4), .val (.long a), .second, .val (.int x), .val (.long b), .second, .val (.int y), .val (.long (own_pack a x)), .second, .val (.long (own_pack b y)), .second, .val (.int (1 : Int32)), .val (.int (0 : Int32)), .val (.int (1 : Int32)), .val (.int (1 : Int32)), .val (.int (1 : Int32))] [])) _
          refine XS.iload X27.here hx rfl (hb hby at_220) rfl ?_
          show Steps p.tables e below (T27.setTop (mkF m 222 #[.val (.long q0), .second, .val (.int p1), .val (.long q2), .second, .val (.int p3), .val (.int p4), .val (.long a), .second, .val (.int x), .val (.long b), .second, .val (.int y), .val (.long (own_pack a x)), .second, .val (.long (own_pack b y)), .second, .val (.int (1 : Int32)), .val (.int (0 : Int32)), .val (.int (1 : Int32)), .val (.int (1 : Int32)), .val (.int (1 : Int32))] [(.int (1 : Int32))])) _
          refine XS.ifNo X27.here hx rfl (hb hby at_222) rfl ((if0 _ _).trans (feq (by decide : ¬ ((1 : Int32) = (0 : Int32)))).1) ?_
          show Steps p.tables e below (T27.setTop (mkF m 225 #[.val (.long q0), .second, .val (.int p1), .val (.long q2), .second, .val (.int p3), .val (.int p4), .val (.long a), .second, .val (.int x), .val (.long b), .second, .val (.int y), .val (.long (own_pack a x)), .second, .val (.long (own_pack b y)), .second, .val (.int (1 : Int32)), .val (.int (0 : Int32)), .val (.int (1 : Int32)), .val (.int (1 : Int32)), .val (.int (1 : Int32))] [])) _
          refine XS.iload X27.here hx rfl (hb hby at_225) rfl ?_
          show Steps p.tables e below (T27.setTop (mkF m 227 #[.val (.long q0), .second, .val (.int p1), .val (.long q2), .second, .val (.int p3), .val (.int p4), .val (.long a), .second, .val (.int x), .val (.long b), .second, .val (.int y), .val (.long (own_pack a x)), .second, .val (.long (own_pack b y)), .second, .val (.int (1 : Int32)), .val (.int (0 : Int32)), .val (.int (1 : Int32)), .val (.int (1 : Int32)), .val (.int (1 : Int32))] [(.int (1 : Int32))])) _
          refine XS.ifNo X27.here hx rfl (hb hby at_227) rfl ((if0 _ _).trans (feq (by decide : ¬ ((1 : Int32) = (0 : Int32)))).1) ?_
          show Steps p.tables e below (T27.setTop (mkF m 230 #[.val (.long q0), .second, .val (.int p1), .val (.long q2), .second, .val (.int p3), .val (.int p4), .val (.long a), .second, .val (.int x), .val (.long b), .second, .val (.int y), .val (.long (own_pack a x)), .second, .val (.long (own_pack b y)), .second, .val (.int (1 : Int32)), .val (.int (0 : Int32)), .val (.int (1 : Int32)), .val (.int (1 : Int32)), .val (.int (1 : Int32))] [])) _
          refine XS.iload X27.here hx rfl (hb hby at_230) rfl ?_
          show Steps p.tables e below (T27.setTop (mkF m 232 #[.val (.long q0), .second, .val (.int p1), .val (.long q2), .second, .val (.int p3), .val (.int p4), .val (.long a), .second, .val (.int x), .val (.long b), .second, .val (.int y), .val (.long (own_pack a x)), .second, .val (.long (own_pack b y)), .second, .val (.int (1 : Int32)), .val (.int (0 : Int32)), .val (.int (1 : Int32)), .val (.int (1 : Int32)), .val (.int (1 : Int32))] [(.int (1 : Int32))])) _
          refine XS.ifNo X27.here hx rfl (hb hby at_232) rfl ((if0 _ _).trans (feq (by decide : ¬ ((1 : Int32) = (0 : Int32)))).1) ?_
          show Steps p.tables e below (T27.setTop (mkF m 235 #[.val (.long q0), .second, .val (.int p1), .val (.long q2), .second, .val (.int p3), .val (.int p4), .val (.long a), .second, .val (.int x), .val (.long b), .second, .val (.int y), .val (.long (own_pack a x)), .second, .val (.long (own_pack b y)), .second, .val (.int (1 : Int32)), .val (.int (0 : Int32)), .val (.int (1 : Int32)), .val (.int (1 : Int32)), .val (.int (1 : Int32))] [])) _
          refine XS.iconst X27.here hx rfl (hb hby at_235) ?_
          show Steps p.tables e below (T27.setTop (mkF m 236 #[.val (.long q0), .second, .val (.int p1), .val (.long q2), .second, .val (.int p3), .val (.int p4), .val (.long a), .second, .val (.int x), .val (.long b), .second, .val (.int y), .val (.long (own_pack a x)), .second, .val (.long (own_pack b y)), .second, .val (.int (1 : Int32)), .val (.int (0 : Int32)), .val (.int (1 : Int32)), .val (.int (1 : Int32)), .val (.int (1 : Int32))] [(.int (1 : Int32))])) _
          refine XS.goto X27.here hx rfl (pc0 := 236) (pc' := 240) rfl (hb hby at_236) (by decide) (by decide) ?_
          show Steps p.tables e below (T27.setTop (mkF m 240 #[.val (.long q0), .second, .val (.int p1), .val (.long q2), .second, .val (.int p3), .val (.int p4), .val (.long a), .second, .val (.int x), .val (.long b), .second, .val (.int y), .val (.long (own_pack a x)), .second, .val (.long (own_pack b y)), .second, .val (.int (1 : Int32)), .val (.int (0 : Int32)), .val (.int (1 : Int32)), .val (.int (1 : Int32)), .val (.int (1 : Int32))] [(.int (1 : Int32))])) _
          exact retN X27 hx (t := .boolean) Bd.returns (by simp) (hb hby at_240) hr
        · show Q0 Z q0 p1 q2 p3 p4 h0 n0 _ T27.heap _
          rw [e27q]
          exact ⟨rfl, N27⟩
      · -- not x < y
        have pre29 : ∀ t, Steps p.tables e below (T15.setTop (mkF m 111 #[.val (.long q0), .second, .val (.int p1), .val (.long q2), .second, .val (.int p3), .val (.int p4), .val (.long a), .second, .val (.int x), .val (.long b), .second, .val (.int y), .val (.long (own_pack a x)), .second, .val (.long (own_pack b y)), .second, .val (.int (0 : Int32)), .unset, .unset, .unset, .unset] [(.int y), (.int x)])) t → Steps p.tables e below (s₁.setTop (entryFrame m #[(.long q0), (.int p1), (.long q2), (.int p3), (.int p4)] maxLocals)) t := by
          intro t kt
          refine pre23 _ ?_
          show Steps p.tables e below (T15.setTop (mkF m 89 #[.val (.long q0), .second, .val (.int p1), .val (.long q2), .second, .val (.int p3), .val (.int p4), .val (.long a), .second, .val (.int x), .val (.long b), .second, .val (.int y), .val (.long (own_pack a x)), .second, .val (.long (own_pack b y)), .second, .unset, .unset, .unset, .unset, .unset] [(.int y), (.int x)])) _
          refine XS.icmpYes X15.here hx rfl (pc0 := 89) (pc' := 96) rfl (hb hby at_89) rfl (flt hc89).2.1 (by decide) (by decide) ?_
          show Steps p.tables e below (T15.setTop (mkF m 96 #[.val (.long q0), .second, .val (.int p1), .val (.long q2), .second, .val (.int p3), .val (.int p4), .val (.long a), .second, .val (.int x), .val (.long b), .second, .val (.int y), .val (.long (own_pack a x)), .second, .val (.long (own_pack b y)), .second, .unset, .unset, .unset, .unset, .unset] [])) _
          refine XS.iconst X15.here hx rfl (hb hby at_96) ?_
          show Steps p.tables e below (T15.setTop (mkF m 97 #[.val (.long q0), .second, .val (.int p1), .val (.long q2), .second, .val (.int p3), .val (.int p4), .val (.long a), .second, .val (.int x), .val (.long b), .second, .val (.int y), .val (.long (own_pack a x)), .second, .val (.long (own_pack b y)), .second, .unset, .unset, .unset, .unset, .unset] [(.int (0 : Int32))])) _
          refine XS.istore X15.here hx rfl (hb hby at_97) rfl (l' := #[.val (.long q0), .second, .val (.int p1), .val (.long q2), .second, .val (.int p3), .val (.int p4), .val (.long a), .second, .val (.int x), .val (.long b), .second, .val (.int y), .val (.long (own_pack a x)), .second, .val (.long (own_pack b y)), .second, .val (.int (0 : Int32)), .unset, .unset, .unset, .unset]) rfl ?_
          show Steps p.tables e below (T15.setTop (mkF m 99 #[.val (.long q0), .second, .val (.int p1), .val (.long q2), .second, .val (.int p3), .val (.int p4), .val (.long a), .second, .val (.int x), .val (.long b), .second, .val (.int y), .val (.long (own_pack a x)), .second, .val (.long (own_pack b y)), .second, .val (.int (0 : Int32)), .unset, .unset, .unset, .unset] [])) _
          refine XS.lload X15.here hx rfl (hb hby at_99) rfl ?_
          show Steps p.tables e below (T15.setTop (mkF m 101 #[.val (.long q0), .second, .val (.int p1), .val (.long q2), .second, .val (.int p3), .val (.int p4), .val (.long a), .second, .val (.int x), .val (.long b), .second, .val (.int y), .val (.long (own_pack a x)), .second, .val (.long (own_pack b y)), .second, .val (.int (0 : Int32)), .unset, .unset, .unset, .unset] [(.long a)])) _
          refine XS.lload X15.here hx rfl (hb hby at_101) rfl ?_
          show Steps p.tables e below (T15.setTop (mkF m 103 #[.val (.long q0), .second, .val (.int p1), .val (.long q2), .second, .val (.int p3), .val (.int p4), .val (.long a), .second, .val (.int x), .val (.long b), .second, .val (.int y), .val (.long (own_pack a x)), .second, .val (.long (own_pack b y)), .second, .val (.int (0 : Int32)), .unset, .unset, .unset, .unset] [(.long b), (.long a)])) _
          refine XS.lcmp X15.here hx rfl (hb hby at_103) rfl ?_
          show Steps p.tables e below (T15.setTop (mkF m 104 #[.val (.long q0), .second, .val (.int p1), .val (.long q2), .second, .val (.int p3), .val (.int p4), .val (.long a), .second, .val (.int x), .val (.long b), .second, .val (.int y), .val (.long (own_pack a x)), .second, .val (.long (own_pack b y)), .second, .val (.int (0 : Int32)), .unset, .unset, .unset, .unset] [(.int (lcmpW a b))])) _
          refine XS.ifNo X15.here hx rfl (hb hby at_104) rfl ((if0 _ _).trans (teq ((lw_eq _ _).mpr hc82)).2) ?_
          show Steps p.tables e below (T15.setTop (mkF m 107 #[.val (.long q0), .second, .val (.int p1), .val (.long q2), .second, .val (.int p3), .val (.int p4), .val (.long a), .second, .val (.int x), .val (.long b), .second, .val (.int y), .val (.long (own_pack a x)), .second, .val (.long (own_pack b y)), .second, .val (.int (0 : Int32)), .unset, .unset, .unset, .unset] [])) _
          refine XS.iload X15.here hx rfl (hb hby at_107) rfl ?_
          show Steps p.tables e below (T15.setTop (mkF m 109 #[.val (.long q0), .second, .val (.int p1), .val (.long q2), .second, .val (.int p3), .val (.int p4), .val (.long a), .second, .val (.int x), .val (.long b), .second, .val (.int y), .val (.long (own_pack a x)), .second, .val (.long (own_pack b y)), .second, .val (.int (0 : Int32)), .unset, .unset, .unset, .unset] [(.int x)])) _
          refine XS.iload X15.here hx rfl (hb hby at_109) rfl ?_
          exact kt
        by_cases hc111 : x = y
        · -- x = y
          obtain ⟨_, _, ⟨T30, L30, k30, n30⟩, -, X30, ⟨Lc30, hQ30, l30, y30, z30⟩, st30⟩ := Jvm.LawKit.callS X15 hx (y := (⟨"com/example/sarasvati/sarasvati/dedup/IndexRun", "hashOf", "(J)J"⟩ : MethodName)) hown (mvT hZ (hw _ (List.mem_of_getElem? (i := 7) rfl))) (mvT hZ (hw _ (List.mem_of_getElem? (i := 8) rfl))) (mvT hZ (hw _ (List.mem_of_getElem? (i := 4) rfl))) (mvT hZ (hw _ (List.mem_of_getElem? (i := 9) rfl))) (by decide) (backOf (W := 0) (rm2 l Z a0 hw [] (own_pack a x) h0 n0 Z0 ) hZ (hw _ (List.mem_of_getElem? (i := 9) rfl)) (hw _ (List.mem_of_getElem? (i := 4) rfl)) (by decide) (by decide)) (g := (mkF m 166 #[.val (.long q0), .second, .val (.int p1), .val (.long q2), .second, .val (.int p3), .val (.int p4), .val (.long a), .second, .val (.int x), .val (.long b), .second, .val (.int y), .val (.long (own_pack a x)), .second, .val (.long (own_pack b y)), .second, .val (.int (0 : Int32)), .val (.int (1 : Int32)), .val (.int (1 : Int32)), .unset, .unset] [(.long (own_pack a x))])) rfl (by rw [hml]; rfl) (argsL := [(.long (own_pack a x))]) (rest := []) (lenOf pd_1 rfl) rfl (by show 2 * 0 + _ ≤ _; exact Nat.le_of_eq rfl) (hb hby at_166) (fun _ _ => ⟨rfl, e15q, (by decide : 0 + 0 ≤ _), (by decide : 0 + 0 ≤ _)⟩)
          dsimp only [Pt.U, Pt.locs, Pt.cells, Pt.slots] at X30 l30 y30 z30 st30 hQ30
          subst l30 y30 z30
          obtain ⟨rfl, N30q, e30q⟩ := hQ30
          have N30 := Fr.app N15 N30q
          obtain ⟨_, _, ⟨T31, L31, k31, n31⟩, -, X31, ⟨Lc31, hQ31, l31, y31, z31⟩, st31⟩ := Jvm.LawKit.callS X30 hx (y := (⟨"com/example/sarasvati/sarasvati/dedup/IndexRun", "indexOf", "(J)I"⟩ : MethodName)) hown (mvT hZ (hw _ (List.mem_of_getElem? (i := 10) rfl))) (mvT hZ (hw _ (List.mem_of_getElem? (i := 11) rfl))) (mvT hZ (hw _ (List.mem_of_getElem? (i := 4) rfl))) (mvT hZ (hw _ (List.mem_of_getElem? (i := 12) rfl))) (by decide) (backOf (W := 0) (rm3 l Z a0 hw [] (own_pack a x) h0 n0 Z0 ) hZ (hw _ (List.mem_of_getElem? (i := 12) rfl)) (hw _ (List.mem_of_getElem? (i := 4) rfl)) (by decide) (by decide)) (g := (mkF m 177 #[.val (.long q0), .second, .val (.int p1), .val (.long q2), .second, .val (.int p3), .val (.int p4), .val (.long a), .second, .val (.int x), .val (.long b), .second, .val (.int y), .val (.long (own_pack a x)), .second, .val (.long (own_pack b y)), .second, .val (.int (0 : Int32)), .val (.int (1 : Int32)), .val (.int (1 : Int32)), .unset, .unset] [(.long (own_pack a x))])) rfl (by rw [hml]; rfl) (argsL := [(.long (own_pack a x))]) (rest := []) (lenOf pd_2 rfl) rfl (by show 2 * 0 + _ ≤ _; exact Nat.le_of_eq rfl) (hb hby at_177) (fun _ _ => ⟨rfl, e30q, (by decide : 0 + 0 ≤ _), (by decide : 0 + 0 ≤ _)⟩)
          dsimp only [Pt.U, Pt.locs, Pt.cells, Pt.slots] at X31 l31 y31 z31 st31 hQ31
          subst l31 y31 z31
          obtain ⟨rfl, N31q, e31q⟩ := hQ31
          have N31 := Fr.app N30 N31q
          obtain ⟨_, _, ⟨T32, L32, k32, n32⟩, -, X32, ⟨Lc32, hQ32, l32, y32, z32⟩, st32⟩ := Jvm.LawKit.callS X31 hx (y := (⟨"com/example/sarasvati/sarasvati/dedup/IndexRun", "hashOf", "(J)J"⟩ : MethodName)) hown (mvT hZ (hw _ (List.mem_of_getElem? (i := 7) rfl))) (mvT hZ (hw _ (List.mem_of_getElem? (i := 8) rfl))) (mvT hZ (hw _ (List.mem_of_getElem? (i := 4) rfl))) (mvT hZ (hw _ (List.mem_of_getElem? (i := 9) rfl))) (by decide) (backOf (W := 0) (rm2 l Z a0 hw [] (own_pack b y) h0 n0 Z0 ) hZ (hw _ (List.mem_of_getElem? (i := 9) rfl)) (hw _ (List.mem_of_getElem? (i := 4) rfl)) (by decide) (by decide)) (g := (mkF m 194 #[.val (.long q0), .second, .val (.int p1), .val (.long q2), .second, .val (.int p3), .val (.int p4), .val (.long a), .second, .val (.int x), .val (.long b), .second, .val (.int y), .val (.long (own_pack a x)), .second, .val (.long (own_pack b y)), .second, .val (.int (0 : Int32)), .val (.int (1 : Int32)), .val (.int (1 : Int32)), .val (.int (1 : Int32)), .unset] [(.long (own_pack b y))])) rfl (by rw [hml]; rfl) (argsL := [(.long (own_pack b y))]) (rest := []) (lenOf pd_1 rfl) rfl (by show 2 * 0 + _ ≤ _; exact Nat.le_of_eq rfl) (hb hby at_194) (fun _ _ => ⟨rfl, e31q, (by decide : 0 + 0 ≤ _), (by decide : 0 + 0 ≤ _)⟩)
          dsimp only [Pt.U, Pt.locs, Pt.cells, Pt.slots] at X32 l32 y32 z32 st32 hQ32
          subst l32 y32 z32
          obtain ⟨rfl, N32q, e32q⟩ := hQ32
          have N32 := Fr.app N31 N32q
          obtain ⟨_, _, ⟨T33, L33, k33, n33⟩, -, X33, ⟨Lc33, hQ33, l33, y33, z33⟩, st33⟩ := Jvm.LawKit.callS X32 hx (y := (⟨"com/example/sarasvati/sarasvati/dedup/IndexRun", "indexOf", "(J)I"⟩ : MethodName)) hown (mvT hZ (hw _ (List.mem_of_getElem? (i := 10) rfl))) (mvT hZ (hw _ (List.mem_of_getElem? (i := 11) rfl))) (mvT hZ (hw _ (List.mem_of_getElem? (i := 4) rfl))) (mvT hZ (hw _ (List.mem_of_getElem? (i := 12) rfl))) (by decide) (backOf (W := 0) (rm3 l Z a0 hw [] (own_pack b y) h0 n0 Z0 ) hZ (hw _ (List.mem_of_getElem? (i := 12) rfl)) (hw _ (List.mem_of_getElem? (i := 4) rfl)) (by decide) (by decide)) (g := (mkF m 205 #[.val (.long q0), .second, .val (.int p1), .val (.long q2), .second, .val (.int p3), .val (.int p4), .val (.long a), .second, .val (.int x), .val (.long b), .second, .val (.int y), .val (.long (own_pack a x)), .second, .val (.long (own_pack b y)), .second, .val (.int (0 : Int32)), .val (.int (1 : Int32)), .val (.int (1 : Int32)), .val (.int (1 : Int32)), .unset] [(.long (own_pack b y))])) rfl (by rw [hml]; rfl) (argsL := [(.long (own_pack b y))]) (rest := []) (lenOf pd_2 rfl) rfl (by show 2 * 0 + _ ≤ _; exact Nat.le_of_eq rfl) (hb hby at_205) (fun _ _ => ⟨rfl, e32q, (by decide : 0 + 0 ≤ _), (by decide : 0 + 0 ≤ _)⟩)
          dsimp only [Pt.U, Pt.locs, Pt.cells, Pt.slots] at X33 l33 y33 z33 st33 hQ33
          subst l33 y33 z33
          obtain ⟨rfl, N33q, e33q⟩ := hQ33
          have N33 := Fr.app N32 N33q
          obtain ⟨fs, hr, hrun, hended, hW, hsame⟩ := X33.leave (v := some (.int (1 : Int32))) (fun h => by rw [Bd.returns] at h; cases h)
          refine ⟨_, _, pre29 _ ?_, hrun, hended, _, _, rfl, ?_, ⟨_, rfl⟩, hW, hsame.mono (by decide) (by decide)⟩
          · show Steps p.tables e below (T15.setTop (mkF m 111 #[.val (.long q0), .second, .val (.int p1), .val (.long q2), .second, .val (.int p3), .val (.int p4), .val (.long a), .second, .val (.int x), .val (.long b), .second, .val (.int y), .val (.long (own_pack a x)), .second, .val (.long (own_pack b y)), .second, .val (.int (0 : Int32)), .unset, .unset, .unset, .unset] [(.int y), (.int x)])) _
            refine XS.icmpNo X15.here hx rfl (hb hby at_111) rfl (teq hc111).2 ?_
            show Steps p.tables e below (T15.setTop (mkF m 114 #[.val (.long q0), .second, .val (.int p1), .val (.long q2), .second, .val (.int p3), .val (.int p4), .val (.long a), .second, .val (.int x), .val (.long b), .second, .val (.int y), .val (.long (own_pack a x)), .second, .val (.long (own_pack b y)), .second, .val (.int (0 : Int32)), .unset, .unset, .unset, .unset] [])) _
            refine XS.iconst X15.here hx rfl (hb hby at_114) ?_
            show Steps p.tables e below (T15.setTop (mkF m 115 #[.val (.long q0), .second, .val (.int p1), .val (.long q2), .second, .val (.int p3), .val (.int p4), .val (.long a), .second, .val (.int x), .val (.long b), .second, .val (.int y), .val (.long (own_pack a x)), .second, .val (.long (own_pack b y)), .second, .val (.int (0 : Int32)), .unset, .unset, .unset, .unset] [(.int (1 : Int32))])) _
            refine XS.goto X15.here hx rfl (pc0 := 115) (pc' := 119) rfl (hb hby at_115) (by decide) (by decide) ?_
            show Steps p.tables e below (T15.setTop (mkF m 119 #[.val (.long q0), .second, .val (.int p1), .val (.long q2), .second, .val (.int p3), .val (.int p4), .val (.long a), .second, .val (.int x), .val (.long b), .second, .val (.int y), .val (.long (own_pack a x)), .second, .val (.long (own_pack b y)), .second, .val (.int (0 : Int32)), .unset, .unset, .unset, .unset] [(.int (1 : Int32))])) _
            refine XS.istore X15.here hx rfl (hb hby at_119) rfl (l' := #[.val (.long q0), .second, .val (.int p1), .val (.long q2), .second, .val (.int p3), .val (.int p4), .val (.long a), .second, .val (.int x), .val (.long b), .second, .val (.int y), .val (.long (own_pack a x)), .second, .val (.long (own_pack b y)), .second, .val (.int (0 : Int32)), .val (.int (1 : Int32)), .unset, .unset, .unset]) rfl ?_
            show Steps p.tables e below (T15.setTop (mkF m 121 #[.val (.long q0), .second, .val (.int p1), .val (.long q2), .second, .val (.int p3), .val (.int p4), .val (.long a), .second, .val (.int x), .val (.long b), .second, .val (.int y), .val (.long (own_pack a x)), .second, .val (.long (own_pack b y)), .second, .val (.int (0 : Int32)), .val (.int (1 : Int32)), .unset, .unset, .unset] [])) _
            refine XS.lload X15.here hx rfl (hb hby at_121) rfl ?_
            show Steps p.tables e below (T15.setTop (mkF m 123 #[.val (.long q0), .second, .val (.int p1), .val (.long q2), .second, .val (.int p3), .val (.int p4), .val (.long a), .second, .val (.int x), .val (.long b), .second, .val (.int y), .val (.long (own_pack a x)), .second, .val (.long (own_pack b y)), .second, .val (.int (0 : Int32)), .val (.int (1 : Int32)), .unset, .unset, .unset] [(.long (own_pack a x))])) _
            refine XS.lload X15.here hx rfl (hb hby at_123) rfl ?_
            show Steps p.tables e below (T15.setTop (mkF m 125 #[.val (.long q0), .second, .val (.int p1), .val (.long q2), .second, .val (.int p3), .val (.int p4), .val (.long a), .second, .val (.int x), .val (.long b), .second, .val (.int y), .val (.long (own_pack a x)), .second, .val (.long (own_pack b y)), .second, .val (.int (0 : Int32)), .val (.int (1 : Int32)), .unset, .unset, .unset] [(.long (own_pack b y)), (.long (own_pack a x))])) _
            refine XS.lcmp X15.here hx rfl (hb hby at_125) rfl ?_
            show Steps p.tables e below (T15.setTop (mkF m 126 #[.val (.long q0), .second, .val (.int p1), .val (.long q2), .second, .val (.int p3), .val (.int p4), .val (.long a), .second, .val (.int x), .val (.long b), .second, .val (.int y), .val (.long (own_pack a x)), .second, .val (.long (own_pack b y)), .second, .val (.int (0 : Int32)), .val (.int (1 : Int32)), .unset, .unset, .unset] [(.int (lcmpW (own_pack a x) (own_pack b y)))])) _
            refine XS.ifYes X15.here hx rfl (pc0 := 126) (pc' := 133) rfl (hb hby at_126) rfl ((if0 _ _).trans (flt ((not_congr (lw_lt _ _)).mpr (fun z => (fun q => q.elim hc74 (fun r => hc89 r.2)) ((own_plt a b x y hm1 hm7 hm4 hm11).mp z)))).2.1) (by decide) (by decide) ?_
            show Steps p.tables e below (T15.setTop (mkF m 133 #[.val (.long q0), .second, .val (.int p1), .val (.long q2), .second, .val (.int p3), .val (.int p4), .val (.long a), .second, .val (.int x), .val (.long b), .second, .val (.int y), .val (.long (own_pack a x)), .second, .val (.long (own_pack b y)), .second, .val (.int (0 : Int32)), .val (.int (1 : Int32)), .unset, .unset, .unset] [])) _
            refine XS.iconst X15.here hx rfl (hb hby at_133) ?_
            show Steps p.tables e below (T15.setTop (mkF m 134 #[.val (.long q0), .second, .val (.int p1), .val (.long q2), .second, .val (.int p3), .val (.int p4), .val (.long a), .second, .val (.int x), .val (.long b), .second, .val (.int y), .val (.long (own_pack a x)), .second, .val (.long (own_pack b y)), .second, .val (.int (0 : Int32)), .val (.int (1 : Int32)), .unset, .unset, .unset] [(.int (0 : Int32))])) _
            refine XS.iload X15.here hx rfl (hb hby at_134) rfl ?_
            show Steps p.tables e below (T15.setTop (mkF m 136 #[.val (.long q0), .second, .val (.int p1), .val (.long q2), .second, .val (.int p3), .val (.int p4), .val (.long a), .second, .val (.int x), .val (.long b), .second, .val (.int y), .val (.long (own_pack a x)), .second, .val (.long (own_pack b y)), .second, .val (.int (0 : Int32)), .val (.int (1 : Int32)), .unset, .unset, .unset] [(.int (0 : Int32)), (.int (0 : Int32))])) _
            refine XS.icmpNo X15.here hx rfl (hb hby at_136) rfl (teq (by decide : (0 : Int32) = (0 : Int32))).2 ?_
            show Steps p.tables e below (T15.setTop (mkF m 139 #[.val (.long q0), .second, .val (.int p1), .val (.long q2), .second, .val (.int p3), .val (.int p4), .val (.long a), .second, .val (.int x), .val (.long b), .second, .val (.int y), .val (.long (own_pack a x)), .second, .val (.long (own_pack b y)), .second, .val (.int (0 : Int32)), .val (.int (1 : Int32)), .unset, .unset, .unset] [])) _
            refine XS.lload X15.here hx rfl (hb hby at_139) rfl ?_
            show Steps p.tables e below (T15.setTop (mkF m 141 #[.val (.long q0), .second, .val (.int p1), .val (.long q2), .second, .val (.int p3), .val (.int p4), .val (.long a), .second, .val (.int x), .val (.long b), .second, .val (.int y), .val (.long (own_pack a x)), .second, .val (.long (own_pack b y)), .second, .val (.int (0 : Int32)), .val (.int (1 : Int32)), .unset, .unset, .unset] [(.long (own_pack a x))])) _
            refine XS.lload X15.here hx rfl (hb hby at_141) rfl ?_
            show Steps p.tables e below (T15.setTop (mkF m 143 #[.val (.long q0), .second, .val (.int p1), .val (.long q2), .second, .val (.int p3), .val (.int p4), .val (.long a), .second, .val (.int x), .val (.long b), .second, .val (.int y), .val (.long (own_pack a x)), .second, .val (.long (own_pack b y)), .second, .val (.int (0 : Int32)), .val (.int (1 : Int32)), .unset, .unset, .unset] [(.long (own_pack b y)), (.long (own_pack a x))])) _
            refine XS.lcmp X15.here hx rfl (hb hby at_143) rfl ?_
            show Steps p.tables e below (T15.setTop (mkF m 144 #[.val (.long q0), .second, .val (.int p1), .val (.long q2), .second, .val (.int p3), .val (.int p4), .val (.long a), .second, .val (.int x), .val (.long b), .second, .val (.int y), .val (.long (own_pack a x)), .second, .val (.long (own_pack b y)), .second, .val (.int (0 : Int32)), .val (.int (1 : Int32)), .unset, .unset, .unset] [(.int (lcmpW (own_pack a x) (own_pack b y)))])) _
            refine XS.ifNo X15.here hx rfl (hb hby at_144) rfl ((if0 _ _).trans (teq ((lw_eq _ _).mpr ((own_peq a b x y hm1 hm7 hm4 hm11).mpr ⟨hc82, hc111⟩))).2) ?_
            show Steps p.tables e below (T15.setTop (mkF m 147 #[.val (.long q0), .second, .val (.int p1), .val (.long q2), .second, .val (.int p3), .val (.int p4), .val (.long a), .second, .val (.int x), .val (.long b), .second, .val (.int y), .val (.long (own_pack a x)), .second, .val (.long (own_pack b y)), .second, .val (.int (0 : Int32)), .val (.int (1 : Int32)), .unset, .unset, .unset] [])) _
            refine XS.iconst X15.here hx rfl (hb hby at_147) ?_
            show Steps p.tables e below (T15.setTop (mkF m 148 #[.val (.long q0), .second, .val (.int p1), .val (.long q2), .second, .val (.int p3), .val (.int p4), .val (.long a), .second, .val (.int x), .val (.long b), .second, .val (.int y), .val (.long (own_pack a x)), .second, .val (.long (own_pack b y)), .second, .val (.int (0 : Int32)), .val (.int (1 : Int32)), .unset, .unset, .unset] [(.int (1 : Int32))])) _
            refine XS.goto X15.here hx rfl (pc0 := 148) (pc' := 152) rfl (hb hby at_148) (by decide) (by decide) ?_
            show Steps p.tables e below (T15.setTop (mkF m 152 #[.val (.long q0), .second, .val (.int p1), .val (.long q2), .second, .val (.int p3), .val (.int p4), .val (.long a), .second, .val (.int x), .val (.long b), .second, .val (.int y), .val (.long (own_pack a x)), .second, .val (.long (own_pack b y)), .second, .val (.int (0 : Int32)), .val (.int (1 : Int32)), .unset, .unset, .unset] [(.int (1 : Int32))])) _
            refine XS.iload X15.here hx rfl (hb hby at_152) rfl ?_
            show Steps p.tables e below (T15.setTop (mkF m 154 #[.val (.long q0), .second, .val (.int p1), .val (.long q2), .second, .val (.int p3), .val (.int p4), .val (.long a), .second, .val (.int x), .val (.long b), .second, .val (.int y), .val (.long (own_pack a x)), .second, .val (.long (own_pack b y)), .second, .val (.int (0 : Int32)), .val (.int (1 : Int32)), .unset, .unset, .unset] [(.int (1 : Int32)), (.int (1 : Int32))])) _
            refine XS.icmpNo X15.here hx rfl (hb hby at_154) rfl (teq (by decide : (1 : Int32) = (1 : Int32))).2 ?_
            show Steps p.tables e below (T15.setTop (mkF m 157 #[.val (.long q0), .second, .val (.int p1), .val (.long q2), .second, .val (.int p3), .val (.int p4), .val (.long a), .second, .val (.int x), .val (.long b), .second, .val (.int y), .val (.long (own_pack a x)), .second, .val (.long (own_pack b y)), .second, .val (.int (0 : Int32)), .val (.int (1 : Int32)), .unset, .unset, .unset] [])) _
            refine XS.iconst X15.here hx rfl (hb hby at_157) ?_
            show Steps p.tables e below (T15.setTop (mkF m 158 #[.val (.long q0), .second, .val (.int p1), .val (.long q2), .second, .val (.int p3), .val (.int p4), .val (.long a), .second, .val (.int x), .val (.long b), .second, .val (.int y), .val (.long (own_pack a x)), .second, .val (.long (own_pack b y)), .second, .val (.int (0 : Int32)), .val (.int (1 : Int32)), .unset, .unset, .unset] [(.int (1 : Int32))])) _
            refine XS.goto X15.here hx rfl (pc0 := 158) (pc' := 162) rfl (hb hby at_158) (by decide) (by decide) ?_
            show Steps p.tables e below (T15.setTop (mkF m 162 #[.val (.long q0), .second, .val (.int p1), .val (.long q2), .second, .val (.int p3), .val (.int p4), .val (.long a), .second, .val (.int x), .val (.long b), .second, .val (.int y), .val (.long (own_pack a x)), .second, .val (.long (own_pack b y)), .second, .val (.int (0 : Int32)), .val (.int (1 : Int32)), .unset, .unset, .unset] [(.int (1 : Int32))])) _
            refine XS.istore X15.here hx rfl (hb hby at_162) rfl (l' := #[.val (.long q0), .second, .val (.int p1), .val (.long q2), .second, .val (.int p3), .val (.int p4), .val (.long a), .second, .val (.int x), .val (.long b), .second, .val (.int y), .val (.long (own_pack a x)), .second, .val (.long (own_pack b y)), .second, .val (.int (0 : Int32)), .val (.int (1 : Int32)), .val (.int (1 : Int32)), .unset, .unset]) rfl ?_
            show Steps p.tables e below (T15.setTop (mkF m 164 #[.val (.long q0), .second, .val (.int p1), .val (.long q2), .second, .val (.int p3), .val (.int p4), .val (.long a), .second, .val (.int x), .val (.long b), .second, .val (.int y), .val (.long (own_pack a x)), .second, .val (.long (own_pack b y)), .second, .val (.int (0 : Int32)), .val (.int (1 : Int32)), .val (.int (1 : Int32)), .unset, .unset] [])) _
            refine XS.lload X15.here hx rfl (hb hby at_164) rfl ?_
            show Steps p.tables e below (T15.setTop (mkF m 166 #[.val (.long q0), .second, .val (.int p1), .val (.long q2), .second, .val (.int p3), .val (.int p4), .val (.long a), .second, .val (.int x), .val (.long b), .second, .val (.int y), .val (.long (own_pack a x)), .second, .val (.long (own_pack b y)), .second, .val (.int (0 : Int32)), .val (.int (1 : Int32)), .val (.int (1 : Int32)), .unset, .unset] [(.long (own_pack a x))])) _
            refine st30 _ ?_
            show Steps p.tables e below (T30.setTop (mkF m 169 #[.val (.long q0), .second, .val (.int p1), .val (.long q2), .second, .val (.int p3), .val (.int p4), .val (.long a), .second, .val (.int x), .val (.long b), .second, .val (.int y), .val (.long (own_pack a x)), .second, .val (.long (own_pack b y)), .second, .val (.int (0 : Int32)), .val (.int (1 : Int32)), .val (.int (1 : Int32)), .unset, .unset] [(.long (own_hashOf (own_pack a x)))])) _
            refine XS.lload X30.here hx rfl (hb hby at_169) rfl ?_
            show Steps p.tables e below (T30.setTop (mkF m 171 #[.val (.long q0), .second, .val (.int p1), .val (.long q2), .second, .val (.int p3), .val (.int p4), .val (.long a), .second, .val (.int x), .val (.long b), .second, .val (.int y), .val (.long (own_pack a x)), .second, .val (.long (own_pack b y)), .second, .val (.int (0 : Int32)), .val (.int (1 : Int32)), .val (.int (1 : Int32)), .unset, .unset] [(.long a), (.long (own_hashOf (own_pack a x)))])) _
            refine XS.lcmp X30.here hx rfl (hb hby at_171) rfl ?_
            show Steps p.tables e below (T30.setTop (mkF m 172 #[.val (.long q0), .second, .val (.int p1), .val (.long q2), .second, .val (.int p3), .val (.int p4), .val (.long a), .second, .val (.int x), .val (.long b), .second, .val (.int y), .val (.long (own_pack a x)), .second, .val (.long (own_pack b y)), .second, .val (.int (0 : Int32)), .val (.int (1 : Int32)), .val (.int (1 : Int32)), .unset, .unset] [(.int (lcmpW (own_hashOf (own_pack a x)) a))])) _
            refine XS.ifNo X30.here hx rfl (hb hby at_172) rfl ((if0 _ _).trans (teq ((lw_eq _ _).mpr (own_hash a x hm1 hm4))).2) ?_
            show Steps p.tables e below (T30.setTop (mkF m 175 #[.val (.long q0), .second, .val (.int p1), .val (.long q2), .second, .val (.int p3), .val (.int p4), .val (.long a), .second, .val (.int x), .val (.long b), .second, .val (.int y), .val (.long (own_pack a x)), .second, .val (.long (own_pack b y)), .second, .val (.int (0 : Int32)), .val (.int (1 : Int32)), .val (.int (1 : Int32)), .unset, .unset] [])) _
            refine XS.lload X30.here hx rfl (hb hby at_175) rfl ?_
            show Steps p.tables e below (T30.setTop (mkF m 177 #[.val (.long q0), .second, .val (.int p1), .val (.long q2), .second, .val (.int p3), .val (.int p4), .val (.long a), .second, .val (.int x), .val (.long b), .second, .val (.int y), .val (.long (own_pack a x)), .second, .val (.long (own_pack b y)), .second, .val (.int (0 : Int32)), .val (.int (1 : Int32)), .val (.int (1 : Int32)), .unset, .unset] [(.long (own_pack a x))])) _
            refine st31 _ ?_
            show Steps p.tables e below (T31.setTop (mkF m 180 #[.val (.long q0), .second, .val (.int p1), .val (.long q2), .second, .val (.int p3), .val (.int p4), .val (.long a), .second, .val (.int x), .val (.long b), .second, .val (.int y), .val (.long (own_pack a x)), .second, .val (.long (own_pack b y)), .second, .val (.int (0 : Int32)), .val (.int (1 : Int32)), .val (.int (1 : Int32)), .unset, .unset] [(.int (own_indexOf (own_pack a x)))])) _
            refine XS.iload X31.here hx rfl (hb hby at_180) rfl ?_
            show Steps p.tables e below (T31.setTop (mkF m 182 #[.val (.long q0), .second, .val (.int p1), .val (.long q2), .second, .val (.int p3), .val (.int p4), .val (.long a), .second, .val (.int x), .val (.long b), .second, .val (.int y), .val (.long (own_pack a x)), .second, .val (.long (own_pack b y)), .second, .val (.int (0 : Int32)), .val (.int (1 : Int32)), .val (.int (1 : Int32)), .unset, .unset] [(.int x), (.int (own_indexOf (own_pack a x)))])) _
            refine XS.icmpNo X31.here hx rfl (hb hby at_182) rfl (teq (own_index a x hm1 hm4)).2 ?_
            show Steps p.tables e below (T31.setTop (mkF m 185 #[.val (.long q0), .second, .val (.int p1), .val (.long q2), .second, .val (.int p3), .val (.int p4), .val (.long a), .second, .val (.int x), .val (.long b), .second, .val (.int y), .val (.long (own_pack a x)), .second, .val (.long (own_pack b y)), .second, .val (.int (0 : Int32)), .val (.int (1 : Int32)), .val (.int (1 : Int32)), .unset, .unset] [])) _
            refine XS.iconst X31.here hx rfl (hb hby at_185) ?_
            show Steps p.tables e below (T31.setTop (mkF m 186 #[.val (.long q0), .second, .val (.int p1), .val (.long q2), .second, .val (.int p3), .val (.int p4), .val (.long a), .second, .val (.int x), .val (.long b), .second, .val (.int y), .val (.long (own_pack a x)), .second, .val (.long (own_pack b y)), .second, .val (.int (0 : Int32)), .val (.int (1 : Int32)), .val (.int (1 : Int32)), .unset, .unset] [(.int (1 : Int32))])) _
            refine XS.goto X31.here hx rfl (pc0 := 186) (pc' := 190) rfl (hb hby at_186) (by decide) (by decide) ?_
            show Steps p.tables e below (T31.setTop (mkF m 190 #[.val (.long q0), .second, .val (.int p1), .val (.long q2), .second, .val (.int p3), .val (.int p4), .val (.long a), .second, .val (.int x), .val (.long b), .second, .val (.int y), .val (.long (own_pack a x)), .second, .val (.long (own_pack b y)), .second, .val (.int (0 : Int32)), .val (.int (1 : Int32)), .val (.int (1 : Int32)), .unset, .unset] [(.int (1 : Int32))])) _
            refine XS.istore X31.here hx rfl (hb hby at_190) rfl (l' := #[.val (.long q0), .second, .val (.int p1), .val (.long q2), .second, .val (.int p3), .val (.int p4), .val (.long a), .second, .val (.int x), .val (.long b), .second, .val (.int y), .val (.long (own_pack a x)), .second, .val (.long (own_pack b y)), .second, .val (.int (0 : Int32)), .val (.int (1 : Int32)), .val (.int (1 : Int32)), .val (.int (1 : Int32)), .unset]) rfl ?_
            show Steps p.tables e below (T31.setTop (mkF m 192 #[.val (.long q0), .second, .val (.int p1), .val (.long q2), .second, .val (.int p3), .val (.int p4), .val (.long a), .second, .val (.int x), .val (.long b), .second, .val (.int y), .val (.long (own_pack a x)), .second, .val (.long (own_pack b y)), .second, .val (.int (0 : Int32)), .val (.int (1 : Int32)), .val (.int (1 : Int32)), .val (.int (1 : Int32)), .unset] [])) _
            refine XS.lload X31.here hx rfl (hb hby at_192) rfl ?_
            show Steps p.tables e below (T31.setTop (mkF m 194 #[.val (.long q0), .second, .val (.int p1), .val (.long q2), .second, .val (.int p3), .val (.int p4), .val (.long a), .second, .val (.int x), .val (.long b), .second, .val (.int y), .val (.long (own_pack a x)), .second, .val (.long (own_pack b y)), .second, .val (.int (0 : Int32)), .val (.int (1 : Int32)), .val (.int (1 : Int32)), .val (.int (1 : Int32)), .unset] [(.long (own_pack b y))])) _
            refine st32 _ ?_
            show Steps p.tables e below (T32.setTop (mkF m 197 #[.val (.long q0), .second, .val (.int p1), .val (.long q2), .second, .val (.int p3), .val (.int p4), .val (.long a), .second, .val (.int x), .val (.long b), .second, .val (.int y), .val (.long (own_pack a x)), .second, .val (.long (own_pack b y)), .second, .val (.int (0 : Int32)), .val (.int (1 : Int32)), .val (.int (1 : Int32)), .val (.int (1 : Int32)), .unset] [(.long (own_hashOf (own_pack b y)))])) _
            refine XS.lload X32.here hx rfl (hb hby at_197) rfl ?_
            show Steps p.tables e below (T32.setTop (mkF m 199 #[.val (.long q0), .second, .val (.int p1), .val (.long q2), .second, .val (.int p3), .val (.int p4), .val (.long a), .second, .val (.int x), .val (.long b), .second, .val (.int y), .val (.long (own_pack a x)), .second, .val (.long (own_pack b y)), .second, .val (.int (0 : Int32)), .val (.int (1 : Int32)), .val (.int (1 : Int32)), .val (.int (1 : Int32)), .unset] [(.long b), (.long (own_hashOf (own_pack b y)))])) _
            refine XS.lcmp X32.here hx rfl (hb hby at_199) rfl ?_
            show Steps p.tables e below (T32.setTop (mkF m 200 #[.val (.long q0), .second, .val (.int p1), .val (.long q2), .second, .val (.int p3), .val (.int p4), .val (.long a), .second, .val (.int x), .val (.long b), .second, .val (.int y), .val (.long (own_pack a x)), .second, .val (.long (own_pack b y)), .second, .val (.int (0 : Int32)), .val (.int (1 : Int32)), .val (.int (1 : Int32)), .val (.int (1 : Int32)), .unset] [(.int (lcmpW (own_hashOf (own_pack b y)) b))])) _
            refine XS.ifNo X32.here hx rfl (hb hby at_200) rfl ((if0 _ _).trans (teq ((lw_eq _ _).mpr (own_hash b y hm7 hm11))).2) ?_
            show Steps p.tables e below (T32.setTop (mkF m 203 #[.val (.long q0), .second, .val (.int p1), .val (.long q2), .second, .val (.int p3), .val (.int p4), .val (.long a), .second, .val (.int x), .val (.long b), .second, .val (.int y), .val (.long (own_pack a x)), .second, .val (.long (own_pack b y)), .second, .val (.int (0 : Int32)), .val (.int (1 : Int32)), .val (.int (1 : Int32)), .val (.int (1 : Int32)), .unset] [])) _
            refine XS.lload X32.here hx rfl (hb hby at_203) rfl ?_
            show Steps p.tables e below (T32.setTop (mkF m 205 #[.val (.long q0), .second, .val (.int p1), .val (.long q2), .second, .val (.int p3), .val (.int p4), .val (.long a), .second, .val (.int x), .val (.long b), .second, .val (.int y), .val (.long (own_pack a x)), .second, .val (.long (own_pack b y)), .second, .val (.int (0 : Int32)), .val (.int (1 : Int32)), .val (.int (1 : Int32)), .val (.int (1 : Int32)), .unset] [(.long (own_pack b y))])) _
            refine st33 _ ?_
            show Steps p.tables e below (T33.setTop (mkF m 208 #[.val (.long q0), .second, .val (.int p1), .val (.long q2), .second, .val (.int p3), .val (.int p4), .val (.long a), .second, .val (.int x), .val (.long b), .second, .val (.int y), .val (.long (own_pack a x)), .second, .val (.long (own_pack b y)), .second, .val (.int (0 : Int32)), .val (.int (1 : Int32)), .val (.int (1 : Int32)), .val (.int (1 : Int32)), .unset] [(.int (own_indexOf (own_pack b y)))])) _
            refine XS.iload X33.here hx rfl (hb hby at_208) rfl ?_
            show Steps p.tables e below (T33.setTop (mkF m 210 #[.val (.long q0), .second, .val (.int p1), .val (.long q2), .second, .val (.int p3), .val (.int p4), .val (.long a), .second, .val (.int x), .val (.long b), .second, .val (.int y), .val (.long (own_pack a x)), .second, .val (.long (own_pack b y)), .second, .val (.int (0 : Int32)), .val (.int (1 : Int32)), .val (.int (1 : Int32)), .val (.int (1 : Int32)), .unset] [(.int y), (.int (own_indexOf (own_pack b y)))])) _
            refine XS.icmpNo X33.here hx rfl (hb hby at_210) rfl (teq (own_index b y hm7 hm11)).2 ?_
            show Steps p.tables e below (T33.setTop (mkF m 213 #[.val (.long q0), .second, .val (.int p1), .val (.long q2), .second, .val (.int p3), .val (.int p4), .val (.long a), .second, .val (.int x), .val (.long b), .second, .val (.int y), .val (.long (own_pack a x)), .second, .val (.long (own_pack b y)), .second, .val (.int (0 : Int32)), .val (.int (1 : Int32)), .val (.int (1 : Int32)), .val (.int (1 : Int32)), .unset] [])) _
            refine XS.iconst X33.here hx rfl (hb hby at_213) ?_
            show Steps p.tables e below (T33.setTop (mkF m 214 #[.val (.long q0), .second, .val (.int p1), .val (.long q2), .second, .val (.int p3), .val (.int p4), .val (.long a), .second, .val (.int x), .val (.long b), .second, .val (.int y), .val (.long (own_pack a x)), .second, .val (.long (own_pack b y)), .second, .val (.int (0 : Int32)), .val (.int (1 : Int32)), .val (.int (1 : Int32)), .val (.int (1 : Int32)), .unset] [(.int (1 : Int32))])) _
            refine XS.goto X33.here hx rfl (pc0 := 214) (pc' := 218) rfl (hb hby at_214) (by decide) (by decide) ?_
            show Steps p.tables e below (T33.setTop (mkF m 218 #[.val (.long q0), .second, .val (.int p1), .val (.long q2), .second, .val (.int p3), .val (.int p4), .val (.long a), .second, .val (.int x), .val (.long b), .second, .val (.int y), .val (.long (own_pack a x)), .second, .val (.long (own_pack b y)), .second, .val (.int (0 : Int32)), .val (.int (1 : Int32)), .val (.int (1 : Int32)), .val (.int (1 : Int32)), .unset] [(.int (1 : Int32))])) _
            refine XS.istore X33.here hx rfl (hb hby at_218) rfl (l' := #[.val (.long q0), .second, .val (.int p1), .val (.long q2), .second, .val (.int p3), .val (.int p4), .val (.long a), .second, .val (.int x), .val (.long b), .second, .val (.int y), .val (.long (own_pack a x)), .second, .val (.long (own_pack b y)), .second, .val (.int (0 : Int32)), .val (.int (1 : Int32)), .val (.int (1 : Int32)), .val (.int (1 : Int32)), .val (.int (1 : Int32))]) rfl ?_
            show Steps p.tables e below (T33.setTop (mkF m 220 #[.val (.long q0), .second, .val (.int p1), .val (.long q2), .second, .val (.int p3), .val (.int p4), .val (.long a), .second, .val (.int x), .val (.long b), .second, .val (.int y), .val (.long (own_pack a x)), .second, .val (.long (own_pack b y)), .second, .val (.int (0 : Int32)), .val (.int (1 : Int32)), .val (.int (1 : Int32)), .val (.int (1 : Int32)), .val (.int (1 : Int32))] [])) _
            refine XS.iload X33.here hx rfl (hb hby at_220) rfl ?_
            show Steps p.tables e below (T33.setTop (mkF m 222 #[.val (.long q0), .second, .val (.int p1), .val (.long q2), .second, .val (.int p3), .val (.int p4), .val (.long a), .second, .val (.int x), .val (.long b), .second, .val (.int y), .val (.long (own_pack a x)), .second, .val (.long (own_pack b y)), .second, .val (.int (0 : Int32)), .val (.int (1 : Int32)), .val (.int (1 : Int32)), .val (.int (1 : Int32)), .val (.int (1 : Int32))] [(.int (1 : Int32))])) _
            refine XS.ifNo X33.here hx rfl (hb hby at_222) rfl ((if0 _ _).trans (feq (by decide : ¬ ((1 : Int32) = (0 : Int32)))).1) ?_
            show Steps p.tables e below (T33.setTop (mkF m 225 #[.val (.long q0), .second, .val (.int p1), .val (.long q2), .second, .val (.int p3), .val (.int p4), .val (.long a), .second, .val (.int x), .val (.long b), .second, .val (.int y), .val (.long (own_pack a x)), .second, .val (.long (own_pack b y)), .second, .val (.int (0 : Int32)), .val (.int (1 : Int32)), .val (.int (1 : Int32)), .val (.int (1 : Int32)), .val (.int (1 : Int32))] [])) _
            refine XS.iload X33.here hx rfl (hb hby at_225) rfl ?_
            show Steps p.tables e below (T33.setTop (mkF m 227 #[.val (.long q0), .second, .val (.int p1), .val (.long q2), .second, .val (.int p3), .val (.int p4), .val (.long a), .second, .val (.int x), .val (.long b), .second, .val (.int y), .val (.long (own_pack a x)), .second, .val (.long (own_pack b y)), .second, .val (.int (0 : Int32)), .val (.int (1 : Int32)), .val (.int (1 : Int32)), .val (.int (1 : Int32)), .val (.int (1 : Int32))] [(.int (1 : Int32))])) _
            refine XS.ifNo X33.here hx rfl (hb hby at_227) rfl ((if0 _ _).trans (feq (by decide : ¬ ((1 : Int32) = (0 : Int32)))).1) ?_
            show Steps p.tables e below (T33.setTop (mkF m 230 #[.val (.long q0), .second, .val (.int p1), .val (.long q2), .second, .val (.int p3), .val (.int p4), .val (.long a), .second, .val (.int x), .val (.long b), .second, .val (.int y), .val (.long (own_pack a x)), .second, .val (.long (own_pack b y)), .second, .val (.int (0 : Int32)), .val (.int (1 : Int32)), .val (.int (1 : Int32)), .val (.int (1 : Int32)), .val (.int (1 : Int32))] [])) _
            refine XS.iload X33.here hx rfl (hb hby at_230) rfl ?_
            show Steps p.tables e below (T33.setTop (mkF m 232 #[.val (.long q0), .second, .val (.int p1), .val (.long q2), .second, .val (.int p3), .val (.int p4), .val (.long a), .second, .val (.int x), .val (.long b), .second, .val (.int y), .val (.long (own_pack a x)), .second, .val (.long (own_pack b y)), .second, .val (.int (0 : Int32)), .val (.int (1 : Int32)), .val (.int (1 : Int32)), .val (.int (1 : Int32)), .val (.int (1 : Int32))] [(.int (1 : Int32))])) _
            refine XS.ifNo X33.here hx rfl (hb hby at_232) rfl ((if0 _ _).trans (feq (by decide : ¬ ((1 : Int32) = (0 : Int32)))).1) ?_
            show Steps p.tables e below (T33.setTop (mkF m 235 #[.val (.long q0), .second, .val (.int p1), .val (.long q2), .second, .val (.int p3), .val (.int p4), .val (.long a), .second, .val (.int x), .val (.long b), .second, .val (.int y), .val (.long (own_pack a x)), .second, .val (.long (own_pack b y)), .second, .val (.int (0 : Int32)), .val (.int (1 : Int32)), .val (.int (1 : Int32)), .val (.int (1 : Int32)), .val (.int (1 : Int32))] [])) _
            refine XS.iconst X33.here hx rfl (hb hby at_235) ?_
            show Steps p.tables e below (T33.setTop (mkF m 236 #[.val (.long q0), .second, .val (.int p1), .val (.long q2), .second, .val (.int p3), .val (.int p4), .val (.long a), .second, .val (.int x), .val (.long b), .second, .val (.int y), .val (.long (own_pack a x)), .second, .val (.long (own_pack b y)), .second, .val (.int (0 : Int32)), .val (.int (1 : Int32)), .val (.int (1 : Int32)), .val (.int (1 : Int32)), .val (.int (1 : Int32))] [(.int (1 : Int32))])) _
            refine XS.goto X33.here hx rfl (pc0 := 236) (pc' := 240) rfl (hb hby at_236) (by decide) (by decide) ?_
            show Steps p.tables e below (T33.setTop (mkF m 240 #[.val (.long q0), .second, .val (.int p1), .val (.long q2), .second, .val (.int p3), .val (.int p4), .val (.long a), .second, .val (.int x), .val (.long b), .second, .val (.int y), .val (.long (own_pack a x)), .second, .val (.long (own_pack b y)), .second, .val (.int (0 : Int32)), .val (.int (1 : Int32)), .val (.int (1 : Int32)), .val (.int (1 : Int32)), .val (.int (1 : Int32))] [(.int (1 : Int32))])) _
            exact retN X33 hx (t := .boolean) Bd.returns (by simp) (hb hby at_240) hr
          · show Q0 Z q0 p1 q2 p3 p4 h0 n0 _ T33.heap _
            rw [e33q]
            exact ⟨rfl, N33⟩
        · -- not x = y
          obtain ⟨_, _, ⟨T35, L35, k35, n35⟩, -, X35, ⟨Lc35, hQ35, l35, y35, z35⟩, st35⟩ := Jvm.LawKit.callS X15 hx (y := (⟨"com/example/sarasvati/sarasvati/dedup/IndexRun", "hashOf", "(J)J"⟩ : MethodName)) hown (mvT hZ (hw _ (List.mem_of_getElem? (i := 7) rfl))) (mvT hZ (hw _ (List.mem_of_getElem? (i := 8) rfl))) (mvT hZ (hw _ (List.mem_of_getElem? (i := 4) rfl))) (mvT hZ (hw _ (List.mem_of_getElem? (i := 9) rfl))) (by decide) (backOf (W := 0) (rm2 l Z a0 hw [] (own_pack a x) h0 n0 Z0 ) hZ (hw _ (List.mem_of_getElem? (i := 9) rfl)) (hw _ (List.mem_of_getElem? (i := 4) rfl)) (by decide) (by decide)) (g := (mkF m 166 #[.val (.long q0), .second, .val (.int p1), .val (.long q2), .second, .val (.int p3), .val (.int p4), .val (.long a), .second, .val (.int x), .val (.long b), .second, .val (.int y), .val (.long (own_pack a x)), .second, .val (.long (own_pack b y)), .second, .val (.int (0 : Int32)), .val (.int (0 : Int32)), .val (.int (1 : Int32)), .unset, .unset] [(.long (own_pack a x))])) rfl (by rw [hml]; rfl) (argsL := [(.long (own_pack a x))]) (rest := []) (lenOf pd_1 rfl) rfl (by show 2 * 0 + _ ≤ _; exact Nat.le_of_eq rfl) (hb hby at_166) (fun _ _ => ⟨rfl, e15q, (by decide : 0 + 0 ≤ _), (by decide : 0 + 0 ≤ _)⟩)
          dsimp only [Pt.U, Pt.locs, Pt.cells, Pt.slots] at X35 l35 y35 z35 st35 hQ35
          subst l35 y35 z35
          obtain ⟨rfl, N35q, e35q⟩ := hQ35
          have N35 := Fr.app N15 N35q
          obtain ⟨_, _, ⟨T36, L36, k36, n36⟩, -, X36, ⟨Lc36, hQ36, l36, y36, z36⟩, st36⟩ := Jvm.LawKit.callS X35 hx (y := (⟨"com/example/sarasvati/sarasvati/dedup/IndexRun", "indexOf", "(J)I"⟩ : MethodName)) hown (mvT hZ (hw _ (List.mem_of_getElem? (i := 10) rfl))) (mvT hZ (hw _ (List.mem_of_getElem? (i := 11) rfl))) (mvT hZ (hw _ (List.mem_of_getElem? (i := 4) rfl))) (mvT hZ (hw _ (List.mem_of_getElem? (i := 12) rfl))) (by decide) (backOf (W := 0) (rm3 l Z a0 hw [] (own_pack a x) h0 n0 Z0 ) hZ (hw _ (List.mem_of_getElem? (i := 12) rfl)) (hw _ (List.mem_of_getElem? (i := 4) rfl)) (by decide) (by decide)) (g := (mkF m 177 #[.val (.long q0), .second, .val (.int p1), .val (.long q2), .second, .val (.int p3), .val (.int p4), .val (.long a), .second, .val (.int x), .val (.long b), .second, .val (.int y), .val (.long (own_pack a x)), .second, .val (.long (own_pack b y)), .second, .val (.int (0 : Int32)), .val (.int (0 : Int32)), .val (.int (1 : Int32)), .unset, .unset] [(.long (own_pack a x))])) rfl (by rw [hml]; rfl) (argsL := [(.long (own_pack a x))]) (rest := []) (lenOf pd_2 rfl) rfl (by show 2 * 0 + _ ≤ _; exact Nat.le_of_eq rfl) (hb hby at_177) (fun _ _ => ⟨rfl, e35q, (by decide : 0 + 0 ≤ _), (by decide : 0 + 0 ≤ _)⟩)
          dsimp only [Pt.U, Pt.locs, Pt.cells, Pt.slots] at X36 l36 y36 z36 st36 hQ36
          subst l36 y36 z36
          obtain ⟨rfl, N36q, e36q⟩ := hQ36
          have N36 := Fr.app N35 N36q
          obtain ⟨_, _, ⟨T37, L37, k37, n37⟩, -, X37, ⟨Lc37, hQ37, l37, y37, z37⟩, st37⟩ := Jvm.LawKit.callS X36 hx (y := (⟨"com/example/sarasvati/sarasvati/dedup/IndexRun", "hashOf", "(J)J"⟩ : MethodName)) hown (mvT hZ (hw _ (List.mem_of_getElem? (i := 7) rfl))) (mvT hZ (hw _ (List.mem_of_getElem? (i := 8) rfl))) (mvT hZ (hw _ (List.mem_of_getElem? (i := 4) rfl))) (mvT hZ (hw _ (List.mem_of_getElem? (i := 9) rfl))) (by decide) (backOf (W := 0) (rm2 l Z a0 hw [] (own_pack b y) h0 n0 Z0 ) hZ (hw _ (List.mem_of_getElem? (i := 9) rfl)) (hw _ (List.mem_of_getElem? (i := 4) rfl)) (by decide) (by decide)) (g := (mkF m 194 #[.val (.long q0), .second, .val (.int p1), .val (.long q2), .second, .val (.int p3), .val (.int p4), .val (.long a), .second, .val (.int x), .val (.long b), .second, .val (.int y), .val (.long (own_pack a x)), .second, .val (.long (own_pack b y)), .second, .val (.int (0 : Int32)), .val (.int (0 : Int32)), .val (.int (1 : Int32)), .val (.int (1 : Int32)), .unset] [(.long (own_pack b y))])) rfl (by rw [hml]; rfl) (argsL := [(.long (own_pack b y))]) (rest := []) (lenOf pd_1 rfl) rfl (by show 2 * 0 + _ ≤ _; exact Nat.le_of_eq rfl) (hb hby at_194) (fun _ _ => ⟨rfl, e36q, (by decide : 0 + 0 ≤ _), (by decide : 0 + 0 ≤ _)⟩)
          dsimp only [Pt.U, Pt.locs, Pt.cells, Pt.slots] at X37 l37 y37 z37 st37 hQ37
          subst l37 y37 z37
          obtain ⟨rfl, N37q, e37q⟩ := hQ37
          have N37 := Fr.app N36 N37q
          obtain ⟨_, _, ⟨T38, L38, k38, n38⟩, -, X38, ⟨Lc38, hQ38, l38, y38, z38⟩, st38⟩ := Jvm.LawKit.callS X37 hx (y := (⟨"com/example/sarasvati/sarasvati/dedup/IndexRun", "indexOf", "(J)I"⟩ : MethodName)) hown (mvT hZ (hw _ (List.mem_of_getElem? (i := 10) rfl))) (mvT hZ (hw _ (List.mem_of_getElem? (i := 11) rfl))) (mvT hZ (hw _ (List.mem_of_getElem? (i := 4) rfl))) (mvT hZ (hw _ (List.mem_of_getElem? (i := 12) rfl))) (by decide) (backOf (W := 0) (rm3 l Z a0 hw [] (own_pack b y) h0 n0 Z0 ) hZ (hw _ (List.mem_of_getElem? (i := 12) rfl)) (hw _ (List.mem_of_getElem? (i := 4) rfl)) (by decide) (by decide)) (g := (mkF m 205 #[.val (.long q0), .second, .val (.int p1), .val (.long q2), .second, .val (.int p3), .val (.int p4), .val (.long a), .second, .val (.int x), .val (.long b), .second, .val (.int y), .val (.long (own_pack a x)), .second, .val (.long (own_pack b y)), .second, .val (.int (0 : Int32)), .val (.int (0 : Int32)), .val (.int (1 : Int32)), .val (.int (1 : Int32)), .unset] [(.long (own_pack b y))])) rfl (by rw [hml]; rfl) (argsL := [(.long (own_pack b y))]) (rest := []) (lenOf pd_2 rfl) rfl (by show 2 * 0 + _ ≤ _; exact Nat.le_of_eq rfl) (hb hby at_205) (fun _ _ => ⟨rfl, e37q, (by decide : 0 + 0 ≤ _), (by decide : 0 + 0 ≤ _)⟩)
          dsimp only [Pt.U, Pt.locs, Pt.cells, Pt.slots] at X38 l38 y38 z38 st38 hQ38
          subst l38 y38 z38
          obtain ⟨rfl, N38q, e38q⟩ := hQ38
          have N38 := Fr.app N37 N38q
          obtain ⟨fs, hr, hrun, hended, hW, hsame⟩ := X38.leave (v := some (.int (1 : Int32))) (fun h => by rw [Bd.returns] at h; cases h)
          refine ⟨_, _, pre29 _ ?_, hrun, hended, _, _, rfl, ?_, ⟨_, rfl⟩, hW, hsame.mono (by decide) (by decide)⟩
          · show Steps p.tables e below (T15.setTop (mkF m 111 #[.val (.long q0), .second, .val (.int p1), .val (.long q2), .second, .val (.int p3), .val (.int p4), .val (.long a), .second, .val (.int x), .val (.long b), .second, .val (.int y), .val (.long (own_pack a x)), .second, .val (.long (own_pack b y)), .second, .val (.int (0 : Int32)), .unset, .unset, .unset, .unset] [(.int y), (.int x)])) _
            refine XS.icmpYes X15.here hx rfl (pc0 := 111) (pc' := 118) rfl (hb hby at_111) rfl (feq hc111).2 (by decide) (by decide) ?_
            show Steps p.tables e below (T15.setTop (mkF m 118 #[.val (.long q0), .second, .val (.int p1), .val (.long q2), .second, .val (.int p3), .val (.int p4), .val (.long a), .second, .val (.int x), .val (.long b), .second, .val (.int y), .val (.long (own_pack a x)), .second, .val (.long (own_pack b y)), .second, .val (.int (0 : Int32)), .unset, .unset, .unset, .unset] [])) _
            refine XS.iconst X15.here hx rfl (hb hby at_118) ?_
            show Steps p.tables e below (T15.setTop (mkF m 119 #[.val (.long q0), .second, .val (.int p1), .val (.long q2), .second, .val (.int p3), .val (.int p4), .val (.long a), .second, .val (.int x), .val (.long b), .second, .val (.int y), .val (.long (own_pack a x)), .second, .val (.long (own_pack b y)), .second, .val (.int (0 : Int32)), .unset, .unset, .unset, .unset] [(.int (0 : Int32))])) _
            refine XS.istore X15.here hx rfl (hb hby at_119) rfl (l' := #[.val (.long q0), .second, .val (.int p1), .val (.long q2), .second, .val (.int p3), .val (.int p4), .val (.long a), .second, .val (.int x), .val (.long b), .second, .val (.int y), .val (.long (own_pack a x)), .second, .val (.long (own_pack b y)), .second, .val (.int (0 : Int32)), .val (.int (0 : Int32)), .unset, .unset, .unset]) rfl ?_
            show Steps p.tables e below (T15.setTop (mkF m 121 #[.val (.long q0), .second, .val (.int p1), .val (.long q2), .second, .val (.int p3), .val (.int p4), .val (.long a), .second, .val (.int x), .val (.long b), .second, .val (.int y), .val (.long (own_pack a x)), .second, .val (.long (own_pack b y)), .second, .val (.int (0 : Int32)), .val (.int (0 : Int32)), .unset, .unset, .unset] [])) _
            refine XS.lload X15.here hx rfl (hb hby at_121) rfl ?_
            show Steps p.tables e below (T15.setTop (mkF m 123 #[.val (.long q0), .second, .val (.int p1), .val (.long q2), .second, .val (.int p3), .val (.int p4), .val (.long a), .second, .val (.int x), .val (.long b), .second, .val (.int y), .val (.long (own_pack a x)), .second, .val (.long (own_pack b y)), .second, .val (.int (0 : Int32)), .val (.int (0 : Int32)), .unset, .unset, .unset] [(.long (own_pack a x))])) _
            refine XS.lload X15.here hx rfl (hb hby at_123) rfl ?_
            show Steps p.tables e below (T15.setTop (mkF m 125 #[.val (.long q0), .second, .val (.int p1), .val (.long q2), .second, .val (.int p3), .val (.int p4), .val (.long a), .second, .val (.int x), .val (.long b), .second, .val (.int y), .val (.long (own_pack a x)), .second, .val (.long (own_pack b y)), .second, .val (.int (0 : Int32)), .val (.int (0 : Int32)), .unset, .unset, .unset] [(.long (own_pack b y)), (.long (own_pack a x))])) _
            refine XS.lcmp X15.here hx rfl (hb hby at_125) rfl ?_
            show Steps p.tables e below (T15.setTop (mkF m 126 #[.val (.long q0), .second, .val (.int p1), .val (.long q2), .second, .val (.int p3), .val (.int p4), .val (.long a), .second, .val (.int x), .val (.long b), .second, .val (.int y), .val (.long (own_pack a x)), .second, .val (.long (own_pack b y)), .second, .val (.int (0 : Int32)), .val (.int (0 : Int32)), .unset, .unset, .unset] [(.int (lcmpW (own_pack a x) (own_pack b y)))])) _
            refine XS.ifYes X15.here hx rfl (pc0 := 126) (pc' := 133) rfl (hb hby at_126) rfl ((if0 _ _).trans (flt ((not_congr (lw_lt _ _)).mpr (fun z => (fun q => q.elim hc74 (fun r => hc89 r.2)) ((own_plt a b x y hm1 hm7 hm4 hm11).mp z)))).2.1) (by decide) (by decide) ?_
            show Steps p.tables e below (T15.setTop (mkF m 133 #[.val (.long q0), .second, .val (.int p1), .val (.long q2), .second, .val (.int p3), .val (.int p4), .val (.long a), .second, .val (.int x), .val (.long b), .second, .val (.int y), .val (.long (own_pack a x)), .second, .val (.long (own_pack b y)), .second, .val (.int (0 : Int32)), .val (.int (0 : Int32)), .unset, .unset, .unset] [])) _
            refine XS.iconst X15.here hx rfl (hb hby at_133) ?_
            show Steps p.tables e below (T15.setTop (mkF m 134 #[.val (.long q0), .second, .val (.int p1), .val (.long q2), .second, .val (.int p3), .val (.int p4), .val (.long a), .second, .val (.int x), .val (.long b), .second, .val (.int y), .val (.long (own_pack a x)), .second, .val (.long (own_pack b y)), .second, .val (.int (0 : Int32)), .val (.int (0 : Int32)), .unset, .unset, .unset] [(.int (0 : Int32))])) _
            refine XS.iload X15.here hx rfl (hb hby at_134) rfl ?_
            show Steps p.tables e below (T15.setTop (mkF m 136 #[.val (.long q0), .second, .val (.int p1), .val (.long q2), .second, .val (.int p3), .val (.int p4), .val (.long a), .second, .val (.int x), .val (.long b), .second, .val (.int y), .val (.long (own_pack a x)), .second, .val (.long (own_pack b y)), .second, .val (.int (0 : Int32)), .val (.int (0 : Int32)), .unset, .unset, .unset] [(.int (0 : Int32)), (.int (0 : Int32))])) _
            refine XS.icmpNo X15.here hx rfl (hb hby at_136) rfl (teq (by decide : (0 : Int32) = (0 : Int32))).2 ?_
            show Steps p.tables e below (T15.setTop (mkF m 139 #[.val (.long q0), .second, .val (.int p1), .val (.long q2), .second, .val (.int p3), .val (.int p4), .val (.long a), .second, .val (.int x), .val (.long b), .second, .val (.int y), .val (.long (own_pack a x)), .second, .val (.long (own_pack b y)), .second, .val (.int (0 : Int32)), .val (.int (0 : Int32)), .unset, .unset, .unset] [])) _
            refine XS.lload X15.here hx rfl (hb hby at_139) rfl ?_
            show Steps p.tables e below (T15.setTop (mkF m 141 #[.val (.long q0), .second, .val (.int p1), .val (.long q2), .second, .val (.int p3), .val (.int p4), .val (.long a), .second, .val (.int x), .val (.long b), .second, .val (.int y), .val (.long (own_pack a x)), .second, .val (.long (own_pack b y)), .second, .val (.int (0 : Int32)), .val (.int (0 : Int32)), .unset, .unset, .unset] [(.long (own_pack a x))])) _
            refine XS.lload X15.here hx rfl (hb hby at_141) rfl ?_
            show Steps p.tables e below (T15.setTop (mkF m 143 #[.val (.long q0), .second, .val (.int p1), .val (.long q2), .second, .val (.int p3), .val (.int p4), .val (.long a), .second, .val (.int x), .val (.long b), .second, .val (.int y), .val (.long (own_pack a x)), .second, .val (.long (own_pack b y)), .second, .val (.int (0 : Int32)), .val (.int (0 : Int32)), .unset, .unset, .unset] [(.long (own_pack b y)), (.long (own_pack a x))])) _
            refine XS.lcmp X15.here hx rfl (hb hby at_143) rfl ?_
            show Steps p.tables e below (T15.setTop (mkF m 144 #[.val (.long q0), .second, .val (.int p1), .val (.long q2), .second, .val (.int p3), .val (.int p4), .val (.long a), .second, .val (.int x), .val (.long b), .second, .val (.int y), .val (.long (own_pack a x)), .second, .val (.long (own_pack b y)), .second, .val (.int (0 : Int32)), .val (.int (0 : Int32)), .unset, .unset, .unset] [(.int (lcmpW (own_pack a x) (own_pack b y)))])) _
            refine XS.ifYes X15.here hx rfl (pc0 := 144) (pc' := 151) rfl (hb hby at_144) rfl ((if0 _ _).trans (feq ((not_congr (lw_eq _ _)).mpr (fun z => (fun q => hc111 q.2) ((own_peq a b x y hm1 hm7 hm4 hm11).mp z)))).2) (by decide) (by decide) ?_
            show Steps p.tables e below (T15.setTop (mkF m 151 #[.val (.long q0), .second, .val (.int p1), .val (.long q2), .second, .val (.int p3), .val (.int p4), .val (.long a), .second, .val (.int x), .val (.long b), .second, .val (.int y), .val (.long (own_pack a x)), .second, .val (.long (own_pack b y)), .second, .val (.int (0 : Int32)), .val (.int (0 : Int32)), .unset, .unset, .unset] [])) _
            refine XS.iconst X15.here hx rfl (hb hby at_151) ?_
            show Steps p.tables e below (T15.setTop (mkF m 152 #[.val (.long q0), .second, .val (.int p1), .val (.long q2), .second, .val (.int p3), .val (.int p4), .val (.long a), .second, .val (.int x), .val (.long b), .second, .val (.int y), .val (.long (own_pack a x)), .second, .val (.long (own_pack b y)), .second, .val (.int (0 : Int32)), .val (.int (0 : Int32)), .unset, .unset, .unset] [(.int (0 : Int32))])) _
            refine XS.iload X15.here hx rfl (hb hby at_152) rfl ?_
            show Steps p.tables e below (T15.setTop (mkF m 154 #[.val (.long q0), .second, .val (.int p1), .val (.long q2), .second, .val (.int p3), .val (.int p4), .val (.long a), .second, .val (.int x), .val (.long b), .second, .val (.int y), .val (.long (own_pack a x)), .second, .val (.long (own_pack b y)), .second, .val (.int (0 : Int32)), .val (.int (0 : Int32)), .unset, .unset, .unset] [(.int (0 : Int32)), (.int (0 : Int32))])) _
            refine XS.icmpNo X15.here hx rfl (hb hby at_154) rfl (teq (by decide : (0 : Int32) = (0 : Int32))).2 ?_
            show Steps p.tables e below (T15.setTop (mkF m 157 #[.val (.long q0), .second, .val (.int p1), .val (.long q2), .second, .val (.int p3), .val (.int p4), .val (.long a), .second, .val (.int x), .val (.long b), .second, .val (.int y), .val (.long (own_pack a x)), .second, .val (.long (own_pack b y)), .second, .val (.int (0 : Int32)), .val (.int (0 : Int32)), .unset, .unset, .unset] [])) _
            refine XS.iconst X15.here hx rfl (hb hby at_157) ?_
            show Steps p.tables e below (T15.setTop (mkF m 158 #[.val (.long q0), .second, .val (.int p1), .val (.long q2), .second, .val (.int p3), .val (.int p4), .val (.long a), .second, .val (.int x), .val (.long b), .second, .val (.int y), .val (.long (own_pack a x)), .second, .val (.long (own_pack b y)), .second, .val (.int (0 : Int32)), .val (.int (0 : Int32)), .unset, .unset, .unset] [(.int (1 : Int32))])) _
            refine XS.goto X15.here hx rfl (pc0 := 158) (pc' := 162) rfl (hb hby at_158) (by decide) (by decide) ?_
            show Steps p.tables e below (T15.setTop (mkF m 162 #[.val (.long q0), .second, .val (.int p1), .val (.long q2), .second, .val (.int p3), .val (.int p4), .val (.long a), .second, .val (.int x), .val (.long b), .second, .val (.int y), .val (.long (own_pack a x)), .second, .val (.long (own_pack b y)), .second, .val (.int (0 : Int32)), .val (.int (0 : Int32)), .unset, .unset, .unset] [(.int (1 : Int32))])) _
            refine XS.istore X15.here hx rfl (hb hby at_162) rfl (l' := #[.val (.long q0), .second, .val (.int p1), .val (.long q2), .second, .val (.int p3), .val (.int p4), .val (.long a), .second, .val (.int x), .val (.long b), .second, .val (.int y), .val (.long (own_pack a x)), .second, .val (.long (own_pack b y)), .second, .val (.int (0 : Int32)), .val (.int (0 : Int32)), .val (.int (1 : Int32)), .unset, .unset]) rfl ?_
            show Steps p.tables e below (T15.setTop (mkF m 164 #[.val (.long q0), .second, .val (.int p1), .val (.long q2), .second, .val (.int p3), .val (.int p4), .val (.long a), .second, .val (.int x), .val (.long b), .second, .val (.int y), .val (.long (own_pack a x)), .second, .val (.long (own_pack b y)), .second, .val (.int (0 : Int32)), .val (.int (0 : Int32)), .val (.int (1 : Int32)), .unset, .unset] [])) _
            refine XS.lload X15.here hx rfl (hb hby at_164) rfl ?_
            show Steps p.tables e below (T15.setTop (mkF m 166 #[.val (.long q0), .second, .val (.int p1), .val (.long q2), .second, .val (.int p3), .val (.int p4), .val (.long a), .second, .val (.int x), .val (.long b), .second, .val (.int y), .val (.long (own_pack a x)), .second, .val (.long (own_pack b y)), .second, .val (.int (0 : Int32)), .val (.int (0 : Int32)), .val (.int (1 : Int32)), .unset, .unset] [(.long (own_pack a x))])) _
            refine st35 _ ?_
            show Steps p.tables e below (T35.setTop (mkF m 169 #[.val (.long q0), .second, .val (.int p1), .val (.long q2), .second, .val (.int p3), .val (.int p4), .val (.long a), .second, .val (.int x), .val (.long b), .second, .val (.int y), .val (.long (own_pack a x)), .second, .val (.long (own_pack b y)), .second, .val (.int (0 : Int32)), .val (.int (0 : Int32)), .val (.int (1 : Int32)), .unset, .unset] [(.long (own_hashOf (own_pack a x)))])) _
            refine XS.lload X35.here hx rfl (hb hby at_169) rfl ?_
            show Steps p.tables e below (T35.setTop (mkF m 171 #[.val (.long q0), .second, .val (.int p1), .val (.long q2), .second, .val (.int p3), .val (.int p4), .val (.long a), .second, .val (.int x), .val (.long b), .second, .val (.int y), .val (.long (own_pack a x)), .second, .val (.long (own_pack b y)), .second, .val (.int (0 : Int32)), .val (.int (0 : Int32)), .val (.int (1 : Int32)), .unset, .unset] [(.long a), (.long (own_hashOf (own_pack a x)))])) _
            refine XS.lcmp X35.here hx rfl (hb hby at_171) rfl ?_
            show Steps p.tables e below (T35.setTop (mkF m 172 #[.val (.long q0), .second, .val (.int p1), .val (.long q2), .second, .val (.int p3), .val (.int p4), .val (.long a), .second, .val (.int x), .val (.long b), .second, .val (.int y), .val (.long (own_pack a x)), .second, .val (.long (own_pack b y)), .second, .val (.int (0 : Int32)), .val (.int (0 : Int32)), .val (.int (1 : Int32)), .unset, .unset] [(.int (lcmpW (own_hashOf (own_pack a x)) a))])) _
            refine XS.ifNo X35.here hx rfl (hb hby at_172) rfl ((if0 _ _).trans (teq ((lw_eq _ _).mpr (own_hash a x hm1 hm4))).2) ?_
            show Steps p.tables e below (T35.setTop (mkF m 175 #[.val (.long q0), .second, .val (.int p1), .val (.long q2), .second, .val (.int p3), .val (.int p4), .val (.long a), .second, .val (.int x), .val (.long b), .second, .val (.int y), .val (.long (own_pack a x)), .second, .val (.long (own_pack b y)), .second, .val (.int (0 : Int32)), .val (.int (0 : Int32)), .val (.int (1 : Int32)), .unset, .unset] [])) _
            refine XS.lload X35.here hx rfl (hb hby at_175) rfl ?_
            show Steps p.tables e below (T35.setTop (mkF m 177 #[.val (.long q0), .second, .val (.int p1), .val (.long q2), .second, .val (.int p3), .val (.int p4), .val (.long a), .second, .val (.int x), .val (.long b), .second, .val (.int y), .val (.long (own_pack a x)), .second, .val (.long (own_pack b y)), .second, .val (.int (0 : Int32)), .val (.int (0 : Int32)), .val (.int (1 : Int32)), .unset, .unset] [(.long (own_pack a x))])) _
            refine st36 _ ?_
            show Steps p.tables e below (T36.setTop (mkF m 180 #[.val (.long q0), .second, .val (.int p1), .val (.long q2), .second, .val (.int p3), .val (.int p4), .val (.long a), .second, .val (.int x), .val (.long b), .second, .val (.int y), .val (.long (own_pack a x)), .second, .val (.long (own_pack b y)), .second, .val (.int (0 : Int32)), .val (.int (0 : Int32)), .val (.int (1 : Int32)), .unset, .unset] [(.int (own_indexOf (own_pack a x)))])) _
            refine XS.iload X36.here hx rfl (hb hby at_180) rfl ?_
            show Steps p.tables e below (T36.setTop (mkF m 182 #[.val (.long q0), .second, .val (.int p1), .val (.long q2), .second, .val (.int p3), .val (.int p4), .val (.long a), .second, .val (.int x), .val (.long b), .second, .val (.int y), .val (.long (own_pack a x)), .second, .val (.long (own_pack b y)), .second, .val (.int (0 : Int32)), .val (.int (0 : Int32)), .val (.int (1 : Int32)), .unset, .unset] [(.int x), (.int (own_indexOf (own_pack a x)))])) _
            refine XS.icmpNo X36.here hx rfl (hb hby at_182) rfl (teq (own_index a x hm1 hm4)).2 ?_
            show Steps p.tables e below (T36.setTop (mkF m 185 #[.val (.long q0), .second, .val (.int p1), .val (.long q2), .second, .val (.int p3), .val (.int p4), .val (.long a), .second, .val (.int x), .val (.long b), .second, .val (.int y), .val (.long (own_pack a x)), .second, .val (.long (own_pack b y)), .second, .val (.int (0 : Int32)), .val (.int (0 : Int32)), .val (.int (1 : Int32)), .unset, .unset] [])) _
            refine XS.iconst X36.here hx rfl (hb hby at_185) ?_
            show Steps p.tables e below (T36.setTop (mkF m 186 #[.val (.long q0), .second, .val (.int p1), .val (.long q2), .second, .val (.int p3), .val (.int p4), .val (.long a), .second, .val (.int x), .val (.long b), .second, .val (.int y), .val (.long (own_pack a x)), .second, .val (.long (own_pack b y)), .second, .val (.int (0 : Int32)), .val (.int (0 : Int32)), .val (.int (1 : Int32)), .unset, .unset] [(.int (1 : Int32))])) _
            refine XS.goto X36.here hx rfl (pc0 := 186) (pc' := 190) rfl (hb hby at_186) (by decide) (by decide) ?_
            show Steps p.tables e below (T36.setTop (mkF m 190 #[.val (.long q0), .second, .val (.int p1), .val (.long q2), .second, .val (.int p3), .val (.int p4), .val (.long a), .second, .val (.int x), .val (.long b), .second, .val (.int y), .val (.long (own_pack a x)), .second, .val (.long (own_pack b y)), .second, .val (.int (0 : Int32)), .val (.int (0 : Int32)), .val (.int (1 : Int32)), .unset, .unset] [(.int (1 : Int32))])) _
            refine XS.istore X36.here hx rfl (hb hby at_190) rfl (l' := #[.val (.long q0), .second, .val (.int p1), .val (.long q2), .second, .val (.int p3), .val (.int p4), .val (.long a), .second, .val (.int x), .val (.long b), .second, .val (.int y), .val (.long (own_pack a x)), .second, .val (.long (own_pack b y)), .second, .val (.int (0 : Int32)), .val (.int (0 : Int32)), .val (.int (1 : Int32)), .val (.int (1 : Int32)), .unset]) rfl ?_
            show Steps p.tables e below (T36.setTop (mkF m 192 #[.val (.long q0), .second, .val (.int p1), .val (.long q2), .second, .val (.int p3), .val (.int p4), .val (.long a), .second, .val (.int x), .val (.long b), .second, .val (.int y), .val (.long (own_pack a x)), .second, .val (.long (own_pack b y)), .second, .val (.int (0 : Int32)), .val (.int (0 : Int32)), .val (.int (1 : Int32)), .val (.int (1 : Int32)), .unset] [])) _
            refine XS.lload X36.here hx rfl (hb hby at_192) rfl ?_
            show Steps p.tables e below (T36.setTop (mkF m 194 #[.val (.long q0), .second, .val (.int p1), .val (.long q2), .second, .val (.int p3), .val (.int p4), .val (.long a), .second, .val (.int x), .val (.long b), .second, .val (.int y), .val (.long (own_pack a x)), .second, .val (.long (own_pack b y)), .second, .val (.int (0 : Int32)), .val (.int (0 : Int32)), .val (.int (1 : Int32)), .val (.int (1 : Int32)), .unset] [(.long (own_pack b y))])) _
            refine st37 _ ?_
            show Steps p.tables e below (T37.setTop (mkF m 197 #[.val (.long q0), .second, .val (.int p1), .val (.long q2), .second, .val (.int p3), .val (.int p4), .val (.long a), .second, .val (.int x), .val (.long b), .second, .val (.int y), .val (.long (own_pack a x)), .second, .val (.long (own_pack b y)), .second, .val (.int (0 : Int32)), .val (.int (0 : Int32)), .val (.int (1 : Int32)), .val (.int (1 : Int32)), .unset] [(.long (own_hashOf (own_pack b y)))])) _
            refine XS.lload X37.here hx rfl (hb hby at_197) rfl ?_
            show Steps p.tables e below (T37.setTop (mkF m 199 #[.val (.long q0), .second, .val (.int p1), .val (.long q2), .second, .val (.int p3), .val (.int p4), .val (.long a), .second, .val (.int x), .val (.long b), .second, .val (.int y), .val (.long (own_pack a x)), .second, .val (.long (own_pack b y)), .second, .val (.int (0 : Int32)), .val (.int (0 : Int32)), .val (.int (1 : Int32)), .val (.int (1 : Int32)), .unset] [(.long b), (.long (own_hashOf (own_pack b y)))])) _
            refine XS.lcmp X37.here hx rfl (hb hby at_199) rfl ?_
            show Steps p.tables e below (T37.setTop (mkF m 200 #[.val (.long q0), .second, .val (.int p1), .val (.long q2), .second, .val (.int p3), .val (.int p4), .val (.long a), .second, .val (.int x), .val (.long b), .second, .val (.int y), .val (.long (own_pack a x)), .second, .val (.long (own_pack b y)), .second, .val (.int (0 : Int32)), .val (.int (0 : Int32)), .val (.int (1 : Int32)), .val (.int (1 : Int32)), .unset] [(.int (lcmpW (own_hashOf (own_pack b y)) b))])) _
            refine XS.ifNo X37.here hx rfl (hb hby at_200) rfl ((if0 _ _).trans (teq ((lw_eq _ _).mpr (own_hash b y hm7 hm11))).2) ?_
            show Steps p.tables e below (T37.setTop (mkF m 203 #[.val (.long q0), .second, .val (.int p1), .val (.long q2), .second, .val (.int p3), .val (.int p4), .val (.long a), .second, .val (.int x), .val (.long b), .second, .val (.int y), .val (.long (own_pack a x)), .second, .val (.long (own_pack b y)), .second, .val (.int (0 : Int32)), .val (.int (0 : Int32)), .val (.int (1 : Int32)), .val (.int (1 : Int32)), .unset] [])) _
            refine XS.lload X37.here hx rfl (hb hby at_203) rfl ?_
            show Steps p.tables e below (T37.setTop (mkF m 205 #[.val (.long q0), .second, .val (.int p1), .val (.long q2), .second, .val (.int p3), .val (.int p4), .val (.long a), .second, .val (.int x), .val (.long b), .second, .val (.int y), .val (.long (own_pack a x)), .second, .val (.long (own_pack b y)), .second, .val (.int (0 : Int32)), .val (.int (0 : Int32)), .val (.int (1 : Int32)), .val (.int (1 : Int32)), .unset] [(.long (own_pack b y))])) _
            refine st38 _ ?_
            show Steps p.tables e below (T38.setTop (mkF m 208 #[.val (.long q0), .second, .val (.int p1), .val (.long q2), .second, .val (.int p3), .val (.int p4), .val (.long a), .second, .val (.int x), .val (.long b), .second, .val (.int y), .val (.long (own_pack a x)), .second, .val (.long (own_pack b y)), .second, .val (.int (0 : Int32)), .val (.int (0 : Int32)), .val (.int (1 : Int32)), .val (.int (1 : Int32)), .unset] [(.int (own_indexOf (own_pack b y)))])) _
            refine XS.iload X38.here hx rfl (hb hby at_208) rfl ?_
            show Steps p.tables e below (T38.setTop (mkF m 210 #[.val (.long q0), .second, .val (.int p1), .val (.long q2), .second, .val (.int p3), .val (.int p4), .val (.long a), .second, .val (.int x), .val (.long b), .second, .val (.int y), .val (.long (own_pack a x)), .second, .val (.long (own_pack b y)), .second, .val (.int (0 : Int32)), .val (.int (0 : Int32)), .val (.int (1 : Int32)), .val (.int (1 : Int32)), .unset] [(.int y), (.int (own_indexOf (own_pack b y)))])) _
            refine XS.icmpNo X38.here hx rfl (hb hby at_210) rfl (teq (own_index b y hm7 hm11)).2 ?_
            show Steps p.tables e below (T38.setTop (mkF m 213 #[.val (.long q0), .second, .val (.int p1), .val (.long q2), .second, .val (.int p3), .val (.int p4), .val (.long a), .second, .val (.int x), .val (.long b), .second, .val (.int y), .val (.long (own_pack a x)), .second, .val (.long (own_pack b y)), .second, .val (.int (0 : Int32)), .val (.int (0 : Int32)), .val (.int (1 : Int32)), .val (.int (1 : Int32)), .unset] [])) _
            refine XS.iconst X38.here hx rfl (hb hby at_213) ?_
            show Steps p.tables e below (T38.setTop (mkF m 214 #[.val (.long q0), .second, .val (.int p1), .val (.long q2), .second, .val (.int p3), .val (.int p4), .val (.long a), .second, .val (.int x), .val (.long b), .second, .val (.int y), .val (.long (own_pack a x)), .second, .val (.long (own_pack b y)), .second, .val (.int (0 : Int32)), .val (.int (0 : Int32)), .val (.int (1 : Int32)), .val (.int (1 : Int32)), .unset] [(.int (1 : Int32))])) _
            refine XS.goto X38.here hx rfl (pc0 := 214) (pc' := 218) rfl (hb hby at_214) (by decide) (by decide) ?_
            show Steps p.tables e below (T38.setTop (mkF m 218 #[.val (.long q0), .second, .val (.int p1), .val (.long q2), .second, .val (.int p3), .val (.int p4), .val (.long a), .second, .val (.int x), .val (.long b), .second, .val (.int y), .val (.long (own_pack a x)), .second, .val (.long (own_pack b y)), .second, .val (.int (0 : Int32)), .val (.int (0 : Int32)), .val (.int (1 : Int32)), .val (.int (1 : Int32)), .unset] [(.int (1 : Int32))])) _
            refine XS.istore X38.here hx rfl (hb hby at_218) rfl (l' := #[.val (.long q0), .second, .val (.int p1), .val (.long q2), .second, .val (.int p3), .val (.int p4), .val (.long a), .second, .val (.int x), .val (.long b), .second, .val (.int y), .val (.long (own_pack a x)), .second, .val (.long (own_pack b y)), .second, .val (.int (0 : Int32)), .val (.int (0 : Int32)), .val (.int (1 : Int32)), .val (.int (1 : Int32)), .val (.int (1 : Int32))]) rfl ?_
            show Steps p.tables e below (T38.setTop (mkF m 220 #[.val (.long q0), .second, .val (.int p1), .val (.long q2), .second, .val (.int p3), .val (.int p4), .val (.long a), .second, .val (.int x), .val (.long b), .second, .val (.int y), .val (.long (own_pack a x)), .second, .val (.long (own_pack b y)), .second, .val (.int (0 : Int32)), .val (.int (0 : Int32)), .val (.int (1 : Int32)), .val (.int (1 : Int32)), .val (.int (1 : Int32))] [])) _
            refine XS.iload X38.here hx rfl (hb hby at_220) rfl ?_
            show Steps p.tables e below (T38.setTop (mkF m 222 #[.val (.long q0), .second, .val (.int p1), .val (.long q2), .second, .val (.int p3), .val (.int p4), .val (.long a), .second, .val (.int x), .val (.long b), .second, .val (.int y), .val (.long (own_pack a x)), .second, .val (.long (own_pack b y)), .second, .val (.int (0 : Int32)), .val (.int (0 : Int32)), .val (.int (1 : Int32)), .val (.int (1 : Int32)), .val (.int (1 : Int32))] [(.int (1 : Int32))])) _
            refine XS.ifNo X38.here hx rfl (hb hby at_222) rfl ((if0 _ _).trans (feq (by decide : ¬ ((1 : Int32) = (0 : Int32)))).1) ?_
            show Steps p.tables e below (T38.setTop (mkF m 225 #[.val (.long q0), .second, .val (.int p1), .val (.long q2), .second, .val (.int p3), .val (.int p4), .val (.long a), .second, .val (.int x), .val (.long b), .second, .val (.int y), .val (.long (own_pack a x)), .second, .val (.long (own_pack b y)), .second, .val (.int (0 : Int32)), .val (.int (0 : Int32)), .val (.int (1 : Int32)), .val (.int (1 : Int32)), .val (.int (1 : Int32))] [])) _
            refine XS.iload X38.here hx rfl (hb hby at_225) rfl ?_
            show Steps p.tables e below (T38.setTop (mkF m 227 #[.val (.long q0), .second, .val (.int p1), .val (.long q2), .second, .val (.int p3), .val (.int p4), .val (.long a), .second, .val (.int x), .val (.long b), .second, .val (.int y), .val (.long (own_pack a x)), .second, .val (.long (own_pack b y)), .second, .val (.int (0 : Int32)), .val (.int (0 : Int32)), .val (.int (1 : Int32)), .val (.int (1 : Int32)), .val (.int (1 : Int32))] [(.int (1 : Int32))])) _
            refine XS.ifNo X38.here hx rfl (hb hby at_227) rfl ((if0 _ _).trans (feq (by decide : ¬ ((1 : Int32) = (0 : Int32)))).1) ?_
            show Steps p.tables e below (T38.setTop (mkF m 230 #[.val (.long q0), .second, .val (.int p1), .val (.long q2), .second, .val (.int p3), .val (.int p4), .val (.long a), .second, .val (.int x), .val (.long b), .second, .val (.int y), .val (.long (own_pack a x)), .second, .val (.long (own_pack b y)), .second, .val (.int (0 : Int32)), .val (.int (0 : Int32)), .val (.int (1 : Int32)), .val (.int (1 : Int32)), .val (.int (1 : Int32))] [])) _
            refine XS.iload X38.here hx rfl (hb hby at_230) rfl ?_
            show Steps p.tables e below (T38.setTop (mkF m 232 #[.val (.long q0), .second, .val (.int p1), .val (.long q2), .second, .val (.int p3), .val (.int p4), .val (.long a), .second, .val (.int x), .val (.long b), .second, .val (.int y), .val (.long (own_pack a x)), .second, .val (.long (own_pack b y)), .second, .val (.int (0 : Int32)), .val (.int (0 : Int32)), .val (.int (1 : Int32)), .val (.int (1 : Int32)), .val (.int (1 : Int32))] [(.int (1 : Int32))])) _
            refine XS.ifNo X38.here hx rfl (hb hby at_232) rfl ((if0 _ _).trans (feq (by decide : ¬ ((1 : Int32) = (0 : Int32)))).1) ?_
            show Steps p.tables e below (T38.setTop (mkF m 235 #[.val (.long q0), .second, .val (.int p1), .val (.long q2), .second, .val (.int p3), .val (.int p4), .val (.long a), .second, .val (.int x), .val (.long b), .second, .val (.int y), .val (.long (own_pack a x)), .second, .val (.long (own_pack b y)), .second, .val (.int (0 : Int32)), .val (.int (0 : Int32)), .val (.int (1 : Int32)), .val (.int (1 : Int32)), .val (.int (1 : Int32))] [])) _
            refine XS.iconst X38.here hx rfl (hb hby at_235) ?_
            show Steps p.tables e below (T38.setTop (mkF m 236 #[.val (.long q0), .second, .val (.int p1), .val (.long q2), .second, .val (.int p3), .val (.int p4), .val (.long a), .second, .val (.int x), .val (.long b), .second, .val (.int y), .val (.long (own_pack a x)), .second, .val (.long (own_pack b y)), .second, .val (.int (0 : Int32)), .val (.int (0 : Int32)), .val (.int (1 : Int32)), .val (.int (1 : Int32)), .val (.int (1 : Int32))] [(.int (1 : Int32))])) _
            refine XS.goto X38.here hx rfl (pc0 := 236) (pc' := 240) rfl (hb hby at_236) (by decide) (by decide) ?_
            show Steps p.tables e below (T38.setTop (mkF m 240 #[.val (.long q0), .second, .val (.int p1), .val (.long q2), .second, .val (.int p3), .val (.int p4), .val (.long a), .second, .val (.int x), .val (.long b), .second, .val (.int y), .val (.long (own_pack a x)), .second, .val (.long (own_pack b y)), .second, .val (.int (0 : Int32)), .val (.int (0 : Int32)), .val (.int (1 : Int32)), .val (.int (1 : Int32)), .val (.int (1 : Int32))] [(.int (1 : Int32))])) _
            exact retN X38 hx (t := .boolean) Bd.returns (by simp) (hb hby at_240) hr
          · show Q0 Z q0 p1 q2 p3 p4 h0 n0 _ T38.heap _
            rw [e38q]
            exact ⟨rfl, N38⟩
    · -- not a = b
      obtain ⟨_, _, ⟨T40, L40, k40, n40⟩, -, X40, ⟨Lc40, hQ40, l40, y40, z40⟩, st40⟩ := Jvm.LawKit.callS X15 hx (y := (⟨"com/example/sarasvati/sarasvati/dedup/IndexRun", "hashOf", "(J)J"⟩ : MethodName)) hown (mvT hZ (hw _ (List.mem_of_getElem? (i := 7) rfl))) (mvT hZ (hw _ (List.mem_of_getElem? (i := 8) rfl))) (mvT hZ (hw _ (List.mem_of_getElem? (i := 4) rfl))) (mvT hZ (hw _ (List.mem_of_getElem? (i := 9) rfl))) (by decide) (backOf (W := 0) (rm2 l Z a0 hw [] (own_pack a x) h0 n0 Z0 ) hZ (hw _ (List.mem_of_getElem? (i := 9) rfl)) (hw _ (List.mem_of_getElem? (i := 4) rfl)) (by decide) (by decide)) (g := (mkF m 166 #[.val (.long q0), .second, .val (.int p1), .val (.long q2), .second, .val (.int p3), .val (.int p4), .val (.long a), .second, .val (.int x), .val (.long b), .second, .val (.int y), .val (.long (own_pack a x)), .second, .val (.long (own_pack b y)), .second, .val (.int (0 : Int32)), .val (.int (0 : Int32)), .val (.int (1 : Int32)), .unset, .unset] [(.long (own_pack a x))])) rfl (by rw [hml]; rfl) (argsL := [(.long (own_pack a x))]) (rest := []) (lenOf pd_1 rfl) rfl (by show 2 * 0 + _ ≤ _; exact Nat.le_of_eq rfl) (hb hby at_166) (fun _ _ => ⟨rfl, e15q, (by decide : 0 + 0 ≤ _), (by decide : 0 + 0 ≤ _)⟩)
      dsimp only [Pt.U, Pt.locs, Pt.cells, Pt.slots] at X40 l40 y40 z40 st40 hQ40
      subst l40 y40 z40
      obtain ⟨rfl, N40q, e40q⟩ := hQ40
      have N40 := Fr.app N15 N40q
      obtain ⟨_, _, ⟨T41, L41, k41, n41⟩, -, X41, ⟨Lc41, hQ41, l41, y41, z41⟩, st41⟩ := Jvm.LawKit.callS X40 hx (y := (⟨"com/example/sarasvati/sarasvati/dedup/IndexRun", "indexOf", "(J)I"⟩ : MethodName)) hown (mvT hZ (hw _ (List.mem_of_getElem? (i := 10) rfl))) (mvT hZ (hw _ (List.mem_of_getElem? (i := 11) rfl))) (mvT hZ (hw _ (List.mem_of_getElem? (i := 4) rfl))) (mvT hZ (hw _ (List.mem_of_getElem? (i := 12) rfl))) (by decide) (backOf (W := 0) (rm3 l Z a0 hw [] (own_pack a x) h0 n0 Z0 ) hZ (hw _ (List.mem_of_getElem? (i := 12) rfl)) (hw _ (List.mem_of_getElem? (i := 4) rfl)) (by decide) (by decide)) (g := (mkF m 177 #[.val (.long q0), .second, .val (.int p1), .val (.long q2), .second, .val (.int p3), .val (.int p4), .val (.long a), .second, .val (.int x), .val (.long b), .second, .val (.int y), .val (.long (own_pack a x)), .second, .val (.long (own_pack b y)), .second, .val (.int (0 : Int32)), .val (.int (0 : Int32)), .val (.int (1 : Int32)), .unset, .unset] [(.long (own_pack a x))])) rfl (by rw [hml]; rfl) (argsL := [(.long (own_pack a x))]) (rest := []) (lenOf pd_2 rfl) rfl (by show 2 * 0 + _ ≤ _; exact Nat.le_of_eq rfl) (hb hby at_177) (fun _ _ => ⟨rfl, e40q, (by decide : 0 + 0 ≤ _), (by decide : 0 + 0 ≤ _)⟩)
      dsimp only [Pt.U, Pt.locs, Pt.cells, Pt.slots] at X41 l41 y41 z41 st41 hQ41
      subst l41 y41 z41
      obtain ⟨rfl, N41q, e41q⟩ := hQ41
      have N41 := Fr.app N40 N41q
      obtain ⟨_, _, ⟨T42, L42, k42, n42⟩, -, X42, ⟨Lc42, hQ42, l42, y42, z42⟩, st42⟩ := Jvm.LawKit.callS X41 hx (y := (⟨"com/example/sarasvati/sarasvati/dedup/IndexRun", "hashOf", "(J)J"⟩ : MethodName)) hown (mvT hZ (hw _ (List.mem_of_getElem? (i := 7) rfl))) (mvT hZ (hw _ (List.mem_of_getElem? (i := 8) rfl))) (mvT hZ (hw _ (List.mem_of_getElem? (i := 4) rfl))) (mvT hZ (hw _ (List.mem_of_getElem? (i := 9) rfl))) (by decide) (backOf (W := 0) (rm2 l Z a0 hw [] (own_pack b y) h0 n0 Z0 ) hZ (hw _ (List.mem_of_getElem? (i := 9) rfl)) (hw _ (List.mem_of_getElem? (i := 4) rfl)) (by decide) (by decide)) (g := (mkF m 194 #[.val (.long q0), .second, .val (.int p1), .val (.long q2), .second, .val (.int p3), .val (.int p4), .val (.long a), .second, .val (.int x), .val (.long b), .second, .val (.int y), .val (.long (own_pack a x)), .second, .val (.long (own_pack b y)), .second, .val (.int (0 : Int32)), .val (.int (0 : Int32)), .val (.int (1 : Int32)), .val (.int (1 : Int32)), .unset] [(.long (own_pack b y))])) rfl (by rw [hml]; rfl) (argsL := [(.long (own_pack b y))]) (rest := []) (lenOf pd_1 rfl) rfl (by show 2 * 0 + _ ≤ _; exact Nat.le_of_eq rfl) (hb hby at_194) (fun _ _ => ⟨rfl, e41q, (by decide : 0 + 0 ≤ _), (by decide : 0 + 0 ≤ _)⟩)
      dsimp only [Pt.U, Pt.locs, Pt.cells, Pt.slots] at X42 l42 y42 z42 st42 hQ42
      subst l42 y42 z42
      obtain ⟨rfl, N42q, e42q⟩ := hQ42
      have N42 := Fr.app N41 N42q
      obtain ⟨_, _, ⟨T43, L43, k43, n43⟩, -, X43, ⟨Lc43, hQ43, l43, y43, z43⟩, st43⟩ := Jvm.LawKit.callS X42 hx (y := (⟨"com/example/sarasvati/sarasvati/dedup/IndexRun", "indexOf", "(J)I"⟩ : MethodName)) hown (mvT hZ (hw _ (List.mem_of_getElem? (i := 10) rfl))) (mvT hZ (hw _ (List.mem_of_getElem? (i := 11) rfl))) (mvT hZ (hw _ (List.mem_of_getElem? (i := 4) rfl))) (mvT hZ (hw _ (List.mem_of_getElem? (i := 12) rfl))) (by decide) (backOf (W := 0) (rm3 l Z a0 hw [] (own_pack b y) h0 n0 Z0 ) hZ (hw _ (List.mem_of_getElem? (i := 12) rfl)) (hw _ (List.mem_of_getElem? (i := 4) rfl)) (by decide) (by decide)) (g := (mkF m 205 #[.val (.long q0), .second, .val (.int p1), .val (.long q2), .second, .val (.int p3), .val (.int p4), .val (.long a), .second, .val (.int x), .val (.long b), .second, .val (.int y), .val (.long (own_pack a x)), .second, .val (.long (own_pack b y)), .second, .val (.int (0 : Int32)), .val (.int (0 : Int32)), .val (.int (1 : Int32)), .val (.int (1 : Int32)), .unset] [(.long (own_pack b y))])) rfl (by rw [hml]; rfl) (argsL := [(.long (own_pack b y))]) (rest := []) (lenOf pd_2 rfl) rfl (by show 2 * 0 + _ ≤ _; exact Nat.le_of_eq rfl) (hb hby at_205) (fun _ _ => ⟨rfl, e42q, (by decide : 0 + 0 ≤ _), (by decide : 0 + 0 ≤ _)⟩)
      dsimp only [Pt.U, Pt.locs, Pt.cells, Pt.slots] at X43 l43 y43 z43 st43 hQ43
      subst l43 y43 z43
      obtain ⟨rfl, N43q, e43q⟩ := hQ43
      have N43 := Fr.app N42 N43q
      obtain ⟨fs, hr, hrun, hended, hW, hsame⟩ := X43.leave (v := some (.int (1 : Int32))) (fun h => by rw [Bd.returns] at h; cases h)
      refine ⟨_, _, pre22 _ ?_, hrun, hended, _, _, rfl, ?_, ⟨_, rfl⟩, hW, hsame.mono (by decide) (by decide)⟩
      · show Steps p.tables e below (T15.setTop (mkF m 82 #[.val (.long q0), .second, .val (.int p1), .val (.long q2), .second, .val (.int p3), .val (.int p4), .val (.long a), .second, .val (.int x), .val (.long b), .second, .val (.int y), .val (.long (own_pack a x)), .second, .val (.long (own_pack b y)), .second, .unset, .unset, .unset, .unset, .unset] [(.int (lcmpW a b))])) _
        refine XS.ifYes X15.here hx rfl (pc0 := 82) (pc' := 96) rfl (hb hby at_82) rfl ((if0 _ _).trans (feq ((not_congr (lw_eq _ _)).mpr hc82)).2) (by decide) (by decide) ?_
        show Steps p.tables e below (T15.setTop (mkF m 96 #[.val (.long q0), .second, .val (.int p1), .val (.long q2), .second, .val (.int p3), .val (.int p4), .val (.long a), .second, .val (.int x), .val (.long b), .second, .val (.int y), .val (.long (own_pack a x)), .second, .val (.long (own_pack b y)), .second, .unset, .unset, .unset, .unset, .unset] [])) _
        refine XS.iconst X15.here hx rfl (hb hby at_96) ?_
        show Steps p.tables e below (T15.setTop (mkF m 97 #[.val (.long q0), .second, .val (.int p1), .val (.long q2), .second, .val (.int p3), .val (.int p4), .val (.long a), .second, .val (.int x), .val (.long b), .second, .val (.int y), .val (.long (own_pack a x)), .second, .val (.long (own_pack b y)), .second, .unset, .unset, .unset, .unset, .unset] [(.int (0 : Int32))])) _
        refine XS.istore X15.here hx rfl (hb hby at_97) rfl (l' := #[.val (.long q0), .second, .val (.int p1), .val (.long q2), .second, .val (.int p3), .val (.int p4), .val (.long a), .second, .val (.int x), .val (.long b), .second, .val (.int y), .val (.long (own_pack a x)), .second, .val (.long (own_pack b y)), .second, .val (.int (0 : Int32)), .unset, .unset, .unset, .unset]) rfl ?_
        show Steps p.tables e below (T15.setTop (mkF m 99 #[.val (.long q0), .second, .val (.int p1), .val (.long q2), .second, .val (.int p3), .val (.int p4), .val (.long a), .second, .val (.int x), .val (.long b), .second, .val (.int y), .val (.long (own_pack a x)), .second, .val (.long (own_pack b y)), .second, .val (.int (0 : Int32)), .unset, .unset, .unset, .unset] [])) _
        refine XS.lload X15.here hx rfl (hb hby at_99) rfl ?_
        show Steps p.tables e below (T15.setTop (mkF m 101 #[.val (.long q0), .second, .val (.int p1), .val (.long q2), .second, .val (.int p3), .val (.int p4), .val (.long a), .second, .val (.int x), .val (.long b), .second, .val (.int y), .val (.long (own_pack a x)), .second, .val (.long (own_pack b y)), .second, .val (.int (0 : Int32)), .unset, .unset, .unset, .unset] [(.long a)])) _
        refine XS.lload X15.here hx rfl (hb hby at_101) rfl ?_
        show Steps p.tables e below (T15.setTop (mkF m 103 #[.val (.long q0), .second, .val (.int p1), .val (.long q2), .second, .val (.int p3), .val (.int p4), .val (.long a), .second, .val (.int x), .val (.long b), .second, .val (.int y), .val (.long (own_pack a x)), .second, .val (.long (own_pack b y)), .second, .val (.int (0 : Int32)), .unset, .unset, .unset, .unset] [(.long b), (.long a)])) _
        refine XS.lcmp X15.here hx rfl (hb hby at_103) rfl ?_
        show Steps p.tables e below (T15.setTop (mkF m 104 #[.val (.long q0), .second, .val (.int p1), .val (.long q2), .second, .val (.int p3), .val (.int p4), .val (.long a), .second, .val (.int x), .val (.long b), .second, .val (.int y), .val (.long (own_pack a x)), .second, .val (.long (own_pack b y)), .second, .val (.int (0 : Int32)), .unset, .unset, .unset, .unset] [(.int (lcmpW a b))])) _
        refine XS.ifYes X15.here hx rfl (pc0 := 104) (pc' := 118) rfl (hb hby at_104) rfl ((if0 _ _).trans (feq ((not_congr (lw_eq _ _)).mpr hc82)).2) (by decide) (by decide) ?_
        show Steps p.tables e below (T15.setTop (mkF m 118 #[.val (.long q0), .second, .val (.int p1), .val (.long q2), .second, .val (.int p3), .val (.int p4), .val (.long a), .second, .val (.int x), .val (.long b), .second, .val (.int y), .val (.long (own_pack a x)), .second, .val (.long (own_pack b y)), .second, .val (.int (0 : Int32)), .unset, .unset, .unset, .unset] [])) _
        refine XS.iconst X15.here hx rfl (hb hby at_118) ?_
        show Steps p.tables e below (T15.setTop (mkF m 119 #[.val (.long q0), .second, .val (.int p1), .val (.long q2), .second, .val (.int p3), .val (.int p4), .val (.long a), .second, .val (.int x), .val (.long b), .second, .val (.int y), .val (.long (own_pack a x)), .second, .val (.long (own_pack b y)), .second, .val (.int (0 : Int32)), .unset, .unset, .unset, .unset] [(.int (0 : Int32))])) _
        refine XS.istore X15.here hx rfl (hb hby at_119) rfl (l' := #[.val (.long q0), .second, .val (.int p1), .val (.long q2), .second, .val (.int p3), .val (.int p4), .val (.long a), .second, .val (.int x), .val (.long b), .second, .val (.int y), .val (.long (own_pack a x)), .second, .val (.long (own_pack b y)), .second, .val (.int (0 : Int32)), .val (.int (0 : Int32)), .unset, .unset, .unset]) rfl ?_
        show Steps p.tables e below (T15.setTop (mkF m 121 #[.val (.long q0), .second, .val (.int p1), .val (.long q2), .second, .val (.int p3), .val (.int p4), .val (.long a), .second, .val (.int x), .val (.long b), .second, .val (.int y), .val (.long (own_pack a x)), .second, .val (.long (own_pack b y)), .second, .val (.int (0 : Int32)), .val (.int (0 : Int32)), .unset, .unset, .unset] [])) _
        refine XS.lload X15.here hx rfl (hb hby at_121) rfl ?_
        show Steps p.tables e below (T15.setTop (mkF m 123 #[.val (.long q0), .second, .val (.int p1), .val (.long q2), .second, .val (.int p3), .val (.int p4), .val (.long a), .second, .val (.int x), .val (.long b), .second, .val (.int y), .val (.long (own_pack a x)), .second, .val (.long (own_pack b y)), .second, .val (.int (0 : Int32)), .val (.int (0 : Int32)), .unset, .unset, .unset] [(.long (own_pack a x))])) _
        refine XS.lload X15.here hx rfl (hb hby at_123) rfl ?_
        show Steps p.tables e below (T15.setTop (mkF m 125 #[.val (.long q0), .second, .val (.int p1), .val (.long q2), .second, .val (.int p3), .val (.int p4), .val (.long a), .second, .val (.int x), .val (.long b), .second, .val (.int y), .val (.long (own_pack a x)), .second, .val (.long (own_pack b y)), .second, .val (.int (0 : Int32)), .val (.int (0 : Int32)), .unset, .unset, .unset] [(.long (own_pack b y)), (.long (own_pack a x))])) _
        refine XS.lcmp X15.here hx rfl (hb hby at_125) rfl ?_
        show Steps p.tables e below (T15.setTop (mkF m 126 #[.val (.long q0), .second, .val (.int p1), .val (.long q2), .second, .val (.int p3), .val (.int p4), .val (.long a), .second, .val (.int x), .val (.long b), .second, .val (.int y), .val (.long (own_pack a x)), .second, .val (.long (own_pack b y)), .second, .val (.int (0 : Int32)), .val (.int (0 : Int32)), .unset, .unset, .unset] [(.int (lcmpW (own_pack a x) (own_pack b y)))])) _
        refine XS.ifYes X15.here hx rfl (pc0 := 126) (pc' := 133) rfl (hb hby at_126) rfl ((if0 _ _).trans (flt ((not_congr (lw_lt _ _)).mpr (fun z => (fun q => q.elim hc74 (fun r => hc82 r.1)) ((own_plt a b x y hm1 hm7 hm4 hm11).mp z)))).2.1) (by decide) (by decide) ?_
        show Steps p.tables e below (T15.setTop (mkF m 133 #[.val (.long q0), .second, .val (.int p1), .val (.long q2), .second, .val (.int p3), .val (.int p4), .val (.long a), .second, .val (.int x), .val (.long b), .second, .val (.int y), .val (.long (own_pack a x)), .second, .val (.long (own_pack b y)), .second, .val (.int (0 : Int32)), .val (.int (0 : Int32)), .unset, .unset, .unset] [])) _
        refine XS.iconst X15.here hx rfl (hb hby at_133) ?_
        show Steps p.tables e below (T15.setTop (mkF m 134 #[.val (.long q0), .second, .val (.int p1), .val (.long q2), .second, .val (.int p3), .val (.int p4), .val (.long a), .second, .val (.int x), .val (.long b), .second, .val (.int y), .val (.long (own_pack a x)), .second, .val (.long (own_pack b y)), .second, .val (.int (0 : Int32)), .val (.int (0 : Int32)), .unset, .unset, .unset] [(.int (0 : Int32))])) _
        refine XS.iload X15.here hx rfl (hb hby at_134) rfl ?_
        show Steps p.tables e below (T15.setTop (mkF m 136 #[.val (.long q0), .second, .val (.int p1), .val (.long q2), .second, .val (.int p3), .val (.int p4), .val (.long a), .second, .val (.int x), .val (.long b), .second, .val (.int y), .val (.long (own_pack a x)), .second, .val (.long (own_pack b y)), .second, .val (.int (0 : Int32)), .val (.int (0 : Int32)), .unset, .unset, .unset] [(.int (0 : Int32)), (.int (0 : Int32))])) _
        refine XS.icmpNo X15.here hx rfl (hb hby at_136) rfl (teq (by decide : (0 : Int32) = (0 : Int32))).2 ?_
        show Steps p.tables e below (T15.setTop (mkF m 139 #[.val (.long q0), .second, .val (.int p1), .val (.long q2), .second, .val (.int p3), .val (.int p4), .val (.long a), .second, .val (.int x), .val (.long b), .second, .val (.int y), .val (.long (own_pack a x)), .second, .val (.long (own_pack b y)), .second, .val (.int (0 : Int32)), .val (.int (0 : Int32)), .unset, .unset, .unset] [])) _
        refine XS.lload X15.here hx rfl (hb hby at_139) rfl ?_
        show Steps p.tables e below (T15.setTop (mkF m 141 #[.val (.long q0), .second, .val (.int p1), .val (.long q2), .second, .val (.int p3), .val (.int p4), .val (.long a), .second, .val (.int x), .val (.long b), .second, .val (.int y), .val (.long (own_pack a x)), .second, .val (.long (own_pack b y)), .second, .val (.int (0 : Int32)), .val (.int (0 : Int32)), .unset, .unset, .unset] [(.long (own_pack a x))])) _
        refine XS.lload X15.here hx rfl (hb hby at_141) rfl ?_
        show Steps p.tables e below (T15.setTop (mkF m 143 #[.val (.long q0), .second, .val (.int p1), .val (.long q2), .second, .val (.int p3), .val (.int p4), .val (.long a), .second, .val (.int x), .val (.long b), .second, .val (.int y), .val (.long (own_pack a x)), .second, .val (.long (own_pack b y)), .second, .val (.int (0 : Int32)), .val (.int (0 : Int32)), .unset, .unset, .unset] [(.long (own_pack b y)), (.long (own_pack a x))])) _
        refine XS.lcmp X15.here hx rfl (hb hby at_143) rfl ?_
        show Steps p.tables e below (T15.setTop (mkF m 144 #[.val (.long q0), .second, .val (.int p1), .val (.long q2), .second, .val (.int p3), .val (.int p4), .val (.long a), .second, .val (.int x), .val (.long b), .second, .val (.int y), .val (.long (own_pack a x)), .second, .val (.long (own_pack b y)), .second, .val (.int (0 : Int32)), .val (.int (0 : Int32)), .unset, .unset, .unset] [(.int (lcmpW (own_pack a x) (own_pack b y)))])) _
        refine XS.ifYes X15.here hx rfl (pc0 := 144) (pc' := 151) rfl (hb hby at_144) rfl ((if0 _ _).trans (feq ((not_congr (lw_eq _ _)).mpr (fun z => (fun q => hc82 q.1) ((own_peq a b x y hm1 hm7 hm4 hm11).mp z)))).2) (by decide) (by decide) ?_
        show Steps p.tables e below (T15.setTop (mkF m 151 #[.val (.long q0), .second, .val (.int p1), .val (.long q2), .second, .val (.int p3), .val (.int p4), .val (.long a), .second, .val (.int x), .val (.long b), .second, .val (.int y), .val (.long (own_pack a x)), .second, .val (.long (own_pack b y)), .second, .val (.int (0 : Int32)), .val (.int (0 : Int32)), .unset, .unset, .unset] [])) _
        refine XS.iconst X15.here hx rfl (hb hby at_151) ?_
        show Steps p.tables e below (T15.setTop (mkF m 152 #[.val (.long q0), .second, .val (.int p1), .val (.long q2), .second, .val (.int p3), .val (.int p4), .val (.long a), .second, .val (.int x), .val (.long b), .second, .val (.int y), .val (.long (own_pack a x)), .second, .val (.long (own_pack b y)), .second, .val (.int (0 : Int32)), .val (.int (0 : Int32)), .unset, .unset, .unset] [(.int (0 : Int32))])) _
        refine XS.iload X15.here hx rfl (hb hby at_152) rfl ?_
        show Steps p.tables e below (T15.setTop (mkF m 154 #[.val (.long q0), .second, .val (.int p1), .val (.long q2), .second, .val (.int p3), .val (.int p4), .val (.long a), .second, .val (.int x), .val (.long b), .second, .val (.int y), .val (.long (own_pack a x)), .second, .val (.long (own_pack b y)), .second, .val (.int (0 : Int32)), .val (.int (0 : Int32)), .unset, .unset, .unset] [(.int (0 : Int32)), (.int (0 : Int32))])) _
        refine XS.icmpNo X15.here hx rfl (hb hby at_154) rfl (teq (by decide : (0 : Int32) = (0 : Int32))).2 ?_
        show Steps p.tables e below (T15.setTop (mkF m 157 #[.val (.long q0), .second, .val (.int p1), .val (.long q2), .second, .val (.int p3), .val (.int p4), .val (.long a), .second, .val (.int x), .val (.long b), .second, .val (.int y), .val (.long (own_pack a x)), .second, .val (.long (own_pack b y)), .second, .val (.int (0 : Int32)), .val (.int (0 : Int32)), .unset, .unset, .unset] [])) _
        refine XS.iconst X15.here hx rfl (hb hby at_157) ?_
        show Steps p.tables e below (T15.setTop (mkF m 158 #[.val (.long q0), .second, .val (.int p1), .val (.long q2), .second, .val (.int p3), .val (.int p4), .val (.long a), .second, .val (.int x), .val (.long b), .second, .val (.int y), .val (.long (own_pack a x)), .second, .val (.long (own_pack b y)), .second, .val (.int (0 : Int32)), .val (.int (0 : Int32)), .unset, .unset, .unset] [(.int (1 : Int32))])) _
        refine XS.goto X15.here hx rfl (pc0 := 158) (pc' := 162) rfl (hb hby at_158) (by decide) (by decide) ?_
        show Steps p.tables e below (T15.setTop (mkF m 162 #[.val (.long q0), .second, .val (.int p1), .val (.long q2), .second, .val (.int p3), .val (.int p4), .val (.long a), .second, .val (.int x), .val (.long b), .second, .val (.int y), .val (.long (own_pack a x)), .second, .val (.long (own_pack b y)), .second, .val (.int (0 : Int32)), .val (.int (0 : Int32)), .unset, .unset, .unset] [(.int (1 : Int32))])) _
        refine XS.istore X15.here hx rfl (hb hby at_162) rfl (l' := #[.val (.long q0), .second, .val (.int p1), .val (.long q2), .second, .val (.int p3), .val (.int p4), .val (.long a), .second, .val (.int x), .val (.long b), .second, .val (.int y), .val (.long (own_pack a x)), .second, .val (.long (own_pack b y)), .second, .val (.int (0 : Int32)), .val (.int (0 : Int32)), .val (.int (1 : Int32)), .unset, .unset]) rfl ?_
        show Steps p.tables e below (T15.setTop (mkF m 164 #[.val (.long q0), .second, .val (.int p1), .val (.long q2), .second, .val (.int p3), .val (.int p4), .val (.long a), .second, .val (.int x), .val (.long b), .second, .val (.int y), .val (.long (own_pack a x)), .second, .val (.long (own_pack b y)), .second, .val (.int (0 : Int32)), .val (.int (0 : Int32)), .val (.int (1 : Int32)), .unset, .unset] [])) _
        refine XS.lload X15.here hx rfl (hb hby at_164) rfl ?_
        show Steps p.tables e below (T15.setTop (mkF m 166 #[.val (.long q0), .second, .val (.int p1), .val (.long q2), .second, .val (.int p3), .val (.int p4), .val (.long a), .second, .val (.int x), .val (.long b), .second, .val (.int y), .val (.long (own_pack a x)), .second, .val (.long (own_pack b y)), .second, .val (.int (0 : Int32)), .val (.int (0 : Int32)), .val (.int (1 : Int32)), .unset, .unset] [(.long (own_pack a x))])) _
        refine st40 _ ?_
        show Steps p.tables e below (T40.setTop (mkF m 169 #[.val (.long q0), .second, .val (.int p1), .val (.long q2), .second, .val (.int p3), .val (.int p4), .val (.long a), .second, .val (.int x), .val (.long b), .second, .val (.int y), .val (.long (own_pack a x)), .second, .val (.long (own_pack b y)), .second, .val (.int (0 : Int32)), .val (.int (0 : Int32)), .val (.int (1 : Int32)), .unset, .unset] [(.long (own_hashOf (own_pack a x)))])) _
        refine XS.lload X40.here hx rfl (hb hby at_169) rfl ?_
        show Steps p.tables e below (T40.setTop (mkF m 171 #[.val (.long q0), .second, .val (.int p1), .val (.long q2), .second, .val (.int p3), .val (.int p4), .val (.long a), .second, .val (.int x), .val (.long b), .second, .val (.int y), .val (.long (own_pack a x)), .second, .val (.long (own_pack b y)), .second, .val (.int (0 : Int32)), .val (.int (0 : Int32)), .val (.int (1 : Int32)), .unset, .unset] [(.long a), (.long (own_hashOf (own_pack a x)))])) _
        refine XS.lcmp X40.here hx rfl (hb hby at_171) rfl ?_
        show Steps p.tables e below (T40.setTop (mkF m 172 #[.val (.long q0), .second, .val (.int p1), .val (.long q2), .second, .val (.int p3), .val (.int p4), .val (.long a), .second, .val (.int x), .val (.long b), .second, .val (.int y), .val (.long (own_pack a x)), .second, .val (.long (own_pack b y)), .second, .val (.int (0 : Int32)), .val (.int (0 : Int32)), .val (.int (1 : Int32)), .unset, .unset] [(.int (lcmpW (own_hashOf (own_pack a x)) a))])) _
        refine XS.ifNo X40.here hx rfl (hb hby at_172) rfl ((if0 _ _).trans (teq ((lw_eq _ _).mpr (own_hash a x hm1 hm4))).2) ?_
        show Steps p.tables e below (T40.setTop (mkF m 175 #[.val (.long q0), .second, .val (.int p1), .val (.long q2), .second, .val (.int p3), .val (.int p4), .val (.long a), .second, .val (.int x), .val (.long b), .second, .val (.int y), .val (.long (own_pack a x)), .second, .val (.long (own_pack b y)), .second, .val (.int (0 : Int32)), .val (.int (0 : Int32)), .val (.int (1 : Int32)), .unset, .unset] [])) _
        refine XS.lload X40.here hx rfl (hb hby at_175) rfl ?_
        show Steps p.tables e below (T40.setTop (mkF m 177 #[.val (.long q0), .second, .val (.int p1), .val (.long q2), .second, .val (.int p3), .val (.int p4), .val (.long a), .second, .val (.int x), .val (.long b), .second, .val (.int y), .val (.long (own_pack a x)), .second, .val (.long (own_pack b y)), .second, .val (.int (0 : Int32)), .val (.int (0 : Int32)), .val (.int (1 : Int32)), .unset, .unset] [(.long (own_pack a x))])) _
        refine st41 _ ?_
        show Steps p.tables e below (T41.setTop (mkF m 180 #[.val (.long q0), .second, .val (.int p1), .val (.long q2), .second, .val (.int p3), .val (.int p4), .val (.long a), .second, .val (.int x), .val (.long b), .second, .val (.int y), .val (.long (own_pack a x)), .second, .val (.long (own_pack b y)), .second, .val (.int (0 : Int32)), .val (.int (0 : Int32)), .val (.int (1 : Int32)), .unset, .unset] [(.int (own_indexOf (own_pack a x)))])) _
        refine XS.iload X41.here hx rfl (hb hby at_180) rfl ?_
        show Steps p.tables e below (T41.setTop (mkF m 182 #[.val (.long q0), .second, .val (.int p1), .val (.long q2), .second, .val (.int p3), .val (.int p4), .val (.long a), .second, .val (.int x), .val (.long b), .second, .val (.int y), .val (.long (own_pack a x)), .second, .val (.long (own_pack b y)), .second, .val (.int (0 : Int32)), .val (.int (0 : Int32)), .val (.int (1 : Int32)), .unset, .unset] [(.int x), (.int (own_indexOf (own_pack a x)))])) _
        refine XS.icmpNo X41.here hx rfl (hb hby at_182) rfl (teq (own_index a x hm1 hm4)).2 ?_
        show Steps p.tables e below (T41.setTop (mkF m 185 #[.val (.long q0), .second, .val (.int p1), .val (.long q2), .second, .val (.int p3), .val (.int p4), .val (.long a), .second, .val (.int x), .val (.long b), .second, .val (.int y), .val (.long (own_pack a x)), .second, .val (.long (own_pack b y)), .second, .val (.int (0 : Int32)), .val (.int (0 : Int32)), .val (.int (1 : Int32)), .unset, .unset] [])) _
        refine XS.iconst X41.here hx rfl (hb hby at_185) ?_
        show Steps p.tables e below (T41.setTop (mkF m 186 #[.val (.long q0), .second, .val (.int p1), .val (.long q2), .second, .val (.int p3), .val (.int p4), .val (.long a), .second, .val (.int x), .val (.long b), .second, .val (.int y), .val (.long (own_pack a x)), .second, .val (.long (own_pack b y)), .second, .val (.int (0 : Int32)), .val (.int (0 : Int32)), .val (.int (1 : Int32)), .unset, .unset] [(.int (1 : Int32))])) _
        refine XS.goto X41.here hx rfl (pc0 := 186) (pc' := 190) rfl (hb hby at_186) (by decide) (by decide) ?_
        show Steps p.tables e below (T41.setTop (mkF m 190 #[.val (.long q0), .second, .val (.int p1), .val (.long q2), .second, .val (.int p3), .val (.int p4), .val (.long a), .second, .val (.int x), .val (.long b), .second, .val (.int y), .val (.long (own_pack a x)), .second, .val (.long (own_pack b y)), .second, .val (.int (0 : Int32)), .val (.int (0 : Int32)), .val (.int (1 : Int32)), .unset, .unset] [(.int (1 : Int32))])) _
        refine XS.istore X41.here hx rfl (hb hby at_190) rfl (l' := #[.val (.long q0), .second, .val (.int p1), .val (.long q2), .second, .val (.int p3), .val (.int p4), .val (.long a), .second, .val (.int x), .val (.long b), .second, .val (.int y), .val (.long (own_pack a x)), .second, .val (.long (own_pack b y)), .second, .val (.int (0 : Int32)), .val (.int (0 : Int32)), .val (.int (1 : Int32)), .val (.int (1 : Int32)), .unset]) rfl ?_
        show Steps p.tables e below (T41.setTop (mkF m 192 #[.val (.long q0), .second, .val (.int p1), .val (.long q2), .second, .val (.int p3), .val (.int p4), .val (.long a), .second, .val (.int x), .val (.long b), .second, .val (.int y), .val (.long (own_pack a x)), .second, .val (.long (own_pack b y)), .second, .val (.int (0 : Int32)), .val (.int (0 : Int32)), .val (.int (1 : Int32)), .val (.int (1 : Int32)), .unset] [])) _
        refine XS.lload X41.here hx rfl (hb hby at_192) rfl ?_
        show Steps p.tables e below (T41.setTop (mkF m 194 #[.val (.long q0), .second, .val (.int p1), .val (.long q2), .second, .val (.int p3), .val (.int p4), .val (.long a), .second, .val (.int x), .val (.long b), .second, .val (.int y), .val (.long (own_pack a x)), .second, .val (.long (own_pack b y)), .second, .val (.int (0 : Int32)), .val (.int (0 : Int32)), .val (.int (1 : Int32)), .val (.int (1 : Int32)), .unset] [(.long (own_pack b y))])) _
        refine st42 _ ?_
        show Steps p.tables e below (T42.setTop (mkF m 197 #[.val (.long q0), .second, .val (.int p1), .val (.long q2), .second, .val (.int p3), .val (.int p4), .val (.long a), .second, .val (.int x), .val (.long b), .second, .val (.int y), .val (.long (own_pack a x)), .second, .val (.long (own_pack b y)), .second, .val (.int (0 : Int32)), .val (.int (0 : Int32)), .val (.int (1 : Int32)), .val (.int (1 : Int32)), .unset] [(.long (own_hashOf (own_pack b y)))])) _
        refine XS.lload X42.here hx rfl (hb hby at_197) rfl ?_
        show Steps p.tables e below (T42.setTop (mkF m 199 #[.val (.long q0), .second, .val (.int p1), .val (.long q2), .second, .val (.int p3), .val (.int p4), .val (.long a), .second, .val (.int x), .val (.long b), .second, .val (.int y), .val (.long (own_pack a x)), .second, .val (.long (own_pack b y)), .second, .val (.int (0 : Int32)), .val (.int (0 : Int32)), .val (.int (1 : Int32)), .val (.int (1 : Int32)), .unset] [(.long b), (.long (own_hashOf (own_pack b y)))])) _
        refine XS.lcmp X42.here hx rfl (hb hby at_199) rfl ?_
        show Steps p.tables e below (T42.setTop (mkF m 200 #[.val (.long q0), .second, .val (.int p1), .val (.long q2), .second, .val (.int p3), .val (.int p4), .val (.long a), .second, .val (.int x), .val (.long b), .second, .val (.int y), .val (.long (own_pack a x)), .second, .val (.long (own_pack b y)), .second, .val (.int (0 : Int32)), .val (.int (0 : Int32)), .val (.int (1 : Int32)), .val (.int (1 : Int32)), .unset] [(.int (lcmpW (own_hashOf (own_pack b y)) b))])) _
        refine XS.ifNo X42.here hx rfl (hb hby at_200) rfl ((if0 _ _).trans (teq ((lw_eq _ _).mpr (own_hash b y hm7 hm11))).2) ?_
        show Steps p.tables e below (T42.setTop (mkF m 203 #[.val (.long q0), .second, .val (.int p1), .val (.long q2), .second, .val (.int p3), .val (.int p4), .val (.long a), .second, .val (.int x), .val (.long b), .second, .val (.int y), .val (.long (own_pack a x)), .second, .val (.long (own_pack b y)), .second, .val (.int (0 : Int32)), .val (.int (0 : Int32)), .val (.int (1 : Int32)), .val (.int (1 : Int32)), .unset] [])) _
        refine XS.lload X42.here hx rfl (hb hby at_203) rfl ?_
        show Steps p.tables e below (T42.setTop (mkF m 205 #[.val (.long q0), .second, .val (.int p1), .val (.long q2), .second, .val (.int p3), .val (.int p4), .val (.long a), .second, .val (.int x), .val (.long b), .second, .val (.int y), .val (.long (own_pack a x)), .second, .val (.long (own_pack b y)), .second, .val (.int (0 : Int32)), .val (.int (0 : Int32)), .val (.int (1 : Int32)), .val (.int (1 : Int32)), .unset] [(.long (own_pack b y))])) _
        refine st43 _ ?_
        show Steps p.tables e below (T43.setTop (mkF m 208 #[.val (.long q0), .second, .val (.int p1), .val (.long q2), .second, .val (.int p3), .val (.int p4), .val (.long a), .second, .val (.int x), .val (.long b), .second, .val (.int y), .val (.long (own_pack a x)), .second, .val (.long (own_pack b y)), .second, .val (.int (0 : Int32)), .val (.int (0 : Int32)), .val (.int (1 : Int32)), .val (.int (1 : Int32)), .unset] [(.int (own_indexOf (own_pack b y)))])) _
        refine XS.iload X43.here hx rfl (hb hby at_208) rfl ?_
        show Steps p.tables e below (T43.setTop (mkF m 210 #[.val (.long q0), .second, .val (.int p1), .val (.long q2), .second, .val (.int p3), .val (.int p4), .val (.long a), .second, .val (.int x), .val (.long b), .second, .val (.int y), .val (.long (own_pack a x)), .second, .val (.long (own_pack b y)), .second, .val (.int (0 : Int32)), .val (.int (0 : Int32)), .val (.int (1 : Int32)), .val (.int (1 : Int32)), .unset] [(.int y), (.int (own_indexOf (own_pack b y)))])) _
        refine XS.icmpNo X43.here hx rfl (hb hby at_210) rfl (teq (own_index b y hm7 hm11)).2 ?_
        show Steps p.tables e below (T43.setTop (mkF m 213 #[.val (.long q0), .second, .val (.int p1), .val (.long q2), .second, .val (.int p3), .val (.int p4), .val (.long a), .second, .val (.int x), .val (.long b), .second, .val (.int y), .val (.long (own_pack a x)), .second, .val (.long (own_pack b y)), .second, .val (.int (0 : Int32)), .val (.int (0 : Int32)), .val (.int (1 : Int32)), .val (.int (1 : Int32)), .unset] [])) _
        refine XS.iconst X43.here hx rfl (hb hby at_213) ?_
        show Steps p.tables e below (T43.setTop (mkF m 214 #[.val (.long q0), .second, .val (.int p1), .val (.long q2), .second, .val (.int p3), .val (.int p4), .val (.long a), .second, .val (.int x), .val (.long b), .second, .val (.int y), .val (.long (own_pack a x)), .second, .val (.long (own_pack b y)), .second, .val (.int (0 : Int32)), .val (.int (0 : Int32)), .val (.int (1 : Int32)), .val (.int (1 : Int32)), .unset] [(.int (1 : Int32))])) _
        refine XS.goto X43.here hx rfl (pc0 := 214) (pc' := 218) rfl (hb hby at_214) (by decide) (by decide) ?_
        show Steps p.tables e below (T43.setTop (mkF m 218 #[.val (.long q0), .second, .val (.int p1), .val (.long q2), .second, .val (.int p3), .val (.int p4), .val (.long a), .second, .val (.int x), .val (.long b), .second, .val (.int y), .val (.long (own_pack a x)), .second, .val (.long (own_pack b y)), .second, .val (.int (0 : Int32)), .val (.int (0 : Int32)), .val (.int (1 : Int32)), .val (.int (1 : Int32)), .unset] [(.int (1 : Int32))])) _
        refine XS.istore X43.here hx rfl (hb hby at_218) rfl (l' := #[.val (.long q0), .second, .val (.int p1), .val (.long q2), .second, .val (.int p3), .val (.int p4), .val (.long a), .second, .val (.int x), .val (.long b), .second, .val (.int y), .val (.long (own_pack a x)), .second, .val (.long (own_pack b y)), .second, .val (.int (0 : Int32)), .val (.int (0 : Int32)), .val (.int (1 : Int32)), .val (.int (1 : Int32)), .val (.int (1 : Int32))]) rfl ?_
        show Steps p.tables e below (T43.setTop (mkF m 220 #[.val (.long q0), .second, .val (.int p1), .val (.long q2), .second, .val (.int p3), .val (.int p4), .val (.long a), .second, .val (.int x), .val (.long b), .second, .val (.int y), .val (.long (own_pack a x)), .second, .val (.long (own_pack b y)), .second, .val (.int (0 : Int32)), .val (.int (0 : Int32)), .val (.int (1 : Int32)), .val (.int (1 : Int32)), .val (.int (1 : Int32))] [])) _
        refine XS.iload X43.here hx rfl (hb hby at_220) rfl ?_
        show Steps p.tables e below (T43.setTop (mkF m 222 #[.val (.long q0), .second, .val (.int p1), .val (.long q2), .second, .val (.int p3), .val (.int p4), .val (.long a), .second, .val (.int x), .val (.long b), .second, .val (.int y), .val (.long (own_pack a x)), .second, .val (.long (own_pack b y)), .second, .val (.int (0 : Int32)), .val (.int (0 : Int32)), .val (.int (1 : Int32)), .val (.int (1 : Int32)), .val (.int (1 : Int32))] [(.int (1 : Int32))])) _
        refine XS.ifNo X43.here hx rfl (hb hby at_222) rfl ((if0 _ _).trans (feq (by decide : ¬ ((1 : Int32) = (0 : Int32)))).1) ?_
        show Steps p.tables e below (T43.setTop (mkF m 225 #[.val (.long q0), .second, .val (.int p1), .val (.long q2), .second, .val (.int p3), .val (.int p4), .val (.long a), .second, .val (.int x), .val (.long b), .second, .val (.int y), .val (.long (own_pack a x)), .second, .val (.long (own_pack b y)), .second, .val (.int (0 : Int32)), .val (.int (0 : Int32)), .val (.int (1 : Int32)), .val (.int (1 : Int32)), .val (.int (1 : Int32))] [])) _
        refine XS.iload X43.here hx rfl (hb hby at_225) rfl ?_
        show Steps p.tables e below (T43.setTop (mkF m 227 #[.val (.long q0), .second, .val (.int p1), .val (.long q2), .second, .val (.int p3), .val (.int p4), .val (.long a), .second, .val (.int x), .val (.long b), .second, .val (.int y), .val (.long (own_pack a x)), .second, .val (.long (own_pack b y)), .second, .val (.int (0 : Int32)), .val (.int (0 : Int32)), .val (.int (1 : Int32)), .val (.int (1 : Int32)), .val (.int (1 : Int32))] [(.int (1 : Int32))])) _
        refine XS.ifNo X43.here hx rfl (hb hby at_227) rfl ((if0 _ _).trans (feq (by decide : ¬ ((1 : Int32) = (0 : Int32)))).1) ?_
        show Steps p.tables e below (T43.setTop (mkF m 230 #[.val (.long q0), .second, .val (.int p1), .val (.long q2), .second, .val (.int p3), .val (.int p4), .val (.long a), .second, .val (.int x), .val (.long b), .second, .val (.int y), .val (.long (own_pack a x)), .second, .val (.long (own_pack b y)), .second, .val (.int (0 : Int32)), .val (.int (0 : Int32)), .val (.int (1 : Int32)), .val (.int (1 : Int32)), .val (.int (1 : Int32))] [])) _
        refine XS.iload X43.here hx rfl (hb hby at_230) rfl ?_
        show Steps p.tables e below (T43.setTop (mkF m 232 #[.val (.long q0), .second, .val (.int p1), .val (.long q2), .second, .val (.int p3), .val (.int p4), .val (.long a), .second, .val (.int x), .val (.long b), .second, .val (.int y), .val (.long (own_pack a x)), .second, .val (.long (own_pack b y)), .second, .val (.int (0 : Int32)), .val (.int (0 : Int32)), .val (.int (1 : Int32)), .val (.int (1 : Int32)), .val (.int (1 : Int32))] [(.int (1 : Int32))])) _
        refine XS.ifNo X43.here hx rfl (hb hby at_232) rfl ((if0 _ _).trans (feq (by decide : ¬ ((1 : Int32) = (0 : Int32)))).1) ?_
        show Steps p.tables e below (T43.setTop (mkF m 235 #[.val (.long q0), .second, .val (.int p1), .val (.long q2), .second, .val (.int p3), .val (.int p4), .val (.long a), .second, .val (.int x), .val (.long b), .second, .val (.int y), .val (.long (own_pack a x)), .second, .val (.long (own_pack b y)), .second, .val (.int (0 : Int32)), .val (.int (0 : Int32)), .val (.int (1 : Int32)), .val (.int (1 : Int32)), .val (.int (1 : Int32))] [])) _
        refine XS.iconst X43.here hx rfl (hb hby at_235) ?_
        show Steps p.tables e below (T43.setTop (mkF m 236 #[.val (.long q0), .second, .val (.int p1), .val (.long q2), .second, .val (.int p3), .val (.int p4), .val (.long a), .second, .val (.int x), .val (.long b), .second, .val (.int y), .val (.long (own_pack a x)), .second, .val (.long (own_pack b y)), .second, .val (.int (0 : Int32)), .val (.int (0 : Int32)), .val (.int (1 : Int32)), .val (.int (1 : Int32)), .val (.int (1 : Int32))] [(.int (1 : Int32))])) _
        refine XS.goto X43.here hx rfl (pc0 := 236) (pc' := 240) rfl (hb hby at_236) (by decide) (by decide) ?_
        show Steps p.tables e below (T43.setTop (mkF m 240 #[.val (.long q0), .second, .val (.int p1), .val (.long q2), .second, .val (.int p3), .val (.int p4), .val (.long a), .second, .val (.int x), .val (.long b), .second, .val (.int y), .val (.long (own_pack a x)), .second, .val (.long (own_pack b y)), .second, .val (.int (0 : Int32)), .val (.int (0 : Int32)), .val (.int (1 : Int32)), .val (.int (1 : Int32)), .val (.int (1 : Int32))] [(.int (1 : Int32))])) _
        exact retN X43 hx (t := .boolean) Bd.returns (by simp) (hb hby at_240) hr
      · show Q0 Z q0 p1 q2 p3 p4 h0 n0 _ T43.heap _
        rw [e43q]
        exact ⟨rfl, N43⟩
set_option maxRecDepth 65536 in
set_option maxHeartbeats 40000000 in
theorem comes_1 {Post : Tables → Env → Array Value → State → Outcome → State → Prop} (hpost : ∀ tb e args s v u, (limb_1_1.after args s (.returned v) u = true ∧ limb_1_2.after args s (.returned v) u = true ∧ True) → FrameEnd s (.returned v) u (Jvm.fieldLocs frame_1_writes args s ++ Jvm.arrayLocs frame_1_arrays args s ++ Jvm.staticLocs frame_1_statics s) 0 0 → Post tb e args s (.returned v) u) :
    ArmFor flags0 classFile x code maxLocals ret World_1 tables_1 room_1 Calls_1 rest_1 Pre_1 Post := by
  intro l hfl _ _ p e ha hc hk s m args below hf hA hF happ hP
  obtain ⟨hcalls, hrest, hpre⟩ := hP
  obtain ⟨-, -, -, hnamed, -, -, -, hat⟩ := (Spec.applies_iff hf).mp happ
  obtain ⟨hg, hn⟩ := and_e (Cond.before_iff.mp (show (Jvm.Cond.and given_1 narrow_1).before args s = true from hpre))
  obtain ⟨g1, g2⟩ := and_e hg
  obtain ⟨g3, g4⟩ := and_e g2
  obtain ⟨g5, g6⟩ := and_e g4
  obtain ⟨g7, g8⟩ := and_e g6
  obtain ⟨g9, g10⟩ := and_e g8
  obtain ⟨w0, w1, w2, w3, w4, rfl⟩ : ∃ w0 w1 w2 w3 w4 : Value, args = #[w0, w1, w2, w3, w4] := by
    have hs : args.size = 5 := by simpa [Cond.value, given_1] using g1
    obtain ⟨L⟩ := args
    match L, hs with
    | [w0, w1, w2, w3, w4], _ => exact ⟨w0, w1, w2, w3, w4, rfl⟩
  have hw := fun d (hd : d ∈ tables_1) => atoms_spec (ws := Jvm.Cond.code x code maxLocals ret :: tables_1) hat d (List.mem_cons_of_mem _ hd)
  have hfit : Fit s := fun {y c} hc i hi => by
    obtain ⟨ha, rfl⟩ := Array.getElem?_eq_some_iff.mp hc
    have q := List.all_eq_true.mp ((Array.all_eq_true_iff_forall_mem.mp hF) _ (Array.getElem_mem ha)) i (List.mem_range.mpr hi)
    simpa [Array.getElem?_eq_getElem hi] using q
  obtain ⟨i0, ei0⟩ := isL_v g3
  obtain rfl : w0 = (.long i0) := Option.some.inj ei0
  obtain ⟨i1, ei1⟩ := is_v g5
  obtain rfl : w1 = (.int i1) := Option.some.inj ei1
  obtain ⟨i2, ei2⟩ := isL_v g7
  obtain rfl : w2 = (.long i2) := Option.some.inj ei2
  obtain ⟨i3, ei3⟩ := is_v g9
  obtain rfl : w3 = (.int i3) := Option.some.inj ei3
  obtain ⟨i4, ei4⟩ := is_v g10
  obtain rfl : w4 = (.int i4) := Option.some.inj ei4
  obtain ⟨n, o, h1, h2, h3, _, L, rfl, ⟨rfl, N⟩, hq⟩ := rm0 l s _ hw tables_1 i0 i1 i2 i3 i4  s.heap s.heap.size (Nat.le_refl _)  p e ha hc hk s m _ below hf ((Spec.applies_iff_loose hf).mp happ).1 ⟨rfl, State.Warmed39.refl s, rfl⟩ trivial
  refine ⟨n, _, h1, h2, h3, hpost _ _ _ _ _ _ ⟨Cond.after_iff.mpr rfl, Cond.after_iff.mpr (eq_i res_at (Term.int_eval (1)) rfl), trivial⟩ ⟨hq.1, hq.2.1, (hq.2.2.sift fun y hy => Or.inr (N y hy)).mono (by decide) (by decide)⟩⟩
theorem main_1_1 : Claimed_1_1 := comes_1 fun _ _ _ _ _ _ h hF => ⟨h.1, hF⟩
theorem main_1_2 : Claimed_1_2 := comes_1 fun _ _ _ _ _ _ h hF => ⟨h.2.1, hF⟩
end Jvm.Pilot.@@N@@
namespace Jvm.Pilot.@@N@@
open Jvm Jvm.ClassFile Sem Op Lib Jvm.Free Jvm.Stand Jvm.Pilot.@@N@@.Jvm.D
/-! MADE BY PROGRAM (witnessworld.py) out of the Statement's table words and the real class files: 9 classes; the members and pool entries that the words name. The judged class is class 1, her method 1. -/
namespace start1
open Jvm.ClassFile
def u (s : String) : CpInfo := .utf8 (stringToUtf16 s)
/-- a pool by its gaps: so many unusable entries, then the entry; so many at the end -/
def gap : Nat → List CpInfo → List CpInfo
  | 0, r => r
  | n + 1, r => .unusable :: gap n r
def poolList (es : List (Nat × CpInfo)) (last : Nat) : List CpInfo := es.foldr (fun e r => gap e.1 (e.2 :: r)) (gap last [])
def pool (es : List (Nat × CpInfo)) (last : Nat) : Array CpInfo := ⟨poolList es last⟩
def fileOf (pool : Array CpInfo) (this : Nat) (attrs : Array Attribute := #[]) (ms : Array MethodInfo := #[]) (fl : Nat := 33) (sup : Nat := 0) (ifs : Array Nat := #[]) (fds : Array FieldInfo := #[]) : ClassFile where
  minorVersion := 0
  majorVersion := 65
  constantPool := pool
  accessFlags := fl
  thisClass := this
  superClass := sup
  interfaces := ifs
  fields := fds
  methods := ms
  attributes := attrs
def plain (name : String) (sup : Option ClassId) : Class where
  name := name
  kind := .ordinary
  loader := none
  accessFlags := 33
  super := sup
  interfaces := #[]
  cf := none
  fields := #[]
  methods := #[]
  instanceTypes := #[]
  staticTypes := #[]
  resolved := #[]
  callSites := []
  init := .initialized
  statics := none
  mirror := none

def pool0 : Array CpInfo := pool [(5, u "<init>"), (0, u "()V"), (1, .class_ 10), (1, u "java/lang/Object")] 113

def k0m0 : Method := { name := "<init>", desc := "()V", sig := { parameters := [], returnType := none }, accessFlags := 1, code := none }
/-- java/lang/Object -/
def k0 : Class := { plain "java/lang/Object" none with
  accessFlags := 33
  interfaces := #[]
  cf := some (fileOf pool0 8 #[] #[{ accessFlags := 1, nameIndex := 5, descriptorIndex := 6, attributes := #[] }] 33 0 #[] #[])
  fields := #[]
  methods := #[k0m0]
  instanceTypes := #[]
  staticTypes := #[]
  resolved := Array.replicate 124 none
  statics := none }

def pool1 : Array CpInfo := pool [(2, .class_ 4), (1, u "java/lang/Object"), (0, u "<init>"), (0, u "()V"), (0, .class_ 8), (0, u "com/example/sarasvati/sarasvati/dedup/IndexRun"), (0, .long 281474976710655), (1, .integer 65535), (0, .methodref 7 13), (0, .nameAndType 14 15), (0, u "pack"), (0, u "(JI)J"), (0, .methodref 7 17), (0, .nameAndType 18 19), (0, u "hashOf"), (0, u "(J)J"), (0, .methodref 7 21), (0, .nameAndType 22 23), (0, u "indexOf"), (0, u "(J)I"), (0, .class_ 25), (0, u "com/example/sarasvati/sarasvati/dedup/IndexRunPackPinLaw"), (2, u "law"), (0, u "(JIJII)Z")] 3

def k1m0 : Method := { name := "<init>", desc := "()V", sig := { parameters := [], returnType := none }, accessFlags := 2, code := none }
def k1c1 : Code := { maxStack := 4, maxLocals := 22, code := code, exceptionTable := #[], attributes := #[] }
def k1m1 : Method := { name := "law", desc := "(JIJII)Z", sig := { parameters := [.long, .int, .long, .int, .int], returnType := some .boolean }, accessFlags := 9, code := some k1c1 }
/-- com/example/sarasvati/sarasvati/dedup/IndexRunPackPinLaw -/
def k1 : Class := { plain "com/example/sarasvati/sarasvati/dedup/IndexRunPackPinLaw" (some 0) with
  accessFlags := 49
  interfaces := #[]
  cf := some (fileOf pool1 24 #[] #[{ accessFlags := 2, nameIndex := 5, descriptorIndex := 6, attributes := #[] }, { accessFlags := 9, nameIndex := 28, descriptorIndex := 29, attributes := #[] }] 49 2 #[] #[])
  fields := #[]
  methods := #[k1m0, k1m1]
  instanceTypes := #[]
  staticTypes := #[]
  resolved := Array.replicate 33 none
  statics := none }

def pool2 : Array CpInfo := pool [(1, .class_ 2), (0, u "com/example/sarasvati/sarasvati/dedup/IndexRun"), (9, .class_ 14), (1, u "java/lang/Object"), (3, u "stem"), (0, u "Ljava/nio/file/Path;"), (22, u "file"), (8, u "filter"), (0, u "Lcom/example/sarasvati/sarasvati/dedup/RunFilter;"), (2, u "entries"), (0, u "J"), (2, u "total"), (2, u "lastHash"), (2, u "lastPosition"), (27, .class_ 94), (0, u "com/example/sarasvati/sarasvati/dedup/IndexRun$Cursor"), (45, u "(J)J"), (31, .long 9223372036854775808), (1, .integer 65535), (10, .class_ 186), (0, u "com/example/sarasvati/sarasvati/dedup/IndexRun$Search"), (6, .class_ 194), (0, u "com/example/sarasvati/sarasvati/dedup/IndexRun$Opened"), (17, .class_ 213), (0, u "com/example/sarasvati/sarasvati/dedup/IndexRun$Writer"), (48, u "(J)I"), (28, .class_ 292), (0, u "com/example/sarasvati/sarasvati/dedup/IndexRun$UnreadableRunException"), (6, u "HASH_BITS"), (0, u "I"), (2, u "MAX_HASH"), (0, u "MAX_POSITION"), (0, u "ENTRY_BYTES"), (1, u "BLOCK_ENTRIES"), (1, u "BLOCK_BYTES"), (1, u "HASH_RANGE"), (0, u "D"), (2, u "INDEX_BITS"), (1, u "MAX_INDEX"), (0, u "CURSOR_READ_BYTES"), (1, u "NO_ENTRY"), (13, u "pack"), (0, u "(JI)J"), (0, u "hashOf"), (0, u "indexOf"), (13, .class_ 352), (0, u "com/example/sarasvati/sarasvati/dedup/IndexRun$PositionAction")] 30

def k2c0 : Code := { maxStack := 4, maxLocals := 3, code := prog_22_method_11_code, exceptionTable := #[], attributes := #[] }
def k2m0 : Method := { name := "pack", desc := "(JI)J", sig := { parameters := [.long, .int], returnType := some .long }, accessFlags := 8, code := some k2c0 }
def k2c1 : Code := { maxStack := 4, maxLocals := 2, code := prog_22_method_12_code, exceptionTable := #[], attributes := #[] }
def k2m1 : Method := { name := "hashOf", desc := "(J)J", sig := { parameters := [.long], returnType := some .long }, accessFlags := 8, code := some k2c1 }
def k2c2 : Code := { maxStack := 2, maxLocals := 2, code := prog_22_method_13_code, exceptionTable := #[], attributes := #[] }
def k2m2 : Method := { name := "indexOf", desc := "(J)I", sig := { parameters := [.long], returnType := some .int }, accessFlags := 8, code := some k2c2 }
/-- com/example/sarasvati/sarasvati/dedup/IndexRun -/
def k2 : Class := { plain "com/example/sarasvati/sarasvati/dedup/IndexRun" (some 0) with
  accessFlags := 32
  interfaces := #[]
  cf := some (fileOf pool2 1 #[.nestMembers #[212, 193, 93, 185, 351, 291]] #[{ accessFlags := 8, nameIndex := 334, descriptorIndex := 335, attributes := #[] }, { accessFlags := 8, nameIndex := 336, descriptorIndex := 140, attributes := #[] }, { accessFlags := 8, nameIndex := 337, descriptorIndex := 262, attributes := #[] }] 32 12 #[] #[{ accessFlags := 24, nameIndex := 299, descriptorIndex := 300, attributes := #[] }, { accessFlags := 24, nameIndex := 303, descriptorIndex := 56, attributes := #[] }, { accessFlags := 24, nameIndex := 304, descriptorIndex := 56, attributes := #[] }, { accessFlags := 26, nameIndex := 305, descriptorIndex := 300, attributes := #[] }, { accessFlags := 26, nameIndex := 307, descriptorIndex := 300, attributes := #[] }, { accessFlags := 26, nameIndex := 309, descriptorIndex := 300, attributes := #[] }, { accessFlags := 26, nameIndex := 311, descriptorIndex := 312, attributes := #[] }, { accessFlags := 26, nameIndex := 315, descriptorIndex := 300, attributes := #[] }, { accessFlags := 24, nameIndex := 317, descriptorIndex := 300, attributes := #[] }, { accessFlags := 26, nameIndex := 318, descriptorIndex := 300, attributes := #[] }, { accessFlags := 26, nameIndex := 320, descriptorIndex := 56, attributes := #[] }, { accessFlags := 18, nameIndex := 18, descriptorIndex := 19, attributes := #[] }, { accessFlags := 18, nameIndex := 42, descriptorIndex := 19, attributes := #[] }, { accessFlags := 18, nameIndex := 51, descriptorIndex := 52, attributes := #[] }, { accessFlags := 18, nameIndex := 55, descriptorIndex := 56, attributes := #[] }, { accessFlags := 18, nameIndex := 59, descriptorIndex := 56, attributes := #[] }, { accessFlags := 18, nameIndex := 62, descriptorIndex := 56, attributes := #[] }, { accessFlags := 18, nameIndex := 65, descriptorIndex := 56, attributes := #[] }])
  fields := #[{ name := "HASH_BITS", type := .int, accessFlags := 24, slot := 0, constantValue := 0 }, { name := "MAX_HASH", type := .long, accessFlags := 24, slot := 1, constantValue := 0 }, { name := "MAX_POSITION", type := .long, accessFlags := 24, slot := 2, constantValue := 0 }, { name := "ENTRY_BYTES", type := .int, accessFlags := 26, slot := 3, constantValue := 0 }, { name := "BLOCK_ENTRIES", type := .int, accessFlags := 26, slot := 4, constantValue := 0 }, { name := "BLOCK_BYTES", type := .int, accessFlags := 26, slot := 5, constantValue := 0 }, { name := "HASH_RANGE", type := .double, accessFlags := 26, slot := 6, constantValue := 0 }, { name := "INDEX_BITS", type := .int, accessFlags := 26, slot := 7, constantValue := 0 }, { name := "MAX_INDEX", type := .int, accessFlags := 24, slot := 8, constantValue := 0 }, { name := "CURSOR_READ_BYTES", type := .int, accessFlags := 26, slot := 9, constantValue := 0 }, { name := "NO_ENTRY", type := .long, accessFlags := 26, slot := 10, constantValue := 0 }, { name := "stem", type := (.object "java/nio/file/Path"), accessFlags := 18, slot := 0, constantValue := 0 }, { name := "file", type := (.object "java/nio/file/Path"), accessFlags := 18, slot := 1, constantValue := 0 }, { name := "filter", type := (.object "com/example/sarasvati/sarasvati/dedup/RunFilter"), accessFlags := 18, slot := 2, constantValue := 0 }, { name := "entries", type := .long, accessFlags := 18, slot := 3, constantValue := 0 }, { name := "total", type := .long, accessFlags := 18, slot := 4, constantValue := 0 }, { name := "lastHash", type := .long, accessFlags := 18, slot := 5, constantValue := 0 }, { name := "lastPosition", type := .long, accessFlags := 18, slot := 6, constantValue := 0 }]
  methods := #[k2m0, k2m1, k2m2]
  instanceTypes := #[(.object "java/nio/file/Path"), (.object "java/nio/file/Path"), (.object "com/example/sarasvati/sarasvati/dedup/RunFilter"), .long, .long, .long, .long]
  staticTypes := #[.int, .long, .long, .int, .int, .int, .double, .int, .int, .int, .long]
  resolved := Array.replicate 383 none
  statics := none }

def pool3 : Array CpInfo := pool [(1, u "java/lang/Cloneable"), (0, .class_ 1), (0, u "java/lang/Object"), (0, .class_ 3)] 3

/-- java/lang/Cloneable -/
def k3 : Class := { plain "java/lang/Cloneable" (some 0) with
  accessFlags := 1537
  interfaces := #[]
  cf := some (fileOf pool3 2 #[] #[] 1537 4 #[] #[])
  fields := #[]
  methods := #[]
  instanceTypes := #[]
  staticTypes := #[]
  resolved := Array.replicate 8 none
  statics := none }

def pool4 : Array CpInfo := pool [(1, u "java/io/Serializable"), (0, .class_ 1), (0, u "java/lang/Object"), (0, .class_ 3)] 3

/-- java/io/Serializable -/
def k4 : Class := { plain "java/io/Serializable" (some 0) with
  accessFlags := 1537
  interfaces := #[]
  cf := some (fileOf pool4 2 #[] #[] 1537 4 #[] #[])
  fields := #[]
  methods := #[]
  instanceTypes := #[]
  staticTypes := #[]
  resolved := Array.replicate 8 none
  statics := none }

/-- the primitive byte -/
def k5 : Class := { plain "byte" none with kind := .primitive 'B', accessFlags := 0x411 }
/-- [B -/
def k6 : Class := { plain "[B" (some 0) with kind := .array 5 .byte, interfaces := #[3, 4], accessFlags := 1041 }

/-- the primitive int -/
def k7 : Class := { plain "int" none with kind := .primitive 'I', accessFlags := 0x411 }
/-- [I -/
def k8 : Class := { plain "[I" (some 0) with kind := .array 7 .int, interfaces := #[3, 4], accessFlags := 1041 }

def heap : Heap := #[]
def classes : Array Class := #[k0, k1, k2, k3, k4, k5, k6, k7, k8]
def interned : List (Array UInt16 × Addr) := []
def slotsUsed : Nat := 0
def theMethod : MethodId := ⟨1, 1⟩
def args0 : Array Value := #[.long 1, .int 2, .long 3, .int 4, .int 0]
def aboutOver (below : List Frame) : State where
  vm := { classes := classes, interned := interned.toArray }
  heap := heap
  slotsUsed := slotsUsed
  threads := #[{ frames := .invoking theMethod args0 :: below }]
def below0 : List Frame := [.native { method := ⟨0, 0⟩, args := #[] }]
def about1 : State := aboutOver below0
def p0 : Program := .bare "" "" ""
def e0 : Env := launch0.env 0 0 0
theorem w_frames : about1.frames = Frame.invoking theMethod args0 :: below0 := rfl
set_option maxRecDepth 65536 in
theorem w_args : argsFit about1.vm theMethod args0 = true := by decide +kernel
set_option maxRecDepth 65536 in
theorem w_heap : heapFits about1 = true := by decide +kernel
set_option maxRecDepth 65536 in
theorem w_runnable : about1.curStatus? = some .runnable := by decide +kernel
set_option maxRecDepth 65536 in
theorem w_alone : about1.alone = true := by decide +kernel
set_option maxRecDepth 65536 in
theorem w_named : about1.methodNamed? x = some theMethod := by decide +kernel
set_option maxRecDepth 65536 in
theorem w_hears : about1.hears theMethod below0 = true := by decide +kernel
set_option maxRecDepth 65536 in
theorem w_ripe : about1.ripe theMethod args0 below0 = true := by decide +kernel
theorem w_running : about1.status = .running := rfl
set_option maxRecDepth 65536 in
theorem w_room : about1.hasRoom e0.platform room_1 = true :=
  launch0.hasRoom_least _ room_1 (by decide +kernel) (by decide +kernel) (by decide +kernel) (by decide +kernel) (by decide +kernel) (by decide +kernel)
theorem allAtoms_all (ts : List Jvm.Cond) (a : Array Jvm.Value) (st : Jvm.State) : (allAtoms ts).before a st = ts.all (fun c => c.before a st) := by
  induction ts with
  | nil => rfl
  | cons c t ih =>
    show (Jvm.Cond.and c (allAtoms t)).before a st = _
    rw [Jvm.Cond.before_and, ih, List.all_cons]
def words1 : List Jvm.Cond := Jvm.Cond.code x code maxLocals ret :: tables_1
/-- a 'code' word, met by the world's own term for the bytes: nothing is compared byte by byte -/
theorem code_word {y : MethodName} {bytes : ByteArray} {mx : Nat} {rt : Option FieldType} {a : Array Value} {s : State} {m : MethodId} {meth : Method} {c : Code} (h1 : s.methodNamed? y = some m) (h2 : s.vm.method? m = some meth) (h3 : meth.code = some c) (h4 : c.code = bytes)
    (h5 : (c.maxLocals == mx && c.exceptionTable.isEmpty && decide (c.maxStack ≤ mostOperands) && decide (meth.sig.returnType = rt) && !meth.locks && decide (parseMethodDescriptor y.desc = some meth.sig)) = true) : (Jvm.Cond.code y bytes mx rt).before a s = true := by
  simp only [Bool.and_eq_true, beq_iff_eq, Bool.not_eq_true', decide_eq_true_eq] at h5
  obtain ⟨⟨⟨⟨⟨g1, g2⟩, g3⟩, g4⟩, g5⟩, g6⟩ := h5
  simp [Cond.before, Cond.holds, Cond.value, h1, h2, h3, h4, g1, g2, g3, g4, g5, g6]
def isCode : Jvm.Cond → Bool
  | .code _ _ _ _ => true
  | _ => false
theorem all_split {L : List Jvm.Cond} {P : Jvm.Cond → Bool} (h1 : L.all (fun c => isCode c || P c) = true) (h2 : ∀ c ∈ L.filter isCode, P c = true) : L.all P = true := by
  refine List.all_eq_true.mpr fun c hc => ?_
  have h := List.all_eq_true.mp h1 c hc
  rcases Bool.eq_false_or_eq_true (isCode c) with hi | hi
  · exact h2 c (List.mem_filter.mpr ⟨hc, hi⟩)
  · simpa [hi] using h
set_option maxRecDepth 65536 in
theorem w_c0 : (Jvm.Cond.code x code maxLocals ret).before args0 about1 = true := code_word (m := ⟨1, 1⟩) (meth := k1m1) (c := k1c1) (by decide +kernel) rfl rfl rfl (by decide +kernel)
set_option maxRecDepth 65536 in
theorem w_c1 : (Jvm.Cond.code ({ cls := "com/example/sarasvati/sarasvati/dedup/IndexRun", name := "pack", desc := "(JI)J" } : Jvm.MethodName) prog_22_method_11_code (3 : Nat) (Option.some Jvm.ClassFile.FieldType.long)).before args0 about1 = true := code_word (m := ⟨2, 0⟩) (meth := k2m0) (c := k2c0) (by decide +kernel) rfl rfl rfl (by decide +kernel)
set_option maxRecDepth 65536 in
theorem w_c2 : (Jvm.Cond.code ({ cls := "com/example/sarasvati/sarasvati/dedup/IndexRun", name := "hashOf", desc := "(J)J" } : Jvm.MethodName) prog_22_method_12_code (2 : Nat) (Option.some Jvm.ClassFile.FieldType.long)).before args0 about1 = true := code_word (m := ⟨2, 1⟩) (meth := k2m1) (c := k2c1) (by decide +kernel) rfl rfl rfl (by decide +kernel)
set_option maxRecDepth 65536 in
theorem w_c3 : (Jvm.Cond.code ({ cls := "com/example/sarasvati/sarasvati/dedup/IndexRun", name := "indexOf", desc := "(J)I" } : Jvm.MethodName) prog_22_method_13_code (2 : Nat) (Option.some Jvm.ClassFile.FieldType.int)).before args0 about1 = true := code_word (m := ⟨2, 2⟩) (meth := k2m2) (c := k2c2) (by decide +kernel) rfl rfl rfl (by decide +kernel)
def codes1 : List Jvm.Cond := [Jvm.Cond.code x code maxLocals ret, Jvm.Cond.code ({ cls := "com/example/sarasvati/sarasvati/dedup/IndexRun", name := "pack", desc := "(JI)J" } : Jvm.MethodName) prog_22_method_11_code (3 : Nat) (Option.some Jvm.ClassFile.FieldType.long), Jvm.Cond.code ({ cls := "com/example/sarasvati/sarasvati/dedup/IndexRun", name := "hashOf", desc := "(J)J" } : Jvm.MethodName) prog_22_method_12_code (2 : Nat) (Option.some Jvm.ClassFile.FieldType.long), Jvm.Cond.code ({ cls := "com/example/sarasvati/sarasvati/dedup/IndexRun", name := "indexOf", desc := "(J)I" } : Jvm.MethodName) prog_22_method_13_code (2 : Nat) (Option.some Jvm.ClassFile.FieldType.int)]
set_option maxRecDepth 65536 in
theorem codes_eq : words1.filter isCode = codes1 := rfl
theorem w_codes : ∀ c ∈ words1.filter isCode, c.before args0 about1 = true := by
  rw [codes_eq]
  intro c hc
  simp only [codes1, List.mem_cons, List.not_mem_nil, or_false] at hc
  rcases hc with rfl | rfl | rfl | rfl
  · exact w_c0
  · exact w_c1
  · exact w_c2
  · exact w_c3
set_option maxRecDepth 65536 in
theorem w_t1 : words1.all (fun c => isCode c || c.before args0 about1) = true := by decide +kernel
theorem w_tables : (allAtoms (Jvm.Cond.code x code maxLocals ret :: tables_1)).before args0 about1 = true := by
  rw [allAtoms_all]
  show words1.all (fun c => c.before args0 about1) = true
  refine all_split ?_ w_codes
  rw [w_t1]
set_option maxRecDepth 65536 in
theorem w_case : (Jvm.Cond.and given_1 narrow_1).before args0 about1 = true := by decide +kernel
theorem w_applies : (headSpec (Jvm.Cond.code x code maxLocals ret :: tables_1) room_1).applies x e0.platform about1 = true :=
  (Spec.applies_iff w_frames).mpr ⟨w_running, w_runnable, w_alone, w_named, w_hears, w_ripe, w_room, w_tables⟩
theorem atStart : AtStart classFile x code maxLocals ret World_1 tables_1 room_1 Calls_1 rest_1 Pre_1 launch0 p0 e0 about1 theMethod args0 below0 :=
  ⟨lists_1, trivial, launch0.admits_env _ _ _, launch0.least_env, fairChoices_fair.cas, fairChoices_fair.clock, w_frames, w_args, w_heap, w_applies, trivial, trivial, w_case⟩
end start1
theorem witness_1 : WitnessClaimed_1 := ⟨start1.p0, start1.e0, start1.about1, start1.theMethod, start1.args0, start1.below0, start1.atStart⟩
end Jvm.Pilot.@@N@@
