import JvmDerived
import JvmDerived.Pilot.@@N@@Statement
import JvmDerived.Pilot.@@N@@Code
set_option linter.unusedVariables false
set_option linter.unusedSimpArgs false
namespace Jvm.Pilot.@@N@@
open Jvm Jvm.ClassFile Sem Op Lib Jvm.Free Jvm.Stand Jvm.LawKit Jvm.RoadKit Bundle Jvm.Pilot.@@N@@.Jvm.D
theorem own_no (Z : State) (a0 : Array Value) (hw : ∀ d ∈ tables_1, d.before a0 Z = true) : ∃ c t, Z.vm.findClass "java/lang/Long" = some c ∧ Z.vm.findClass "com/example/sarasvati/sarasvati/window/Window" = some t ∧ Z.vm.assignable c t = false := by
  obtain ⟨cy, ky, h1, h2, h3, h4, -⟩ := Cond.instantiable_spec (hw _ (List.mem_of_getElem? (i := 1) rfl))
  obtain ⟨cx, hx⟩ := found_sup (hw _ (List.mem_of_getElem? (i := 40) rfl))
  refine ⟨cx, cy, hx, h1, Vm.notAssignable_of_chain (args := a0) (X := "java/lang/Long") (Y := "com/example/sarasvati/sarasvati/window/Window") (t := ["java/lang/Number", "java/lang/Object"]) hx h1 h2 h3 (Bool.or_eq_false_iff.mp h4).1 ?_ (by decide)⟩
  intro w hm
  simp only [Cond.chainWords, List.mem_cons, List.not_mem_nil, or_false] at hm
  rcases hm with rfl | rfl | rfl
  · exact hw _ (List.mem_of_getElem? (i := 40) rfl)
  · exact hw _ (List.mem_of_getElem? (i := 41) rfl)
  · exact hw _ (List.mem_of_getElem? (i := 42) rfl)
abbrev own_val (j : Int32) : Value := .long (j - (128 : Int32)).toInt64
theorem own_place (v : Int64) (h1 : ¬ v < (-128 : Int64)) (h2 : ¬ (127 : Int64) < v) : ¬ ((v.toInt32 + (128 : Int32)) < 0 ∨ (256 : Int32).toNatClampNeg ≤ (v.toInt32 + (128 : Int32)).toNatClampNeg) := by
  rw [Int64.lt_iff_toInt_lt] at h1 h2
  have e1 : (-128 : Int64).toInt = -128 := by decide
  have e2 : (127 : Int64).toInt = 127 := by decide
  have e3 : (128 : Int32).toInt = 128 := by decide
  have e4 : (0 : Int32).toInt = 0 := by decide
  have e5 : (256 : Int32).toNatClampNeg = 256 := by decide
  rw [e1] at h1
  rw [e2] at h2
  have h3 := c_l2i v
  have h4 := c_iadd v.toInt32 (128 : Int32)
  have h5 := Int32.toInt_lt v.toInt32
  have h6 := Int32.le_toInt v.toInt32
  have h7 := Int32.toInt_lt (v.toInt32 + (128 : Int32))
  have h8 := Int32.le_toInt (v.toInt32 + (128 : Int32))
  rw [e5, Int32.lt_iff_toInt_lt, e4]
  unfold Int32.toNatClampNeg
  omega
def own_eq (s1 l1 s2 l2 : Int64) : Int32 := if s1 = s2 then (if l1 = l2 then 1 else 0) else 0
theorem pn_0 : plainName "com/example/sarasvati/sarasvati/window/Window" = true := by first | (simp [plainName, overriddenIn]; done) | decide +kernel
theorem pn_1 : plainName "java/lang/Number" = true := by first | (simp [plainName, overriddenIn]; done) | decide +kernel
theorem pn_2 : plainName "java/lang/Long" = true := by first | (simp [plainName, overriddenIn]; done) | decide +kernel
theorem pd_0 : parseMethodDescriptor "()V" = some ⟨[], none⟩ := by decide +kernel
theorem pd_1 : parseMethodDescriptor "(J)V" = some ⟨[.long], none⟩ := by decide +kernel
theorem pn_3 : plainName "com/example/sarasvati/sarasvati/window/WindowEqualsPinLaw" = true := by first | (simp [plainName, overriddenIn]; done) | decide +kernel
theorem pd_2 : parseMethodDescriptor "(JJ)V" = some ⟨[.long, .long], none⟩ := by decide +kernel
theorem pd_3 : parseMethodDescriptor "(Ljava/lang/Object;)Z" = some ⟨[(.object "java/lang/Object")], some .boolean⟩ := by decide +kernel
theorem pd_4 : parseMethodDescriptor "(J)Ljava/lang/Long;" = some ⟨[.long], some (.object "java/lang/Long")⟩ := by decide +kernel
theorem d1_0 : decode prog_190_method_1_code 0 = .ok (.aload_n 0, 1) := by decide +kernel
theorem d1_1 : decode prog_190_method_1_code 1 = .ok (.invokespecial 3, 3) := by decide +kernel
theorem d1_4 : decode prog_190_method_1_code 4 = .ok (.aload_n 0, 1) := by decide +kernel
theorem d1_5 : decode prog_190_method_1_code 5 = .ok (.lload_n 1, 1) := by decide +kernel
theorem d1_6 : decode prog_190_method_1_code 6 = .ok (.putfield 9, 3) := by decide +kernel
theorem d1_9 : decode prog_190_method_1_code 9 = .ok (.aload_n 0, 1) := by decide +kernel
theorem d1_10 : decode prog_190_method_1_code 10 = .ok (.lload_n 3, 1) := by decide +kernel
theorem d1_11 : decode prog_190_method_1_code 11 = .ok (.putfield 15, 3) := by decide +kernel
theorem d1_14 : decode prog_190_method_1_code 14 = .ok (.return_, 1) := by decide +kernel
theorem ef_rm1 (m : MethodId) (o0 : Addr) (q1 : Int64) (q2 : Int64) : entryFrame m #[(.ref o0), (.long q1), (.long q2)] 5 = mkF m 0 #[.val (.ref o0), .val (.long q1), .second, .val (.long q2), .second] [] := by first | (simp [entryFrame, mkF, argsToLocals, Value.category]; done) | rfl
def Q1 (Z : State) (o0 : Addr) (q1 : Int64) (q2 : Int64) (u0 : Value) (u1 : Value) (h0 : Heap) (n0 : Nat) (v : Option Value) (h : Heap) (L : List Loc) : Prop := v = none ∧ Fr n0 L ∧ Keep h0 h [o0] ∧ Exa Z h o0 "com/example/sarasvati/sarasvati/window/Window" ∧ Fld Z h o0 "com/example/sarasvati/sarasvati/window/Window" "startMs" "J" (.long q1) ∧ Fld Z h o0 "com/example/sarasvati/sarasvati/window/Window" "lengthMs" "J" (.long q2)
set_option maxRecDepth 65536 in
set_option maxHeartbeats 40000000 in
theorem rm1 (l : Launch) (Z : State) (a0 : Array Value) (hw : ∀ d ∈ tables_1, d.before a0 Z = true) (ws : List Jvm.Cond) (o0 : Addr) (q1 : Int64) (q2 : Int64) (u0 : Value) (u1 : Value) (h0 : Heap) (n0 : Nat) (Z0 : n0 ≤ h0.size) (E_a : Exa Z h0 o0 "com/example/sarasvati/sarasvati/window/Window") (g_a : n0 ≤ o0) (F0 : Fld Z h0 o0 "com/example/sarasvati/sarasvati/window/Window" "startMs" "J" u0) (F1 : Fld Z h0 o0 "com/example/sarasvati/sarasvati/window/Window" "lengthMs" "J" u1) :
    MetFree l (⟨"com/example/sarasvati/sarasvati/window/Window", "<init>", "(JJ)V"⟩ : MethodName) (head1 (Jvm.Cond.code (⟨"com/example/sarasvati/sarasvati/window/Window", "<init>", "(JJ)V"⟩ : MethodName) prog_190_method_1_code 5 none :: ws) ({ frames := 1, cells := 0, slots := 0, locals := 12 } : Room)) (fun a U => a = #[(.ref o0), (.long q1), (.long q2)] ∧ Z.Warmed39 U.vm ∧ U.heap = h0) (fun _ _ _ _ _ => True) (fun _ U o U' => ∃ v L, o = .returned v ∧ Q1 Z o0 q1 q2 u0 u1 h0 n0 v U'.heap L ∧ FrameEnd U o U' L ({ frames := 1, cells := 0, slots := 0, locals := 12 } : Room).cells ({ frames := 1, cells := 0, slots := 0, locals := 12 } : Room).slots) := by
  refine MetFree.of_bodySF (plainFor_of_name pn_0) hisR ?_
  intro p e s m args below meth c s₁ Bd hml0 hP hK
  obtain ⟨rfl, hZ, hh⟩ := hP
  have hx := Bd.exec
  have hby := Bd.bytes
  have hml : c.maxLocals = 5 := hml0
  have hown : s.vm.findClass "com/example/sarasvati/sarasvati/window/Window" = some m.cls := findClass_of_methodNamed Bd.named
  have hnm := (name_of_methodNamed Bd.named Bd.method).1
  have X0 : Stand p l e ({ frames := 1, cells := 0, slots := 0, locals := 12 } : Room) s m #[(.ref o0), (.long q1), (.long q2)] below meth c s₁ [] 0 0 := Stand.of_body Bd
  have e0 : s₁.heap = h0 := by rw [← hh, Bd.state]; rfl
  have N0 := Fr.nil n0
  have pre0 : ∀ t, Steps p.tables e below (s₁.setTop (mkF m 0 #[.val (.ref o0), .val (.long q1), .second, .val (.long q2), .second] [])) t → Steps p.tables e below (s₁.setTop (entryFrame m #[(.ref o0), (.long q1), (.long q2)] 5)) t := fun t k => castTop (ef_rm1 m o0 q1 q2) k
  obtain ⟨T1, X1, e1, st1⟩ := initO X0 hx hZ hown (hw _ (List.mem_of_getElem? (i := 6) rfl)) (hw _ (List.mem_of_getElem? (i := 7) rfl)) (hw _ (List.mem_of_getElem? (i := 8) rfl)) e0 (g := (mkF m 1 #[.val (.ref o0), .val (.long q1), .second, .val (.long q2), .second] [(.ref o0)])) rfl (by rw [hml]; rfl) rfl (hb hby d1_1) (by decide) (W := 0) (by show 2 * 0 + _ ≤ _; exact Nat.le_of_eq rfl) (by decide)
  obtain ⟨T2, h2, X2, e2, W2, st2⟩ := putF X1 hx hZ hown (host := "") (Or.inl (hw _ (List.mem_of_getElem? (i := 9) rfl))) Via.refl e1 F0 E_a (Or.inr ⟨(hw _ (List.mem_of_getElem? (i := 10) rfl)), rfl, hnm⟩) (hw _ (List.mem_of_getElem? (i := 1) rfl)) (ty := .long) (by decide) rfl rfl (g := (mkF m 6 #[.val (.ref o0), .val (.long q1), .second, .val (.long q2), .second] [(.long q1), (.ref o0)])) rfl rfl (hb hby d1_6)
  have Z3 : n0 ≤ h2.size := Nat.le_trans Z0 (Keep.of_wr W2).1
  have Fw2 := F0.same W2
  have K2 : Keep h0 h2 [o0] := (Keep.refl h0 [o0]).wr W2 (Or.inl (List.mem_of_getElem? (i := 0) rfl))
  have N2 := Fr.snoc X2 N0 g_a
  have f4 := (F1.other W2 (Or.inr (slot_ne (Or.inr (hw _ (List.mem_of_getElem? (i := 12) rfl))) (Or.inr (hw _ (List.mem_of_getElem? (i := 10) rfl))) (by decide) (t := .long) (t' := .long) (by decide) (by decide))))
  have f5 := (E_a.wr W2)
  obtain ⟨T6, h6, X6, e6, W6, st6⟩ := putF X2 hx hZ hown (host := "") (Or.inl (hw _ (List.mem_of_getElem? (i := 11) rfl))) Via.refl e2 f4 f5 (Or.inr ⟨(hw _ (List.mem_of_getElem? (i := 12) rfl)), rfl, hnm⟩) (hw _ (List.mem_of_getElem? (i := 1) rfl)) (ty := .long) (by decide) rfl rfl (g := (mkF m 11 #[.val (.ref o0), .val (.long q1), .second, .val (.long q2), .second] [(.long q2), (.ref o0)])) rfl rfl (hb hby d1_11)
  have Z7 : n0 ≤ h6.size := Nat.le_trans Z3 (Keep.of_wr W6).1
  have Fw6 := f4.same W6
  have K6 : Keep h0 h6 [o0] := K2.wr W6 (Or.inl (List.mem_of_getElem? (i := 0) rfl))
  have N6 := Fr.snoc X6 N2 g_a
  obtain ⟨fs, hr, hrun, hended, hW, hsame⟩ := X6.leave (v := none) (fun _ => rfl)
  refine ⟨_, _, pre0 _ ?_, hrun, hended, _, _, rfl, ?_, ⟨_, rfl⟩, hW, hsame.mono (by decide) (by decide)⟩
  · show Steps p.tables e below (s₁.setTop (mkF m 0 #[.val (.ref o0), .val (.long q1), .second, .val (.long q2), .second] [])) _
    refine XS.aloadN X0.here hx rfl (hb hby d1_0) rfl rfl ?_
    show Steps p.tables e below (s₁.setTop (mkF m 1 #[.val (.ref o0), .val (.long q1), .second, .val (.long q2), .second] [(.ref o0)])) _
    refine st1 _ ?_
    show Steps p.tables e below (T1.setTop (mkF m 4 #[.val (.ref o0), .val (.long q1), .second, .val (.long q2), .second] [])) _
    refine XS.aloadN X1.here hx rfl (hb hby d1_4) rfl rfl ?_
    show Steps p.tables e below (T1.setTop (mkF m 5 #[.val (.ref o0), .val (.long q1), .second, .val (.long q2), .second] [(.ref o0)])) _
    refine XS.lloadN X1.here hx rfl (hb hby d1_5) rfl ?_
    show Steps p.tables e below (T1.setTop (mkF m 6 #[.val (.ref o0), .val (.long q1), .second, .val (.long q2), .second] [(.long q1), (.ref o0)])) _
    refine st2 _ ?_
    show Steps p.tables e below (T2.setTop (mkF m 9 #[.val (.ref o0), .val (.long q1), .second, .val (.long q2), .second] [])) _
    refine XS.aloadN X2.here hx rfl (hb hby d1_9) rfl rfl ?_
    show Steps p.tables e below (T2.setTop (mkF m 10 #[.val (.ref o0), .val (.long q1), .second, .val (.long q2), .second] [(.ref o0)])) _
    refine XS.lloadN X2.here hx rfl (hb hby d1_10) rfl ?_
    show Steps p.tables e below (T2.setTop (mkF m 11 #[.val (.ref o0), .val (.long q1), .second, .val (.long q2), .second] [(.long q2), (.ref o0)])) _
    refine st6 _ ?_
    show Steps p.tables e below (T6.setTop (mkF m 14 #[.val (.ref o0), .val (.long q1), .second, .val (.long q2), .second] [])) _
    exact X6.returnOut hx Bd.returns (hb hby d1_14) hr
  · show Q1 Z o0 q1 q2 u0 u1 h0 n0 _ T6.heap _
    rw [e6]
    exact ⟨rfl, N6, K6, (f5.wr W6), (Fw2.other W6 (Or.inr (slot_ne (Or.inr (hw _ (List.mem_of_getElem? (i := 10) rfl))) (Or.inr (hw _ (List.mem_of_getElem? (i := 12) rfl))) (by decide) (t := .long) (t' := .long) (by decide) (by decide)))), Fw6⟩
theorem d6_0 : decode jdk_18_method_1_code 0 = .ok (.aload_n 0, 1) := by decide +kernel
theorem d6_1 : decode jdk_18_method_1_code 1 = .ok (.invokespecial 1, 3) := by decide +kernel
theorem d6_4 : decode jdk_18_method_1_code 4 = .ok (.return_, 1) := by decide +kernel
theorem ef_rm6 (m : MethodId) (o0 : Addr) : entryFrame m #[(.ref o0)] 1 = mkF m 0 #[.val (.ref o0)] [] := by first | (simp [entryFrame, mkF, argsToLocals, Value.category]; done) | rfl
def Q6 (Z : State) (o0 : Addr) (h0 : Heap) (n0 : Nat) (v : Option Value) (h : Heap) (L : List Loc) : Prop := v = none ∧ Fr n0 L ∧ h = h0
set_option maxRecDepth 65536 in
set_option maxHeartbeats 40000000 in
theorem rm6 (l : Launch) (Z : State) (a0 : Array Value) (hw : ∀ d ∈ tables_1, d.before a0 Z = true) (ws : List Jvm.Cond) (o0 : Addr) (h0 : Heap) (n0 : Nat) (Z0 : n0 ≤ h0.size) :
    MetFree l (⟨"java/lang/Number", "<init>", "()V"⟩ : MethodName) (head1 (Jvm.Cond.code (⟨"java/lang/Number", "<init>", "()V"⟩ : MethodName) jdk_18_method_1_code 1 none :: ws) ({ frames := 1, cells := 0, slots := 0, locals := 12 } : Room)) (fun a U => a = #[(.ref o0)] ∧ Z.Warmed39 U.vm ∧ U.heap = h0) (fun _ _ _ _ _ => True) (fun _ U o U' => ∃ v L, o = .returned v ∧ Q6 Z o0 h0 n0 v U'.heap L ∧ FrameEnd U o U' L ({ frames := 1, cells := 0, slots := 0, locals := 12 } : Room).cells ({ frames := 1, cells := 0, slots := 0, locals := 12 } : Room).slots) := by
  refine MetFree.of_bodySF (plainFor_of_name pn_1) hisR ?_
  intro p e s m args below meth c s₁ Bd hml0 hP hK
  obtain ⟨rfl, hZ, hh⟩ := hP
  have hx := Bd.exec
  have hby := Bd.bytes
  have hml : c.maxLocals = 1 := hml0
  have hown : s.vm.findClass "java/lang/Number" = some m.cls := findClass_of_methodNamed Bd.named
  have hnm := (name_of_methodNamed Bd.named Bd.method).1
  have X0 : Stand p l e ({ frames := 1, cells := 0, slots := 0, locals := 12 } : Room) s m #[(.ref o0)] below meth c s₁ [] 0 0 := Stand.of_body Bd
  have e0 : s₁.heap = h0 := by rw [← hh, Bd.state]; rfl
  have N0 := Fr.nil n0
  have pre0 : ∀ t, Steps p.tables e below (s₁.setTop (mkF m 0 #[.val (.ref o0)] [])) t → Steps p.tables e below (s₁.setTop (entryFrame m #[(.ref o0)] 1)) t := fun t k => castTop (ef_rm6 m o0) k
  obtain ⟨T1, X1, e1, st1⟩ := initO X0 hx hZ hown (hw _ (List.mem_of_getElem? (i := 37) rfl)) (hw _ (List.mem_of_getElem? (i := 7) rfl)) (hw _ (List.mem_of_getElem? (i := 8) rfl)) e0 (g := (mkF m 1 #[.val (.ref o0)] [(.ref o0)])) rfl (by rw [hml]; rfl) rfl (hb hby d6_1) (by decide) (W := 0) (by show 2 * 0 + _ ≤ _; exact Nat.le_of_eq rfl) (by decide)
  obtain ⟨fs, hr, hrun, hended, hW, hsame⟩ := X1.leave (v := none) (fun _ => rfl)
  refine ⟨_, _, pre0 _ ?_, hrun, hended, _, _, rfl, ?_, ⟨_, rfl⟩, hW, hsame.mono (by decide) (by decide)⟩
  · show Steps p.tables e below (s₁.setTop (mkF m 0 #[.val (.ref o0)] [])) _
    refine XS.aloadN X0.here hx rfl (hb hby d6_0) rfl rfl ?_
    show Steps p.tables e below (s₁.setTop (mkF m 1 #[.val (.ref o0)] [(.ref o0)])) _
    refine st1 _ ?_
    show Steps p.tables e below (T1.setTop (mkF m 4 #[.val (.ref o0)] [])) _
    exact X1.returnOut hx Bd.returns (hb hby d6_4) hr
  · show Q6 Z o0 h0 n0 _ T1.heap _
    rw [e1]
    exact ⟨rfl, N0, rfl⟩
theorem d5_0 : decode jdk_35_method_26_code 0 = .ok (.aload_n 0, 1) := by decide +kernel
theorem d5_1 : decode jdk_35_method_26_code 1 = .ok (.invokespecial 270, 3) := by decide +kernel
theorem d5_4 : decode jdk_35_method_26_code 4 = .ok (.aload_n 0, 1) := by decide +kernel
theorem d5_5 : decode jdk_35_method_26_code 5 = .ok (.lload_n 1, 1) := by decide +kernel
theorem d5_6 : decode jdk_35_method_26_code 6 = .ok (.putfield 273, 3) := by decide +kernel
theorem d5_9 : decode jdk_35_method_26_code 9 = .ok (.return_, 1) := by decide +kernel
theorem ef_rm5 (m : MethodId) (o0 : Addr) (q1 : Int64) : entryFrame m #[(.ref o0), (.long q1)] 3 = mkF m 0 #[.val (.ref o0), .val (.long q1), .second] [] := by first | (simp [entryFrame, mkF, argsToLocals, Value.category]; done) | rfl
def Q5 (Z : State) (o0 : Addr) (q1 : Int64) (u0 : Value) (h0 : Heap) (n0 : Nat) (v : Option Value) (h : Heap) (L : List Loc) : Prop := v = none ∧ Fr n0 L ∧ Keep h0 h [o0] ∧ Exa Z h o0 "java/lang/Long" ∧ Fld Z h o0 "java/lang/Long" "value" "J" (.long q1)
set_option maxRecDepth 65536 in
set_option maxHeartbeats 40000000 in
theorem rm5 (l : Launch) (Z : State) (a0 : Array Value) (hw : ∀ d ∈ tables_1, d.before a0 Z = true) (ws : List Jvm.Cond) (o0 : Addr) (q1 : Int64) (u0 : Value) (h0 : Heap) (n0 : Nat) (Z0 : n0 ≤ h0.size) (E_a : Exa Z h0 o0 "java/lang/Long") (g_a : n0 ≤ o0) (F0 : Fld Z h0 o0 "java/lang/Long" "value" "J" u0) :
    MetFree l (⟨"java/lang/Long", "<init>", "(J)V"⟩ : MethodName) (head1 (Jvm.Cond.code (⟨"java/lang/Long", "<init>", "(J)V"⟩ : MethodName) jdk_35_method_26_code 3 none :: ws) ({ frames := 2, cells := 0, slots := 0, locals := 24 } : Room)) (fun a U => a = #[(.ref o0), (.long q1)] ∧ Z.Warmed39 U.vm ∧ U.heap = h0) (fun _ _ _ _ _ => True) (fun _ U o U' => ∃ v L, o = .returned v ∧ Q5 Z o0 q1 u0 h0 n0 v U'.heap L ∧ FrameEnd U o U' L ({ frames := 2, cells := 0, slots := 0, locals := 24 } : Room).cells ({ frames := 2, cells := 0, slots := 0, locals := 24 } : Room).slots) := by
  refine MetFree.of_bodySF (plainFor_of_name pn_2) hisR ?_
  intro p e s m args below meth c s₁ Bd hml0 hP hK
  obtain ⟨rfl, hZ, hh⟩ := hP
  have hx := Bd.exec
  have hby := Bd.bytes
  have hml : c.maxLocals = 3 := hml0
  have hown : s.vm.findClass "java/lang/Long" = some m.cls := findClass_of_methodNamed Bd.named
  have hnm := (name_of_methodNamed Bd.named Bd.method).1
  have X0 : Stand p l e ({ frames := 2, cells := 0, slots := 0, locals := 24 } : Room) s m #[(.ref o0), (.long q1)] below meth c s₁ [] 0 0 := Stand.of_body Bd
  have e0 : s₁.heap = h0 := by rw [← hh, Bd.state]; rfl
  have N0 := Fr.nil n0
  have pre0 : ∀ t, Steps p.tables e below (s₁.setTop (mkF m 0 #[.val (.ref o0), .val (.long q1), .second] [])) t → Steps p.tables e below (s₁.setTop (entryFrame m #[(.ref o0), (.long q1)] 3)) t := fun t k => castTop (ef_rm5 m o0 q1) k
  obtain ⟨_, _, ⟨T1, L1, k1, n1⟩, -, X1, ⟨Lc1, hQ1, l1, y1, z1⟩, st1⟩ := X0.specialBack hx (y := (⟨"java/lang/Number", "<init>", "()V"⟩ : MethodName)) rfl hown (mvT hZ (hw _ (List.mem_of_getElem? (i := 31) rfl))) (mvT hZ (hw _ (List.mem_of_getElem? (i := 32) rfl))) (mvT hZ (hw _ (List.mem_of_getElem? (i := 36) rfl))) (by decide) (backOf (W := 0) (rm6 l Z a0 hw [] o0 h0 n0 Z0 ) hZ (hw _ (List.mem_of_getElem? (i := 36) rfl)) (hw _ (List.mem_of_getElem? (i := 35) rfl)) (by decide) (by decide)) (g := (mkF m 1 #[.val (.ref o0), .val (.long q1), .second] [(.ref o0)])) rfl (by rw [hml]; rfl) (Steps.refl _) (a := o0) (argsL := []) (rest := []) (lenOf pd_0 rfl) rfl (by show 2 * 0 + _ ≤ _; exact Nat.le_of_eq rfl) (hb hby d5_1) (fun _ _ => ⟨rfl, e0, (by decide : 0 + 0 ≤ _), (by decide : 0 + 0 ≤ _)⟩)
  dsimp only [Pt.U, Pt.locs, Pt.cells, Pt.slots] at X1 l1 y1 z1 st1 hQ1
  subst l1 y1 z1
  obtain ⟨rfl, N1q, e1q⟩ := hQ1
  have N1 := Fr.app N0 N1q
  obtain ⟨T2, h2, X2, e2, W2, st2⟩ := putF X1 hx hZ hown (host := "") (Or.inl (hw _ (List.mem_of_getElem? (i := 38) rfl))) Via.refl e1q F0 E_a (Or.inr ⟨(hw _ (List.mem_of_getElem? (i := 39) rfl)), rfl, hnm⟩) (hw _ (List.mem_of_getElem? (i := 26) rfl)) (ty := .long) (by decide) rfl rfl (g := (mkF m 6 #[.val (.ref o0), .val (.long q1), .second] [(.long q1), (.ref o0)])) rfl rfl (hb hby d5_6)
  have Z3 : n0 ≤ h2.size := Nat.le_trans Z0 (Keep.of_wr W2).1
  have Fw2 := F0.same W2
  have K2 : Keep h0 h2 [o0] := (Keep.refl h0 [o0]).wr W2 (Or.inl (List.mem_of_getElem? (i := 0) rfl))
  have N2 := Fr.snoc X2 N1 g_a
  obtain ⟨fs, hr, hrun, hended, hW, hsame⟩ := X2.leave (v := none) (fun _ => rfl)
  refine ⟨_, _, pre0 _ ?_, hrun, hended, _, _, rfl, ?_, ⟨_, rfl⟩, hW, hsame.mono (by decide) (by decide)⟩
  · show Steps p.tables e below (s₁.setTop (mkF m 0 #[.val (.ref o0), .val (.long q1), .second] [])) _
    refine XS.aloadN X0.here hx rfl (hb hby d5_0) rfl rfl ?_
    show Steps p.tables e below (s₁.setTop (mkF m 1 #[.val (.ref o0), .val (.long q1), .second] [(.ref o0)])) _
    refine st1.trans ?_
    show Steps p.tables e below (T1.setTop (mkF m 4 #[.val (.ref o0), .val (.long q1), .second] [])) _
    refine XS.aloadN X1.here hx rfl (hb hby d5_4) rfl rfl ?_
    show Steps p.tables e below (T1.setTop (mkF m 5 #[.val (.ref o0), .val (.long q1), .second] [(.ref o0)])) _
    refine XS.lloadN X1.here hx rfl (hb hby d5_5) rfl ?_
    show Steps p.tables e below (T1.setTop (mkF m 6 #[.val (.ref o0), .val (.long q1), .second] [(.long q1), (.ref o0)])) _
    refine st2 _ ?_
    show Steps p.tables e below (T2.setTop (mkF m 9 #[.val (.ref o0), .val (.long q1), .second] [])) _
    exact X2.returnOut hx Bd.returns (hb hby d5_9) hr
  · show Q5 Z o0 q1 u0 h0 n0 _ T2.heap _
    rw [e2]
    exact ⟨rfl, N2, K2, (E_a.wr W2), Fw2⟩
theorem d4_0 : decode jdk_35_method_24_code 0 = .ok (.sipush 128, 3) := by decide +kernel
theorem d4_3 : decode jdk_35_method_24_code 3 = .ok (.istore_n 2, 1) := by decide +kernel
theorem d4_4 : decode jdk_35_method_24_code 4 = .ok (.lload_n 0, 1) := by decide +kernel
theorem d4_5 : decode jdk_35_method_24_code 5 = .ok (.ldc2_w 230, 3) := by decide +kernel
theorem d4_8 : decode jdk_35_method_24_code 8 = .ok (.lcmp, 1) := by decide +kernel
theorem d4_9 : decode jdk_35_method_24_code 9 = .ok (.ifCond .lt 22, 3) := by decide +kernel
theorem d4_12 : decode jdk_35_method_24_code 12 = .ok (.lload_n 0, 1) := by decide +kernel
theorem d4_13 : decode jdk_35_method_24_code 13 = .ok (.ldc2_w 232, 3) := by decide +kernel
theorem d4_16 : decode jdk_35_method_24_code 16 = .ok (.lcmp, 1) := by decide +kernel
theorem d4_17 : decode jdk_35_method_24_code 17 = .ok (.ifCond .gt 14, 3) := by decide +kernel
theorem d4_20 : decode jdk_35_method_24_code 20 = .ok (.getstatic 234, 3) := by decide +kernel
theorem d4_23 : decode jdk_35_method_24_code 23 = .ok (.lload_n 0, 1) := by decide +kernel
theorem d4_24 : decode jdk_35_method_24_code 24 = .ok (.l2i, 1) := by decide +kernel
theorem d4_25 : decode jdk_35_method_24_code 25 = .ok (.sipush 128, 3) := by decide +kernel
theorem d4_28 : decode jdk_35_method_24_code 28 = .ok (.iadd, 1) := by decide +kernel
theorem d4_29 : decode jdk_35_method_24_code 29 = .ok (.aaload, 1) := by decide +kernel
theorem d4_30 : decode jdk_35_method_24_code 30 = .ok (.areturn, 1) := by decide +kernel
theorem d4_31 : decode jdk_35_method_24_code 31 = .ok (.new 1, 3) := by decide +kernel
theorem d4_34 : decode jdk_35_method_24_code 34 = .ok (.dup, 1) := by decide +kernel
theorem d4_35 : decode jdk_35_method_24_code 35 = .ok (.lload_n 0, 1) := by decide +kernel
theorem d4_36 : decode jdk_35_method_24_code 36 = .ok (.invokespecial 240, 3) := by decide +kernel
theorem d4_39 : decode jdk_35_method_24_code 39 = .ok (.areturn, 1) := by decide +kernel
theorem ef_rm4 (m : MethodId) (q0 : Int64) : entryFrame m #[(.long q0)] 3 = mkF m 0 #[.val (.long q0), .second, .unset] [] := by first | (simp [entryFrame, mkF, argsToLocals, Value.category]; done) | rfl
def Q4 (Z : State) (q0 : Int64) (ca : Addr) (cl : Cell) (h0 : Heap) (n0 : Nat) (v : Option Value) (h : Heap) (L : List Loc) : Prop := ∃ b : Addr, v = some (.ref b) ∧ Fr n0 L ∧ Keep h0 h [] ∧ Exa Z h b "java/lang/Long"
set_option maxRecDepth 65536 in
set_option maxHeartbeats 40000000 in
theorem rm4 (l : Launch) (Z : State) (a0 : Array Value) (hw : ∀ d ∈ tables_1, d.before a0 Z = true) (ws : List Jvm.Cond) (q0 : Int64) (ca : Addr) (cl : Cell) (h0 : Heap) (n0 : Nat) (Z0 : n0 ≤ h0.size) (O0 : Old Z n0 h0) (SC : Sta Z Z.heap "java/lang/Long$LongCache" "cache" "[Ljava/lang/Long;" (.ref ca)) (BX : Bxs Z ca cl "java/lang/Long" "J" (256 : Int32) own_val) :
    MetFree l (⟨"java/lang/Long", "valueOf", "(J)Ljava/lang/Long;"⟩ : MethodName) (head1 (Jvm.Cond.code (⟨"java/lang/Long", "valueOf", "(J)Ljava/lang/Long;"⟩ : MethodName) jdk_35_method_24_code 3 (some (.object "java/lang/Long")) :: ws) ({ frames := 3, cells := 1, slots := 1, locals := 40 } : Room)) (fun a U => a = #[(.long q0)] ∧ Z.Warmed39 U.vm ∧ U.heap = h0) (fun _ _ _ _ _ => True) (fun _ U o U' => ∃ v L, o = .returned v ∧ Q4 Z q0 ca cl h0 n0 v U'.heap L ∧ FrameEnd U o U' L ({ frames := 3, cells := 1, slots := 1, locals := 40 } : Room).cells ({ frames := 3, cells := 1, slots := 1, locals := 40 } : Room).slots) := by
  refine MetFree.of_bodySF (plainFor_of_name pn_2) hisR ?_
  intro p e s m args below meth c s₁ Bd hml0 hP hK
  obtain ⟨rfl, hZ, hh⟩ := hP
  have hx := Bd.exec
  have hby := Bd.bytes
  have hml : c.maxLocals = 3 := hml0
  have hown : s.vm.findClass "java/lang/Long" = some m.cls := findClass_of_methodNamed Bd.named
  have hnm := (name_of_methodNamed Bd.named Bd.method).1
  have X0 : Stand p l e ({ frames := 3, cells := 1, slots := 1, locals := 40 } : Room) s m #[(.long q0)] below meth c s₁ [] 0 0 := Stand.of_body Bd
  have e0 : s₁.heap = h0 := by rw [← hh, Bd.state]; rfl
  have N0 := Fr.nil n0
  have pre0 : ∀ t, Steps p.tables e below (s₁.setTop (mkF m 0 #[.val (.long q0), .second, .unset] [])) t → Steps p.tables e below (s₁.setTop (entryFrame m #[(.long q0)] 3)) t := fun t k => castTop (ef_rm4 m q0) k
  have pre1 : ∀ t, Steps p.tables e below (s₁.setTop (mkF m 9 #[.val (.long q0), .second, .val (.int (128 : Int32))] [(.int (lcmpW q0 (-128 : Int64)))])) t → Steps p.tables e below (s₁.setTop (entryFrame m #[(.long q0)] 3)) t := by
    intro t kt
    refine pre0 _ ?_
    show Steps p.tables e below (s₁.setTop (mkF m 0 #[.val (.long q0), .second, .unset] [])) _
    refine XS.sipush X0.here hx rfl (hb hby d4_0) ?_
    show Steps p.tables e below (s₁.setTop (mkF m 3 #[.val (.long q0), .second, .unset] [(.int (128 : Int32))])) _
    refine XS.istoreN X0.here hx rfl (hb hby d4_3) rfl (l' := #[.val (.long q0), .second, .val (.int (128 : Int32))]) rfl ?_
    show Steps p.tables e below (s₁.setTop (mkF m 4 #[.val (.long q0), .second, .val (.int (128 : Int32))] [])) _
    refine XS.lloadN X0.here hx rfl (hb hby d4_4) rfl ?_
    show Steps p.tables e below (s₁.setTop (mkF m 5 #[.val (.long q0), .second, .val (.int (128 : Int32))] [(.long q0)])) _
    refine X0.ldc2Long hx hown (mvT hZ (hw _ (List.mem_of_getElem? (i := 24) rfl))) (g := (mkF m 5 #[.val (.long q0), .second, .val (.int (128 : Int32))] [(.long q0)])) rfl (hb hby d4_5) _ ?_
    show Steps p.tables e below (s₁.setTop (mkF m 8 #[.val (.long q0), .second, .val (.int (128 : Int32))] [(.long (-128 : Int64)), (.long q0)])) _
    refine XS.lcmp X0.here hx rfl (hb hby d4_8) rfl ?_
    exact kt
  by_cases hc9 : q0 < (-128 : Int64)
  · -- q0 < (-128 : Int64)
    obtain ⟨T2, h2, X2, e2, E2, A2, D2, -, st2⟩ := newO X0 hx hZ hown (hw _ (List.mem_of_getElem? (i := 25) rfl)) (hw _ (List.mem_of_getElem? (i := 26) rfl)) (hw _ (List.mem_of_getElem? (i := 22) rfl)) e0 (g := (mkF m 31 #[.val (.long q0), .second, .val (.int (128 : Int32))] [])) rfl (hb hby d4_31) (by decide) (by decide)
    obtain ⟨b2, g2⟩ : ∃ z, z = h0.size := ⟨_, rfl⟩
    rw [← g2] at A2 D2 st2
    have gn2 : n0 ≤ b2 := Nat.le_trans Z0 (Nat.le_of_eq g2.symm)
    have sz2 : h0.size ≤ b2 := Nat.le_trans (Keep.refl h0 []).1 (Nat.le_of_eq g2.symm)
    have Z3 : n0 ≤ h2.size := Nat.le_trans Z0 E2.1
    have K2 : Keep h0 h2 [] := (Keep.refl h0 []).ext E2
    have Fn2_39 : Fld Z h2 b2 "java/lang/Long" "value" "J" (.long (0 : Int64)) := D2 (Or.inr (hw _ (List.mem_of_getElem? (i := 39) rfl))) (ty := .long) (by decide)
    obtain ⟨_, _, ⟨T4, L4, k4, n4⟩, -, X4, ⟨Lc4, hQ4, l4, y4, z4⟩, st4⟩ := X2.specialBack hx (y := (⟨"java/lang/Long", "<init>", "(J)V"⟩ : MethodName)) rfl hown (mvT hZ (hw _ (List.mem_of_getElem? (i := 27) rfl))) (mvT hZ (hw _ (List.mem_of_getElem? (i := 28) rfl))) (mvT hZ (hw _ (List.mem_of_getElem? (i := 30) rfl))) (by decide) (backOf (W := 1) (rm5 l Z a0 hw [] b2 q0 _ h2 n0 Z3 A2 gn2 Fn2_39) hZ (hw _ (List.mem_of_getElem? (i := 30) rfl)) (hw _ (List.mem_of_getElem? (i := 22) rfl)) (by decide) (by decide)) (g := (mkF m 36 #[.val (.long q0), .second, .val (.int (128 : Int32))] [(.long q0), (.ref b2), (.ref b2)])) rfl (by rw [hml]; rfl) (Steps.refl _) (a := b2) (argsL := [(.long q0)]) (rest := [(.ref b2)]) (lenOf pd_1 rfl) rfl (by show 2 * 0 + _ ≤ _; exact Nat.le_of_eq rfl) (hb hby d4_36) (fun _ _ => ⟨rfl, e2, (by decide : 1 + 0 ≤ _), (by decide : 1 + 0 ≤ _)⟩)
    dsimp only [Pt.U, Pt.locs, Pt.cells, Pt.slots] at X4 l4 y4 z4 st4 hQ4
    subst l4 y4 z4
    obtain ⟨rfl, N4q, K4, A4x, Fc4_0⟩ := hQ4
    have N4 := Fr.app N0 N4q
    have Z5 : n0 ≤ T4.heap.size := Nat.le_trans Z3 K4.1
    have KK4 : Keep h0 T4.heap [] := K2.trans K4 (fun x hx => Or.inr (by cases List.mem_singleton.mp hx; exact sz2))
    have Fg4_0 : Fld Z T4.heap b2 "java/lang/Long" "value" "J" (.long q0) := Fc4_0
    obtain ⟨fs, hr, hrun, hended, hW, hsame⟩ := X4.leave (v := some (.ref b2)) (fun h => by rw [Bd.returns] at h; cases h)
    refine ⟨_, _, pre1 _ ?_, hrun, hended, _, _, rfl, ?_, ⟨_, rfl⟩, hW, hsame.mono (by decide) (by decide)⟩
    · show Steps p.tables e below (s₁.setTop (mkF m 9 #[.val (.long q0), .second, .val (.int (128 : Int32))] [(.int (lcmpW q0 (-128 : Int64)))])) _
      refine XS.ifYes X0.here hx rfl (pc0 := 9) (pc' := 31) rfl (hb hby d4_9) rfl ((if0 _ _).trans (tlt ((lw_lt _ _).mpr hc9)).1) (by decide) (by decide) ?_
      show Steps p.tables e below (s₁.setTop (mkF m 31 #[.val (.long q0), .second, .val (.int (128 : Int32))] [])) _
      refine st2 _ ?_
      show Steps p.tables e below (T2.setTop (mkF m 34 #[.val (.long q0), .second, .val (.int (128 : Int32))] [(.ref b2)])) _
      refine XS.dup X2.here hx rfl (hb hby d4_34) rfl rfl ?_
      show Steps p.tables e below (T2.setTop (mkF m 35 #[.val (.long q0), .second, .val (.int (128 : Int32))] [(.ref b2), (.ref b2)])) _
      refine XS.lloadN X2.here hx rfl (hb hby d4_35) rfl ?_
      show Steps p.tables e below (T2.setTop (mkF m 36 #[.val (.long q0), .second, .val (.int (128 : Int32))] [(.long q0), (.ref b2), (.ref b2)])) _
      refine st4.trans ?_
      show Steps p.tables e below (T4.setTop (mkF m 39 #[.val (.long q0), .second, .val (.int (128 : Int32))] [(.ref b2)])) _
      jvm_step X4.here [X4.here.top, hx, (hb hby d4_39), X4.method', Bd.returns, Value.isRef, FieldType.isReference]
      first | (intro acts; rw [hr _ acts rfl rfl rfl]) | rw [hr _ _ rfl rfl rfl]
      exact Steps.refl _
    · show Q4 Z q0 ca cl h0 n0 _ T4.heap _
      exact ⟨_, rfl, N4, KK4, A4x⟩
  · -- not q0 < (-128 : Int64)
    have pre7 : ∀ t, Steps p.tables e below (s₁.setTop (mkF m 17 #[.val (.long q0), .second, .val (.int (128 : Int32))] [(.int (lcmpW q0 (127 : Int64)))])) t → Steps p.tables e below (s₁.setTop (entryFrame m #[(.long q0)] 3)) t := by
      intro t kt
      refine pre1 _ ?_
      show Steps p.tables e below (s₁.setTop (mkF m 9 #[.val (.long q0), .second, .val (.int (128 : Int32))] [(.int (lcmpW q0 (-128 : Int64)))])) _
      refine XS.ifNo X0.here hx rfl (hb hby d4_9) rfl ((if0 _ _).trans (flt ((not_congr (lw_lt _ _)).mpr hc9)).1) ?_
      show Steps p.tables e below (s₁.setTop (mkF m 12 #[.val (.long q0), .second, .val (.int (128 : Int32))] [])) _
      refine XS.lloadN X0.here hx rfl (hb hby d4_12) rfl ?_
      show Steps p.tables e below (s₁.setTop (mkF m 13 #[.val (.long q0), .second, .val (.int (128 : Int32))] [(.long q0)])) _
      refine X0.ldc2Long hx hown (mvT hZ (hw _ (List.mem_of_getElem? (i := 43) rfl))) (g := (mkF m 13 #[.val (.long q0), .second, .val (.int (128 : Int32))] [(.long q0)])) rfl (hb hby d4_13) _ ?_
      show Steps p.tables e below (s₁.setTop (mkF m 16 #[.val (.long q0), .second, .val (.int (128 : Int32))] [(.long (127 : Int64)), (.long q0)])) _
      refine XS.lcmp X0.here hx rfl (hb hby d4_16) rfl ?_
      exact kt
    by_cases hc17 : (127 : Int64) < q0
    · -- (127 : Int64) < q0
      obtain ⟨T8, h8, X8, e8, E8, A8, D8, -, st8⟩ := newO X0 hx hZ hown (hw _ (List.mem_of_getElem? (i := 25) rfl)) (hw _ (List.mem_of_getElem? (i := 26) rfl)) (hw _ (List.mem_of_getElem? (i := 22) rfl)) e0 (g := (mkF m 31 #[.val (.long q0), .second, .val (.int (128 : Int32))] [])) rfl (hb hby d4_31) (by decide) (by decide)
      obtain ⟨b8, g8⟩ : ∃ z, z = h0.size := ⟨_, rfl⟩
      rw [← g8] at A8 D8 st8
      have gn8 : n0 ≤ b8 := Nat.le_trans Z0 (Nat.le_of_eq g8.symm)
      have sz8 : h0.size ≤ b8 := Nat.le_trans (Keep.refl h0 []).1 (Nat.le_of_eq g8.symm)
      have Z9 : n0 ≤ h8.size := Nat.le_trans Z0 E8.1
      have K8 : Keep h0 h8 [] := (Keep.refl h0 []).ext E8
      have Fn8_39 : Fld Z h8 b8 "java/lang/Long" "value" "J" (.long (0 : Int64)) := D8 (Or.inr (hw _ (List.mem_of_getElem? (i := 39) rfl))) (ty := .long) (by decide)
      obtain ⟨_, _, ⟨T10, L10, k10, n10⟩, -, X10, ⟨Lc10, hQ10, l10, y10, z10⟩, st10⟩ := X8.specialBack hx (y := (⟨"java/lang/Long", "<init>", "(J)V"⟩ : MethodName)) rfl hown (mvT hZ (hw _ (List.mem_of_getElem? (i := 27) rfl))) (mvT hZ (hw _ (List.mem_of_getElem? (i := 28) rfl))) (mvT hZ (hw _ (List.mem_of_getElem? (i := 30) rfl))) (by decide) (backOf (W := 1) (rm5 l Z a0 hw [] b8 q0 _ h8 n0 Z9 A8 gn8 Fn8_39) hZ (hw _ (List.mem_of_getElem? (i := 30) rfl)) (hw _ (List.mem_of_getElem? (i := 22) rfl)) (by decide) (by decide)) (g := (mkF m 36 #[.val (.long q0), .second, .val (.int (128 : Int32))] [(.long q0), (.ref b8), (.ref b8)])) rfl (by rw [hml]; rfl) (Steps.refl _) (a := b8) (argsL := [(.long q0)]) (rest := [(.ref b8)]) (lenOf pd_1 rfl) rfl (by show 2 * 0 + _ ≤ _; exact Nat.le_of_eq rfl) (hb hby d4_36) (fun _ _ => ⟨rfl, e8, (by decide : 1 + 0 ≤ _), (by decide : 1 + 0 ≤ _)⟩)
      dsimp only [Pt.U, Pt.locs, Pt.cells, Pt.slots] at X10 l10 y10 z10 st10 hQ10
      subst l10 y10 z10
      obtain ⟨rfl, N10q, K10, A10x, Fc10_0⟩ := hQ10
      have N10 := Fr.app N0 N10q
      have Z11 : n0 ≤ T10.heap.size := Nat.le_trans Z9 K10.1
      have KK10 : Keep h0 T10.heap [] := K8.trans K10 (fun x hx => Or.inr (by cases List.mem_singleton.mp hx; exact sz8))
      have Fg10_0 : Fld Z T10.heap b8 "java/lang/Long" "value" "J" (.long q0) := Fc10_0
      obtain ⟨fs, hr, hrun, hended, hW, hsame⟩ := X10.leave (v := some (.ref b8)) (fun h => by rw [Bd.returns] at h; cases h)
      refine ⟨_, _, pre7 _ ?_, hrun, hended, _, _, rfl, ?_, ⟨_, rfl⟩, hW, hsame.mono (by decide) (by decide)⟩
      · show Steps p.tables e below (s₁.setTop (mkF m 17 #[.val (.long q0), .second, .val (.int (128 : Int32))] [(.int (lcmpW q0 (127 : Int64)))])) _
        refine XS.ifYes X0.here hx rfl (pc0 := 17) (pc' := 31) rfl (hb hby d4_17) rfl ((if0 _ _).trans (tlt ((lw_gt _ _).mpr hc17)).2.2.1) (by decide) (by decide) ?_
        show Steps p.tables e below (s₁.setTop (mkF m 31 #[.val (.long q0), .second, .val (.int (128 : Int32))] [])) _
        refine st8 _ ?_
        show Steps p.tables e below (T8.setTop (mkF m 34 #[.val (.long q0), .second, .val (.int (128 : Int32))] [(.ref b8)])) _
        refine XS.dup X8.here hx rfl (hb hby d4_34) rfl rfl ?_
        show Steps p.tables e below (T8.setTop (mkF m 35 #[.val (.long q0), .second, .val (.int (128 : Int32))] [(.ref b8), (.ref b8)])) _
        refine XS.lloadN X8.here hx rfl (hb hby d4_35) rfl ?_
        show Steps p.tables e below (T8.setTop (mkF m 36 #[.val (.long q0), .second, .val (.int (128 : Int32))] [(.long q0), (.ref b8), (.ref b8)])) _
        refine st10.trans ?_
        show Steps p.tables e below (T10.setTop (mkF m 39 #[.val (.long q0), .second, .val (.int (128 : Int32))] [(.ref b8)])) _
        jvm_step X10.here [X10.here.top, hx, (hb hby d4_39), X10.method', Bd.returns, Value.isRef, FieldType.isReference]
        first | (intro acts; rw [hr _ acts rfl rfl rfl]) | rw [hr _ _ rfl rfl rfl]
        exact Steps.refl _
      · show Q4 Z q0 ca cl h0 n0 _ T10.heap _
        exact ⟨_, rfl, N10, KK10, A10x⟩
    · -- not (127 : Int64) < q0
      have hin : ¬ (((q0.toInt32) + (128 : Int32)) < 0 ∨ cl.slots.size ≤ ((q0.toInt32) + (128 : Int32)).toNatClampNeg) := by rw [BX.2.1]; exact own_place q0 hc9 hc17
      obtain ⟨bx, hat, EX, -⟩ := BX.2.2.2 _ hin
      have ARC := BX.1.ext O0.2
      have f13 := (SC.ext O0.2)
      obtain ⟨T14, X14, e14, st14⟩ := getS2 X0 hx hZ hown (host := "") (Or.inl (hw _ (List.mem_of_getElem? (i := 44) rfl))) Via.refl e0 f13 (g := (mkF m 20 #[.val (.long q0), .second, .val (.int (128 : Int32))] [])) rfl (hb hby d4_20)
      obtain ⟨fs, hr, hrun, hended, hW, hsame⟩ := X14.leave (v := some (.ref bx)) (fun h => by rw [Bd.returns] at h; cases h)
      refine ⟨_, _, pre7 _ ?_, hrun, hended, _, _, rfl, ?_, ⟨_, rfl⟩, hW, hsame.mono (by decide) (by decide)⟩
      · show Steps p.tables e below (s₁.setTop (mkF m 17 #[.val (.long q0), .second, .val (.int (128 : Int32))] [(.int (lcmpW q0 (127 : Int64)))])) _
        refine XS.ifNo X0.here hx rfl (hb hby d4_17) rfl ((if0 _ _).trans (flt ((not_congr (lw_gt _ _)).mpr hc17)).2.2.1) ?_
        show Steps p.tables e below (s₁.setTop (mkF m 20 #[.val (.long q0), .second, .val (.int (128 : Int32))] [])) _
        refine st14 _ ?_
        show Steps p.tables e below (T14.setTop (mkF m 23 #[.val (.long q0), .second, .val (.int (128 : Int32))] [(.ref ca)])) _
        refine XS.lloadN X14.here hx rfl (hb hby d4_23) rfl ?_
        show Steps p.tables e below (T14.setTop (mkF m 24 #[.val (.long q0), .second, .val (.int (128 : Int32))] [(.long q0), (.ref ca)])) _
        refine XS.l2i X14.here hx rfl (hb hby d4_24) rfl ?_
        show Steps p.tables e below (T14.setTop (mkF m 25 #[.val (.long q0), .second, .val (.int (128 : Int32))] [(.int (q0.toInt32)), (.ref ca)])) _
        refine XS.sipush X14.here hx rfl (hb hby d4_25) ?_
        show Steps p.tables e below (T14.setTop (mkF m 28 #[.val (.long q0), .second, .val (.int (128 : Int32))] [(.int (128 : Int32)), (.int (q0.toInt32)), (.ref ca)])) _
        refine XS.iadd X14.here hx rfl (hb hby d4_28) rfl ?_
        show Steps p.tables e below (T14.setTop (mkF m 29 #[.val (.long q0), .second, .val (.int (128 : Int32))] [(.int ((q0.toInt32) + (128 : Int32))), (.ref ca)])) _
        refine X14.aaload hx (j := ((q0.toInt32) + (128 : Int32))) (v := (.ref bx)) (by rw [e14]; exact ARC.1) (State.isArrayOf_alike hZ.alike ARC.2.1) rfl ARC.2.2 hin hat (g := (mkF m 29 #[.val (.long q0), .second, .val (.int (128 : Int32))] [(.int ((q0.toInt32) + (128 : Int32))), (.ref ca)])) rfl rfl (hb hby d4_29) _ ?_
        show Steps p.tables e below (T14.setTop (mkF m 30 #[.val (.long q0), .second, .val (.int (128 : Int32))] [(.ref bx)])) _
        jvm_step X14.here [X14.here.top, hx, (hb hby d4_30), X14.method', Bd.returns, Value.isRef, FieldType.isReference]
        first | (intro acts; rw [hr _ acts rfl rfl rfl]) | rw [hr _ _ rfl rfl rfl]
        exact Steps.refl _
      · show Q4 Z q0 ca cl h0 n0 _ T14.heap _
        rw [e14]
        exact ⟨_, rfl, N0, (Keep.refl h0 []), (EX.ext O0.2)⟩
theorem d3_0 : decode prog_190_method_8_code 0 = .ok (.aload_n 1, 1) := by decide +kernel
theorem d3_1 : decode prog_190_method_8_code 1 = .ok (.instanceof 10, 3) := by decide +kernel
theorem d3_4 : decode prog_190_method_8_code 4 = .ok (.ifCond .eq 36, 3) := by decide +kernel
theorem d3_7 : decode prog_190_method_8_code 7 = .ok (.aload_n 1, 1) := by decide +kernel
theorem d3_8 : decode prog_190_method_8_code 8 = .ok (.checkcast 10, 3) := by decide +kernel
theorem d3_11 : decode prog_190_method_8_code 11 = .ok (.astore_n 2, 1) := by decide +kernel
theorem d3_12 : decode prog_190_method_8_code 12 = .ok (.aload_n 0, 1) := by decide +kernel
theorem d3_13 : decode prog_190_method_8_code 13 = .ok (.getfield 9, 3) := by decide +kernel
theorem d3_16 : decode prog_190_method_8_code 16 = .ok (.aload_n 2, 1) := by decide +kernel
theorem d3_17 : decode prog_190_method_8_code 17 = .ok (.getfield 9, 3) := by decide +kernel
theorem d3_20 : decode prog_190_method_8_code 20 = .ok (.lcmp, 1) := by decide +kernel
theorem d3_21 : decode prog_190_method_8_code 21 = .ok (.ifCond .ne 19, 3) := by decide +kernel
theorem d3_24 : decode prog_190_method_8_code 24 = .ok (.aload_n 0, 1) := by decide +kernel
theorem d3_25 : decode prog_190_method_8_code 25 = .ok (.getfield 15, 3) := by decide +kernel
theorem d3_28 : decode prog_190_method_8_code 28 = .ok (.aload_n 2, 1) := by decide +kernel
theorem d3_29 : decode prog_190_method_8_code 29 = .ok (.getfield 15, 3) := by decide +kernel
theorem d3_32 : decode prog_190_method_8_code 32 = .ok (.lcmp, 1) := by decide +kernel
theorem d3_33 : decode prog_190_method_8_code 33 = .ok (.ifCond .ne 7, 3) := by decide +kernel
theorem d3_36 : decode prog_190_method_8_code 36 = .ok (.iconst 1, 1) := by decide +kernel
theorem d3_37 : decode prog_190_method_8_code 37 = .ok (.goto 4, 3) := by decide +kernel
theorem d3_40 : decode prog_190_method_8_code 40 = .ok (.iconst 0, 1) := by decide +kernel
theorem d3_41 : decode prog_190_method_8_code 41 = .ok (.ireturn, 1) := by decide +kernel
theorem ef_rm3 (m : MethodId) (o0 : Addr) (o1 : Addr) : entryFrame m #[(.ref o0), (.ref o1)] 3 = mkF m 0 #[.val (.ref o0), .val (.ref o1), .unset] [] := by first | (simp [entryFrame, mkF, argsToLocals, Value.category]; done) | rfl
def Q3 (Z : State) (o0 : Addr) (o1 : Addr) (s1 : Int64) (l1 : Int64) (s2 : Int64) (l2 : Int64) (h0 : Heap) (n0 : Nat) (v : Option Value) (h : Heap) (L : List Loc) : Prop := v = some (.int (own_eq s1 l1 s2 l2)) ∧ Fr n0 L ∧ h = h0
set_option maxRecDepth 65536 in
set_option maxHeartbeats 40000000 in
theorem rm3 (l : Launch) (Z : State) (a0 : Array Value) (hw : ∀ d ∈ tables_1, d.before a0 Z = true) (ws : List Jvm.Cond) (o0 : Addr) (o1 : Addr) (s1 : Int64) (l1 : Int64) (s2 : Int64) (l2 : Int64) (h0 : Heap) (n0 : Nat) (Z0 : n0 ≤ h0.size) (E1 : Exa Z h0 o1 "com/example/sarasvati/sarasvati/window/Window") (Fs1 : Fld Z h0 o0 "com/example/sarasvati/sarasvati/window/Window" "startMs" "J" (.long s1)) (Fl1 : Fld Z h0 o0 "com/example/sarasvati/sarasvati/window/Window" "lengthMs" "J" (.long l1)) (Fs2 : Fld Z h0 o1 "com/example/sarasvati/sarasvati/window/Window" "startMs" "J" (.long s2)) (Fl2 : Fld Z h0 o1 "com/example/sarasvati/sarasvati/window/Window" "lengthMs" "J" (.long l2)) :
    MetFree l (⟨"com/example/sarasvati/sarasvati/window/Window", "equals", "(Ljava/lang/Object;)Z"⟩ : MethodName) (head1 (Jvm.Cond.code (⟨"com/example/sarasvati/sarasvati/window/Window", "equals", "(Ljava/lang/Object;)Z"⟩ : MethodName) prog_190_method_8_code 3 (some .boolean) :: ws) ({ frames := 0, cells := 0, slots := 0, locals := 0 } : Room)) (fun a U => a = #[(.ref o0), (.ref o1)] ∧ Z.Warmed39 U.vm ∧ U.heap = h0) (fun _ _ _ _ _ => True) (fun _ U o U' => ∃ v L, o = .returned v ∧ Q3 Z o0 o1 s1 l1 s2 l2 h0 n0 v U'.heap L ∧ FrameEnd U o U' L ({ frames := 0, cells := 0, slots := 0, locals := 0 } : Room).cells ({ frames := 0, cells := 0, slots := 0, locals := 0 } : Room).slots) := by
  refine MetFree.of_bodySF (plainFor_of_name pn_0) hisR ?_
  intro p e s m args below meth c s₁ Bd hml0 hP hK
  obtain ⟨rfl, hZ, hh⟩ := hP
  have hx := Bd.exec
  have hby := Bd.bytes
  have hml : c.maxLocals = 3 := hml0
  have hown : s.vm.findClass "com/example/sarasvati/sarasvati/window/Window" = some m.cls := findClass_of_methodNamed Bd.named
  have hnm := (name_of_methodNamed Bd.named Bd.method).1
  have X0 : Stand p l e ({ frames := 0, cells := 0, slots := 0, locals := 0 } : Room) s m #[(.ref o0), (.ref o1)] below meth c s₁ [] 0 0 := Stand.of_body Bd
  have e0 : s₁.heap = h0 := by rw [← hh, Bd.state]; rfl
  have N0 := Fr.nil n0
  have pre0 : ∀ t, Steps p.tables e below (s₁.setTop (mkF m 0 #[.val (.ref o0), .val (.ref o1), .unset] [])) t → Steps p.tables e below (s₁.setTop (entryFrame m #[(.ref o0), (.ref o1)] 3)) t := fun t k => castTop (ef_rm3 m o0 o1) k
  obtain ⟨T1, X1, e1, st1⟩ := instY X0 hx hZ hown (hw _ (List.mem_of_getElem? (i := 18) rfl)) e0 (Ins.self E1) (g := (mkF m 1 #[.val (.ref o0), .val (.ref o1), .unset] [(.ref o1)])) rfl rfl (hb hby d3_1)
  obtain ⟨T2, X2, e2, st2⟩ := castY X1 hx hZ hown (hw _ (List.mem_of_getElem? (i := 18) rfl)) e1 (Ins.self E1) (g := (mkF m 8 #[.val (.ref o0), .val (.ref o1), .unset] [(.ref o1)])) rfl rfl (hb hby d3_8)
  obtain ⟨T3, X3, e3, st3⟩ := getF X2 hx hZ hown (host := "") (Or.inl (hw _ (List.mem_of_getElem? (i := 9) rfl))) Via.refl e2 Fs1 (g := (mkF m 13 #[.val (.ref o0), .val (.ref o1), .val (.ref o1)] [(.ref o0)])) rfl rfl (hb hby d3_13)
  obtain ⟨T4, X4, e4, st4⟩ := getF X3 hx hZ hown (host := "") (Or.inl (hw _ (List.mem_of_getElem? (i := 9) rfl))) Via.refl e3 Fs2 (g := (mkF m 17 #[.val (.ref o0), .val (.ref o1), .val (.ref o1)] [(.ref o1), (.long s1)])) rfl rfl (hb hby d3_17)
  have pre5 : ∀ t, Steps p.tables e below (T4.setTop (mkF m 21 #[.val (.ref o0), .val (.ref o1), .val (.ref o1)] [(.int (lcmpW s1 s2))])) t → Steps p.tables e below (s₁.setTop (entryFrame m #[(.ref o0), (.ref o1)] 3)) t := by
    intro t kt
    refine pre0 _ ?_
    show Steps p.tables e below (s₁.setTop (mkF m 0 #[.val (.ref o0), .val (.ref o1), .unset] [])) _
    refine XS.aloadN X0.here hx rfl (hb hby d3_0) rfl rfl ?_
    show Steps p.tables e below (s₁.setTop (mkF m 1 #[.val (.ref o0), .val (.ref o1), .unset] [(.ref o1)])) _
    refine st1 _ ?_
    show Steps p.tables e below (T1.setTop (mkF m 4 #[.val (.ref o0), .val (.ref o1), .unset] [(.int (1 : Int32))])) _
    refine XS.ifNo X1.here hx rfl (hb hby d3_4) rfl ((if0 _ _).trans (feq (by decide : ¬ ((1 : Int32) = (0 : Int32)))).1) ?_
    show Steps p.tables e below (T1.setTop (mkF m 7 #[.val (.ref o0), .val (.ref o1), .unset] [])) _
    refine XS.aloadN X1.here hx rfl (hb hby d3_7) rfl rfl ?_
    show Steps p.tables e below (T1.setTop (mkF m 8 #[.val (.ref o0), .val (.ref o1), .unset] [(.ref o1)])) _
    refine st2 _ ?_
    show Steps p.tables e below (T2.setTop (mkF m 11 #[.val (.ref o0), .val (.ref o1), .unset] [(.ref o1)])) _
    refine XS.astoreN X2.here hx rfl (hb hby d3_11) rfl rfl (l' := #[.val (.ref o0), .val (.ref o1), .val (.ref o1)]) rfl ?_
    show Steps p.tables e below (T2.setTop (mkF m 12 #[.val (.ref o0), .val (.ref o1), .val (.ref o1)] [])) _
    refine XS.aloadN X2.here hx rfl (hb hby d3_12) rfl rfl ?_
    show Steps p.tables e below (T2.setTop (mkF m 13 #[.val (.ref o0), .val (.ref o1), .val (.ref o1)] [(.ref o0)])) _
    refine st3 _ ?_
    show Steps p.tables e below (T3.setTop (mkF m 16 #[.val (.ref o0), .val (.ref o1), .val (.ref o1)] [(.long s1)])) _
    refine XS.aloadN X3.here hx rfl (hb hby d3_16) rfl rfl ?_
    show Steps p.tables e below (T3.setTop (mkF m 17 #[.val (.ref o0), .val (.ref o1), .val (.ref o1)] [(.ref o1), (.long s1)])) _
    refine st4 _ ?_
    show Steps p.tables e below (T4.setTop (mkF m 20 #[.val (.ref o0), .val (.ref o1), .val (.ref o1)] [(.long s2), (.long s1)])) _
    refine XS.lcmp X4.here hx rfl (hb hby d3_20) rfl ?_
    exact kt
  by_cases hc21 : s1 = s2
  · -- s1 = s2
    obtain ⟨T6, X6, e6, st6⟩ := getF X4 hx hZ hown (host := "") (Or.inl (hw _ (List.mem_of_getElem? (i := 11) rfl))) Via.refl e4 Fl1 (g := (mkF m 25 #[.val (.ref o0), .val (.ref o1), .val (.ref o1)] [(.ref o0)])) rfl rfl (hb hby d3_25)
    obtain ⟨T7, X7, e7, st7⟩ := getF X6 hx hZ hown (host := "") (Or.inl (hw _ (List.mem_of_getElem? (i := 11) rfl))) Via.refl e6 Fl2 (g := (mkF m 29 #[.val (.ref o0), .val (.ref o1), .val (.ref o1)] [(.ref o1), (.long l1)])) rfl rfl (hb hby d3_29)
    have pre8 : ∀ t, Steps p.tables e below (T7.setTop (mkF m 33 #[.val (.ref o0), .val (.ref o1), .val (.ref o1)] [(.int (lcmpW l1 l2))])) t → Steps p.tables e below (s₁.setTop (entryFrame m #[(.ref o0), (.ref o1)] 3)) t := by
      intro t kt
      refine pre5 _ ?_
      show Steps p.tables e below (T4.setTop (mkF m 21 #[.val (.ref o0), .val (.ref o1), .val (.ref o1)] [(.int (lcmpW s1 s2))])) _
      refine XS.ifNo X4.here hx rfl (hb hby d3_21) rfl ((if0 _ _).trans (teq ((lw_eq _ _).mpr hc21)).2) ?_
      show Steps p.tables e below (T4.setTop (mkF m 24 #[.val (.ref o0), .val (.ref o1), .val (.ref o1)] [])) _
      refine XS.aloadN X4.here hx rfl (hb hby d3_24) rfl rfl ?_
      show Steps p.tables e below (T4.setTop (mkF m 25 #[.val (.ref o0), .val (.ref o1), .val (.ref o1)] [(.ref o0)])) _
      refine st6 _ ?_
      show Steps p.tables e below (T6.setTop (mkF m 28 #[.val (.ref o0), .val (.ref o1), .val (.ref o1)] [(.long l1)])) _
      refine XS.aloadN X6.here hx rfl (hb hby d3_28) rfl rfl ?_
      show Steps p.tables e below (T6.setTop (mkF m 29 #[.val (.ref o0), .val (.ref o1), .val (.ref o1)] [(.ref o1), (.long l1)])) _
      refine st7 _ ?_
      show Steps p.tables e below (T7.setTop (mkF m 32 #[.val (.ref o0), .val (.ref o1), .val (.ref o1)] [(.long l2), (.long l1)])) _
      refine XS.lcmp X7.here hx rfl (hb hby d3_32) rfl ?_
      exact kt
    by_cases hc33 : l1 = l2
    · -- l1 = l2
      obtain ⟨fs, hr, hrun, hended, hW, hsame⟩ := X7.leave (v := some (.int (1 : Int32))) (fun h => by rw [Bd.returns] at h; cases h)
      refine ⟨_, _, pre8 _ ?_, hrun, hended, _, _, rfl, ?_, ⟨_, rfl⟩, hW, hsame.mono (by decide) (by decide)⟩
      · show Steps p.tables e below (T7.setTop (mkF m 33 #[.val (.ref o0), .val (.ref o1), .val (.ref o1)] [(.int (lcmpW l1 l2))])) _
        refine XS.ifNo X7.here hx rfl (hb hby d3_33) rfl ((if0 _ _).trans (teq ((lw_eq _ _).mpr hc33)).2) ?_
        show Steps p.tables e below (T7.setTop (mkF m 36 #[.val (.ref o0), .val (.ref o1), .val (.ref o1)] [])) _
        refine XS.iconst X7.here hx rfl (hb hby d3_36) ?_
        show Steps p.tables e below (T7.setTop (mkF m 37 #[.val (.ref o0), .val (.ref o1), .val (.ref o1)] [(.int (1 : Int32))])) _
        refine XS.goto X7.here hx rfl (pc0 := 37) (pc' := 41) rfl (hb hby d3_37) (by decide) (by decide) ?_
        show Steps p.tables e below (T7.setTop (mkF m 41 #[.val (.ref o0), .val (.ref o1), .val (.ref o1)] [(.int (1 : Int32))])) _
        exact retN X7 hx (t := .boolean) Bd.returns (by simp) (hb hby d3_41) hr
      · show Q3 Z o0 o1 s1 l1 s2 l2 h0 n0 _ T7.heap _
        rw [e7]
        exact ⟨(congrArg (fun z => some (Value.int z)) (by simp only [own_eq, if_pos hc21, if_pos hc33])), N0, rfl⟩
    · -- not l1 = l2
      obtain ⟨fs, hr, hrun, hended, hW, hsame⟩ := X7.leave (v := some (.int (0 : Int32))) (fun h => by rw [Bd.returns] at h; cases h)
      refine ⟨_, _, pre8 _ ?_, hrun, hended, _, _, rfl, ?_, ⟨_, rfl⟩, hW, hsame.mono (by decide) (by decide)⟩
      · show Steps p.tables e below (T7.setTop (mkF m 33 #[.val (.ref o0), .val (.ref o1), .val (.ref o1)] [(.int (lcmpW l1 l2))])) _
        refine XS.ifYes X7.here hx rfl (pc0 := 33) (pc' := 40) rfl (hb hby d3_33) rfl ((if0 _ _).trans (feq ((not_congr (lw_eq _ _)).mpr hc33)).2) (by decide) (by decide) ?_
        show Steps p.tables e below (T7.setTop (mkF m 40 #[.val (.ref o0), .val (.ref o1), .val (.ref o1)] [])) _
        refine XS.iconst X7.here hx rfl (hb hby d3_40) ?_
        show Steps p.tables e below (T7.setTop (mkF m 41 #[.val (.ref o0), .val (.ref o1), .val (.ref o1)] [(.int (0 : Int32))])) _
        exact retN X7 hx (t := .boolean) Bd.returns (by simp) (hb hby d3_41) hr
      · show Q3 Z o0 o1 s1 l1 s2 l2 h0 n0 _ T7.heap _
        rw [e7]
        exact ⟨(congrArg (fun z => some (Value.int z)) (by simp only [own_eq, if_pos hc21, if_neg hc33])), N0, rfl⟩
  · -- not s1 = s2
    obtain ⟨fs, hr, hrun, hended, hW, hsame⟩ := X4.leave (v := some (.int (0 : Int32))) (fun h => by rw [Bd.returns] at h; cases h)
    refine ⟨_, _, pre5 _ ?_, hrun, hended, _, _, rfl, ?_, ⟨_, rfl⟩, hW, hsame.mono (by decide) (by decide)⟩
    · show Steps p.tables e below (T4.setTop (mkF m 21 #[.val (.ref o0), .val (.ref o1), .val (.ref o1)] [(.int (lcmpW s1 s2))])) _
      refine XS.ifYes X4.here hx rfl (pc0 := 21) (pc' := 40) rfl (hb hby d3_21) rfl ((if0 _ _).trans (feq ((not_congr (lw_eq _ _)).mpr hc21)).2) (by decide) (by decide) ?_
      show Steps p.tables e below (T4.setTop (mkF m 40 #[.val (.ref o0), .val (.ref o1), .val (.ref o1)] [])) _
      refine XS.iconst X4.here hx rfl (hb hby d3_40) ?_
      show Steps p.tables e below (T4.setTop (mkF m 41 #[.val (.ref o0), .val (.ref o1), .val (.ref o1)] [(.int (0 : Int32))])) _
      exact retN X4 hx (t := .boolean) Bd.returns (by simp) (hb hby d3_41) hr
    · show Q3 Z o0 o1 s1 l1 s2 l2 h0 n0 _ T4.heap _
      rw [e4]
      exact ⟨(congrArg (fun z => some (Value.int z)) (by simp only [own_eq, if_neg hc21])), N0, rfl⟩
theorem ef_rm3s (m : MethodId) (o0 : Addr) (o1 : Addr) : entryFrame m #[(.ref o0), (.ref o1)] 3 = mkF m 0 #[.val (.ref o0), .val (.ref o1), .unset] [] := by first | (simp [entryFrame, mkF, argsToLocals, Value.category]; done) | rfl
def Q3s (Z : State) (o0 : Addr) (o1 : Addr) (s1 : Int64) (l1 : Int64) (s2 : Int64) (l2 : Int64) (h0 : Heap) (n0 : Nat) (v : Option Value) (h : Heap) (L : List Loc) : Prop := v = some (.int (1 : Int32)) ∧ Fr n0 L ∧ h = h0
set_option maxRecDepth 65536 in
set_option maxHeartbeats 40000000 in
theorem rm3s (l : Launch) (Z : State) (a0 : Array Value) (hw : ∀ d ∈ tables_1, d.before a0 Z = true) (ws : List Jvm.Cond) (o0 : Addr) (o1 : Addr) (s1 : Int64) (l1 : Int64) (s2 : Int64) (l2 : Int64) (h0 : Heap) (n0 : Nat) (Z0 : n0 ≤ h0.size) (E1 : Exa Z h0 o1 "com/example/sarasvati/sarasvati/window/Window") (Fs1 : Fld Z h0 o0 "com/example/sarasvati/sarasvati/window/Window" "startMs" "J" (.long s1)) (Fl1 : Fld Z h0 o0 "com/example/sarasvati/sarasvati/window/Window" "lengthMs" "J" (.long l1)) (Fs2 : Fld Z h0 o1 "com/example/sarasvati/sarasvati/window/Window" "startMs" "J" (.long s2)) (Fl2 : Fld Z h0 o1 "com/example/sarasvati/sarasvati/window/Window" "lengthMs" "J" (.long l2)) (hs : s1 = s2) (hl : l1 = l2) :
    MetFree l (⟨"com/example/sarasvati/sarasvati/window/Window", "equals", "(Ljava/lang/Object;)Z"⟩ : MethodName) (head1 (Jvm.Cond.code (⟨"com/example/sarasvati/sarasvati/window/Window", "equals", "(Ljava/lang/Object;)Z"⟩ : MethodName) prog_190_method_8_code 3 (some .boolean) :: ws) ({ frames := 0, cells := 0, slots := 0, locals := 0 } : Room)) (fun a U => a = #[(.ref o0), (.ref o1)] ∧ Z.Warmed39 U.vm ∧ U.heap = h0) (fun _ _ _ _ _ => True) (fun _ U o U' => ∃ v L, o = .returned v ∧ Q3s Z o0 o1 s1 l1 s2 l2 h0 n0 v U'.heap L ∧ FrameEnd U o U' L ({ frames := 0, cells := 0, slots := 0, locals := 0 } : Room).cells ({ frames := 0, cells := 0, slots := 0, locals := 0 } : Room).slots) := by
  refine MetFree.of_bodySF (plainFor_of_name pn_0) hisR ?_
  intro p e s m args below meth c s₁ Bd hml0 hP hK
  obtain ⟨rfl, hZ, hh⟩ := hP
  have hx := Bd.exec
  have hby := Bd.bytes
  have hml : c.maxLocals = 3 := hml0
  have hown : s.vm.findClass "com/example/sarasvati/sarasvati/window/Window" = some m.cls := findClass_of_methodNamed Bd.named
  have hnm := (name_of_methodNamed Bd.named Bd.method).1
  have X0 : Stand p l e ({ frames := 0, cells := 0, slots := 0, locals := 0 } : Room) s m #[(.ref o0), (.ref o1)] below meth c s₁ [] 0 0 := Stand.of_body Bd
  have e0 : s₁.heap = h0 := by rw [← hh, Bd.state]; rfl
  have N0 := Fr.nil n0
  have pre0 : ∀ t, Steps p.tables e below (s₁.setTop (mkF m 0 #[.val (.ref o0), .val (.ref o1), .unset] [])) t → Steps p.tables e below (s₁.setTop (entryFrame m #[(.ref o0), (.ref o1)] 3)) t := fun t k => castTop (ef_rm3s m o0 o1) k
  obtain ⟨T1, X1, e1, st1⟩ := instY X0 hx hZ hown (hw _ (List.mem_of_getElem? (i := 18) rfl)) e0 (Ins.self E1) (g := (mkF m 1 #[.val (.ref o0), .val (.ref o1), .unset] [(.ref o1)])) rfl rfl (hb hby d3_1)
  obtain ⟨T2, X2, e2, st2⟩ := castY X1 hx hZ hown (hw _ (List.mem_of_getElem? (i := 18) rfl)) e1 (Ins.self E1) (g := (mkF m 8 #[.val (.ref o0), .val (.ref o1), .unset] [(.ref o1)])) rfl rfl (hb hby d3_8)
  obtain ⟨T3, X3, e3, st3⟩ := getF X2 hx hZ hown (host := "") (Or.inl (hw _ (List.mem_of_getElem? (i := 9) rfl))) Via.refl e2 Fs1 (g := (mkF m 13 #[.val (.ref o0), .val (.ref o1), .val (.ref o1)] [(.ref o0)])) rfl rfl (hb hby d3_13)
  obtain ⟨T4, X4, e4, st4⟩ := getF X3 hx hZ hown (host := "") (Or.inl (hw _ (List.mem_of_getElem? (i := 9) rfl))) Via.refl e3 Fs2 (g := (mkF m 17 #[.val (.ref o0), .val (.ref o1), .val (.ref o1)] [(.ref o1), (.long s1)])) rfl rfl (hb hby d3_17)
  obtain ⟨T5, X5, e5, st5⟩ := getF X4 hx hZ hown (host := "") (Or.inl (hw _ (List.mem_of_getElem? (i := 11) rfl))) Via.refl e4 Fl1 (g := (mkF m 25 #[.val (.ref o0), .val (.ref o1), .val (.ref o1)] [(.ref o0)])) rfl rfl (hb hby d3_25)
  obtain ⟨T6, X6, e6, st6⟩ := getF X5 hx hZ hown (host := "") (Or.inl (hw _ (List.mem_of_getElem? (i := 11) rfl))) Via.refl e5 Fl2 (g := (mkF m 29 #[.val (.ref o0), .val (.ref o1), .val (.ref o1)] [(.ref o1), (.long l1)])) rfl rfl (hb hby d3_29)
  obtain ⟨fs, hr, hrun, hended, hW, hsame⟩ := X6.leave (v := some (.int (1 : Int32))) (fun h => by rw [Bd.returns] at h; cases h)
  refine ⟨_, _, pre0 _ ?_, hrun, hended, _, _, rfl, ?_, ⟨_, rfl⟩, hW, hsame.mono (by decide) (by decide)⟩
  · show Steps p.tables e below (s₁.setTop (mkF m 0 #[.val (.ref o0), .val (.ref o1), .unset] [])) _
    refine XS.aloadN X0.here hx rfl (hb hby d3_0) rfl rfl ?_
    show Steps p.tables e below (s₁.setTop (mkF m 1 #[.val (.ref o0), .val (.ref o1), .unset] [(.ref o1)])) _
    refine st1 _ ?_
    show Steps p.tables e below (T1.setTop (mkF m 4 #[.val (.ref o0), .val (.ref o1), .unset] [(.int (1 : Int32))])) _
    refine XS.ifNo X1.here hx rfl (hb hby d3_4) rfl ((if0 _ _).trans (feq (by decide : ¬ ((1 : Int32) = (0 : Int32)))).1) ?_
    show Steps p.tables e below (T1.setTop (mkF m 7 #[.val (.ref o0), .val (.ref o1), .unset] [])) _
    refine XS.aloadN X1.here hx rfl (hb hby d3_7) rfl rfl ?_
    show Steps p.tables e below (T1.setTop (mkF m 8 #[.val (.ref o0), .val (.ref o1), .unset] [(.ref o1)])) _
    refine st2 _ ?_
    show Steps p.tables e below (T2.setTop (mkF m 11 #[.val (.ref o0), .val (.ref o1), .unset] [(.ref o1)])) _
    refine XS.astoreN X2.here hx rfl (hb hby d3_11) rfl rfl (l' := #[.val (.ref o0), .val (.ref o1), .val (.ref o1)]) rfl ?_
    show Steps p.tables e below (T2.setTop (mkF m 12 #[.val (.ref o0), .val (.ref o1), .val (.ref o1)] [])) _
    refine XS.aloadN X2.here hx rfl (hb hby d3_12) rfl rfl ?_
    show Steps p.tables e below (T2.setTop (mkF m 13 #[.val (.ref o0), .val (.ref o1), .val (.ref o1)] [(.ref o0)])) _
    refine st3 _ ?_
    show Steps p.tables e below (T3.setTop (mkF m 16 #[.val (.ref o0), .val (.ref o1), .val (.ref o1)] [(.long s1)])) _
    refine XS.aloadN X3.here hx rfl (hb hby d3_16) rfl rfl ?_
    show Steps p.tables e below (T3.setTop (mkF m 17 #[.val (.ref o0), .val (.ref o1), .val (.ref o1)] [(.ref o1), (.long s1)])) _
    refine st4 _ ?_
    show Steps p.tables e below (T4.setTop (mkF m 20 #[.val (.ref o0), .val (.ref o1), .val (.ref o1)] [(.long s2), (.long s1)])) _
    refine XS.lcmp X4.here hx rfl (hb hby d3_20) rfl ?_
    show Steps p.tables e below (T4.setTop (mkF m 21 #[.val (.ref o0), .val (.ref o1), .val (.ref o1)] [(.int (lcmpW s1 s2))])) _
    refine XS.ifNo X4.here hx rfl (hb hby d3_21) rfl ((if0 _ _).trans (teq ((lw_eq _ _).mpr hs)).2) ?_
    show Steps p.tables e below (T4.setTop (mkF m 24 #[.val (.ref o0), .val (.ref o1), .val (.ref o1)] [])) _
    refine XS.aloadN X4.here hx rfl (hb hby d3_24) rfl rfl ?_
    show Steps p.tables e below (T4.setTop (mkF m 25 #[.val (.ref o0), .val (.ref o1), .val (.ref o1)] [(.ref o0)])) _
    refine st5 _ ?_
    show Steps p.tables e below (T5.setTop (mkF m 28 #[.val (.ref o0), .val (.ref o1), .val (.ref o1)] [(.long l1)])) _
    refine XS.aloadN X5.here hx rfl (hb hby d3_28) rfl rfl ?_
    show Steps p.tables e below (T5.setTop (mkF m 29 #[.val (.ref o0), .val (.ref o1), .val (.ref o1)] [(.ref o1), (.long l1)])) _
    refine st6 _ ?_
    show Steps p.tables e below (T6.setTop (mkF m 32 #[.val (.ref o0), .val (.ref o1), .val (.ref o1)] [(.long l2), (.long l1)])) _
    refine XS.lcmp X6.here hx rfl (hb hby d3_32) rfl ?_
    show Steps p.tables e below (T6.setTop (mkF m 33 #[.val (.ref o0), .val (.ref o1), .val (.ref o1)] [(.int (lcmpW l1 l2))])) _
    refine XS.ifNo X6.here hx rfl (hb hby d3_33) rfl ((if0 _ _).trans (teq ((lw_eq _ _).mpr hl)).2) ?_
    show Steps p.tables e below (T6.setTop (mkF m 36 #[.val (.ref o0), .val (.ref o1), .val (.ref o1)] [])) _
    refine XS.iconst X6.here hx rfl (hb hby d3_36) ?_
    show Steps p.tables e below (T6.setTop (mkF m 37 #[.val (.ref o0), .val (.ref o1), .val (.ref o1)] [(.int (1 : Int32))])) _
    refine XS.goto X6.here hx rfl (pc0 := 37) (pc' := 41) rfl (hb hby d3_37) (by decide) (by decide) ?_
    show Steps p.tables e below (T6.setTop (mkF m 41 #[.val (.ref o0), .val (.ref o1), .val (.ref o1)] [(.int (1 : Int32))])) _
    exact retN X6 hx (t := .boolean) Bd.returns (by simp) (hb hby d3_41) hr
  · show Q3s Z o0 o1 s1 l1 s2 l2 h0 n0 _ T6.heap _
    rw [e6]
    exact ⟨rfl, N0, rfl⟩
theorem ef_rm3n (m : MethodId) (o0 : Addr) : entryFrame m #[(.ref o0), .null] 3 = mkF m 0 #[.val (.ref o0), .val .null, .unset] [] := by first | (simp [entryFrame, mkF, argsToLocals, Value.category]; done) | rfl
def Q3n (Z : State) (o0 : Addr) (h0 : Heap) (n0 : Nat) (v : Option Value) (h : Heap) (L : List Loc) : Prop := v = some (.int (0 : Int32)) ∧ Fr n0 L ∧ h = h0
set_option maxRecDepth 65536 in
set_option maxHeartbeats 40000000 in
theorem rm3n (l : Launch) (Z : State) (a0 : Array Value) (hw : ∀ d ∈ tables_1, d.before a0 Z = true) (ws : List Jvm.Cond) (o0 : Addr) (h0 : Heap) (n0 : Nat) (Z0 : n0 ≤ h0.size) :
    MetFree l (⟨"com/example/sarasvati/sarasvati/window/Window", "equals", "(Ljava/lang/Object;)Z"⟩ : MethodName) (head1 (Jvm.Cond.code (⟨"com/example/sarasvati/sarasvati/window/Window", "equals", "(Ljava/lang/Object;)Z"⟩ : MethodName) prog_190_method_8_code 3 (some .boolean) :: ws) ({ frames := 0, cells := 0, slots := 0, locals := 0 } : Room)) (fun a U => a = #[(.ref o0), .null] ∧ Z.Warmed39 U.vm ∧ U.heap = h0) (fun _ _ _ _ _ => True) (fun _ U o U' => ∃ v L, o = .returned v ∧ Q3n Z o0 h0 n0 v U'.heap L ∧ FrameEnd U o U' L ({ frames := 0, cells := 0, slots := 0, locals := 0 } : Room).cells ({ frames := 0, cells := 0, slots := 0, locals := 0 } : Room).slots) := by
  refine MetFree.of_bodySF (plainFor_of_name pn_0) hisR ?_
  intro p e s m args below meth c s₁ Bd hml0 hP hK
  obtain ⟨rfl, hZ, hh⟩ := hP
  have hx := Bd.exec
  have hby := Bd.bytes
  have hml : c.maxLocals = 3 := hml0
  have hown : s.vm.findClass "com/example/sarasvati/sarasvati/window/Window" = some m.cls := findClass_of_methodNamed Bd.named
  have hnm := (name_of_methodNamed Bd.named Bd.method).1
  have X0 : Stand p l e ({ frames := 0, cells := 0, slots := 0, locals := 0 } : Room) s m #[(.ref o0), .null] below meth c s₁ [] 0 0 := Stand.of_body Bd
  have e0 : s₁.heap = h0 := by rw [← hh, Bd.state]; rfl
  have N0 := Fr.nil n0
  have pre0 : ∀ t, Steps p.tables e below (s₁.setTop (mkF m 0 #[.val (.ref o0), .val .null, .unset] [])) t → Steps p.tables e below (s₁.setTop (entryFrame m #[(.ref o0), .null] 3)) t := fun t k => castTop (ef_rm3n m o0) k
  obtain ⟨fs, hr, hrun, hended, hW, hsame⟩ := X0.leave (v := some (.int (0 : Int32))) (fun h => by rw [Bd.returns] at h; cases h)
  refine ⟨_, _, pre0 _ ?_, hrun, hended, _, _, rfl, ?_, ⟨_, rfl⟩, hW, hsame.mono (by decide) (by decide)⟩
  · show Steps p.tables e below (s₁.setTop (mkF m 0 #[.val (.ref o0), .val .null, .unset] [])) _
    refine XS.aloadN X0.here hx rfl (hb hby d3_0) rfl rfl ?_
    show Steps p.tables e below (s₁.setTop (mkF m 1 #[.val (.ref o0), .val .null, .unset] [.null])) _
    refine X0.instanceofNull hx (g := (mkF m 1 #[.val (.ref o0), .val .null, .unset] [.null])) rfl rfl (hb hby d3_1) _ ?_
    show Steps p.tables e below (s₁.setTop (mkF m 4 #[.val (.ref o0), .val .null, .unset] [(.int (0 : Int32))])) _
    refine XS.ifYes X0.here hx rfl (pc0 := 4) (pc' := 40) rfl (hb hby d3_4) rfl ((if0 _ _).trans (teq (by decide : (0 : Int32) = (0 : Int32))).1) (by decide) (by decide) ?_
    show Steps p.tables e below (s₁.setTop (mkF m 40 #[.val (.ref o0), .val .null, .unset] [])) _
    refine XS.iconst X0.here hx rfl (hb hby d3_40) ?_
    show Steps p.tables e below (s₁.setTop (mkF m 41 #[.val (.ref o0), .val .null, .unset] [(.int (0 : Int32))])) _
    exact retN X0 hx (t := .boolean) Bd.returns (by simp) (hb hby d3_41) hr
  · show Q3n Z o0 h0 n0 _ s₁.heap _
    rw [e0]
    exact ⟨rfl, N0, rfl⟩
theorem ef_rm3o (m : MethodId) (o0 : Addr) (o1 : Addr) : entryFrame m #[(.ref o0), (.ref o1)] 3 = mkF m 0 #[.val (.ref o0), .val (.ref o1), .unset] [] := by first | (simp [entryFrame, mkF, argsToLocals, Value.category]; done) | rfl
def Q3o (Z : State) (o0 : Addr) (o1 : Addr) (h0 : Heap) (n0 : Nat) (v : Option Value) (h : Heap) (L : List Loc) : Prop := v = some (.int (0 : Int32)) ∧ Fr n0 L ∧ h = h0
set_option maxRecDepth 65536 in
set_option maxHeartbeats 40000000 in
theorem rm3o (l : Launch) (Z : State) (a0 : Array Value) (hw : ∀ d ∈ tables_1, d.before a0 Z = true) (ws : List Jvm.Cond) (o0 : Addr) (o1 : Addr) (h0 : Heap) (n0 : Nat) (Z0 : n0 ≤ h0.size) (E1 : Exa Z h0 o1 "java/lang/Long") :
    MetFree l (⟨"com/example/sarasvati/sarasvati/window/Window", "equals", "(Ljava/lang/Object;)Z"⟩ : MethodName) (head1 (Jvm.Cond.code (⟨"com/example/sarasvati/sarasvati/window/Window", "equals", "(Ljava/lang/Object;)Z"⟩ : MethodName) prog_190_method_8_code 3 (some .boolean) :: ws) ({ frames := 0, cells := 0, slots := 0, locals := 0 } : Room)) (fun a U => a = #[(.ref o0), (.ref o1)] ∧ Z.Warmed39 U.vm ∧ U.heap = h0) (fun _ _ _ _ _ => True) (fun _ U o U' => ∃ v L, o = .returned v ∧ Q3o Z o0 o1 h0 n0 v U'.heap L ∧ FrameEnd U o U' L ({ frames := 0, cells := 0, slots := 0, locals := 0 } : Room).cells ({ frames := 0, cells := 0, slots := 0, locals := 0 } : Room).slots) := by
  refine MetFree.of_bodySF (plainFor_of_name pn_0) hisR ?_
  intro p e s m args below meth c s₁ Bd hml0 hP hK
  obtain ⟨rfl, hZ, hh⟩ := hP
  have hx := Bd.exec
  have hby := Bd.bytes
  have hml : c.maxLocals = 3 := hml0
  have hown : s.vm.findClass "com/example/sarasvati/sarasvati/window/Window" = some m.cls := findClass_of_methodNamed Bd.named
  have hnm := (name_of_methodNamed Bd.named Bd.method).1
  have X0 : Stand p l e ({ frames := 0, cells := 0, slots := 0, locals := 0 } : Room) s m #[(.ref o0), (.ref o1)] below meth c s₁ [] 0 0 := Stand.of_body Bd
  have e0 : s₁.heap = h0 := by rw [← hh, Bd.state]; rfl
  have N0 := Fr.nil n0
  have pre0 : ∀ t, Steps p.tables e below (s₁.setTop (mkF m 0 #[.val (.ref o0), .val (.ref o1), .unset] [])) t → Steps p.tables e below (s₁.setTop (entryFrame m #[(.ref o0), (.ref o1)] 3)) t := fun t k => castTop (ef_rm3o m o0 o1) k
  obtain ⟨T1, X1, e1, st1⟩ := instNo X0 hx hZ hown (hw _ (List.mem_of_getElem? (i := 18) rfl)) e0 E1 (own_no Z a0 hw) (g := (mkF m 1 #[.val (.ref o0), .val (.ref o1), .unset] [(.ref o1)])) rfl rfl (hb hby d3_1)
  obtain ⟨fs, hr, hrun, hended, hW, hsame⟩ := X1.leave (v := some (.int (0 : Int32))) (fun h => by rw [Bd.returns] at h; cases h)
  refine ⟨_, _, pre0 _ ?_, hrun, hended, _, _, rfl, ?_, ⟨_, rfl⟩, hW, hsame.mono (by decide) (by decide)⟩
  · show Steps p.tables e below (s₁.setTop (mkF m 0 #[.val (.ref o0), .val (.ref o1), .unset] [])) _
    refine XS.aloadN X0.here hx rfl (hb hby d3_0) rfl rfl ?_
    show Steps p.tables e below (s₁.setTop (mkF m 1 #[.val (.ref o0), .val (.ref o1), .unset] [(.ref o1)])) _
    refine st1 _ ?_
    show Steps p.tables e below (T1.setTop (mkF m 4 #[.val (.ref o0), .val (.ref o1), .unset] [(.int (0 : Int32))])) _
    refine XS.ifYes X1.here hx rfl (pc0 := 4) (pc' := 40) rfl (hb hby d3_4) rfl ((if0 _ _).trans (teq (by decide : (0 : Int32) = (0 : Int32))).1) (by decide) (by decide) ?_
    show Steps p.tables e below (T1.setTop (mkF m 40 #[.val (.ref o0), .val (.ref o1), .unset] [])) _
    refine XS.iconst X1.here hx rfl (hb hby d3_40) ?_
    show Steps p.tables e below (T1.setTop (mkF m 41 #[.val (.ref o0), .val (.ref o1), .unset] [(.int (0 : Int32))])) _
    exact retN X1 hx (t := .boolean) Bd.returns (by simp) (hb hby d3_41) hr
  · show Q3o Z o0 o1 h0 n0 _ T1.heap _
    rw [e1]
    exact ⟨rfl, N0, rfl⟩
theorem ef_rm0 (m : MethodId) (q0 : Int64) (q1 : Int64) (q2 : Int64) (q3 : Int64) (p4 : Int32) : entryFrame m #[(.long q0), (.long q1), (.long q2), (.long q3), (.int p4)] maxLocals = mkF m 0 #[.val (.long q0), .second, .val (.long q1), .second, .val (.long q2), .second, .val (.long q3), .second, .val (.int p4), .unset, .unset, .unset, .unset, .unset, .unset, .unset, .unset, .unset, .unset] [] := by first | (simp [entryFrame, mkF, argsToLocals, Value.category, maxLocals]; done) | rfl
def Q0 (Z : State) (q0 : Int64) (q1 : Int64) (q2 : Int64) (q3 : Int64) (p4 : Int32) (ca : Addr) (cl : Cell) (h0 : Heap) (n0 : Nat) (v : Option Value) (h : Heap) (L : List Loc) : Prop := v = some (.int (1 : Int32)) ∧ Fr n0 L
set_option maxRecDepth 65536 in
set_option maxHeartbeats 40000000 in
theorem rm0 (l : Launch) (Z : State) (a0 : Array Value) (hw : ∀ d ∈ tables_1, d.before a0 Z = true) (ws : List Jvm.Cond) (q0 : Int64) (q1 : Int64) (q2 : Int64) (q3 : Int64) (p4 : Int32) (ca : Addr) (cl : Cell) (h0 : Heap) (n0 : Nat) (Z0 : n0 ≤ h0.size) (O0 : Old Z n0 h0) (SC : Sta Z Z.heap "java/lang/Long$LongCache" "cache" "[Ljava/lang/Long;" (.ref ca)) (BX : Bxs Z ca cl "java/lang/Long" "J" (256 : Int32) own_val) :
    MetFree l x (head1 (Jvm.Cond.code x code maxLocals ret :: ws) room_1) (fun a U => a = #[(.long q0), (.long q1), (.long q2), (.long q3), (.int p4)] ∧ Z.Warmed39 U.vm ∧ U.heap = h0) (fun _ _ _ _ _ => True) (fun _ U o U' => ∃ v L, o = .returned v ∧ Q0 Z q0 q1 q2 q3 p4 ca cl h0 n0 v U'.heap L ∧ FrameEnd U o U' L room_1.cells room_1.slots) := by
  refine MetFree.of_bodySF (plainFor_of_name pn_3) hisR ?_
  intro p e s m args below meth c s₁ Bd hml0 hP hK
  obtain ⟨rfl, hZ, hh⟩ := hP
  have hx := Bd.exec
  have hby := Bd.bytes
  have hml : c.maxLocals = 19 := hml0
  have hown : s.vm.findClass "com/example/sarasvati/sarasvati/window/WindowEqualsPinLaw" = some m.cls := findClass_of_methodNamed Bd.named
  have hnm := (name_of_methodNamed Bd.named Bd.method).1
  have X0 : Stand p l e room_1 s m #[(.long q0), (.long q1), (.long q2), (.long q3), (.int p4)] below meth c s₁ [] 0 0 := Stand.of_body Bd
  have e0 : s₁.heap = h0 := by rw [← hh, Bd.state]; rfl
  have N0 := Fr.nil n0
  have pre0 : ∀ t, Steps p.tables e below (s₁.setTop (mkF m 0 #[.val (.long q0), .second, .val (.long q1), .second, .val (.long q2), .second, .val (.long q3), .second, .val (.int p4), .unset, .unset, .unset, .unset, .unset, .unset, .unset, .unset, .unset, .unset] [])) t → Steps p.tables e below (s₁.setTop (entryFrame m #[(.long q0), (.long q1), (.long q2), (.long q3), (.int p4)] maxLocals)) t := fun t k => castTop (ef_rm0 m q0 q1 q2 q3 p4) k
  obtain ⟨ss, sl, a2, b2, hm1, pre2⟩ : ∃ (ss : Int32) (sl : Int32) (a2 : Int64) (b2 : Int64), (True) ∧ ∀ t, Steps p.tables e below (s₁.setTop (mkF m 54 #[.val (.long q0), .second, .val (.long q1), .second, .val (.long q2), .second, .val (.long q3), .second, .val (.int p4), .val (.int ss), .val (.int sl), .val (.long a2), .second, .val (.long b2), .second, .unset, .unset, .unset, .unset] [])) t → Steps p.tables e below (s₁.setTop (entryFrame m #[(.long q0), (.long q1), (.long q2), (.long q3), (.int p4)] maxLocals)) t := by
    have pre3 : ∀ t, Steps p.tables e below (s₁.setTop (mkF m 4 #[.val (.long q0), .second, .val (.long q1), .second, .val (.long q2), .second, .val (.long q3), .second, .val (.int p4), .unset, .unset, .unset, .unset, .unset, .unset, .unset, .unset, .unset, .unset] [(.int (p4 &&& (1 : Int32)))])) t → Steps p.tables e below (s₁.setTop (entryFrame m #[(.long q0), (.long q1), (.long q2), (.long q3), (.int p4)] maxLocals)) t := by
      intro t kt
      refine pre0 _ ?_
      show Steps p.tables e below (s₁.setTop (mkF m 0 #[.val (.long q0), .second, .val (.long q1), .second, .val (.long q2), .second, .val (.long q3), .second, .val (.int p4), .unset, .unset, .unset, .unset, .unset, .unset, .unset, .unset, .unset, .unset] [])) _
      refine XS.iload X0.here hx rfl (hb hby at_0) rfl ?_
      show Steps p.tables e below (s₁.setTop (mkF m 2 #[.val (.long q0), .second, .val (.long q1), .second, .val (.long q2), .second, .val (.long q3), .second, .val (.int p4), .unset, .unset, .unset, .unset, .unset, .unset, .unset, .unset, .unset, .unset] [(.int p4)])) _
      refine XS.iconst X0.here hx rfl (hb hby at_2) ?_
      show Steps p.tables e below (s₁.setTop (mkF m 3 #[.val (.long q0), .second, .val (.long q1), .second, .val (.long q2), .second, .val (.long q3), .second, .val (.int p4), .unset, .unset, .unset, .unset, .unset, .unset, .unset, .unset, .unset, .unset] [(.int (1 : Int32)), (.int p4)])) _
      refine XS.iand X0.here hx rfl (hb hby at_3) rfl ?_
      exact kt
    by_cases hc4 : (p4 &&& (1 : Int32)) = (0 : Int32)
    · -- (p4 &&& (1 : Int32)) = (0 : Int32)
      have pre4 : ∀ t, Steps p.tables e below (s₁.setTop (mkF m 18 #[.val (.long q0), .second, .val (.long q1), .second, .val (.long q2), .second, .val (.long q3), .second, .val (.int p4), .val (.int (0 : Int32)), .unset, .unset, .unset, .unset, .unset, .unset, .unset, .unset, .unset] [(.int (p4 &&& (2 : Int32)))])) t → Steps p.tables e below (s₁.setTop (entryFrame m #[(.long q0), (.long q1), (.long q2), (.long q3), (.int p4)] maxLocals)) t := by
        intro t kt
        refine pre3 _ ?_
        show Steps p.tables e below (s₁.setTop (mkF m 4 #[.val (.long q0), .second, .val (.long q1), .second, .val (.long q2), .second, .val (.long q3), .second, .val (.int p4), .unset, .unset, .unset, .unset, .unset, .unset, .unset, .unset, .unset, .unset] [(.int (p4 &&& (1 : Int32)))])) _
        refine XS.ifYes X0.here hx rfl (pc0 := 4) (pc' := 11) rfl (hb hby at_4) rfl ((if0 _ _).trans (teq hc4).1) (by decide) (by decide) ?_
        show Steps p.tables e below (s₁.setTop (mkF m 11 #[.val (.long q0), .second, .val (.long q1), .second, .val (.long q2), .second, .val (.long q3), .second, .val (.int p4), .unset, .unset, .unset, .unset, .unset, .unset, .unset, .unset, .unset, .unset] [])) _
        refine XS.iconst X0.here hx rfl (hb hby at_11) ?_
        show Steps p.tables e below (s₁.setTop (mkF m 12 #[.val (.long q0), .second, .val (.long q1), .second, .val (.long q2), .second, .val (.long q3), .second, .val (.int p4), .unset, .unset, .unset, .unset, .unset, .unset, .unset, .unset, .unset, .unset] [(.int (0 : Int32))])) _
        refine XS.istore X0.here hx rfl (hb hby at_12) rfl (l' := #[.val (.long q0), .second, .val (.long q1), .second, .val (.long q2), .second, .val (.long q3), .second, .val (.int p4), .val (.int (0 : Int32)), .unset, .unset, .unset, .unset, .unset, .unset, .unset, .unset, .unset]) rfl ?_
        show Steps p.tables e below (s₁.setTop (mkF m 14 #[.val (.long q0), .second, .val (.long q1), .second, .val (.long q2), .second, .val (.long q3), .second, .val (.int p4), .val (.int (0 : Int32)), .unset, .unset, .unset, .unset, .unset, .unset, .unset, .unset, .unset] [])) _
        refine XS.iload X0.here hx rfl (hb hby at_14) rfl ?_
        show Steps p.tables e below (s₁.setTop (mkF m 16 #[.val (.long q0), .second, .val (.long q1), .second, .val (.long q2), .second, .val (.long q3), .second, .val (.int p4), .val (.int (0 : Int32)), .unset, .unset, .unset, .unset, .unset, .unset, .unset, .unset, .unset] [(.int p4)])) _
        refine XS.iconst X0.here hx rfl (hb hby at_16) ?_
        show Steps p.tables e below (s₁.setTop (mkF m 17 #[.val (.long q0), .second, .val (.long q1), .second, .val (.long q2), .second, .val (.long q3), .second, .val (.int p4), .val (.int (0 : Int32)), .unset, .unset, .unset, .unset, .unset, .unset, .unset, .unset, .unset] [(.int (2 : Int32)), (.int p4)])) _
        refine XS.iand X0.here hx rfl (hb hby at_17) rfl ?_
        exact kt
      by_cases hc18 : (p4 &&& (2 : Int32)) = (0 : Int32)
      · -- (p4 &&& (2 : Int32)) = (0 : Int32)
        refine ⟨(0 : Int32), (0 : Int32), q2, q3, trivial, fun t kt => ?_⟩
        refine pre4 _ ?_
        show Steps p.tables e below (s₁.setTop (mkF m 18 #[.val (.long q0), .second, .val (.long q1), .second, .val (.long q2), .second, .val (.long q3), .second, .val (.int p4), .val (.int (0 : Int32)), .unset, .unset, .unset, .unset, .unset, .unset, .unset, .unset, .unset] [(.int (p4 &&& (2 : Int32)))])) _
        refine XS.ifYes X0.here hx rfl (pc0 := 18) (pc' := 25) rfl (hb hby at_18) rfl ((if0 _ _).trans (teq hc18).1) (by decide) (by decide) ?_
        show Steps p.tables e below (s₁.setTop (mkF m 25 #[.val (.long q0), .second, .val (.long q1), .second, .val (.long q2), .second, .val (.long q3), .second, .val (.int p4), .val (.int (0 : Int32)), .unset, .unset, .unset, .unset, .unset, .unset, .unset, .unset, .unset] [])) _
        refine XS.iconst X0.here hx rfl (hb hby at_25) ?_
        show Steps p.tables e below (s₁.setTop (mkF m 26 #[.val (.long q0), .second, .val (.long q1), .second, .val (.long q2), .second, .val (.long q3), .second, .val (.int p4), .val (.int (0 : Int32)), .unset, .unset, .unset, .unset, .unset, .unset, .unset, .unset, .unset] [(.int (0 : Int32))])) _
        refine XS.istore X0.here hx rfl (hb hby at_26) rfl (l' := #[.val (.long q0), .second, .val (.long q1), .second, .val (.long q2), .second, .val (.long q3), .second, .val (.int p4), .val (.int (0 : Int32)), .val (.int (0 : Int32)), .unset, .unset, .unset, .unset, .unset, .unset, .unset, .unset]) rfl ?_
        show Steps p.tables e below (s₁.setTop (mkF m 28 #[.val (.long q0), .second, .val (.long q1), .second, .val (.long q2), .second, .val (.long q3), .second, .val (.int p4), .val (.int (0 : Int32)), .val (.int (0 : Int32)), .unset, .unset, .unset, .unset, .unset, .unset, .unset, .unset] [])) _
        refine XS.iload X0.here hx rfl (hb hby at_28) rfl ?_
        show Steps p.tables e below (s₁.setTop (mkF m 30 #[.val (.long q0), .second, .val (.long q1), .second, .val (.long q2), .second, .val (.long q3), .second, .val (.int p4), .val (.int (0 : Int32)), .val (.int (0 : Int32)), .unset, .unset, .unset, .unset, .unset, .unset, .unset, .unset] [(.int (0 : Int32))])) _
        refine XS.ifYes X0.here hx rfl (pc0 := 30) (pc' := 37) rfl (hb hby at_30) rfl ((if0 _ _).trans (teq (by decide : (0 : Int32) = (0 : Int32))).1) (by decide) (by decide) ?_
        show Steps p.tables e below (s₁.setTop (mkF m 37 #[.val (.long q0), .second, .val (.long q1), .second, .val (.long q2), .second, .val (.long q3), .second, .val (.int p4), .val (.int (0 : Int32)), .val (.int (0 : Int32)), .unset, .unset, .unset, .unset, .unset, .unset, .unset, .unset] [])) _
        refine XS.lload X0.here hx rfl (hb hby at_37) rfl ?_
        show Steps p.tables e below (s₁.setTop (mkF m 39 #[.val (.long q0), .second, .val (.long q1), .second, .val (.long q2), .second, .val (.long q3), .second, .val (.int p4), .val (.int (0 : Int32)), .val (.int (0 : Int32)), .unset, .unset, .unset, .unset, .unset, .unset, .unset, .unset] [(.long q2)])) _
        refine XS.lstore X0.here hx rfl (hb hby at_39) rfl (l' := #[.val (.long q0), .second, .val (.long q1), .second, .val (.long q2), .second, .val (.long q3), .second, .val (.int p4), .val (.int (0 : Int32)), .val (.int (0 : Int32)), .val (.long q2), .second, .unset, .unset, .unset, .unset, .unset, .unset]) rfl ?_
        show Steps p.tables e below (s₁.setTop (mkF m 41 #[.val (.long q0), .second, .val (.long q1), .second, .val (.long q2), .second, .val (.long q3), .second, .val (.int p4), .val (.int (0 : Int32)), .val (.int (0 : Int32)), .val (.long q2), .second, .unset, .unset, .unset, .unset, .unset, .unset] [])) _
        refine XS.iload X0.here hx rfl (hb hby at_41) rfl ?_
        show Steps p.tables e below (s₁.setTop (mkF m 43 #[.val (.long q0), .second, .val (.long q1), .second, .val (.long q2), .second, .val (.long q3), .second, .val (.int p4), .val (.int (0 : Int32)), .val (.int (0 : Int32)), .val (.long q2), .second, .unset, .unset, .unset, .unset, .unset, .unset] [(.int (0 : Int32))])) _
        refine XS.ifYes X0.here hx rfl (pc0 := 43) (pc' := 50) rfl (hb hby at_43) rfl ((if0 _ _).trans (teq (by decide : (0 : Int32) = (0 : Int32))).1) (by decide) (by decide) ?_
        show Steps p.tables e below (s₁.setTop (mkF m 50 #[.val (.long q0), .second, .val (.long q1), .second, .val (.long q2), .second, .val (.long q3), .second, .val (.int p4), .val (.int (0 : Int32)), .val (.int (0 : Int32)), .val (.long q2), .second, .unset, .unset, .unset, .unset, .unset, .unset] [])) _
        refine XS.lload X0.here hx rfl (hb hby at_50) rfl ?_
        show Steps p.tables e below (s₁.setTop (mkF m 52 #[.val (.long q0), .second, .val (.long q1), .second, .val (.long q2), .second, .val (.long q3), .second, .val (.int p4), .val (.int (0 : Int32)), .val (.int (0 : Int32)), .val (.long q2), .second, .unset, .unset, .unset, .unset, .unset, .unset] [(.long q3)])) _
        refine XS.lstore X0.here hx rfl (hb hby at_52) rfl (l' := #[.val (.long q0), .second, .val (.long q1), .second, .val (.long q2), .second, .val (.long q3), .second, .val (.int p4), .val (.int (0 : Int32)), .val (.int (0 : Int32)), .val (.long q2), .second, .val (.long q3), .second, .unset, .unset, .unset, .unset]) rfl ?_
        exact kt
      · -- not (p4 &&& (2 : Int32)) = (0 : Int32)
        refine ⟨(0 : Int32), (1 : Int32), q2, q1, trivial, fun t kt => ?_⟩
        refine pre4 _ ?_
        show Steps p.tables e below (s₁.setTop (mkF m 18 #[.val (.long q0), .second, .val (.long q1), .second, .val (.long q2), .second, .val (.long q3), .second, .val (.int p4), .val (.int (0 : Int32)), .unset, .unset, .unset, .unset, .unset, .unset, .unset, .unset, .unset] [(.int (p4 &&& (2 : Int32)))])) _
        refine XS.ifNo X0.here hx rfl (hb hby at_18) rfl ((if0 _ _).trans (feq hc18).1) ?_
        show Steps p.tables e below (s₁.setTop (mkF m 21 #[.val (.long q0), .second, .val (.long q1), .second, .val (.long q2), .second, .val (.long q3), .second, .val (.int p4), .val (.int (0 : Int32)), .unset, .unset, .unset, .unset, .unset, .unset, .unset, .unset, .unset] [])) _
        refine XS.iconst X0.here hx rfl (hb hby at_21) ?_
        show Steps p.tables e below (s₁.setTop (mkF m 22 #[.val (.long q0), .second, .val (.long q1), .second, .val (.long q2), .second, .val (.long q3), .second, .val (.int p4), .val (.int (0 : Int32)), .unset, .unset, .unset, .unset, .unset, .unset, .unset, .unset, .unset] [(.int (1 : Int32))])) _
        refine XS.goto X0.here hx rfl (pc0 := 22) (pc' := 26) rfl (hb hby at_22) (by decide) (by decide) ?_
        show Steps p.tables e below (s₁.setTop (mkF m 26 #[.val (.long q0), .second, .val (.long q1), .second, .val (.long q2), .second, .val (.long q3), .second, .val (.int p4), .val (.int (0 : Int32)), .unset, .unset, .unset, .unset, .unset, .unset, .unset, .unset, .unset] [(.int (1 : Int32))])) _
        refine XS.istore X0.here hx rfl (hb hby at_26) rfl (l' := #[.val (.long q0), .second, .val (.long q1), .second, .val (.long q2), .second, .val (.long q3), .second, .val (.int p4), .val (.int (0 : Int32)), .val (.int (1 : Int32)), .unset, .unset, .unset, .unset, .unset, .unset, .unset, .unset]) rfl ?_
        show Steps p.tables e below (s₁.setTop (mkF m 28 #[.val (.long q0), .second, .val (.long q1), .second, .val (.long q2), .second, .val (.long q3), .second, .val (.int p4), .val (.int (0 : Int32)), .val (.int (1 : Int32)), .unset, .unset, .unset, .unset, .unset, .unset, .unset, .unset] [])) _
        refine XS.iload X0.here hx rfl (hb hby at_28) rfl ?_
        show Steps p.tables e below (s₁.setTop (mkF m 30 #[.val (.long q0), .second, .val (.long q1), .second, .val (.long q2), .second, .val (.long q3), .second, .val (.int p4), .val (.int (0 : Int32)), .val (.int (1 : Int32)), .unset, .unset, .unset, .unset, .unset, .unset, .unset, .unset] [(.int (0 : Int32))])) _
        refine XS.ifYes X0.here hx rfl (pc0 := 30) (pc' := 37) rfl (hb hby at_30) rfl ((if0 _ _).trans (teq (by decide : (0 : Int32) = (0 : Int32))).1) (by decide) (by decide) ?_
        show Steps p.tables e below (s₁.setTop (mkF m 37 #[.val (.long q0), .second, .val (.long q1), .second, .val (.long q2), .second, .val (.long q3), .second, .val (.int p4), .val (.int (0 : Int32)), .val (.int (1 : Int32)), .unset, .unset, .unset, .unset, .unset, .unset, .unset, .unset] [])) _
        refine XS.lload X0.here hx rfl (hb hby at_37) rfl ?_
        show Steps p.tables e below (s₁.setTop (mkF m 39 #[.val (.long q0), .second, .val (.long q1), .second, .val (.long q2), .second, .val (.long q3), .second, .val (.int p4), .val (.int (0 : Int32)), .val (.int (1 : Int32)), .unset, .unset, .unset, .unset, .unset, .unset, .unset, .unset] [(.long q2)])) _
        refine XS.lstore X0.here hx rfl (hb hby at_39) rfl (l' := #[.val (.long q0), .second, .val (.long q1), .second, .val (.long q2), .second, .val (.long q3), .second, .val (.int p4), .val (.int (0 : Int32)), .val (.int (1 : Int32)), .val (.long q2), .second, .unset, .unset, .unset, .unset, .unset, .unset]) rfl ?_
        show Steps p.tables e below (s₁.setTop (mkF m 41 #[.val (.long q0), .second, .val (.long q1), .second, .val (.long q2), .second, .val (.long q3), .second, .val (.int p4), .val (.int (0 : Int32)), .val (.int (1 : Int32)), .val (.long q2), .second, .unset, .unset, .unset, .unset, .unset, .unset] [])) _
        refine XS.iload X0.here hx rfl (hb hby at_41) rfl ?_
        show Steps p.tables e below (s₁.setTop (mkF m 43 #[.val (.long q0), .second, .val (.long q1), .second, .val (.long q2), .second, .val (.long q3), .second, .val (.int p4), .val (.int (0 : Int32)), .val (.int (1 : Int32)), .val (.long q2), .second, .unset, .unset, .unset, .unset, .unset, .unset] [(.int (1 : Int32))])) _
        refine XS.ifNo X0.here hx rfl (hb hby at_43) rfl ((if0 _ _).trans (feq (by decide : ¬ ((1 : Int32) = (0 : Int32)))).1) ?_
        show Steps p.tables e below (s₁.setTop (mkF m 46 #[.val (.long q0), .second, .val (.long q1), .second, .val (.long q2), .second, .val (.long q3), .second, .val (.int p4), .val (.int (0 : Int32)), .val (.int (1 : Int32)), .val (.long q2), .second, .unset, .unset, .unset, .unset, .unset, .unset] [])) _
        refine XS.lloadN X0.here hx rfl (hb hby at_46) rfl ?_
        show Steps p.tables e below (s₁.setTop (mkF m 47 #[.val (.long q0), .second, .val (.long q1), .second, .val (.long q2), .second, .val (.long q3), .second, .val (.int p4), .val (.int (0 : Int32)), .val (.int (1 : Int32)), .val (.long q2), .second, .unset, .unset, .unset, .unset, .unset, .unset] [(.long q1)])) _
        refine XS.goto X0.here hx rfl (pc0 := 47) (pc' := 52) rfl (hb hby at_47) (by decide) (by decide) ?_
        show Steps p.tables e below (s₁.setTop (mkF m 52 #[.val (.long q0), .second, .val (.long q1), .second, .val (.long q2), .second, .val (.long q3), .second, .val (.int p4), .val (.int (0 : Int32)), .val (.int (1 : Int32)), .val (.long q2), .second, .unset, .unset, .unset, .unset, .unset, .unset] [(.long q1)])) _
        refine XS.lstore X0.here hx rfl (hb hby at_52) rfl (l' := #[.val (.long q0), .second, .val (.long q1), .second, .val (.long q2), .second, .val (.long q3), .second, .val (.int p4), .val (.int (0 : Int32)), .val (.int (1 : Int32)), .val (.long q2), .second, .val (.long q1), .second, .unset, .unset, .unset, .unset]) rfl ?_
        exact kt
    · -- not (p4 &&& (1 : Int32)) = (0 : Int32)
      have pre5 : ∀ t, Steps p.tables e below (s₁.setTop (mkF m 18 #[.val (.long q0), .second, .val (.long q1), .second, .val (.long q2), .second, .val (.long q3), .second, .val (.int p4), .val (.int (1 : Int32)), .unset, .unset, .unset, .unset, .unset, .unset, .unset, .unset, .unset] [(.int (p4 &&& (2 : Int32)))])) t → Steps p.tables e below (s₁.setTop (entryFrame m #[(.long q0), (.long q1), (.long q2), (.long q3), (.int p4)] maxLocals)) t := by
        intro t kt
        refine pre3 _ ?_
        show Steps p.tables e below (s₁.setTop (mkF m 4 #[.val (.long q0), .second, .val (.long q1), .second, .val (.long q2), .second, .val (.long q3), .second, .val (.int p4), .unset, .unset, .unset, .unset, .unset, .unset, .unset, .unset, .unset, .unset] [(.int (p4 &&& (1 : Int32)))])) _
        refine XS.ifNo X0.here hx rfl (hb hby at_4) rfl ((if0 _ _).trans (feq hc4).1) ?_
        show Steps p.tables e below (s₁.setTop (mkF m 7 #[.val (.long q0), .second, .val (.long q1), .second, .val (.long q2), .second, .val (.long q3), .second, .val (.int p4), .unset, .unset, .unset, .unset, .unset, .unset, .unset, .unset, .unset, .unset] [])) _
        refine XS.iconst X0.here hx rfl (hb hby at_7) ?_
        show Steps p.tables e below (s₁.setTop (mkF m 8 #[.val (.long q0), .second, .val (.long q1), .second, .val (.long q2), .second, .val (.long q3), .second, .val (.int p4), .unset, .unset, .unset, .unset, .unset, .unset, .unset, .unset, .unset, .unset] [(.int (1 : Int32))])) _
        refine XS.goto X0.here hx rfl (pc0 := 8) (pc' := 12) rfl (hb hby at_8) (by decide) (by decide) ?_
        show Steps p.tables e below (s₁.setTop (mkF m 12 #[.val (.long q0), .second, .val (.long q1), .second, .val (.long q2), .second, .val (.long q3), .second, .val (.int p4), .unset, .unset, .unset, .unset, .unset, .unset, .unset, .unset, .unset, .unset] [(.int (1 : Int32))])) _
        refine XS.istore X0.here hx rfl (hb hby at_12) rfl (l' := #[.val (.long q0), .second, .val (.long q1), .second, .val (.long q2), .second, .val (.long q3), .second, .val (.int p4), .val (.int (1 : Int32)), .unset, .unset, .unset, .unset, .unset, .unset, .unset, .unset, .unset]) rfl ?_
        show Steps p.tables e below (s₁.setTop (mkF m 14 #[.val (.long q0), .second, .val (.long q1), .second, .val (.long q2), .second, .val (.long q3), .second, .val (.int p4), .val (.int (1 : Int32)), .unset, .unset, .unset, .unset, .unset, .unset, .unset, .unset, .unset] [])) _
        refine XS.iload X0.here hx rfl (hb hby at_14) rfl ?_
        show Steps p.tables e below (s₁.setTop (mkF m 16 #[.val (.long q0), .second, .val (.long q1), .second, .val (.long q2), .second, .val (.long q3), .second, .val (.int p4), .val (.int (1 : Int32)), .unset, .unset, .unset, .unset, .unset, .unset, .unset, .unset, .unset] [(.int p4)])) _
        refine XS.iconst X0.here hx rfl (hb hby at_16) ?_
        show Steps p.tables e below (s₁.setTop (mkF m 17 #[.val (.long q0), .second, .val (.long q1), .second, .val (.long q2), .second, .val (.long q3), .second, .val (.int p4), .val (.int (1 : Int32)), .unset, .unset, .unset, .unset, .unset, .unset, .unset, .unset, .unset] [(.int (2 : Int32)), (.int p4)])) _
        refine XS.iand X0.here hx rfl (hb hby at_17) rfl ?_
        exact kt
      by_cases hc18 : (p4 &&& (2 : Int32)) = (0 : Int32)
      · -- (p4 &&& (2 : Int32)) = (0 : Int32)
        refine ⟨(1 : Int32), (0 : Int32), q0, q3, trivial, fun t kt => ?_⟩
        refine pre5 _ ?_
        show Steps p.tables e below (s₁.setTop (mkF m 18 #[.val (.long q0), .second, .val (.long q1), .second, .val (.long q2), .second, .val (.long q3), .second, .val (.int p4), .val (.int (1 : Int32)), .unset, .unset, .unset, .unset, .unset, .unset, .unset, .unset, .unset] [(.int (p4 &&& (2 : Int32)))])) _
        refine XS.ifYes X0.here hx rfl (pc0 := 18) (pc' := 25) rfl (hb hby at_18) rfl ((if0 _ _).trans (teq hc18).1) (by decide) (by decide) ?_
        show Steps p.tables e below (s₁.setTop (mkF m 25 #[.val (.long q0), .second, .val (.long q1), .second, .val (.long q2), .second, .val (.long q3), .second, .val (.int p4), .val (.int (1 : Int32)), .unset, .unset, .unset, .unset, .unset, .unset, .unset, .unset, .unset] [])) _
        refine XS.iconst X0.here hx rfl (hb hby at_25) ?_
        show Steps p.tables e below (s₁.setTop (mkF m 26 #[.val (.long q0), .second, .val (.long q1), .second, .val (.long q2), .second, .val (.long q3), .second, .val (.int p4), .val (.int (1 : Int32)), .unset, .unset, .unset, .unset, .unset, .unset, .unset, .unset, .unset] [(.int (0 : Int32))])) _
        refine XS.istore X0.here hx rfl (hb hby at_26) rfl (l' := #[.val (.long q0), .second, .val (.long q1), .second, .val (.long q2), .second, .val (.long q3), .second, .val (.int p4), .val (.int (1 : Int32)), .val (.int (0 : Int32)), .unset, .unset, .unset, .unset, .unset, .unset, .unset, .unset]) rfl ?_
        show Steps p.tables e below (s₁.setTop (mkF m 28 #[.val (.long q0), .second, .val (.long q1), .second, .val (.long q2), .second, .val (.long q3), .second, .val (.int p4), .val (.int (1 : Int32)), .val (.int (0 : Int32)), .unset, .unset, .unset, .unset, .unset, .unset, .unset, .unset] [])) _
        refine XS.iload X0.here hx rfl (hb hby at_28) rfl ?_
        show Steps p.tables e below (s₁.setTop (mkF m 30 #[.val (.long q0), .second, .val (.long q1), .second, .val (.long q2), .second, .val (.long q3), .second, .val (.int p4), .val (.int (1 : Int32)), .val (.int (0 : Int32)), .unset, .unset, .unset, .unset, .unset, .unset, .unset, .unset] [(.int (1 : Int32))])) _
        refine XS.ifNo X0.here hx rfl (hb hby at_30) rfl ((if0 _ _).trans (feq (by decide : ¬ ((1 : Int32) = (0 : Int32)))).1) ?_
        show Steps p.tables e below (s₁.setTop (mkF m 33 #[.val (.long q0), .second, .val (.long q1), .second, .val (.long q2), .second, .val (.long q3), .second, .val (.int p4), .val (.int (1 : Int32)), .val (.int (0 : Int32)), .unset, .unset, .unset, .unset, .unset, .unset, .unset, .unset] [])) _
        refine XS.lloadN X0.here hx rfl (hb hby at_33) rfl ?_
        show Steps p.tables e below (s₁.setTop (mkF m 34 #[.val (.long q0), .second, .val (.long q1), .second, .val (.long q2), .second, .val (.long q3), .second, .val (.int p4), .val (.int (1 : Int32)), .val (.int (0 : Int32)), .unset, .unset, .unset, .unset, .unset, .unset, .unset, .unset] [(.long q0)])) _
        refine XS.goto X0.here hx rfl (pc0 := 34) (pc' := 39) rfl (hb hby at_34) (by decide) (by decide) ?_
        show Steps p.tables e below (s₁.setTop (mkF m 39 #[.val (.long q0), .second, .val (.long q1), .second, .val (.long q2), .second, .val (.long q3), .second, .val (.int p4), .val (.int (1 : Int32)), .val (.int (0 : Int32)), .unset, .unset, .unset, .unset, .unset, .unset, .unset, .unset] [(.long q0)])) _
        refine XS.lstore X0.here hx rfl (hb hby at_39) rfl (l' := #[.val (.long q0), .second, .val (.long q1), .second, .val (.long q2), .second, .val (.long q3), .second, .val (.int p4), .val (.int (1 : Int32)), .val (.int (0 : Int32)), .val (.long q0), .second, .unset, .unset, .unset, .unset, .unset, .unset]) rfl ?_
        show Steps p.tables e below (s₁.setTop (mkF m 41 #[.val (.long q0), .second, .val (.long q1), .second, .val (.long q2), .second, .val (.long q3), .second, .val (.int p4), .val (.int (1 : Int32)), .val (.int (0 : Int32)), .val (.long q0), .second, .unset, .unset, .unset, .unset, .unset, .unset] [])) _
        refine XS.iload X0.here hx rfl (hb hby at_41) rfl ?_
        show Steps p.tables e below (s₁.setTop (mkF m 43 #[.val (.long q0), .second, .val (.long q1), .second, .val (.long q2), .second, .val (.long q3), .second, .val (.int p4), .val (.int (1 : Int32)), .val (.int (0 : Int32)), .val (.long q0), .second, .unset, .unset, .unset, .unset, .unset, .unset] [(.int (0 : Int32))])) _
        refine XS.ifYes X0.here hx rfl (pc0 := 43) (pc' := 50) rfl (hb hby at_43) rfl ((if0 _ _).trans (teq (by decide : (0 : Int32) = (0 : Int32))).1) (by decide) (by decide) ?_
        show Steps p.tables e below (s₁.setTop (mkF m 50 #[.val (.long q0), .second, .val (.long q1), .second, .val (.long q2), .second, .val (.long q3), .second, .val (.int p4), .val (.int (1 : Int32)), .val (.int (0 : Int32)), .val (.long q0), .second, .unset, .unset, .unset, .unset, .unset, .unset] [])) _
        refine XS.lload X0.here hx rfl (hb hby at_50) rfl ?_
        show Steps p.tables e below (s₁.setTop (mkF m 52 #[.val (.long q0), .second, .val (.long q1), .second, .val (.long q2), .second, .val (.long q3), .second, .val (.int p4), .val (.int (1 : Int32)), .val (.int (0 : Int32)), .val (.long q0), .second, .unset, .unset, .unset, .unset, .unset, .unset] [(.long q3)])) _
        refine XS.lstore X0.here hx rfl (hb hby at_52) rfl (l' := #[.val (.long q0), .second, .val (.long q1), .second, .val (.long q2), .second, .val (.long q3), .second, .val (.int p4), .val (.int (1 : Int32)), .val (.int (0 : Int32)), .val (.long q0), .second, .val (.long q3), .second, .unset, .unset, .unset, .unset]) rfl ?_
        exact kt
      · -- not (p4 &&& (2 : Int32)) = (0 : Int32)
        refine ⟨(1 : Int32), (1 : Int32), q0, q1, trivial, fun t kt => ?_⟩
        refine pre5 _ ?_
        show Steps p.tables e below (s₁.setTop (mkF m 18 #[.val (.long q0), .second, .val (.long q1), .second, .val (.long q2), .second, .val (.long q3), .second, .val (.int p4), .val (.int (1 : Int32)), .unset, .unset, .unset, .unset, .unset, .unset, .unset, .unset, .unset] [(.int (p4 &&& (2 : Int32)))])) _
        refine XS.ifNo X0.here hx rfl (hb hby at_18) rfl ((if0 _ _).trans (feq hc18).1) ?_
        show Steps p.tables e below (s₁.setTop (mkF m 21 #[.val (.long q0), .second, .val (.long q1), .second, .val (.long q2), .second, .val (.long q3), .second, .val (.int p4), .val (.int (1 : Int32)), .unset, .unset, .unset, .unset, .unset, .unset, .unset, .unset, .unset] [])) _
        refine XS.iconst X0.here hx rfl (hb hby at_21) ?_
        show Steps p.tables e below (s₁.setTop (mkF m 22 #[.val (.long q0), .second, .val (.long q1), .second, .val (.long q2), .second, .val (.long q3), .second, .val (.int p4), .val (.int (1 : Int32)), .unset, .unset, .unset, .unset, .unset, .unset, .unset, .unset, .unset] [(.int (1 : Int32))])) _
        refine XS.goto X0.here hx rfl (pc0 := 22) (pc' := 26) rfl (hb hby at_22) (by decide) (by decide) ?_
        show Steps p.tables e below (s₁.setTop (mkF m 26 #[.val (.long q0), .second, .val (.long q1), .second, .val (.long q2), .second, .val (.long q3), .second, .val (.int p4), .val (.int (1 : Int32)), .unset, .unset, .unset, .unset, .unset, .unset, .unset, .unset, .unset] [(.int (1 : Int32))])) _
        refine XS.istore X0.here hx rfl (hb hby at_26) rfl (l' := #[.val (.long q0), .second, .val (.long q1), .second, .val (.long q2), .second, .val (.long q3), .second, .val (.int p4), .val (.int (1 : Int32)), .val (.int (1 : Int32)), .unset, .unset, .unset, .unset, .unset, .unset, .unset, .unset]) rfl ?_
        show Steps p.tables e below (s₁.setTop (mkF m 28 #[.val (.long q0), .second, .val (.long q1), .second, .val (.long q2), .second, .val (.long q3), .second, .val (.int p4), .val (.int (1 : Int32)), .val (.int (1 : Int32)), .unset, .unset, .unset, .unset, .unset, .unset, .unset, .unset] [])) _
        refine XS.iload X0.here hx rfl (hb hby at_28) rfl ?_
        show Steps p.tables e below (s₁.setTop (mkF m 30 #[.val (.long q0), .second, .val (.long q1), .second, .val (.long q2), .second, .val (.long q3), .second, .val (.int p4), .val (.int (1 : Int32)), .val (.int (1 : Int32)), .unset, .unset, .unset, .unset, .unset, .unset, .unset, .unset] [(.int (1 : Int32))])) _
        refine XS.ifNo X0.here hx rfl (hb hby at_30) rfl ((if0 _ _).trans (feq (by decide : ¬ ((1 : Int32) = (0 : Int32)))).1) ?_
        show Steps p.tables e below (s₁.setTop (mkF m 33 #[.val (.long q0), .second, .val (.long q1), .second, .val (.long q2), .second, .val (.long q3), .second, .val (.int p4), .val (.int (1 : Int32)), .val (.int (1 : Int32)), .unset, .unset, .unset, .unset, .unset, .unset, .unset, .unset] [])) _
        refine XS.lloadN X0.here hx rfl (hb hby at_33) rfl ?_
        show Steps p.tables e below (s₁.setTop (mkF m 34 #[.val (.long q0), .second, .val (.long q1), .second, .val (.long q2), .second, .val (.long q3), .second, .val (.int p4), .val (.int (1 : Int32)), .val (.int (1 : Int32)), .unset, .unset, .unset, .unset, .unset, .unset, .unset, .unset] [(.long q0)])) _
        refine XS.goto X0.here hx rfl (pc0 := 34) (pc' := 39) rfl (hb hby at_34) (by decide) (by decide) ?_
        show Steps p.tables e below (s₁.setTop (mkF m 39 #[.val (.long q0), .second, .val (.long q1), .second, .val (.long q2), .second, .val (.long q3), .second, .val (.int p4), .val (.int (1 : Int32)), .val (.int (1 : Int32)), .unset, .unset, .unset, .unset, .unset, .unset, .unset, .unset] [(.long q0)])) _
        refine XS.lstore X0.here hx rfl (hb hby at_39) rfl (l' := #[.val (.long q0), .second, .val (.long q1), .second, .val (.long q2), .second, .val (.long q3), .second, .val (.int p4), .val (.int (1 : Int32)), .val (.int (1 : Int32)), .val (.long q0), .second, .unset, .unset, .unset, .unset, .unset, .unset]) rfl ?_
        show Steps p.tables e below (s₁.setTop (mkF m 41 #[.val (.long q0), .second, .val (.long q1), .second, .val (.long q2), .second, .val (.long q3), .second, .val (.int p4), .val (.int (1 : Int32)), .val (.int (1 : Int32)), .val (.long q0), .second, .unset, .unset, .unset, .unset, .unset, .unset] [])) _
        refine XS.iload X0.here hx rfl (hb hby at_41) rfl ?_
        show Steps p.tables e below (s₁.setTop (mkF m 43 #[.val (.long q0), .second, .val (.long q1), .second, .val (.long q2), .second, .val (.long q3), .second, .val (.int p4), .val (.int (1 : Int32)), .val (.int (1 : Int32)), .val (.long q0), .second, .unset, .unset, .unset, .unset, .unset, .unset] [(.int (1 : Int32))])) _
        refine XS.ifNo X0.here hx rfl (hb hby at_43) rfl ((if0 _ _).trans (feq (by decide : ¬ ((1 : Int32) = (0 : Int32)))).1) ?_
        show Steps p.tables e below (s₁.setTop (mkF m 46 #[.val (.long q0), .second, .val (.long q1), .second, .val (.long q2), .second, .val (.long q3), .second, .val (.int p4), .val (.int (1 : Int32)), .val (.int (1 : Int32)), .val (.long q0), .second, .unset, .unset, .unset, .unset, .unset, .unset] [])) _
        refine XS.lloadN X0.here hx rfl (hb hby at_46) rfl ?_
        show Steps p.tables e below (s₁.setTop (mkF m 47 #[.val (.long q0), .second, .val (.long q1), .second, .val (.long q2), .second, .val (.long q3), .second, .val (.int p4), .val (.int (1 : Int32)), .val (.int (1 : Int32)), .val (.long q0), .second, .unset, .unset, .unset, .unset, .unset, .unset] [(.long q1)])) _
        refine XS.goto X0.here hx rfl (pc0 := 47) (pc' := 52) rfl (hb hby at_47) (by decide) (by decide) ?_
        show Steps p.tables e below (s₁.setTop (mkF m 52 #[.val (.long q0), .second, .val (.long q1), .second, .val (.long q2), .second, .val (.long q3), .second, .val (.int p4), .val (.int (1 : Int32)), .val (.int (1 : Int32)), .val (.long q0), .second, .unset, .unset, .unset, .unset, .unset, .unset] [(.long q1)])) _
        refine XS.lstore X0.here hx rfl (hb hby at_52) rfl (l' := #[.val (.long q0), .second, .val (.long q1), .second, .val (.long q2), .second, .val (.long q3), .second, .val (.int p4), .val (.int (1 : Int32)), .val (.int (1 : Int32)), .val (.long q0), .second, .val (.long q1), .second, .unset, .unset, .unset, .unset]) rfl ?_
        exact kt
  obtain ⟨T6, h6, X6, e6, E6, A6, D6, -, st6⟩ := newO X0 hx hZ hown (hw _ (List.mem_of_getElem? (i := 0) rfl)) (hw _ (List.mem_of_getElem? (i := 1) rfl)) (hw _ (List.mem_of_getElem? (i := 2) rfl)) e0 (g := (mkF m 54 #[.val (.long q0), .second, .val (.long q1), .second, .val (.long q2), .second, .val (.long q3), .second, .val (.int p4), .val (.int ss), .val (.int sl), .val (.long a2), .second, .val (.long b2), .second, .unset, .unset, .unset, .unset] [])) rfl (hb hby at_54) (by decide) (by decide)
  obtain ⟨b6, g6⟩ : ∃ z, z = h0.size := ⟨_, rfl⟩
  rw [← g6] at A6 D6 st6
  have gn6 : n0 ≤ b6 := Nat.le_trans Z0 (Nat.le_of_eq g6.symm)
  have Z7 : n0 ≤ h6.size := Nat.le_trans Z0 E6.1
  have Fn6_10 : Fld Z h6 b6 "com/example/sarasvati/sarasvati/window/Window" "startMs" "J" (.long (0 : Int64)) := D6 (Or.inr (hw _ (List.mem_of_getElem? (i := 10) rfl))) (ty := .long) (by decide)
  have Fn6_12 : Fld Z h6 b6 "com/example/sarasvati/sarasvati/window/Window" "lengthMs" "J" (.long (0 : Int64)) := D6 (Or.inr (hw _ (List.mem_of_getElem? (i := 12) rfl))) (ty := .long) (by decide)
  obtain ⟨_, _, ⟨T8, L8, k8, n8⟩, -, X8, ⟨Lc8, hQ8, l8, y8, z8⟩, st8⟩ := X6.specialBack hx (y := (⟨"com/example/sarasvati/sarasvati/window/Window", "<init>", "(JJ)V"⟩ : MethodName)) rfl hown (mvT hZ (hw _ (List.mem_of_getElem? (i := 3) rfl))) (mvT hZ (hw _ (List.mem_of_getElem? (i := 4) rfl))) (mvT hZ (hw _ (List.mem_of_getElem? (i := 5) rfl))) (by decide) (backOf (W := 1) (rm1 l Z a0 hw [] b6 q0 q1 _ _ h6 n0 Z7 A6 gn6 Fn6_10 Fn6_12) hZ (hw _ (List.mem_of_getElem? (i := 5) rfl)) (hw _ (List.mem_of_getElem? (i := 2) rfl)) (by decide) (by decide)) (g := (mkF m 60 #[.val (.long q0), .second, .val (.long q1), .second, .val (.long q2), .second, .val (.long q3), .second, .val (.int p4), .val (.int ss), .val (.int sl), .val (.long a2), .second, .val (.long b2), .second, .unset, .unset, .unset, .unset] [(.long q1), (.long q0), (.ref b6), (.ref b6)])) rfl (by rw [hml]; rfl) (Steps.refl _) (a := b6) (argsL := [(.long q0), (.long q1)]) (rest := [(.ref b6)]) (lenOf pd_2 rfl) rfl (by show 2 * 0 + _ ≤ _; exact Nat.le_of_eq rfl) (hb hby at_60) (fun _ _ => ⟨rfl, e6, (by decide : 1 + 0 ≤ _), (by decide : 2 + 0 ≤ _)⟩)
  dsimp only [Pt.U, Pt.locs, Pt.cells, Pt.slots] at X8 l8 y8 z8 st8 hQ8
  subst l8 y8 z8
  obtain ⟨rfl, N8q, K8, A8x, Fc8_0, Fc8_1⟩ := hQ8
  have N8 := Fr.app N0 N8q
  have Z9 : n0 ≤ T8.heap.size := Nat.le_trans Z7 K8.1
  have Fg8_0 : Fld Z T8.heap b6 "com/example/sarasvati/sarasvati/window/Window" "startMs" "J" (.long q0) := Fc8_0
  have Fg8_1 : Fld Z T8.heap b6 "com/example/sarasvati/sarasvati/window/Window" "lengthMs" "J" (.long q1) := Fc8_1
  obtain ⟨T10, h10, X10, e10, E10, A10, D10, -, st10⟩ := newO X8 hx hZ hown (hw _ (List.mem_of_getElem? (i := 0) rfl)) (hw _ (List.mem_of_getElem? (i := 1) rfl)) (hw _ (List.mem_of_getElem? (i := 2) rfl)) rfl (g := (mkF m 65 #[.val (.long q0), .second, .val (.long q1), .second, .val (.long q2), .second, .val (.long q3), .second, .val (.int p4), .val (.int ss), .val (.int sl), .val (.long a2), .second, .val (.long b2), .second, .val (.ref b6), .unset, .unset, .unset] [])) rfl (hb hby at_65) (by decide) (by decide)
  obtain ⟨b10, g10⟩ : ∃ z, z = T8.heap.size := ⟨_, rfl⟩
  rw [← g10] at A10 D10 st10
  have gn10 : n0 ≤ b10 := Nat.le_trans Z9 (Nat.le_of_eq g10.symm)
  have ne10_b6 : b6 ≠ b10 := Nat.ne_of_lt (Nat.lt_of_lt_of_le A8x.lt (Nat.le_of_eq g10.symm))
  have Z11 : n0 ≤ h10.size := Nat.le_trans Z9 E10.1
  have Fn10_10 : Fld Z h10 b10 "com/example/sarasvati/sarasvati/window/Window" "startMs" "J" (.long (0 : Int64)) := D10 (Or.inr (hw _ (List.mem_of_getElem? (i := 10) rfl))) (ty := .long) (by decide)
  have Fn10_12 : Fld Z h10 b10 "com/example/sarasvati/sarasvati/window/Window" "lengthMs" "J" (.long (0 : Int64)) := D10 (Or.inr (hw _ (List.mem_of_getElem? (i := 12) rfl))) (ty := .long) (by decide)
  obtain ⟨_, _, ⟨T12, L12, k12, n12⟩, -, X12, ⟨Lc12, hQ12, l12, y12, z12⟩, st12⟩ := X10.specialBack hx (y := (⟨"com/example/sarasvati/sarasvati/window/Window", "<init>", "(JJ)V"⟩ : MethodName)) rfl hown (mvT hZ (hw _ (List.mem_of_getElem? (i := 3) rfl))) (mvT hZ (hw _ (List.mem_of_getElem? (i := 4) rfl))) (mvT hZ (hw _ (List.mem_of_getElem? (i := 5) rfl))) (by decide) (backOf (W := 1) (rm1 l Z a0 hw [] b10 a2 b2 _ _ h10 n0 Z11 A10 gn10 Fn10_10 Fn10_12) hZ (hw _ (List.mem_of_getElem? (i := 5) rfl)) (hw _ (List.mem_of_getElem? (i := 2) rfl)) (by decide) (by decide)) (g := (mkF m 73 #[.val (.long q0), .second, .val (.long q1), .second, .val (.long q2), .second, .val (.long q3), .second, .val (.int p4), .val (.int ss), .val (.int sl), .val (.long a2), .second, .val (.long b2), .second, .val (.ref b6), .unset, .unset, .unset] [(.long b2), (.long a2), (.ref b10), (.ref b10)])) rfl (by rw [hml]; rfl) (Steps.refl _) (a := b10) (argsL := [(.long a2), (.long b2)]) (rest := [(.ref b10)]) (lenOf pd_2 rfl) rfl (by show 2 * 0 + _ ≤ _; exact Nat.le_of_eq rfl) (hb hby at_73) (fun _ _ => ⟨rfl, e10, (by decide : 2 + 0 ≤ _), (by decide : 4 + 0 ≤ _)⟩)
  dsimp only [Pt.U, Pt.locs, Pt.cells, Pt.slots] at X12 l12 y12 z12 st12 hQ12
  subst l12 y12 z12
  obtain ⟨rfl, N12q, K12, A12x, Fc12_0, Fc12_1⟩ := hQ12
  have N12 := Fr.app N8 N12q
  have Z13 : n0 ≤ T12.heap.size := Nat.le_trans Z11 K12.1
  have Fg12_0 : Fld Z T12.heap b10 "com/example/sarasvati/sarasvati/window/Window" "startMs" "J" (.long a2) := Fc12_0
  have Fg12_1 : Fld Z T12.heap b10 "com/example/sarasvati/sarasvati/window/Window" "lengthMs" "J" (.long b2) := Fc12_1
  have pre14 : ∀ t, Steps p.tables e below (T12.setTop (mkF m 78 #[.val (.long q0), .second, .val (.long q1), .second, .val (.long q2), .second, .val (.long q3), .second, .val (.int p4), .val (.int ss), .val (.int sl), .val (.long a2), .second, .val (.long b2), .second, .val (.ref b6), .val (.ref b10), .unset, .unset] [])) t → Steps p.tables e below (s₁.setTop (entryFrame m #[(.long q0), (.long q1), (.long q2), (.long q3), (.int p4)] maxLocals)) t := by
    intro t kt
    refine pre2 _ ?_
    show Steps p.tables e below (s₁.setTop (mkF m 54 #[.val (.long q0), .second, .val (.long q1), .second, .val (.long q2), .second, .val (.long q3), .second, .val (.int p4), .val (.int ss), .val (.int sl), .val (.long a2), .second, .val (.long b2), .second, .unset, .unset, .unset, .unset] [])) _
    refine st6 _ ?_
    show Steps p.tables e below (T6.setTop (mkF m 57 #[.val (.long q0), .second, .val (.long q1), .second, .val (.long q2), .second, .val (.long q3), .second, .val (.int p4), .val (.int ss), .val (.int sl), .val (.long a2), .second, .val (.long b2), .second, .unset, .unset, .unset, .unset] [(.ref b6)])) _
    refine XS.dup X6.here hx rfl (hb hby at_57) rfl rfl ?_
    show Steps p.tables e below (T6.setTop (mkF m 58 #[.val (.long q0), .second, .val (.long q1), .second, .val (.long q2), .second, .val (.long q3), .second, .val (.int p4), .val (.int ss), .val (.int sl), .val (.long a2), .second, .val (.long b2), .second, .unset, .unset, .unset, .unset] [(.ref b6), (.ref b6)])) _
    refine XS.lloadN X6.here hx rfl (hb hby at_58) rfl ?_
    show Steps p.tables e below (T6.setTop (mkF m 59 #[.val (.long q0), .second, .val (.long q1), .second, .val (.long q2), .second, .val (.long q3), .second, .val (.int p4), .val (.int ss), .val (.int sl), .val (.long a2), .second, .val (.long b2), .second, .unset, .unset, .unset, .unset] [(.long q0), (.ref b6), (.ref b6)])) _
    refine XS.lloadN X6.here hx rfl (hb hby at_59) rfl ?_
    show Steps p.tables e below (T6.setTop (mkF m 60 #[.val (.long q0), .second, .val (.long q1), .second, .val (.long q2), .second, .val (.long q3), .second, .val (.int p4), .val (.int ss), .val (.int sl), .val (.long a2), .second, .val (.long b2), .second, .unset, .unset, .unset, .unset] [(.long q1), (.long q0), (.ref b6), (.ref b6)])) _
    refine st8.trans ?_
    show Steps p.tables e below (T8.setTop (mkF m 63 #[.val (.long q0), .second, .val (.long q1), .second, .val (.long q2), .second, .val (.long q3), .second, .val (.int p4), .val (.int ss), .val (.int sl), .val (.long a2), .second, .val (.long b2), .second, .unset, .unset, .unset, .unset] [(.ref b6)])) _
    refine XS.astore X8.here hx rfl (hb hby at_63) rfl rfl (l' := #[.val (.long q0), .second, .val (.long q1), .second, .val (.long q2), .second, .val (.long q3), .second, .val (.int p4), .val (.int ss), .val (.int sl), .val (.long a2), .second, .val (.long b2), .second, .val (.ref b6), .unset, .unset, .unset]) rfl ?_
    show Steps p.tables e below (T8.setTop (mkF m 65 #[.val (.long q0), .second, .val (.long q1), .second, .val (.long q2), .second, .val (.long q3), .second, .val (.int p4), .val (.int ss), .val (.int sl), .val (.long a2), .second, .val (.long b2), .second, .val (.ref b6), .unset, .unset, .unset] [])) _
    refine st10 _ ?_
    show Steps p.tables e below (T10.setTop (mkF m 68 #[.val (.long q0), .second, .val (.long q1), .second, .val (.long q2), .second, .val (.long q3), .second, .val (.int p4), .val (.int ss), .val (.int sl), .val (.long a2), .second, .val (.long b2), .second, .val (.ref b6), .unset, .unset, .unset] [(.ref b10)])) _
    refine XS.dup X10.here hx rfl (hb hby at_68) rfl rfl ?_
    show Steps p.tables e below (T10.setTop (mkF m 69 #[.val (.long q0), .second, .val (.long q1), .second, .val (.long q2), .second, .val (.long q3), .second, .val (.int p4), .val (.int ss), .val (.int sl), .val (.long a2), .second, .val (.long b2), .second, .val (.ref b6), .unset, .unset, .unset] [(.ref b10), (.ref b10)])) _
    refine XS.lload X10.here hx rfl (hb hby at_69) rfl ?_
    show Steps p.tables e below (T10.setTop (mkF m 71 #[.val (.long q0), .second, .val (.long q1), .second, .val (.long q2), .second, .val (.long q3), .second, .val (.int p4), .val (.int ss), .val (.int sl), .val (.long a2), .second, .val (.long b2), .second, .val (.ref b6), .unset, .unset, .unset] [(.long a2), (.ref b10), (.ref b10)])) _
    refine XS.lload X10.here hx rfl (hb hby at_71) rfl ?_
    show Steps p.tables e below (T10.setTop (mkF m 73 #[.val (.long q0), .second, .val (.long q1), .second, .val (.long q2), .second, .val (.long q3), .second, .val (.int p4), .val (.int ss), .val (.int sl), .val (.long a2), .second, .val (.long b2), .second, .val (.ref b6), .unset, .unset, .unset] [(.long b2), (.long a2), (.ref b10), (.ref b10)])) _
    refine st12.trans ?_
    show Steps p.tables e below (T12.setTop (mkF m 76 #[.val (.long q0), .second, .val (.long q1), .second, .val (.long q2), .second, .val (.long q3), .second, .val (.int p4), .val (.int ss), .val (.int sl), .val (.long a2), .second, .val (.long b2), .second, .val (.ref b6), .unset, .unset, .unset] [(.ref b10)])) _
    refine XS.astore X12.here hx rfl (hb hby at_76) rfl rfl (l' := #[.val (.long q0), .second, .val (.long q1), .second, .val (.long q2), .second, .val (.long q3), .second, .val (.int p4), .val (.int ss), .val (.int sl), .val (.long a2), .second, .val (.long b2), .second, .val (.ref b6), .val (.ref b10), .unset, .unset]) rfl ?_
    exact kt
  obtain ⟨kd, hm15, pre16⟩ : ∃ (kd : Int32), (True) ∧ ∀ t, Steps p.tables e below (T12.setTop (mkF m 84 #[.val (.long q0), .second, .val (.long q1), .second, .val (.long q2), .second, .val (.long q3), .second, .val (.int p4), .val (.int ss), .val (.int sl), .val (.long a2), .second, .val (.long b2), .second, .val (.ref b6), .val (.ref b10), .unset, .unset] [(.int kd)])) t → Steps p.tables e below (s₁.setTop (entryFrame m #[(.long q0), (.long q1), (.long q2), (.long q3), (.int p4)] maxLocals)) t := by
    refine ⟨(((p4.toUInt32 >>> ((2 : Int32) &&& 31).toUInt32).toInt32) &&& (3 : Int32)), trivial, fun t kt => ?_⟩
    refine pre14 _ ?_
    show Steps p.tables e below (T12.setTop (mkF m 78 #[.val (.long q0), .second, .val (.long q1), .second, .val (.long q2), .second, .val (.long q3), .second, .val (.int p4), .val (.int ss), .val (.int sl), .val (.long a2), .second, .val (.long b2), .second, .val (.ref b6), .val (.ref b10), .unset, .unset] [])) _
    refine XS.iload X12.here hx rfl (hb hby at_78) rfl ?_
    show Steps p.tables e below (T12.setTop (mkF m 80 #[.val (.long q0), .second, .val (.long q1), .second, .val (.long q2), .second, .val (.long q3), .second, .val (.int p4), .val (.int ss), .val (.int sl), .val (.long a2), .second, .val (.long b2), .second, .val (.ref b6), .val (.ref b10), .unset, .unset] [(.int p4)])) _
    refine XS.iconst X12.here hx rfl (hb hby at_80) ?_
    show Steps p.tables e below (T12.setTop (mkF m 81 #[.val (.long q0), .second, .val (.long q1), .second, .val (.long q2), .second, .val (.long q3), .second, .val (.int p4), .val (.int ss), .val (.int sl), .val (.long a2), .second, .val (.long b2), .second, .val (.ref b6), .val (.ref b10), .unset, .unset] [(.int (2 : Int32)), (.int p4)])) _
    refine XS.iushr X12.here hx rfl (hb hby at_81) rfl ?_
    show Steps p.tables e below (T12.setTop (mkF m 82 #[.val (.long q0), .second, .val (.long q1), .second, .val (.long q2), .second, .val (.long q3), .second, .val (.int p4), .val (.int ss), .val (.int sl), .val (.long a2), .second, .val (.long b2), .second, .val (.ref b6), .val (.ref b10), .unset, .unset] [(.int ((p4.toUInt32 >>> ((2 : Int32) &&& 31).toUInt32).toInt32))])) _
    refine XS.iconst X12.here hx rfl (hb hby at_82) ?_
    show Steps p.tables e below (T12.setTop (mkF m 83 #[.val (.long q0), .second, .val (.long q1), .second, .val (.long q2), .second, .val (.long q3), .second, .val (.int p4), .val (.int ss), .val (.int sl), .val (.long a2), .second, .val (.long b2), .second, .val (.ref b6), .val (.ref b10), .unset, .unset] [(.int (3 : Int32)), (.int ((p4.toUInt32 >>> ((2 : Int32) &&& 31).toUInt32).toInt32))])) _
    refine XS.iand X12.here hx rfl (hb hby at_83) rfl ?_
    exact kt
  have pre17 : ∀ t, Steps p.tables e below (T12.setTop (mkF m 88 #[.val (.long q0), .second, .val (.long q1), .second, .val (.long q2), .second, .val (.long q3), .second, .val (.int p4), .val (.int ss), .val (.int sl), .val (.long a2), .second, .val (.long b2), .second, .val (.ref b6), .val (.ref b10), .val (.int kd), .unset] [(.int kd)])) t → Steps p.tables e below (s₁.setTop (entryFrame m #[(.long q0), (.long q1), (.long q2), (.long q3), (.int p4)] maxLocals)) t := by
    intro t kt
    refine pre16 _ ?_
    show Steps p.tables e below (T12.setTop (mkF m 84 #[.val (.long q0), .second, .val (.long q1), .second, .val (.long q2), .second, .val (.long q3), .second, .val (.int p4), .val (.int ss), .val (.int sl), .val (.long a2), .second, .val (.long b2), .second, .val (.ref b6), .val (.ref b10), .unset, .unset] [(.int kd)])) _
    refine XS.istore X12.here hx rfl (hb hby at_84) rfl (l' := #[.val (.long q0), .second, .val (.long q1), .second, .val (.long q2), .second, .val (.long q3), .second, .val (.int p4), .val (.int ss), .val (.int sl), .val (.long a2), .second, .val (.long b2), .second, .val (.ref b6), .val (.ref b10), .val (.int kd), .unset]) rfl ?_
    show Steps p.tables e below (T12.setTop (mkF m 86 #[.val (.long q0), .second, .val (.long q1), .second, .val (.long q2), .second, .val (.long q3), .second, .val (.int p4), .val (.int ss), .val (.int sl), .val (.long a2), .second, .val (.long b2), .second, .val (.ref b6), .val (.ref b10), .val (.int kd), .unset] [])) _
    refine XS.iload X12.here hx rfl (hb hby at_86) rfl ?_
    exact kt
  by_cases hc88 : kd = (0 : Int32)
  · -- kd = (0 : Int32)
    have pre18 : ∀ t, Steps p.tables e below (T12.setTop (mkF m 95 #[.val (.long q0), .second, .val (.long q1), .second, .val (.long q2), .second, .val (.long q3), .second, .val (.int p4), .val (.int ss), .val (.int sl), .val (.long a2), .second, .val (.long b2), .second, .val (.ref b6), .val (.ref b10), .val (.int kd), .unset] [(.int (lcmpW q0 a2))])) t → Steps p.tables e below (s₁.setTop (entryFrame m #[(.long q0), (.long q1), (.long q2), (.long q3), (.int p4)] maxLocals)) t := by
      intro t kt
      refine pre17 _ ?_
      show Steps p.tables e below (T12.setTop (mkF m 88 #[.val (.long q0), .second, .val (.long q1), .second, .val (.long q2), .second, .val (.long q3), .second, .val (.int p4), .val (.int ss), .val (.int sl), .val (.long a2), .second, .val (.long b2), .second, .val (.ref b6), .val (.ref b10), .val (.int kd), .unset] [(.int kd)])) _
      refine XS.ifNo X12.here hx rfl (hb hby at_88) rfl ((if0 _ _).trans (teq hc88).2) ?_
      show Steps p.tables e below (T12.setTop (mkF m 91 #[.val (.long q0), .second, .val (.long q1), .second, .val (.long q2), .second, .val (.long q3), .second, .val (.int p4), .val (.int ss), .val (.int sl), .val (.long a2), .second, .val (.long b2), .second, .val (.ref b6), .val (.ref b10), .val (.int kd), .unset] [])) _
      refine XS.lloadN X12.here hx rfl (hb hby at_91) rfl ?_
      show Steps p.tables e below (T12.setTop (mkF m 92 #[.val (.long q0), .second, .val (.long q1), .second, .val (.long q2), .second, .val (.long q3), .second, .val (.int p4), .val (.int ss), .val (.int sl), .val (.long a2), .second, .val (.long b2), .second, .val (.ref b6), .val (.ref b10), .val (.int kd), .unset] [(.long q0)])) _
      refine XS.lload X12.here hx rfl (hb hby at_92) rfl ?_
      show Steps p.tables e below (T12.setTop (mkF m 94 #[.val (.long q0), .second, .val (.long q1), .second, .val (.long q2), .second, .val (.long q3), .second, .val (.int p4), .val (.int ss), .val (.int sl), .val (.long a2), .second, .val (.long b2), .second, .val (.ref b6), .val (.ref b10), .val (.int kd), .unset] [(.long a2), (.long q0)])) _
      refine XS.lcmp X12.here hx rfl (hb hby at_94) rfl ?_
      exact kt
    by_cases hc95 : q0 = a2
    · -- q0 = a2
      have pre19 : ∀ t, Steps p.tables e below (T12.setTop (mkF m 102 #[.val (.long q0), .second, .val (.long q1), .second, .val (.long q2), .second, .val (.long q3), .second, .val (.int p4), .val (.int ss), .val (.int sl), .val (.long a2), .second, .val (.long b2), .second, .val (.ref b6), .val (.ref b10), .val (.int kd), .unset] [(.int (lcmpW q1 b2))])) t → Steps p.tables e below (s₁.setTop (entryFrame m #[(.long q0), (.long q1), (.long q2), (.long q3), (.int p4)] maxLocals)) t := by
        intro t kt
        refine pre18 _ ?_
        show Steps p.tables e below (T12.setTop (mkF m 95 #[.val (.long q0), .second, .val (.long q1), .second, .val (.long q2), .second, .val (.long q3), .second, .val (.int p4), .val (.int ss), .val (.int sl), .val (.long a2), .second, .val (.long b2), .second, .val (.ref b6), .val (.ref b10), .val (.int kd), .unset] [(.int (lcmpW q0 a2))])) _
        refine XS.ifNo X12.here hx rfl (hb hby at_95) rfl ((if0 _ _).trans (teq ((lw_eq _ _).mpr hc95)).2) ?_
        show Steps p.tables e below (T12.setTop (mkF m 98 #[.val (.long q0), .second, .val (.long q1), .second, .val (.long q2), .second, .val (.long q3), .second, .val (.int p4), .val (.int ss), .val (.int sl), .val (.long a2), .second, .val (.long b2), .second, .val (.ref b6), .val (.ref b10), .val (.int kd), .unset] [])) _
        refine XS.lloadN X12.here hx rfl (hb hby at_98) rfl ?_
        show Steps p.tables e below (T12.setTop (mkF m 99 #[.val (.long q0), .second, .val (.long q1), .second, .val (.long q2), .second, .val (.long q3), .second, .val (.int p4), .val (.int ss), .val (.int sl), .val (.long a2), .second, .val (.long b2), .second, .val (.ref b6), .val (.ref b10), .val (.int kd), .unset] [(.long q1)])) _
        refine XS.lload X12.here hx rfl (hb hby at_99) rfl ?_
        show Steps p.tables e below (T12.setTop (mkF m 101 #[.val (.long q0), .second, .val (.long q1), .second, .val (.long q2), .second, .val (.long q3), .second, .val (.int p4), .val (.int ss), .val (.int sl), .val (.long a2), .second, .val (.long b2), .second, .val (.ref b6), .val (.ref b10), .val (.int kd), .unset] [(.long b2), (.long q1)])) _
        refine XS.lcmp X12.here hx rfl (hb hby at_101) rfl ?_
        exact kt
      by_cases hc102 : q1 = b2
      · -- q1 = b2
        have f21 := ((Fg8_0.ext E10).keep K12 (fun hm => ne10_b6 (List.mem_singleton.mp hm)))
        have f22 := ((Fg8_1.ext E10).keep K12 (fun hm => ne10_b6 (List.mem_singleton.mp hm)))
        have f23 := ((A8x.ext E10).keep K12)
        obtain ⟨cq20, kq20, q20a, q20b, q20c⟩ := isOf hZ rfl f23
        obtain ⟨_, _, ⟨T20, L20, k20, n20⟩, -, X20, ⟨Lc20, hQ20, l20, y20, z20⟩, st20⟩ := X12.virtualBack hx (y := (⟨"com/example/sarasvati/sarasvati/window/Window", "equals", "(Ljava/lang/Object;)Z"⟩ : MethodName)) (z := (⟨"com/example/sarasvati/sarasvati/window/Window", "equals", "(Ljava/lang/Object;)Z"⟩ : MethodName)) hown (mvT hZ (hw _ (List.mem_of_getElem? (i := 13) rfl))) (mvT hZ (hw _ (List.mem_of_getElem? (i := 14) rfl))) (notFace_of_selects (args := #[]) (mvT hZ (hw _ (List.mem_of_getElem? (i := 16) rfl)))) (mvT hZ (hw _ (List.mem_of_getElem? (i := 16) rfl))) (mvT hZ (hw _ (List.mem_of_getElem? (i := 15) rfl))) (by decide) (backOf (W := 0) (rm3 l Z a0 hw [] b6 b10 q0 q1 a2 b2 T12.heap n0 Z13 A12x f21 f22 Fg12_0 Fg12_1) hZ (hw _ (List.mem_of_getElem? (i := 17) rfl)) (hw _ (List.mem_of_getElem? (i := 2) rfl)) (by decide) (by decide)) q20a q20c (g := (mkF m 116 #[.val (.long q0), .second, .val (.long q1), .second, .val (.long q2), .second, .val (.long q3), .second, .val (.int p4), .val (.int ss), .val (.int sl), .val (.long a2), .second, .val (.long b2), .second, .val (.ref b6), .val (.ref b10), .val (.int kd), .val (.int (1 : Int32))] [(.ref b10), (.ref b6)])) rfl (by rw [hml]; rfl) (Steps.refl _) (argsL := [(.ref b10)]) (rest := []) (lenOf pd_3 rfl) rfl (by show 2 * 0 + _ ≤ _; exact Nat.le_of_eq rfl) (hb hby at_116) (fun _ _ => ⟨rfl, rfl, (by decide : 2 + 0 ≤ _), (by decide : 4 + 0 ≤ _)⟩)
        dsimp only [Pt.U, Pt.locs, Pt.cells, Pt.slots] at X20 l20 y20 z20 st20 hQ20
        subst l20 y20 z20
        obtain ⟨rfl, N20q, e20q⟩ := hQ20
        have N20 := Fr.app N12 N20q
        obtain ⟨cq24, kq24, q24a, q24b, q24c⟩ := isOf hZ e20q A12x
        obtain ⟨_, _, ⟨T24, L24, k24, n24⟩, -, X24, ⟨Lc24, hQ24, l24, y24, z24⟩, st24⟩ := X20.virtualBack hx (y := (⟨"com/example/sarasvati/sarasvati/window/Window", "equals", "(Ljava/lang/Object;)Z"⟩ : MethodName)) (z := (⟨"com/example/sarasvati/sarasvati/window/Window", "equals", "(Ljava/lang/Object;)Z"⟩ : MethodName)) hown (mvT hZ (hw _ (List.mem_of_getElem? (i := 13) rfl))) (mvT hZ (hw _ (List.mem_of_getElem? (i := 14) rfl))) (notFace_of_selects (args := #[]) (mvT hZ (hw _ (List.mem_of_getElem? (i := 16) rfl)))) (mvT hZ (hw _ (List.mem_of_getElem? (i := 16) rfl))) (mvT hZ (hw _ (List.mem_of_getElem? (i := 15) rfl))) (by decide) (backOf (W := 0) (rm3 l Z a0 hw [] b10 b6 a2 b2 q0 q1 T12.heap n0 Z13 f23 Fg12_0 Fg12_1 f21 f22) hZ (hw _ (List.mem_of_getElem? (i := 17) rfl)) (hw _ (List.mem_of_getElem? (i := 2) rfl)) (by decide) (by decide)) q24a q24c (g := (mkF m 128 #[.val (.long q0), .second, .val (.long q1), .second, .val (.long q2), .second, .val (.long q3), .second, .val (.int p4), .val (.int ss), .val (.int sl), .val (.long a2), .second, .val (.long b2), .second, .val (.ref b6), .val (.ref b10), .val (.int kd), .val (.int (1 : Int32))] [(.ref b6), (.ref b10)])) rfl (by rw [hml]; rfl) (Steps.refl _) (argsL := [(.ref b6)]) (rest := []) (lenOf pd_3 rfl) rfl (by show 2 * 0 + _ ≤ _; exact Nat.le_of_eq rfl) (hb hby at_128) (fun _ _ => ⟨rfl, e20q, (by decide : 2 + 0 ≤ _), (by decide : 4 + 0 ≤ _)⟩)
        dsimp only [Pt.U, Pt.locs, Pt.cells, Pt.slots] at X24 l24 y24 z24 st24 hQ24
        subst l24 y24 z24
        obtain ⟨rfl, N24q, e24q⟩ := hQ24
        have N24 := Fr.app N20 N24q
        obtain ⟨fs, hr, hrun, hended, hW, hsame⟩ := X24.leave (v := some (.int (1 : Int32))) (fun h => by rw [Bd.returns] at h; cases h)
        refine ⟨_, _, pre19 _ ?_, hrun, hended, _, _, rfl, ?_, ⟨_, rfl⟩, hW, hsame.mono (by decide) (by decide)⟩
        · show Steps p.tables e below (T12.setTop (mkF m 102 #[.val (.long q0), .second, .val (.long q1), .second, .val (.long q2), .second, .val (.long q3), .second, .val (.int p4), .val (.int ss), .val (.int sl), .val (.long a2), .second, .val (.long b2), .second, .val (.ref b6), .val (.ref b10), .val (.int kd), .unset] [(.int (lcmpW q1 b2))])) _
          refine XS.ifNo X12.here hx rfl (hb hby at_102) rfl ((if0 _ _).trans (teq ((lw_eq _ _).mpr hc102)).2) ?_
          show Steps p.tables e below (T12.setTop (mkF m 105 #[.val (.long q0), .second, .val (.long q1), .second, .val (.long q2), .second, .val (.long q3), .second, .val (.int p4), .val (.int ss), .val (.int sl), .val (.long a2), .second, .val (.long b2), .second, .val (.ref b6), .val (.ref b10), .val (.int kd), .unset] [])) _
          refine XS.iconst X12.here hx rfl (hb hby at_105) ?_
          show Steps p.tables e below (T12.setTop (mkF m 106 #[.val (.long q0), .second, .val (.long q1), .second, .val (.long q2), .second, .val (.long q3), .second, .val (.int p4), .val (.int ss), .val (.int sl), .val (.long a2), .second, .val (.long b2), .second, .val (.ref b6), .val (.ref b10), .val (.int kd), .unset] [(.int (1 : Int32))])) _
          refine XS.goto X12.here hx rfl (pc0 := 106) (pc' := 110) rfl (hb hby at_106) (by decide) (by decide) ?_
          show Steps p.tables e below (T12.setTop (mkF m 110 #[.val (.long q0), .second, .val (.long q1), .second, .val (.long q2), .second, .val (.long q3), .second, .val (.int p4), .val (.int ss), .val (.int sl), .val (.long a2), .second, .val (.long b2), .second, .val (.ref b6), .val (.ref b10), .val (.int kd), .unset] [(.int (1 : Int32))])) _
          refine XS.istore X12.here hx rfl (hb hby at_110) rfl (l' := #[.val (.long q0), .second, .val (.long q1), .second, .val (.long q2), .second, .val (.long q3), .second, .val (.int p4), .val (.int ss), .val (.int sl), .val (.long a2), .second, .val (.long b2), .second, .val (.ref b6), .val (.ref b10), .val (.int kd), .val (.int (1 : Int32))]) rfl ?_
          show Steps p.tables e below (T12.setTop (mkF m 112 #[.val (.long q0), .second, .val (.long q1), .second, .val (.long q2), .second, .val (.long q3), .second, .val (.int p4), .val (.int ss), .val (.int sl), .val (.long a2), .second, .val (.long b2), .second, .val (.ref b6), .val (.ref b10), .val (.int kd), .val (.int (1 : Int32))] [])) _
          refine XS.aload X12.here hx rfl (hb hby at_112) rfl rfl ?_
          show Steps p.tables e below (T12.setTop (mkF m 114 #[.val (.long q0), .second, .val (.long q1), .second, .val (.long q2), .second, .val (.long q3), .second, .val (.int p4), .val (.int ss), .val (.int sl), .val (.long a2), .second, .val (.long b2), .second, .val (.ref b6), .val (.ref b10), .val (.int kd), .val (.int (1 : Int32))] [(.ref b6)])) _
          refine XS.aload X12.here hx rfl (hb hby at_114) rfl rfl ?_
          show Steps p.tables e below (T12.setTop (mkF m 116 #[.val (.long q0), .second, .val (.long q1), .second, .val (.long q2), .second, .val (.long q3), .second, .val (.int p4), .val (.int ss), .val (.int sl), .val (.long a2), .second, .val (.long b2), .second, .val (.ref b6), .val (.ref b10), .val (.int kd), .val (.int (1 : Int32))] [(.ref b10), (.ref b6)])) _
          refine st20.trans ?_
          show Steps p.tables e below (T20.setTop (mkF m 119 #[.val (.long q0), .second, .val (.long q1), .second, .val (.long q2), .second, .val (.long q3), .second, .val (.int p4), .val (.int ss), .val (.int sl), .val (.long a2), .second, .val (.long b2), .second, .val (.ref b6), .val (.ref b10), .val (.int kd), .val (.int (1 : Int32))] [(.int (own_eq q0 q1 a2 b2))])) _
          refine XS.iload X20.here hx rfl (hb hby at_119) rfl ?_
          show Steps p.tables e below (T20.setTop (mkF m 121 #[.val (.long q0), .second, .val (.long q1), .second, .val (.long q2), .second, .val (.long q3), .second, .val (.int p4), .val (.int ss), .val (.int sl), .val (.long a2), .second, .val (.long b2), .second, .val (.ref b6), .val (.ref b10), .val (.int kd), .val (.int (1 : Int32))] [(.int (1 : Int32)), (.int (own_eq q0 q1 a2 b2))])) _
          refine XS.icmpNo X20.here hx rfl (hb hby at_121) rfl (teq (by simp only [own_eq, if_pos hc95, if_pos hc102])).2 ?_
          show Steps p.tables e below (T20.setTop (mkF m 124 #[.val (.long q0), .second, .val (.long q1), .second, .val (.long q2), .second, .val (.long q3), .second, .val (.int p4), .val (.int ss), .val (.int sl), .val (.long a2), .second, .val (.long b2), .second, .val (.ref b6), .val (.ref b10), .val (.int kd), .val (.int (1 : Int32))] [])) _
          refine XS.aload X20.here hx rfl (hb hby at_124) rfl rfl ?_
          show Steps p.tables e below (T20.setTop (mkF m 126 #[.val (.long q0), .second, .val (.long q1), .second, .val (.long q2), .second, .val (.long q3), .second, .val (.int p4), .val (.int ss), .val (.int sl), .val (.long a2), .second, .val (.long b2), .second, .val (.ref b6), .val (.ref b10), .val (.int kd), .val (.int (1 : Int32))] [(.ref b10)])) _
          refine XS.aload X20.here hx rfl (hb hby at_126) rfl rfl ?_
          show Steps p.tables e below (T20.setTop (mkF m 128 #[.val (.long q0), .second, .val (.long q1), .second, .val (.long q2), .second, .val (.long q3), .second, .val (.int p4), .val (.int ss), .val (.int sl), .val (.long a2), .second, .val (.long b2), .second, .val (.ref b6), .val (.ref b10), .val (.int kd), .val (.int (1 : Int32))] [(.ref b6), (.ref b10)])) _
          refine st24.trans ?_
          show Steps p.tables e below (T24.setTop (mkF m 131 #[.val (.long q0), .second, .val (.long q1), .second, .val (.long q2), .second, .val (.long q3), .second, .val (.int p4), .val (.int ss), .val (.int sl), .val (.long a2), .second, .val (.long b2), .second, .val (.ref b6), .val (.ref b10), .val (.int kd), .val (.int (1 : Int32))] [(.int (own_eq a2 b2 q0 q1))])) _
          refine XS.iload X24.here hx rfl (hb hby at_131) rfl ?_
          show Steps p.tables e below (T24.setTop (mkF m 133 #[.val (.long q0), .second, .val (.long q1), .second, .val (.long q2), .second, .val (.long q3), .second, .val (.int p4), .val (.int ss), .val (.int sl), .val (.long a2), .second, .val (.long b2), .second, .val (.ref b6), .val (.ref b10), .val (.int kd), .val (.int (1 : Int32))] [(.int (1 : Int32)), (.int (own_eq a2 b2 q0 q1))])) _
          refine XS.icmpNo X24.here hx rfl (hb hby at_133) rfl (teq (by simp only [own_eq, if_pos hc95.symm, if_pos hc102.symm])).2 ?_
          show Steps p.tables e below (T24.setTop (mkF m 136 #[.val (.long q0), .second, .val (.long q1), .second, .val (.long q2), .second, .val (.long q3), .second, .val (.int p4), .val (.int ss), .val (.int sl), .val (.long a2), .second, .val (.long b2), .second, .val (.ref b6), .val (.ref b10), .val (.int kd), .val (.int (1 : Int32))] [])) _
          refine XS.iconst X24.here hx rfl (hb hby at_136) ?_
          show Steps p.tables e below (T24.setTop (mkF m 137 #[.val (.long q0), .second, .val (.long q1), .second, .val (.long q2), .second, .val (.long q3), .second, .val (.int p4), .val (.int ss), .val (.int sl), .val (.long a2), .second, .val (.long b2), .second, .val (.ref b6), .val (.ref b10), .val (.int kd), .val (.int (1 : Int32))] [(.int (1 : Int32))])) _
          refine XS.goto X24.here hx rfl (pc0 := 137) (pc' := 141) rfl (hb hby at_137) (by decide) (by decide) ?_
          show Steps p.tables e below (T24.setTop (mkF m 141 #[.val (.long q0), .second, .val (.long q1), .second, .val (.long q2), .second, .val (.long q3), .second, .val (.int p4), .val (.int ss), .val (.int sl), .val (.long a2), .second, .val (.long b2), .second, .val (.ref b6), .val (.ref b10), .val (.int kd), .val (.int (1 : Int32))] [(.int (1 : Int32))])) _
          exact retN X24 hx (t := .boolean) Bd.returns (by simp) (hb hby at_141) hr
        · show Q0 Z q0 q1 q2 q3 p4 ca cl h0 n0 _ T24.heap _
          rw [e24q]
          exact ⟨rfl, N24⟩
      · -- not q1 = b2
        have f27 := ((Fg8_0.ext E10).keep K12 (fun hm => ne10_b6 (List.mem_singleton.mp hm)))
        have f28 := ((Fg8_1.ext E10).keep K12 (fun hm => ne10_b6 (List.mem_singleton.mp hm)))
        have f29 := ((A8x.ext E10).keep K12)
        obtain ⟨cq26, kq26, q26a, q26b, q26c⟩ := isOf hZ rfl f29
        obtain ⟨_, _, ⟨T26, L26, k26, n26⟩, -, X26, ⟨Lc26, hQ26, l26, y26, z26⟩, st26⟩ := X12.virtualBack hx (y := (⟨"com/example/sarasvati/sarasvati/window/Window", "equals", "(Ljava/lang/Object;)Z"⟩ : MethodName)) (z := (⟨"com/example/sarasvati/sarasvati/window/Window", "equals", "(Ljava/lang/Object;)Z"⟩ : MethodName)) hown (mvT hZ (hw _ (List.mem_of_getElem? (i := 13) rfl))) (mvT hZ (hw _ (List.mem_of_getElem? (i := 14) rfl))) (notFace_of_selects (args := #[]) (mvT hZ (hw _ (List.mem_of_getElem? (i := 16) rfl)))) (mvT hZ (hw _ (List.mem_of_getElem? (i := 16) rfl))) (mvT hZ (hw _ (List.mem_of_getElem? (i := 15) rfl))) (by decide) (backOf (W := 0) (rm3 l Z a0 hw [] b6 b10 q0 q1 a2 b2 T12.heap n0 Z13 A12x f27 f28 Fg12_0 Fg12_1) hZ (hw _ (List.mem_of_getElem? (i := 17) rfl)) (hw _ (List.mem_of_getElem? (i := 2) rfl)) (by decide) (by decide)) q26a q26c (g := (mkF m 116 #[.val (.long q0), .second, .val (.long q1), .second, .val (.long q2), .second, .val (.long q3), .second, .val (.int p4), .val (.int ss), .val (.int sl), .val (.long a2), .second, .val (.long b2), .second, .val (.ref b6), .val (.ref b10), .val (.int kd), .val (.int (0 : Int32))] [(.ref b10), (.ref b6)])) rfl (by rw [hml]; rfl) (Steps.refl _) (argsL := [(.ref b10)]) (rest := []) (lenOf pd_3 rfl) rfl (by show 2 * 0 + _ ≤ _; exact Nat.le_of_eq rfl) (hb hby at_116) (fun _ _ => ⟨rfl, rfl, (by decide : 2 + 0 ≤ _), (by decide : 4 + 0 ≤ _)⟩)
        dsimp only [Pt.U, Pt.locs, Pt.cells, Pt.slots] at X26 l26 y26 z26 st26 hQ26
        subst l26 y26 z26
        obtain ⟨rfl, N26q, e26q⟩ := hQ26
        have N26 := Fr.app N12 N26q
        obtain ⟨cq30, kq30, q30a, q30b, q30c⟩ := isOf hZ e26q A12x
        obtain ⟨_, _, ⟨T30, L30, k30, n30⟩, -, X30, ⟨Lc30, hQ30, l30, y30, z30⟩, st30⟩ := X26.virtualBack hx (y := (⟨"com/example/sarasvati/sarasvati/window/Window", "equals", "(Ljava/lang/Object;)Z"⟩ : MethodName)) (z := (⟨"com/example/sarasvati/sarasvati/window/Window", "equals", "(Ljava/lang/Object;)Z"⟩ : MethodName)) hown (mvT hZ (hw _ (List.mem_of_getElem? (i := 13) rfl))) (mvT hZ (hw _ (List.mem_of_getElem? (i := 14) rfl))) (notFace_of_selects (args := #[]) (mvT hZ (hw _ (List.mem_of_getElem? (i := 16) rfl)))) (mvT hZ (hw _ (List.mem_of_getElem? (i := 16) rfl))) (mvT hZ (hw _ (List.mem_of_getElem? (i := 15) rfl))) (by decide) (backOf (W := 0) (rm3 l Z a0 hw [] b10 b6 a2 b2 q0 q1 T12.heap n0 Z13 f29 Fg12_0 Fg12_1 f27 f28) hZ (hw _ (List.mem_of_getElem? (i := 17) rfl)) (hw _ (List.mem_of_getElem? (i := 2) rfl)) (by decide) (by decide)) q30a q30c (g := (mkF m 128 #[.val (.long q0), .second, .val (.long q1), .second, .val (.long q2), .second, .val (.long q3), .second, .val (.int p4), .val (.int ss), .val (.int sl), .val (.long a2), .second, .val (.long b2), .second, .val (.ref b6), .val (.ref b10), .val (.int kd), .val (.int (0 : Int32))] [(.ref b6), (.ref b10)])) rfl (by rw [hml]; rfl) (Steps.refl _) (argsL := [(.ref b6)]) (rest := []) (lenOf pd_3 rfl) rfl (by show 2 * 0 + _ ≤ _; exact Nat.le_of_eq rfl) (hb hby at_128) (fun _ _ => ⟨rfl, e26q, (by decide : 2 + 0 ≤ _), (by decide : 4 + 0 ≤ _)⟩)
        dsimp only [Pt.U, Pt.locs, Pt.cells, Pt.slots] at X30 l30 y30 z30 st30 hQ30
        subst l30 y30 z30
        obtain ⟨rfl, N30q, e30q⟩ := hQ30
        have N30 := Fr.app N26 N30q
        obtain ⟨fs, hr, hrun, hended, hW, hsame⟩ := X30.leave (v := some (.int (1 : Int32))) (fun h => by rw [Bd.returns] at h; cases h)
        refine ⟨_, _, pre19 _ ?_, hrun, hended, _, _, rfl, ?_, ⟨_, rfl⟩, hW, hsame.mono (by decide) (by decide)⟩
        · show Steps p.tables e below (T12.setTop (mkF m 102 #[.val (.long q0), .second, .val (.long q1), .second, .val (.long q2), .second, .val (.long q3), .second, .val (.int p4), .val (.int ss), .val (.int sl), .val (.long a2), .second, .val (.long b2), .second, .val (.ref b6), .val (.ref b10), .val (.int kd), .unset] [(.int (lcmpW q1 b2))])) _
          refine XS.ifYes X12.here hx rfl (pc0 := 102) (pc' := 109) rfl (hb hby at_102) rfl ((if0 _ _).trans (feq ((not_congr (lw_eq _ _)).mpr hc102)).2) (by decide) (by decide) ?_
          show Steps p.tables e below (T12.setTop (mkF m 109 #[.val (.long q0), .second, .val (.long q1), .second, .val (.long q2), .second, .val (.long q3), .second, .val (.int p4), .val (.int ss), .val (.int sl), .val (.long a2), .second, .val (.long b2), .second, .val (.ref b6), .val (.ref b10), .val (.int kd), .unset] [])) _
          refine XS.iconst X12.here hx rfl (hb hby at_109) ?_
          show Steps p.tables e below (T12.setTop (mkF m 110 #[.val (.long q0), .second, .val (.long q1), .second, .val (.long q2), .second, .val (.long q3), .second, .val (.int p4), .val (.int ss), .val (.int sl), .val (.long a2), .second, .val (.long b2), .second, .val (.ref b6), .val (.ref b10), .val (.int kd), .unset] [(.int (0 : Int32))])) _
          refine XS.istore X12.here hx rfl (hb hby at_110) rfl (l' := #[.val (.long q0), .second, .val (.long q1), .second, .val (.long q2), .second, .val (.long q3), .second, .val (.int p4), .val (.int ss), .val (.int sl), .val (.long a2), .second, .val (.long b2), .second, .val (.ref b6), .val (.ref b10), .val (.int kd), .val (.int (0 : Int32))]) rfl ?_
          show Steps p.tables e below (T12.setTop (mkF m 112 #[.val (.long q0), .second, .val (.long q1), .second, .val (.long q2), .second, .val (.long q3), .second, .val (.int p4), .val (.int ss), .val (.int sl), .val (.long a2), .second, .val (.long b2), .second, .val (.ref b6), .val (.ref b10), .val (.int kd), .val (.int (0 : Int32))] [])) _
          refine XS.aload X12.here hx rfl (hb hby at_112) rfl rfl ?_
          show Steps p.tables e below (T12.setTop (mkF m 114 #[.val (.long q0), .second, .val (.long q1), .second, .val (.long q2), .second, .val (.long q3), .second, .val (.int p4), .val (.int ss), .val (.int sl), .val (.long a2), .second, .val (.long b2), .second, .val (.ref b6), .val (.ref b10), .val (.int kd), .val (.int (0 : Int32))] [(.ref b6)])) _
          refine XS.aload X12.here hx rfl (hb hby at_114) rfl rfl ?_
          show Steps p.tables e below (T12.setTop (mkF m 116 #[.val (.long q0), .second, .val (.long q1), .second, .val (.long q2), .second, .val (.long q3), .second, .val (.int p4), .val (.int ss), .val (.int sl), .val (.long a2), .second, .val (.long b2), .second, .val (.ref b6), .val (.ref b10), .val (.int kd), .val (.int (0 : Int32))] [(.ref b10), (.ref b6)])) _
          refine st26.trans ?_
          show Steps p.tables e below (T26.setTop (mkF m 119 #[.val (.long q0), .second, .val (.long q1), .second, .val (.long q2), .second, .val (.long q3), .second, .val (.int p4), .val (.int ss), .val (.int sl), .val (.long a2), .second, .val (.long b2), .second, .val (.ref b6), .val (.ref b10), .val (.int kd), .val (.int (0 : Int32))] [(.int (own_eq q0 q1 a2 b2))])) _
          refine XS.iload X26.here hx rfl (hb hby at_119) rfl ?_
          show Steps p.tables e below (T26.setTop (mkF m 121 #[.val (.long q0), .second, .val (.long q1), .second, .val (.long q2), .second, .val (.long q3), .second, .val (.int p4), .val (.int ss), .val (.int sl), .val (.long a2), .second, .val (.long b2), .second, .val (.ref b6), .val (.ref b10), .val (.int kd), .val (.int (0 : Int32))] [(.int (0 : Int32)), (.int (own_eq q0 q1 a2 b2))])) _
          refine XS.icmpNo X26.here hx rfl (hb hby at_121) rfl (teq (by simp only [own_eq, if_pos hc95, if_neg hc102])).2 ?_
          show Steps p.tables e below (T26.setTop (mkF m 124 #[.val (.long q0), .second, .val (.long q1), .second, .val (.long q2), .second, .val (.long q3), .second, .val (.int p4), .val (.int ss), .val (.int sl), .val (.long a2), .second, .val (.long b2), .second, .val (.ref b6), .val (.ref b10), .val (.int kd), .val (.int (0 : Int32))] [])) _
          refine XS.aload X26.here hx rfl (hb hby at_124) rfl rfl ?_
          show Steps p.tables e below (T26.setTop (mkF m 126 #[.val (.long q0), .second, .val (.long q1), .second, .val (.long q2), .second, .val (.long q3), .second, .val (.int p4), .val (.int ss), .val (.int sl), .val (.long a2), .second, .val (.long b2), .second, .val (.ref b6), .val (.ref b10), .val (.int kd), .val (.int (0 : Int32))] [(.ref b10)])) _
          refine XS.aload X26.here hx rfl (hb hby at_126) rfl rfl ?_
          show Steps p.tables e below (T26.setTop (mkF m 128 #[.val (.long q0), .second, .val (.long q1), .second, .val (.long q2), .second, .val (.long q3), .second, .val (.int p4), .val (.int ss), .val (.int sl), .val (.long a2), .second, .val (.long b2), .second, .val (.ref b6), .val (.ref b10), .val (.int kd), .val (.int (0 : Int32))] [(.ref b6), (.ref b10)])) _
          refine st30.trans ?_
          show Steps p.tables e below (T30.setTop (mkF m 131 #[.val (.long q0), .second, .val (.long q1), .second, .val (.long q2), .second, .val (.long q3), .second, .val (.int p4), .val (.int ss), .val (.int sl), .val (.long a2), .second, .val (.long b2), .second, .val (.ref b6), .val (.ref b10), .val (.int kd), .val (.int (0 : Int32))] [(.int (own_eq a2 b2 q0 q1))])) _
          refine XS.iload X30.here hx rfl (hb hby at_131) rfl ?_
          show Steps p.tables e below (T30.setTop (mkF m 133 #[.val (.long q0), .second, .val (.long q1), .second, .val (.long q2), .second, .val (.long q3), .second, .val (.int p4), .val (.int ss), .val (.int sl), .val (.long a2), .second, .val (.long b2), .second, .val (.ref b6), .val (.ref b10), .val (.int kd), .val (.int (0 : Int32))] [(.int (0 : Int32)), (.int (own_eq a2 b2 q0 q1))])) _
          refine XS.icmpNo X30.here hx rfl (hb hby at_133) rfl (teq (by simp only [own_eq, if_pos hc95.symm, if_neg (Ne.symm hc102)])).2 ?_
          show Steps p.tables e below (T30.setTop (mkF m 136 #[.val (.long q0), .second, .val (.long q1), .second, .val (.long q2), .second, .val (.long q3), .second, .val (.int p4), .val (.int ss), .val (.int sl), .val (.long a2), .second, .val (.long b2), .second, .val (.ref b6), .val (.ref b10), .val (.int kd), .val (.int (0 : Int32))] [])) _
          refine XS.iconst X30.here hx rfl (hb hby at_136) ?_
          show Steps p.tables e below (T30.setTop (mkF m 137 #[.val (.long q0), .second, .val (.long q1), .second, .val (.long q2), .second, .val (.long q3), .second, .val (.int p4), .val (.int ss), .val (.int sl), .val (.long a2), .second, .val (.long b2), .second, .val (.ref b6), .val (.ref b10), .val (.int kd), .val (.int (0 : Int32))] [(.int (1 : Int32))])) _
          refine XS.goto X30.here hx rfl (pc0 := 137) (pc' := 141) rfl (hb hby at_137) (by decide) (by decide) ?_
          show Steps p.tables e below (T30.setTop (mkF m 141 #[.val (.long q0), .second, .val (.long q1), .second, .val (.long q2), .second, .val (.long q3), .second, .val (.int p4), .val (.int ss), .val (.int sl), .val (.long a2), .second, .val (.long b2), .second, .val (.ref b6), .val (.ref b10), .val (.int kd), .val (.int (0 : Int32))] [(.int (1 : Int32))])) _
          exact retN X30 hx (t := .boolean) Bd.returns (by simp) (hb hby at_141) hr
        · show Q0 Z q0 q1 q2 q3 p4 ca cl h0 n0 _ T30.heap _
          rw [e30q]
          exact ⟨rfl, N30⟩
    · -- not q0 = a2
      have f33 := ((Fg8_0.ext E10).keep K12 (fun hm => ne10_b6 (List.mem_singleton.mp hm)))
      have f34 := ((Fg8_1.ext E10).keep K12 (fun hm => ne10_b6 (List.mem_singleton.mp hm)))
      have f35 := ((A8x.ext E10).keep K12)
      obtain ⟨cq32, kq32, q32a, q32b, q32c⟩ := isOf hZ rfl f35
      obtain ⟨_, _, ⟨T32, L32, k32, n32⟩, -, X32, ⟨Lc32, hQ32, l32, y32, z32⟩, st32⟩ := X12.virtualBack hx (y := (⟨"com/example/sarasvati/sarasvati/window/Window", "equals", "(Ljava/lang/Object;)Z"⟩ : MethodName)) (z := (⟨"com/example/sarasvati/sarasvati/window/Window", "equals", "(Ljava/lang/Object;)Z"⟩ : MethodName)) hown (mvT hZ (hw _ (List.mem_of_getElem? (i := 13) rfl))) (mvT hZ (hw _ (List.mem_of_getElem? (i := 14) rfl))) (notFace_of_selects (args := #[]) (mvT hZ (hw _ (List.mem_of_getElem? (i := 16) rfl)))) (mvT hZ (hw _ (List.mem_of_getElem? (i := 16) rfl))) (mvT hZ (hw _ (List.mem_of_getElem? (i := 15) rfl))) (by decide) (backOf (W := 0) (rm3 l Z a0 hw [] b6 b10 q0 q1 a2 b2 T12.heap n0 Z13 A12x f33 f34 Fg12_0 Fg12_1) hZ (hw _ (List.mem_of_getElem? (i := 17) rfl)) (hw _ (List.mem_of_getElem? (i := 2) rfl)) (by decide) (by decide)) q32a q32c (g := (mkF m 116 #[.val (.long q0), .second, .val (.long q1), .second, .val (.long q2), .second, .val (.long q3), .second, .val (.int p4), .val (.int ss), .val (.int sl), .val (.long a2), .second, .val (.long b2), .second, .val (.ref b6), .val (.ref b10), .val (.int kd), .val (.int (0 : Int32))] [(.ref b10), (.ref b6)])) rfl (by rw [hml]; rfl) (Steps.refl _) (argsL := [(.ref b10)]) (rest := []) (lenOf pd_3 rfl) rfl (by show 2 * 0 + _ ≤ _; exact Nat.le_of_eq rfl) (hb hby at_116) (fun _ _ => ⟨rfl, rfl, (by decide : 2 + 0 ≤ _), (by decide : 4 + 0 ≤ _)⟩)
      dsimp only [Pt.U, Pt.locs, Pt.cells, Pt.slots] at X32 l32 y32 z32 st32 hQ32
      subst l32 y32 z32
      obtain ⟨rfl, N32q, e32q⟩ := hQ32
      have N32 := Fr.app N12 N32q
      obtain ⟨cq36, kq36, q36a, q36b, q36c⟩ := isOf hZ e32q A12x
      obtain ⟨_, _, ⟨T36, L36, k36, n36⟩, -, X36, ⟨Lc36, hQ36, l36, y36, z36⟩, st36⟩ := X32.virtualBack hx (y := (⟨"com/example/sarasvati/sarasvati/window/Window", "equals", "(Ljava/lang/Object;)Z"⟩ : MethodName)) (z := (⟨"com/example/sarasvati/sarasvati/window/Window", "equals", "(Ljava/lang/Object;)Z"⟩ : MethodName)) hown (mvT hZ (hw _ (List.mem_of_getElem? (i := 13) rfl))) (mvT hZ (hw _ (List.mem_of_getElem? (i := 14) rfl))) (notFace_of_selects (args := #[]) (mvT hZ (hw _ (List.mem_of_getElem? (i := 16) rfl)))) (mvT hZ (hw _ (List.mem_of_getElem? (i := 16) rfl))) (mvT hZ (hw _ (List.mem_of_getElem? (i := 15) rfl))) (by decide) (backOf (W := 0) (rm3 l Z a0 hw [] b10 b6 a2 b2 q0 q1 T12.heap n0 Z13 f35 Fg12_0 Fg12_1 f33 f34) hZ (hw _ (List.mem_of_getElem? (i := 17) rfl)) (hw _ (List.mem_of_getElem? (i := 2) rfl)) (by decide) (by decide)) q36a q36c (g := (mkF m 128 #[.val (.long q0), .second, .val (.long q1), .second, .val (.long q2), .second, .val (.long q3), .second, .val (.int p4), .val (.int ss), .val (.int sl), .val (.long a2), .second, .val (.long b2), .second, .val (.ref b6), .val (.ref b10), .val (.int kd), .val (.int (0 : Int32))] [(.ref b6), (.ref b10)])) rfl (by rw [hml]; rfl) (Steps.refl _) (argsL := [(.ref b6)]) (rest := []) (lenOf pd_3 rfl) rfl (by show 2 * 0 + _ ≤ _; exact Nat.le_of_eq rfl) (hb hby at_128) (fun _ _ => ⟨rfl, e32q, (by decide : 2 + 0 ≤ _), (by decide : 4 + 0 ≤ _)⟩)
      dsimp only [Pt.U, Pt.locs, Pt.cells, Pt.slots] at X36 l36 y36 z36 st36 hQ36
      subst l36 y36 z36
      obtain ⟨rfl, N36q, e36q⟩ := hQ36
      have N36 := Fr.app N32 N36q
      obtain ⟨fs, hr, hrun, hended, hW, hsame⟩ := X36.leave (v := some (.int (1 : Int32))) (fun h => by rw [Bd.returns] at h; cases h)
      refine ⟨_, _, pre18 _ ?_, hrun, hended, _, _, rfl, ?_, ⟨_, rfl⟩, hW, hsame.mono (by decide) (by decide)⟩
      · show Steps p.tables e below (T12.setTop (mkF m 95 #[.val (.long q0), .second, .val (.long q1), .second, .val (.long q2), .second, .val (.long q3), .second, .val (.int p4), .val (.int ss), .val (.int sl), .val (.long a2), .second, .val (.long b2), .second, .val (.ref b6), .val (.ref b10), .val (.int kd), .unset] [(.int (lcmpW q0 a2))])) _
        refine XS.ifYes X12.here hx rfl (pc0 := 95) (pc' := 109) rfl (hb hby at_95) rfl ((if0 _ _).trans (feq ((not_congr (lw_eq _ _)).mpr hc95)).2) (by decide) (by decide) ?_
        show Steps p.tables e below (T12.setTop (mkF m 109 #[.val (.long q0), .second, .val (.long q1), .second, .val (.long q2), .second, .val (.long q3), .second, .val (.int p4), .val (.int ss), .val (.int sl), .val (.long a2), .second, .val (.long b2), .second, .val (.ref b6), .val (.ref b10), .val (.int kd), .unset] [])) _
        refine XS.iconst X12.here hx rfl (hb hby at_109) ?_
        show Steps p.tables e below (T12.setTop (mkF m 110 #[.val (.long q0), .second, .val (.long q1), .second, .val (.long q2), .second, .val (.long q3), .second, .val (.int p4), .val (.int ss), .val (.int sl), .val (.long a2), .second, .val (.long b2), .second, .val (.ref b6), .val (.ref b10), .val (.int kd), .unset] [(.int (0 : Int32))])) _
        refine XS.istore X12.here hx rfl (hb hby at_110) rfl (l' := #[.val (.long q0), .second, .val (.long q1), .second, .val (.long q2), .second, .val (.long q3), .second, .val (.int p4), .val (.int ss), .val (.int sl), .val (.long a2), .second, .val (.long b2), .second, .val (.ref b6), .val (.ref b10), .val (.int kd), .val (.int (0 : Int32))]) rfl ?_
        show Steps p.tables e below (T12.setTop (mkF m 112 #[.val (.long q0), .second, .val (.long q1), .second, .val (.long q2), .second, .val (.long q3), .second, .val (.int p4), .val (.int ss), .val (.int sl), .val (.long a2), .second, .val (.long b2), .second, .val (.ref b6), .val (.ref b10), .val (.int kd), .val (.int (0 : Int32))] [])) _
        refine XS.aload X12.here hx rfl (hb hby at_112) rfl rfl ?_
        show Steps p.tables e below (T12.setTop (mkF m 114 #[.val (.long q0), .second, .val (.long q1), .second, .val (.long q2), .second, .val (.long q3), .second, .val (.int p4), .val (.int ss), .val (.int sl), .val (.long a2), .second, .val (.long b2), .second, .val (.ref b6), .val (.ref b10), .val (.int kd), .val (.int (0 : Int32))] [(.ref b6)])) _
        refine XS.aload X12.here hx rfl (hb hby at_114) rfl rfl ?_
        show Steps p.tables e below (T12.setTop (mkF m 116 #[.val (.long q0), .second, .val (.long q1), .second, .val (.long q2), .second, .val (.long q3), .second, .val (.int p4), .val (.int ss), .val (.int sl), .val (.long a2), .second, .val (.long b2), .second, .val (.ref b6), .val (.ref b10), .val (.int kd), .val (.int (0 : Int32))] [(.ref b10), (.ref b6)])) _
        refine st32.trans ?_
        show Steps p.tables e below (T32.setTop (mkF m 119 #[.val (.long q0), .second, .val (.long q1), .second, .val (.long q2), .second, .val (.long q3), .second, .val (.int p4), .val (.int ss), .val (.int sl), .val (.long a2), .second, .val (.long b2), .second, .val (.ref b6), .val (.ref b10), .val (.int kd), .val (.int (0 : Int32))] [(.int (own_eq q0 q1 a2 b2))])) _
        refine XS.iload X32.here hx rfl (hb hby at_119) rfl ?_
        show Steps p.tables e below (T32.setTop (mkF m 121 #[.val (.long q0), .second, .val (.long q1), .second, .val (.long q2), .second, .val (.long q3), .second, .val (.int p4), .val (.int ss), .val (.int sl), .val (.long a2), .second, .val (.long b2), .second, .val (.ref b6), .val (.ref b10), .val (.int kd), .val (.int (0 : Int32))] [(.int (0 : Int32)), (.int (own_eq q0 q1 a2 b2))])) _
        refine XS.icmpNo X32.here hx rfl (hb hby at_121) rfl (teq (by simp only [own_eq, if_neg hc95])).2 ?_
        show Steps p.tables e below (T32.setTop (mkF m 124 #[.val (.long q0), .second, .val (.long q1), .second, .val (.long q2), .second, .val (.long q3), .second, .val (.int p4), .val (.int ss), .val (.int sl), .val (.long a2), .second, .val (.long b2), .second, .val (.ref b6), .val (.ref b10), .val (.int kd), .val (.int (0 : Int32))] [])) _
        refine XS.aload X32.here hx rfl (hb hby at_124) rfl rfl ?_
        show Steps p.tables e below (T32.setTop (mkF m 126 #[.val (.long q0), .second, .val (.long q1), .second, .val (.long q2), .second, .val (.long q3), .second, .val (.int p4), .val (.int ss), .val (.int sl), .val (.long a2), .second, .val (.long b2), .second, .val (.ref b6), .val (.ref b10), .val (.int kd), .val (.int (0 : Int32))] [(.ref b10)])) _
        refine XS.aload X32.here hx rfl (hb hby at_126) rfl rfl ?_
        show Steps p.tables e below (T32.setTop (mkF m 128 #[.val (.long q0), .second, .val (.long q1), .second, .val (.long q2), .second, .val (.long q3), .second, .val (.int p4), .val (.int ss), .val (.int sl), .val (.long a2), .second, .val (.long b2), .second, .val (.ref b6), .val (.ref b10), .val (.int kd), .val (.int (0 : Int32))] [(.ref b6), (.ref b10)])) _
        refine st36.trans ?_
        show Steps p.tables e below (T36.setTop (mkF m 131 #[.val (.long q0), .second, .val (.long q1), .second, .val (.long q2), .second, .val (.long q3), .second, .val (.int p4), .val (.int ss), .val (.int sl), .val (.long a2), .second, .val (.long b2), .second, .val (.ref b6), .val (.ref b10), .val (.int kd), .val (.int (0 : Int32))] [(.int (own_eq a2 b2 q0 q1))])) _
        refine XS.iload X36.here hx rfl (hb hby at_131) rfl ?_
        show Steps p.tables e below (T36.setTop (mkF m 133 #[.val (.long q0), .second, .val (.long q1), .second, .val (.long q2), .second, .val (.long q3), .second, .val (.int p4), .val (.int ss), .val (.int sl), .val (.long a2), .second, .val (.long b2), .second, .val (.ref b6), .val (.ref b10), .val (.int kd), .val (.int (0 : Int32))] [(.int (0 : Int32)), (.int (own_eq a2 b2 q0 q1))])) _
        refine XS.icmpNo X36.here hx rfl (hb hby at_133) rfl (teq (by simp only [own_eq, if_neg (Ne.symm hc95)])).2 ?_
        show Steps p.tables e below (T36.setTop (mkF m 136 #[.val (.long q0), .second, .val (.long q1), .second, .val (.long q2), .second, .val (.long q3), .second, .val (.int p4), .val (.int ss), .val (.int sl), .val (.long a2), .second, .val (.long b2), .second, .val (.ref b6), .val (.ref b10), .val (.int kd), .val (.int (0 : Int32))] [])) _
        refine XS.iconst X36.here hx rfl (hb hby at_136) ?_
        show Steps p.tables e below (T36.setTop (mkF m 137 #[.val (.long q0), .second, .val (.long q1), .second, .val (.long q2), .second, .val (.long q3), .second, .val (.int p4), .val (.int ss), .val (.int sl), .val (.long a2), .second, .val (.long b2), .second, .val (.ref b6), .val (.ref b10), .val (.int kd), .val (.int (0 : Int32))] [(.int (1 : Int32))])) _
        refine XS.goto X36.here hx rfl (pc0 := 137) (pc' := 141) rfl (hb hby at_137) (by decide) (by decide) ?_
        show Steps p.tables e below (T36.setTop (mkF m 141 #[.val (.long q0), .second, .val (.long q1), .second, .val (.long q2), .second, .val (.long q3), .second, .val (.int p4), .val (.int ss), .val (.int sl), .val (.long a2), .second, .val (.long b2), .second, .val (.ref b6), .val (.ref b10), .val (.int kd), .val (.int (0 : Int32))] [(.int (1 : Int32))])) _
        exact retN X36 hx (t := .boolean) Bd.returns (by simp) (hb hby at_141) hr
      · show Q0 Z q0 q1 q2 q3 p4 ca cl h0 n0 _ T36.heap _
        rw [e36q]
        exact ⟨rfl, N36⟩
  · -- not kd = (0 : Int32)
    have pre38 : ∀ t, Steps p.tables e below (T12.setTop (mkF m 145 #[.val (.long q0), .second, .val (.long q1), .second, .val (.long q2), .second, .val (.long q3), .second, .val (.int p4), .val (.int ss), .val (.int sl), .val (.long a2), .second, .val (.long b2), .second, .val (.ref b6), .val (.ref b10), .val (.int kd), .unset] [(.int (1 : Int32)), (.int kd)])) t → Steps p.tables e below (s₁.setTop (entryFrame m #[(.long q0), (.long q1), (.long q2), (.long q3), (.int p4)] maxLocals)) t := by
      intro t kt
      refine pre17 _ ?_
      show Steps p.tables e below (T12.setTop (mkF m 88 #[.val (.long q0), .second, .val (.long q1), .second, .val (.long q2), .second, .val (.long q3), .second, .val (.int p4), .val (.int ss), .val (.int sl), .val (.long a2), .second, .val (.long b2), .second, .val (.ref b6), .val (.ref b10), .val (.int kd), .unset] [(.int kd)])) _
      refine XS.ifYes X12.here hx rfl (pc0 := 88) (pc' := 142) rfl (hb hby at_88) rfl ((if0 _ _).trans (feq hc88).2) (by decide) (by decide) ?_
      show Steps p.tables e below (T12.setTop (mkF m 142 #[.val (.long q0), .second, .val (.long q1), .second, .val (.long q2), .second, .val (.long q3), .second, .val (.int p4), .val (.int ss), .val (.int sl), .val (.long a2), .second, .val (.long b2), .second, .val (.ref b6), .val (.ref b10), .val (.int kd), .unset] [])) _
      refine XS.iload X12.here hx rfl (hb hby at_142) rfl ?_
      show Steps p.tables e below (T12.setTop (mkF m 144 #[.val (.long q0), .second, .val (.long q1), .second, .val (.long q2), .second, .val (.long q3), .second, .val (.int p4), .val (.int ss), .val (.int sl), .val (.long a2), .second, .val (.long b2), .second, .val (.ref b6), .val (.ref b10), .val (.int kd), .unset] [(.int kd)])) _
      refine XS.iconst X12.here hx rfl (hb hby at_144) ?_
      exact kt
    by_cases hc145 : kd = (1 : Int32)
    · -- kd = (1 : Int32)
      have f40 := ((A8x.ext E10).keep K12)
      obtain ⟨cq39, kq39, q39a, q39b, q39c⟩ := isOf hZ rfl f40
      obtain ⟨_, _, ⟨T39, L39, k39, n39⟩, -, X39, ⟨Lc39, hQ39, l39, y39, z39⟩, st39⟩ := X12.virtualBack hx (y := (⟨"com/example/sarasvati/sarasvati/window/Window", "equals", "(Ljava/lang/Object;)Z"⟩ : MethodName)) (z := (⟨"com/example/sarasvati/sarasvati/window/Window", "equals", "(Ljava/lang/Object;)Z"⟩ : MethodName)) hown (mvT hZ (hw _ (List.mem_of_getElem? (i := 13) rfl))) (mvT hZ (hw _ (List.mem_of_getElem? (i := 14) rfl))) (notFace_of_selects (args := #[]) (mvT hZ (hw _ (List.mem_of_getElem? (i := 16) rfl)))) (mvT hZ (hw _ (List.mem_of_getElem? (i := 16) rfl))) (mvT hZ (hw _ (List.mem_of_getElem? (i := 15) rfl))) (by decide) (backOf (W := 0) (rm3n l Z a0 hw [] b6 T12.heap n0 Z13 ) hZ (hw _ (List.mem_of_getElem? (i := 17) rfl)) (hw _ (List.mem_of_getElem? (i := 2) rfl)) (by decide) (by decide)) q39a q39c (g := (mkF m 151 #[.val (.long q0), .second, .val (.long q1), .second, .val (.long q2), .second, .val (.long q3), .second, .val (.int p4), .val (.int ss), .val (.int sl), .val (.long a2), .second, .val (.long b2), .second, .val (.ref b6), .val (.ref b10), .val (.int kd), .unset] [.null, (.ref b6)])) rfl (by rw [hml]; rfl) (Steps.refl _) (argsL := [.null]) (rest := []) (lenOf pd_3 rfl) rfl (by show 2 * 0 + _ ≤ _; exact Nat.le_of_eq rfl) (hb hby at_151) (fun _ _ => ⟨rfl, rfl, (by decide : 2 + 0 ≤ _), (by decide : 4 + 0 ≤ _)⟩)
      dsimp only [Pt.U, Pt.locs, Pt.cells, Pt.slots] at X39 l39 y39 z39 st39 hQ39
      subst l39 y39 z39
      obtain ⟨rfl, N39q, e39q⟩ := hQ39
      have N39 := Fr.app N12 N39q
      obtain ⟨fs, hr, hrun, hended, hW, hsame⟩ := X39.leave (v := some (.int (1 : Int32))) (fun h => by rw [Bd.returns] at h; cases h)
      refine ⟨_, _, pre38 _ ?_, hrun, hended, _, _, rfl, ?_, ⟨_, rfl⟩, hW, hsame.mono (by decide) (by decide)⟩
      · show Steps p.tables e below (T12.setTop (mkF m 145 #[.val (.long q0), .second, .val (.long q1), .second, .val (.long q2), .second, .val (.long q3), .second, .val (.int p4), .val (.int ss), .val (.int sl), .val (.long a2), .second, .val (.long b2), .second, .val (.ref b6), .val (.ref b10), .val (.int kd), .unset] [(.int (1 : Int32)), (.int kd)])) _
        refine XS.icmpNo X12.here hx rfl (hb hby at_145) rfl (teq hc145).2 ?_
        show Steps p.tables e below (T12.setTop (mkF m 148 #[.val (.long q0), .second, .val (.long q1), .second, .val (.long q2), .second, .val (.long q3), .second, .val (.int p4), .val (.int ss), .val (.int sl), .val (.long a2), .second, .val (.long b2), .second, .val (.ref b6), .val (.ref b10), .val (.int kd), .unset] [])) _
        refine XS.aload X12.here hx rfl (hb hby at_148) rfl rfl ?_
        show Steps p.tables e below (T12.setTop (mkF m 150 #[.val (.long q0), .second, .val (.long q1), .second, .val (.long q2), .second, .val (.long q3), .second, .val (.int p4), .val (.int ss), .val (.int sl), .val (.long a2), .second, .val (.long b2), .second, .val (.ref b6), .val (.ref b10), .val (.int kd), .unset] [(.ref b6)])) _
        refine XS.aconstNull X12.here hx rfl (hb hby at_150) ?_
        show Steps p.tables e below (T12.setTop (mkF m 151 #[.val (.long q0), .second, .val (.long q1), .second, .val (.long q2), .second, .val (.long q3), .second, .val (.int p4), .val (.int ss), .val (.int sl), .val (.long a2), .second, .val (.long b2), .second, .val (.ref b6), .val (.ref b10), .val (.int kd), .unset] [.null, (.ref b6)])) _
        refine st39.trans ?_
        show Steps p.tables e below (T39.setTop (mkF m 154 #[.val (.long q0), .second, .val (.long q1), .second, .val (.long q2), .second, .val (.long q3), .second, .val (.int p4), .val (.int ss), .val (.int sl), .val (.long a2), .second, .val (.long b2), .second, .val (.ref b6), .val (.ref b10), .val (.int kd), .unset] [(.int (0 : Int32))])) _
        refine XS.ifNo X39.here hx rfl (hb hby at_154) rfl ((if0 _ _).trans (teq (by decide : (0 : Int32) = (0 : Int32))).2) ?_
        show Steps p.tables e below (T39.setTop (mkF m 157 #[.val (.long q0), .second, .val (.long q1), .second, .val (.long q2), .second, .val (.long q3), .second, .val (.int p4), .val (.int ss), .val (.int sl), .val (.long a2), .second, .val (.long b2), .second, .val (.ref b6), .val (.ref b10), .val (.int kd), .unset] [])) _
        refine XS.iconst X39.here hx rfl (hb hby at_157) ?_
        show Steps p.tables e below (T39.setTop (mkF m 158 #[.val (.long q0), .second, .val (.long q1), .second, .val (.long q2), .second, .val (.long q3), .second, .val (.int p4), .val (.int ss), .val (.int sl), .val (.long a2), .second, .val (.long b2), .second, .val (.ref b6), .val (.ref b10), .val (.int kd), .unset] [(.int (1 : Int32))])) _
        refine XS.goto X39.here hx rfl (pc0 := 158) (pc' := 162) rfl (hb hby at_158) (by decide) (by decide) ?_
        show Steps p.tables e below (T39.setTop (mkF m 162 #[.val (.long q0), .second, .val (.long q1), .second, .val (.long q2), .second, .val (.long q3), .second, .val (.int p4), .val (.int ss), .val (.int sl), .val (.long a2), .second, .val (.long b2), .second, .val (.ref b6), .val (.ref b10), .val (.int kd), .unset] [(.int (1 : Int32))])) _
        exact retN X39 hx (t := .boolean) Bd.returns (by simp) (hb hby at_162) hr
      · show Q0 Z q0 q1 q2 q3 p4 ca cl h0 n0 _ T39.heap _
        rw [e39q]
        exact ⟨rfl, N39⟩
    · -- not kd = (1 : Int32)
      have pre42 : ∀ t, Steps p.tables e below (T12.setTop (mkF m 166 #[.val (.long q0), .second, .val (.long q1), .second, .val (.long q2), .second, .val (.long q3), .second, .val (.int p4), .val (.int ss), .val (.int sl), .val (.long a2), .second, .val (.long b2), .second, .val (.ref b6), .val (.ref b10), .val (.int kd), .unset] [(.int (2 : Int32)), (.int kd)])) t → Steps p.tables e below (s₁.setTop (entryFrame m #[(.long q0), (.long q1), (.long q2), (.long q3), (.int p4)] maxLocals)) t := by
        intro t kt
        refine pre38 _ ?_
        show Steps p.tables e below (T12.setTop (mkF m 145 #[.val (.long q0), .second, .val (.long q1), .second, .val (.long q2), .second, .val (.long q3), .second, .val (.int p4), .val (.int ss), .val (.int sl), .val (.long a2), .second, .val (.long b2), .second, .val (.ref b6), .val (.ref b10), .val (.int kd), .unset] [(.int (1 : Int32)), (.int kd)])) _
        refine XS.icmpYes X12.here hx rfl (pc0 := 145) (pc' := 163) rfl (hb hby at_145) rfl (feq hc145).2 (by decide) (by decide) ?_
        show Steps p.tables e below (T12.setTop (mkF m 163 #[.val (.long q0), .second, .val (.long q1), .second, .val (.long q2), .second, .val (.long q3), .second, .val (.int p4), .val (.int ss), .val (.int sl), .val (.long a2), .second, .val (.long b2), .second, .val (.ref b6), .val (.ref b10), .val (.int kd), .unset] [])) _
        refine XS.iload X12.here hx rfl (hb hby at_163) rfl ?_
        show Steps p.tables e below (T12.setTop (mkF m 165 #[.val (.long q0), .second, .val (.long q1), .second, .val (.long q2), .second, .val (.long q3), .second, .val (.int p4), .val (.int ss), .val (.int sl), .val (.long a2), .second, .val (.long b2), .second, .val (.ref b6), .val (.ref b10), .val (.int kd), .unset] [(.int kd)])) _
        refine XS.iconst X12.here hx rfl (hb hby at_165) ?_
        exact kt
      by_cases hc166 : kd = (2 : Int32)
      · -- kd = (2 : Int32)
        have f44 := ((((O0.ext E6).keep K8 (fun x hx => by cases List.mem_singleton.mp hx; exact gn6)).ext E10).keep K12 (fun x hx => by cases List.mem_singleton.mp hx; exact gn10))
        obtain ⟨_, _, ⟨T43, L43, k43, n43⟩, -, X43, ⟨Lc43, hQ43, l43, y43, z43⟩, st43⟩ := Jvm.LawKit.callS X12 hx (y := (⟨"java/lang/Long", "valueOf", "(J)Ljava/lang/Long;"⟩ : MethodName)) hown (mvT hZ (hw _ (List.mem_of_getElem? (i := 20) rfl))) (mvT hZ (hw _ (List.mem_of_getElem? (i := 21) rfl))) (mvT hZ (hw _ (List.mem_of_getElem? (i := 22) rfl))) (mvT hZ (hw _ (List.mem_of_getElem? (i := 23) rfl))) (by decide) (backOf (W := 0) (rm4 l Z a0 hw [] q0 ca cl T12.heap n0 Z13 f44 SC BX) hZ (hw _ (List.mem_of_getElem? (i := 23) rfl)) (hw _ (List.mem_of_getElem? (i := 22) rfl)) (by decide) (by decide)) (g := (mkF m 170 #[.val (.long q0), .second, .val (.long q1), .second, .val (.long q2), .second, .val (.long q3), .second, .val (.int p4), .val (.int ss), .val (.int sl), .val (.long a2), .second, .val (.long b2), .second, .val (.ref b6), .val (.ref b10), .val (.int kd), .unset] [(.long q0)])) rfl (by rw [hml]; rfl) (argsL := [(.long q0)]) (rest := []) (lenOf pd_4 rfl) rfl (by show 2 * 0 + _ ≤ _; exact Nat.le_of_eq rfl) (hb hby at_170) (fun _ _ => ⟨rfl, rfl, (by decide : 2 + 1 ≤ _), (by decide : 4 + 1 ≤ _)⟩)
        dsimp only [Pt.U, Pt.locs, Pt.cells, Pt.slots] at X43 l43 y43 z43 st43 hQ43
        subst l43 y43 z43
        obtain ⟨b43x, rfl, N43q, K43, A43x⟩ := hQ43
        have N43 := Fr.app N12 N43q
        have Z45 : n0 ≤ T43.heap.size := Nat.le_trans Z13 K43.1
        have f47 := (((A8x.ext E10).keep K12).keep K43)
        obtain ⟨cq46, kq46, q46a, q46b, q46c⟩ := isOf hZ rfl f47
        obtain ⟨_, _, ⟨T46, L46, k46, n46⟩, -, X46, ⟨Lc46, hQ46, l46, y46, z46⟩, st46⟩ := X43.virtualBack hx (y := (⟨"com/example/sarasvati/sarasvati/window/Window", "equals", "(Ljava/lang/Object;)Z"⟩ : MethodName)) (z := (⟨"com/example/sarasvati/sarasvati/window/Window", "equals", "(Ljava/lang/Object;)Z"⟩ : MethodName)) hown (mvT hZ (hw _ (List.mem_of_getElem? (i := 13) rfl))) (mvT hZ (hw _ (List.mem_of_getElem? (i := 14) rfl))) (notFace_of_selects (args := #[]) (mvT hZ (hw _ (List.mem_of_getElem? (i := 16) rfl)))) (mvT hZ (hw _ (List.mem_of_getElem? (i := 16) rfl))) (mvT hZ (hw _ (List.mem_of_getElem? (i := 15) rfl))) (by decide) (backOf (W := 0) (rm3o l Z a0 hw [] b6 b43x T43.heap n0 Z45 A43x) hZ (hw _ (List.mem_of_getElem? (i := 17) rfl)) (hw _ (List.mem_of_getElem? (i := 2) rfl)) (by decide) (by decide)) q46a q46c (g := (mkF m 179 #[.val (.long q0), .second, .val (.long q1), .second, .val (.long q2), .second, .val (.long q3), .second, .val (.int p4), .val (.int ss), .val (.int sl), .val (.long a2), .second, .val (.long b2), .second, .val (.ref b6), .val (.ref b10), .val (.int kd), .val (.ref b43x)] [(.ref b43x), (.ref b6)])) rfl (by rw [hml]; rfl) (Steps.refl _) (argsL := [(.ref b43x)]) (rest := []) (lenOf pd_3 rfl) rfl (by show 2 * 0 + _ ≤ _; exact Nat.le_of_eq rfl) (hb hby at_179) (fun _ _ => ⟨rfl, rfl, (by decide : 3 + 0 ≤ _), (by decide : 5 + 0 ≤ _)⟩)
        dsimp only [Pt.U, Pt.locs, Pt.cells, Pt.slots] at X46 l46 y46 z46 st46 hQ46
        subst l46 y46 z46
        obtain ⟨rfl, N46q, e46q⟩ := hQ46
        have N46 := Fr.app N43 N46q
        obtain ⟨fs, hr, hrun, hended, hW, hsame⟩ := X46.leave (v := some (.int (1 : Int32))) (fun h => by rw [Bd.returns] at h; cases h)
        refine ⟨_, _, pre42 _ ?_, hrun, hended, _, _, rfl, ?_, ⟨_, rfl⟩, hW, hsame.mono (by decide) (by decide)⟩
        · show Steps p.tables e below (T12.setTop (mkF m 166 #[.val (.long q0), .second, .val (.long q1), .second, .val (.long q2), .second, .val (.long q3), .second, .val (.int p4), .val (.int ss), .val (.int sl), .val (.long a2), .second, .val (.long b2), .second, .val (.ref b6), .val (.ref b10), .val (.int kd), .unset] [(.int (2 : Int32)), (.int kd)])) _
          refine XS.icmpNo X12.here hx rfl (hb hby at_166) rfl (teq hc166).2 ?_
          show Steps p.tables e below (T12.setTop (mkF m 169 #[.val (.long q0), .second, .val (.long q1), .second, .val (.long q2), .second, .val (.long q3), .second, .val (.int p4), .val (.int ss), .val (.int sl), .val (.long a2), .second, .val (.long b2), .second, .val (.ref b6), .val (.ref b10), .val (.int kd), .unset] [])) _
          refine XS.lloadN X12.here hx rfl (hb hby at_169) rfl ?_
          show Steps p.tables e below (T12.setTop (mkF m 170 #[.val (.long q0), .second, .val (.long q1), .second, .val (.long q2), .second, .val (.long q3), .second, .val (.int p4), .val (.int ss), .val (.int sl), .val (.long a2), .second, .val (.long b2), .second, .val (.ref b6), .val (.ref b10), .val (.int kd), .unset] [(.long q0)])) _
          refine st43 _ ?_
          show Steps p.tables e below (T43.setTop (mkF m 173 #[.val (.long q0), .second, .val (.long q1), .second, .val (.long q2), .second, .val (.long q3), .second, .val (.int p4), .val (.int ss), .val (.int sl), .val (.long a2), .second, .val (.long b2), .second, .val (.ref b6), .val (.ref b10), .val (.int kd), .unset] [(.ref b43x)])) _
          refine XS.astore X43.here hx rfl (hb hby at_173) rfl rfl (l' := #[.val (.long q0), .second, .val (.long q1), .second, .val (.long q2), .second, .val (.long q3), .second, .val (.int p4), .val (.int ss), .val (.int sl), .val (.long a2), .second, .val (.long b2), .second, .val (.ref b6), .val (.ref b10), .val (.int kd), .val (.ref b43x)]) rfl ?_
          show Steps p.tables e below (T43.setTop (mkF m 175 #[.val (.long q0), .second, .val (.long q1), .second, .val (.long q2), .second, .val (.long q3), .second, .val (.int p4), .val (.int ss), .val (.int sl), .val (.long a2), .second, .val (.long b2), .second, .val (.ref b6), .val (.ref b10), .val (.int kd), .val (.ref b43x)] [])) _
          refine XS.aload X43.here hx rfl (hb hby at_175) rfl rfl ?_
          show Steps p.tables e below (T43.setTop (mkF m 177 #[.val (.long q0), .second, .val (.long q1), .second, .val (.long q2), .second, .val (.long q3), .second, .val (.int p4), .val (.int ss), .val (.int sl), .val (.long a2), .second, .val (.long b2), .second, .val (.ref b6), .val (.ref b10), .val (.int kd), .val (.ref b43x)] [(.ref b6)])) _
          refine XS.aload X43.here hx rfl (hb hby at_177) rfl rfl ?_
          show Steps p.tables e below (T43.setTop (mkF m 179 #[.val (.long q0), .second, .val (.long q1), .second, .val (.long q2), .second, .val (.long q3), .second, .val (.int p4), .val (.int ss), .val (.int sl), .val (.long a2), .second, .val (.long b2), .second, .val (.ref b6), .val (.ref b10), .val (.int kd), .val (.ref b43x)] [(.ref b43x), (.ref b6)])) _
          refine st46.trans ?_
          show Steps p.tables e below (T46.setTop (mkF m 182 #[.val (.long q0), .second, .val (.long q1), .second, .val (.long q2), .second, .val (.long q3), .second, .val (.int p4), .val (.int ss), .val (.int sl), .val (.long a2), .second, .val (.long b2), .second, .val (.ref b6), .val (.ref b10), .val (.int kd), .val (.ref b43x)] [(.int (0 : Int32))])) _
          refine XS.ifNo X46.here hx rfl (hb hby at_182) rfl ((if0 _ _).trans (teq (by decide : (0 : Int32) = (0 : Int32))).2) ?_
          show Steps p.tables e below (T46.setTop (mkF m 185 #[.val (.long q0), .second, .val (.long q1), .second, .val (.long q2), .second, .val (.long q3), .second, .val (.int p4), .val (.int ss), .val (.int sl), .val (.long a2), .second, .val (.long b2), .second, .val (.ref b6), .val (.ref b10), .val (.int kd), .val (.ref b43x)] [])) _
          refine XS.iconst X46.here hx rfl (hb hby at_185) ?_
          show Steps p.tables e below (T46.setTop (mkF m 186 #[.val (.long q0), .second, .val (.long q1), .second, .val (.long q2), .second, .val (.long q3), .second, .val (.int p4), .val (.int ss), .val (.int sl), .val (.long a2), .second, .val (.long b2), .second, .val (.ref b6), .val (.ref b10), .val (.int kd), .val (.ref b43x)] [(.int (1 : Int32))])) _
          refine XS.goto X46.here hx rfl (pc0 := 186) (pc' := 190) rfl (hb hby at_186) (by decide) (by decide) ?_
          show Steps p.tables e below (T46.setTop (mkF m 190 #[.val (.long q0), .second, .val (.long q1), .second, .val (.long q2), .second, .val (.long q3), .second, .val (.int p4), .val (.int ss), .val (.int sl), .val (.long a2), .second, .val (.long b2), .second, .val (.ref b6), .val (.ref b10), .val (.int kd), .val (.ref b43x)] [(.int (1 : Int32))])) _
          exact retN X46 hx (t := .boolean) Bd.returns (by simp) (hb hby at_190) hr
        · show Q0 Z q0 q1 q2 q3 p4 ca cl h0 n0 _ T46.heap _
          rw [e46q]
          exact ⟨rfl, N46⟩
      · -- not kd = (2 : Int32)
        have f50 := ((A8x.ext E10).keep K12)
        have f51 := ((Fg8_0.ext E10).keep K12 (fun hm => ne10_b6 (List.mem_singleton.mp hm)))
        have f52 := ((Fg8_1.ext E10).keep K12 (fun hm => ne10_b6 (List.mem_singleton.mp hm)))
        obtain ⟨cq49, kq49, q49a, q49b, q49c⟩ := isOf hZ rfl f50
        obtain ⟨_, _, ⟨T49, L49, k49, n49⟩, -, X49, ⟨Lc49, hQ49, l49, y49, z49⟩, st49⟩ := X12.virtualBack hx (y := (⟨"com/example/sarasvati/sarasvati/window/Window", "equals", "(Ljava/lang/Object;)Z"⟩ : MethodName)) (z := (⟨"com/example/sarasvati/sarasvati/window/Window", "equals", "(Ljava/lang/Object;)Z"⟩ : MethodName)) hown (mvT hZ (hw _ (List.mem_of_getElem? (i := 13) rfl))) (mvT hZ (hw _ (List.mem_of_getElem? (i := 14) rfl))) (notFace_of_selects (args := #[]) (mvT hZ (hw _ (List.mem_of_getElem? (i := 16) rfl)))) (mvT hZ (hw _ (List.mem_of_getElem? (i := 16) rfl))) (mvT hZ (hw _ (List.mem_of_getElem? (i := 15) rfl))) (by decide) (backOf (W := 0) (rm3s l Z a0 hw [] b6 b6 q0 q1 q0 q1 T12.heap n0 Z13 f50 f51 f52 f51 f52 rfl rfl) hZ (hw _ (List.mem_of_getElem? (i := 17) rfl)) (hw _ (List.mem_of_getElem? (i := 2) rfl)) (by decide) (by decide)) q49a q49c (g := (mkF m 195 #[.val (.long q0), .second, .val (.long q1), .second, .val (.long q2), .second, .val (.long q3), .second, .val (.int p4), .val (.int ss), .val (.int sl), .val (.long a2), .second, .val (.long b2), .second, .val (.ref b6), .val (.ref b10), .val (.int kd), .unset] [(.ref b6), (.ref b6)])) rfl (by rw [hml]; rfl) (Steps.refl _) (argsL := [(.ref b6)]) (rest := []) (lenOf pd_3 rfl) rfl (by show 2 * 0 + _ ≤ _; exact Nat.le_of_eq rfl) (hb hby at_195) (fun _ _ => ⟨rfl, rfl, (by decide : 2 + 0 ≤ _), (by decide : 4 + 0 ≤ _)⟩)
        dsimp only [Pt.U, Pt.locs, Pt.cells, Pt.slots] at X49 l49 y49 z49 st49 hQ49
        subst l49 y49 z49
        obtain ⟨rfl, N49q, e49q⟩ := hQ49
        have N49 := Fr.app N12 N49q
        obtain ⟨fs, hr, hrun, hended, hW, hsame⟩ := X49.leave (v := some (.int (1 : Int32))) (fun h => by rw [Bd.returns] at h; cases h)
        refine ⟨_, _, pre42 _ ?_, hrun, hended, _, _, rfl, ?_, ⟨_, rfl⟩, hW, hsame.mono (by decide) (by decide)⟩
        · show Steps p.tables e below (T12.setTop (mkF m 166 #[.val (.long q0), .second, .val (.long q1), .second, .val (.long q2), .second, .val (.long q3), .second, .val (.int p4), .val (.int ss), .val (.int sl), .val (.long a2), .second, .val (.long b2), .second, .val (.ref b6), .val (.ref b10), .val (.int kd), .unset] [(.int (2 : Int32)), (.int kd)])) _
          refine XS.icmpYes X12.here hx rfl (pc0 := 166) (pc' := 191) rfl (hb hby at_166) rfl (feq hc166).2 (by decide) (by decide) ?_
          show Steps p.tables e below (T12.setTop (mkF m 191 #[.val (.long q0), .second, .val (.long q1), .second, .val (.long q2), .second, .val (.long q3), .second, .val (.int p4), .val (.int ss), .val (.int sl), .val (.long a2), .second, .val (.long b2), .second, .val (.ref b6), .val (.ref b10), .val (.int kd), .unset] [])) _
          refine XS.aload X12.here hx rfl (hb hby at_191) rfl rfl ?_
          show Steps p.tables e below (T12.setTop (mkF m 193 #[.val (.long q0), .second, .val (.long q1), .second, .val (.long q2), .second, .val (.long q3), .second, .val (.int p4), .val (.int ss), .val (.int sl), .val (.long a2), .second, .val (.long b2), .second, .val (.ref b6), .val (.ref b10), .val (.int kd), .unset] [(.ref b6)])) _
          refine XS.aload X12.here hx rfl (hb hby at_193) rfl rfl ?_
          show Steps p.tables e below (T12.setTop (mkF m 195 #[.val (.long q0), .second, .val (.long q1), .second, .val (.long q2), .second, .val (.long q3), .second, .val (.int p4), .val (.int ss), .val (.int sl), .val (.long a2), .second, .val (.long b2), .second, .val (.ref b6), .val (.ref b10), .val (.int kd), .unset] [(.ref b6), (.ref b6)])) _
          refine st49.trans ?_
          show Steps p.tables e below (T49.setTop (mkF m 198 #[.val (.long q0), .second, .val (.long q1), .second, .val (.long q2), .second, .val (.long q3), .second, .val (.int p4), .val (.int ss), .val (.int sl), .val (.long a2), .second, .val (.long b2), .second, .val (.ref b6), .val (.ref b10), .val (.int kd), .unset] [(.int (1 : Int32))])) _
          exact retN X49 hx (t := .boolean) Bd.returns (by simp) (hb hby at_198) hr
        · show Q0 Z q0 q1 q2 q3 p4 ca cl h0 n0 _ T49.heap _
          rw [e49q]
          exact ⟨rfl, N49⟩
set_option maxRecDepth 65536 in
set_option maxHeartbeats 40000000 in
theorem comes_1 {Post : Tables → Env → Array Value → State → Outcome → State → Prop} (hpost : ∀ tb e args s v u, (limb_1_1.after args s (.returned v) u = true ∧ limb_1_2.after args s (.returned v) u = true ∧ True) → FrameEnd s (.returned v) u (Jvm.fieldLocs frame_1_writes args s ++ Jvm.arrayLocs frame_1_arrays args s ++ Jvm.staticLocs frame_1_statics s) 16 128 → Post tb e args s (.returned v) u) :
    ArmFor flags0 classFile x code maxLocals ret World_1 tables_1 room_1 Calls_1 rest_1 Pre_1 Post := by
  intro l hfl _ _ p e ha hc hk s m args below hf hA hF happ hP
  obtain ⟨hcalls, hrest, hpre⟩ := hP
  obtain ⟨-, -, -, hnamed, -, -, -, hat⟩ := (Spec.applies_iff hf).mp happ
  obtain ⟨hg, hn⟩ := and_e (Cond.before_iff.mp (show (Jvm.Cond.and given_1 narrow_1).before args s = true from hpre))
  obtain ⟨g1, g2⟩ := and_e hg
  obtain ⟨g3, g4⟩ := and_e g2
  obtain ⟨g5, g6⟩ := and_e g4
  obtain ⟨g7, g8⟩ := and_e g6
  obtain ⟨g9, g10⟩ := and_e g8
  obtain ⟨w0, w1, w2, w3, w4, rfl⟩ : ∃ w0 w1 w2 w3 w4 : Value, args = #[w0, w1, w2, w3, w4] := by
    have hs : args.size = 5 := by simpa [Cond.value, given_1] using g1
    obtain ⟨L⟩ := args
    match L, hs with
    | [w0, w1, w2, w3, w4], _ => exact ⟨w0, w1, w2, w3, w4, rfl⟩
  have hw := fun d (hd : d ∈ tables_1) => atoms_spec (ws := Jvm.Cond.code x code maxLocals ret :: tables_1) hat d (List.mem_cons_of_mem _ hd)
  have hfit : Fit s := fun {y c} hc i hi => by
    obtain ⟨ha, rfl⟩ := Array.getElem?_eq_some_iff.mp hc
    have q := List.all_eq_true.mp ((Array.all_eq_true_iff_forall_mem.mp hF) _ (Array.getElem_mem ha)) i (List.mem_range.mpr hi)
    simpa [Array.getElem?_eq_getElem hi] using q
  obtain ⟨hsets, hown0⟩ := atoms_of _ (rest_1_c_eq ▸ (show rest_1_c.before _ s = true from hrest))
  have hr0 := Cond.before_iff.mp hown0
  obtain ⟨i0, ei0⟩ := isL_v g3
  obtain rfl : w0 = (.long i0) := Option.some.inj ei0
  obtain ⟨i1, ei1⟩ := isL_v g5
  obtain rfl : w1 = (.long i1) := Option.some.inj ei1
  obtain ⟨i2, ei2⟩ := isL_v g7
  obtain rfl : w2 = (.long i2) := Option.some.inj ei2
  obtain ⟨i3, ei3⟩ := isL_v g9
  obtain rfl : w3 = (.long i3) := Option.some.inj ei3
  obtain ⟨i4, ei4⟩ := is_v g10
  obtain rfl : w4 = (.int i4) := Option.some.inj ei4
  obtain ⟨ca, evc⟩ := arr_v (Cond.before_iff.mp (hsets _ (List.mem_of_getElem? (i := 2) rfl)))
  obtain ⟨clc, AC⟩ := Arr.start evc (Cond.before_iff.mp (hsets _ (List.mem_of_getElem? (i := 2) rfl)))
  have SC := Sta.start evc (Or.inl (hsets _ (List.mem_of_getElem? (i := 1) rfl)))
  obtain ⟨q1, q2⟩ := Jvm.Free.IntBox.length_fwd (hsets _ (List.mem_of_getElem? (i := 4) rfl)) evc AC.1 AC.2.1 AC.2.2
  have BX : Bxs s ca clc "java/lang/Long" "J" (256 : Int32) own_val := Bxs.start (fun _ => evc) AC q1 q2 (by decide) (Cond.before_iff.mp (hsets _ (List.mem_of_getElem? (i := 5) rfl))) (fun X j nn hh => eqv_l (i2l_at (Term.sub_int (idx_at nn) (Term.int_eval _))) hh)
  obtain ⟨n, o, h1, h2, h3, _, L, rfl, ⟨rfl, N⟩, hq⟩ := rm0 l s _ hw tables_1 i0 i1 i2 i3 i4 ca clc s.heap s.heap.size (Nat.le_refl _) (Old.start s) SC BX p e ha hc hk s m _ below hf ((Spec.applies_iff_loose hf).mp happ).1 ⟨rfl, State.Warmed39.refl s, rfl⟩ trivial
  refine ⟨n, _, h1, h2, h3, hpost _ _ _ _ _ _ ⟨Cond.after_iff.mpr rfl, Cond.after_iff.mpr (eq_i res_at (Term.int_eval (1)) rfl), trivial⟩ ⟨hq.1, hq.2.1, (hq.2.2.sift fun y hy => Or.inr (N y hy)).mono (by decide) (by decide)⟩⟩
theorem main_1_1 : Claimed_1_1 := comes_1 fun _ _ _ _ _ _ h hF => ⟨h.1, hF⟩
theorem main_1_2 : Claimed_1_2 := comes_1 fun _ _ _ _ _ _ h hF => ⟨h.2.1, hF⟩
end Jvm.Pilot.@@N@@
namespace Jvm.Pilot.@@N@@
open Jvm Jvm.ClassFile Sem Op Lib Jvm.Free Jvm.Stand Jvm.Pilot.@@N@@.Jvm.D
/-! MADE BY PROGRAM (witnessworld.py) out of the Statement's table words and the real class files: 16 classes; the members and pool entries that the words name. The judged class is class 1, her method 1. -/
namespace start1
open Jvm.ClassFile
def u (s : String) : CpInfo := .utf8 (stringToUtf16 s)
/-- a pool by its gaps: so many unusable entries, then the entry; so many at the end -/
def gap : Nat → List CpInfo → List CpInfo
  | 0, r => r
  | n + 1, r => .unusable :: gap n r
def poolList (es : List (Nat × CpInfo)) (last : Nat) : List CpInfo := es.foldr (fun e r => gap e.1 (e.2 :: r)) (gap last [])
def pool (es : List (Nat × CpInfo)) (last : Nat) : Array CpInfo := ⟨poolList es last⟩
def fileOf (pool : Array CpInfo) (this : Nat) (attrs : Array Attribute := #[]) (ms : Array MethodInfo := #[]) (fl : Nat := 33) (sup : Nat := 0) (ifs : Array Nat := #[]) (fds : Array FieldInfo := #[]) : ClassFile where
  minorVersion := 0
  majorVersion := 65
  constantPool := pool
  accessFlags := fl
  thisClass := this
  superClass := sup
  interfaces := ifs
  fields := fds
  methods := ms
  attributes := attrs
def plain (name : String) (sup : Option ClassId) : Class where
  name := name
  kind := .ordinary
  loader := none
  accessFlags := 33
  super := sup
  interfaces := #[]
  cf := none
  fields := #[]
  methods := #[]
  instanceTypes := #[]
  staticTypes := #[]
  resolved := #[]
  callSites := []
  init := .initialized
  statics := none
  mirror := none

def pool0 : Array CpInfo := pool [(5, u "<init>"), (0, u "()V"), (1, .class_ 10), (1, u "java/lang/Object")] 113

def k0c0 : Code := { maxStack := 0, maxLocals := 1, code := object_method_1_code, exceptionTable := #[], attributes := #[] }
def k0m0 : Method := { name := "<init>", desc := "()V", sig := { parameters := [], returnType := none }, accessFlags := 1, code := some k0c0 }
/-- java/lang/Object -/
def k0 : Class := { plain "java/lang/Object" none with
  accessFlags := 33
  interfaces := #[]
  cf := some (fileOf pool0 8 #[] #[{ accessFlags := 1, nameIndex := 5, descriptorIndex := 6, attributes := #[] }] 33 0 #[] #[])
  fields := #[]
  methods := #[k0m0]
  instanceTypes := #[]
  staticTypes := #[]
  resolved := Array.replicate 124 none
  statics := none }

def pool1 : Array CpInfo := pool [(2, .class_ 4), (1, u "java/lang/Object"), (0, u "<init>"), (0, u "()V"), (0, .class_ 8), (0, u "com/example/sarasvati/sarasvati/window/Window"), (0, .methodref 7 10), (0, .nameAndType 5 11), (0, u "(JJ)V"), (0, .methodref 7 13), (0, .nameAndType 14 15), (0, u "equals"), (0, u "(Ljava/lang/Object;)Z"), (0, .methodref 17 18), (0, .class_ 19), (0, .nameAndType 20 21), (0, u "java/lang/Long"), (0, u "valueOf"), (0, u "(J)Ljava/lang/Long;"), (0, .class_ 23), (0, u "com/example/sarasvati/sarasvati/window/WindowEqualsPinLaw"), (2, u "law"), (0, u "(JJJJI)Z")] 3

def k1m0 : Method := { name := "<init>", desc := "()V", sig := { parameters := [], returnType := none }, accessFlags := 1, code := none }
def k1c1 : Code := { maxStack := 6, maxLocals := 19, code := code, exceptionTable := #[], attributes := #[] }
def k1m1 : Method := { name := "law", desc := "(JJJJI)Z", sig := { parameters := [.long, .long, .long, .long, .int], returnType := some .boolean }, accessFlags := 9, code := some k1c1 }
/-- com/example/sarasvati/sarasvati/window/WindowEqualsPinLaw -/
def k1 : Class := { plain "com/example/sarasvati/sarasvati/window/WindowEqualsPinLaw" (some 0) with
  accessFlags := 49
  interfaces := #[]
  cf := some (fileOf pool1 22 #[] #[{ accessFlags := 1, nameIndex := 5, descriptorIndex := 6, attributes := #[] }, { accessFlags := 9, nameIndex := 26, descriptorIndex := 27, attributes := #[] }] 49 2 #[] #[])
  fields := #[]
  methods := #[k1m0, k1m1]
  instanceTypes := #[]
  staticTypes := #[]
  resolved := Array.replicate 31 none
  statics := none }

def pool2 : Array CpInfo := pool [(3, .methodref 4 5), (0, .class_ 6), (0, .nameAndType 7 8), (0, u "java/lang/Object"), (0, u "<init>"), (0, u "()V"), (0, .fieldref 10 11), (0, .class_ 12), (0, .nameAndType 13 14), (0, u "com/example/sarasvati/sarasvati/window/Window"), (0, u "startMs"), (0, u "J"), (0, .fieldref 10 16), (0, .nameAndType 17 14), (0, u "lengthMs"), (6, u "DIRECTORY_NAME"), (0, u "Ljava/util/regex/Pattern;"), (32, u "(JJ)V"), (47, u "MAX_TTL_SECONDS"), (10, u "equals"), (0, u "(Ljava/lang/Object;)Z")] 24

def k2c0 : Code := { maxStack := 3, maxLocals := 5, code := prog_190_method_1_code, exceptionTable := #[], attributes := #[] }
def k2m0 : Method := { name := "<init>", desc := "(JJ)V", sig := { parameters := [.long, .long], returnType := none }, accessFlags := 0, code := some k2c0 }
def k2c1 : Code := { maxStack := 4, maxLocals := 3, code := prog_190_method_8_code, exceptionTable := #[], attributes := #[] }
def k2m1 : Method := { name := "equals", desc := "(Ljava/lang/Object;)Z", sig := { parameters := [(.object "java/lang/Object")], returnType := some .boolean }, accessFlags := 1, code := some k2c1 }
/-- com/example/sarasvati/sarasvati/window/Window -/
def k2 : Class := { plain "com/example/sarasvati/sarasvati/window/Window" (some 0) with
  accessFlags := 33
  interfaces := #[]
  cf := some (fileOf pool2 10 #[] #[{ accessFlags := 0, nameIndex := 7, descriptorIndex := 58, attributes := #[] }, { accessFlags := 1, nameIndex := 117, descriptorIndex := 118, attributes := #[] }] 33 4 #[] #[{ accessFlags := 25, nameIndex := 106, descriptorIndex := 14, attributes := #[] }, { accessFlags := 26, nameIndex := 24, descriptorIndex := 25, attributes := #[] }, { accessFlags := 18, nameIndex := 13, descriptorIndex := 14, attributes := #[] }, { accessFlags := 18, nameIndex := 17, descriptorIndex := 14, attributes := #[] }])
  fields := #[{ name := "MAX_TTL_SECONDS", type := .long, accessFlags := 25, slot := 0, constantValue := 0 }, { name := "DIRECTORY_NAME", type := (.object "java/util/regex/Pattern"), accessFlags := 26, slot := 1, constantValue := 0 }, { name := "startMs", type := .long, accessFlags := 18, slot := 0, constantValue := 0 }, { name := "lengthMs", type := .long, accessFlags := 18, slot := 1, constantValue := 0 }]
  methods := #[k2m0, k2m1]
  instanceTypes := #[.long, .long]
  staticTypes := #[.long, (.object "java/util/regex/Pattern")]
  resolved := Array.replicate 143 none
  statics := none }

def pool3 : Array CpInfo := pool [(1, .class_ 2), (0, u "java/io/Serializable"), (0, .class_ 4), (0, u "java/lang/Object")] 2

/-- java/io/Serializable -/
def k3 : Class := { plain "java/io/Serializable" (some 0) with
  accessFlags := 1537
  interfaces := #[]
  cf := some (fileOf pool3 1 #[] #[] 1537 3 #[] #[])
  fields := #[]
  methods := #[]
  instanceTypes := #[]
  staticTypes := #[]
  resolved := Array.replicate 7 none
  statics := none }

def pool4 : Array CpInfo := pool [(1, .methodref 2 3), (0, .class_ 4), (0, .nameAndType 5 6), (0, u "java/lang/Object"), (0, u "<init>"), (0, u "()V"), (1, .class_ 10), (1, u "java/lang/Number"), (2, .class_ 14), (0, u "java/io/Serializable"), (0, u "serialVersionUID"), (0, u "J")] 20

def k4c0 : Code := { maxStack := 1, maxLocals := 1, code := jdk_18_method_1_code, exceptionTable := #[], attributes := #[] }
def k4m0 : Method := { name := "<init>", desc := "()V", sig := { parameters := [], returnType := none }, accessFlags := 1, code := some k4c0 }
/-- java/lang/Number -/
def k4 : Class := { plain "java/lang/Number" (some 0) with
  accessFlags := 1057
  interfaces := #[3]
  cf := some (fileOf pool4 8 #[] #[{ accessFlags := 1, nameIndex := 5, descriptorIndex := 6, attributes := #[] }] 1057 2 #[13] #[{ accessFlags := 26, nameIndex := 15, descriptorIndex := 16, attributes := #[] }])
  fields := #[{ name := "serialVersionUID", type := .long, accessFlags := 26, slot := 0, constantValue := 0 }]
  methods := #[k4m0]
  instanceTypes := #[]
  staticTypes := #[.long]
  resolved := Array.replicate 37 none
  statics := none }

def pool5 : Array CpInfo := pool [(1, .class_ 2), (0, u "java/lang/Comparable"), (0, .class_ 4), (0, u "java/lang/Object")] 7

/-- java/lang/Comparable -/
def k5 : Class := { plain "java/lang/Comparable" (some 0) with
  accessFlags := 1537
  interfaces := #[]
  cf := some (fileOf pool5 1 #[] #[] 1537 3 #[] #[])
  fields := #[]
  methods := #[]
  instanceTypes := #[]
  staticTypes := #[]
  resolved := Array.replicate 12 none
  statics := none }

def pool6 : Array CpInfo := pool [(1, .class_ 2), (0, u "java/lang/constant/Constable"), (0, .class_ 4), (0, u "java/lang/Object")] 6

/-- java/lang/constant/Constable -/
def k6 : Class := { plain "java/lang/constant/Constable" (some 0) with
  accessFlags := 1537
  interfaces := #[]
  cf := some (fileOf pool6 1 #[] #[] 1537 3 #[] #[])
  fields := #[]
  methods := #[]
  instanceTypes := #[]
  staticTypes := #[]
  resolved := Array.replicate 11 none
  statics := none }

def pool7 : Array CpInfo := pool [(1, .class_ 2), (0, u "java/lang/constant/ConstantDesc"), (0, .class_ 4), (0, u "java/lang/Object")] 32

/-- java/lang/constant/ConstantDesc -/
def k7 : Class := { plain "java/lang/constant/ConstantDesc" (some 0) with
  accessFlags := 1537
  interfaces := #[]
  cf := some (fileOf pool7 1 #[] #[] 1537 3 #[] #[])
  fields := #[]
  methods := #[]
  instanceTypes := #[]
  staticTypes := #[]
  resolved := Array.replicate 37 none
  statics := none }

def pool8 : Array CpInfo := pool [(1, .class_ 2), (0, u "java/lang/Long"), (55, .nameAndType 59 60), (0, u "<init>"), (0, u "()V"), (24, u "valueOf"), (143, u "(J)Ljava/lang/Long;"), (0, .long 18446744073709551488), (1, .long 127), (1, .fieldref 235 236), (0, .class_ 237), (0, .nameAndType 238 239), (0, u "java/lang/Long$LongCache"), (0, u "cache"), (0, u "[Ljava/lang/Long;"), (0, .methodref 1 241), (0, .nameAndType 59 242), (0, u "(J)V"), (27, .methodref 271 58), (0, .class_ 272), (0, u "java/lang/Number"), (0, .fieldref 1 274), (0, .nameAndType 275 276), (0, u "value"), (0, u "J"), (84, u "TYPE"), (0, u "Ljava/lang/Class;"), (0, .class_ 364), (0, u "java/lang/Comparable"), (0, .class_ 366), (0, u "java/lang/constant/Constable"), (0, .class_ 368), (0, u "java/lang/constant/ConstantDesc"), (0, u "MIN_VALUE"), (1, u "MAX_VALUE"), (4, u "SIZE"), (0, u "I"), (1, u "BYTES"), (1, u "serialVersionUID")] 142

def k8c0 : Code := { maxStack := 4, maxLocals := 3, code := jdk_35_method_24_code, exceptionTable := #[], attributes := #[] }
def k8m0 : Method := { name := "valueOf", desc := "(J)Ljava/lang/Long;", sig := { parameters := [.long], returnType := some (.object "java/lang/Long") }, accessFlags := 9, code := some k8c0 }
def k8c1 : Code := { maxStack := 3, maxLocals := 3, code := jdk_35_method_26_code, exceptionTable := #[], attributes := #[] }
def k8m1 : Method := { name := "<init>", desc := "(J)V", sig := { parameters := [.long], returnType := none }, accessFlags := 1, code := some k8c1 }
/-- java/lang/Long -/
def k8 : Class := { plain "java/lang/Long" (some 4) with
  accessFlags := 49
  interfaces := #[5, 6, 7]
  cf := some (fileOf pool8 1 #[.nestMembers #[235]] #[{ accessFlags := 9, nameIndex := 85, descriptorIndex := 229, attributes := #[] }, { accessFlags := 1, nameIndex := 59, descriptorIndex := 242, attributes := #[] }] 49 271 #[363, 365, 367] #[{ accessFlags := 25, nameIndex := 369, descriptorIndex := 276, attributes := #[] }, { accessFlags := 25, nameIndex := 371, descriptorIndex := 276, attributes := #[] }, { accessFlags := 25, nameIndex := 361, descriptorIndex := 362, attributes := #[] }, { accessFlags := 18, nameIndex := 275, descriptorIndex := 276, attributes := #[] }, { accessFlags := 25, nameIndex := 376, descriptorIndex := 377, attributes := #[] }, { accessFlags := 25, nameIndex := 379, descriptorIndex := 377, attributes := #[] }, { accessFlags := 26, nameIndex := 381, descriptorIndex := 276, attributes := #[] }])
  fields := #[{ name := "MIN_VALUE", type := .long, accessFlags := 25, slot := 0, constantValue := 0 }, { name := "MAX_VALUE", type := .long, accessFlags := 25, slot := 1, constantValue := 0 }, { name := "TYPE", type := (.object "java/lang/Class"), accessFlags := 25, slot := 2, constantValue := 0 }, { name := "value", type := .long, accessFlags := 18, slot := 0, constantValue := 0 }, { name := "SIZE", type := .int, accessFlags := 25, slot := 3, constantValue := 0 }, { name := "BYTES", type := .int, accessFlags := 25, slot := 4, constantValue := 0 }, { name := "serialVersionUID", type := .long, accessFlags := 26, slot := 5, constantValue := 0 }]
  methods := #[k8m0, k8m1]
  instanceTypes := #[.long]
  staticTypes := #[.long, .long, (.object "java/lang/Class"), .int, .int, .long]
  resolved := Array.replicate 524 none
  statics := none }

def pool9 : Array CpInfo := pool [(2, .class_ 4), (1, u "java/lang/Object"), (0, u "<init>"), (0, u "()V"), (0, .class_ 8), (0, u "java/lang/Long"), (7, .class_ 18), (1, u "java/lang/Long$LongCache"), (0, u "$assertionsDisabled"), (0, u "Z"), (8, u "archivedCache"), (0, u "[Ljava/lang/Long;"), (7, u "cache")] 24

def k9m0 : Method := { name := "<init>", desc := "()V", sig := { parameters := [], returnType := none }, accessFlags := 2, code := none }
/-- java/lang/Long$LongCache -/
def k9 : Class := { plain "java/lang/Long$LongCache" (some 0) with
  accessFlags := 48
  interfaces := #[]
  cf := some (fileOf pool9 16 #[.nestHost 7] #[{ accessFlags := 2, nameIndex := 5, descriptorIndex := 6, attributes := #[] }] 48 2 #[] #[{ accessFlags := 24, nameIndex := 38, descriptorIndex := 30, attributes := #[] }, { accessFlags := 8, nameIndex := 29, descriptorIndex := 30, attributes := #[] }, { accessFlags := 4120, nameIndex := 19, descriptorIndex := 20, attributes := #[] }])
  fields := #[{ name := "cache", type := (.array (.object "java/lang/Long")), accessFlags := 24, slot := 0, constantValue := 0 }, { name := "archivedCache", type := (.array (.object "java/lang/Long")), accessFlags := 8, slot := 1, constantValue := 0 }, { name := "$assertionsDisabled", type := .boolean, accessFlags := 4120, slot := 2, constantValue := 0 }]
  methods := #[k9m0]
  instanceTypes := #[]
  staticTypes := #[(.array (.object "java/lang/Long")), (.array (.object "java/lang/Long")), .boolean]
  resolved := Array.replicate 63 none
  statics := some 0 }

def pool10 : Array CpInfo := pool [(1, u "java/lang/Cloneable"), (0, .class_ 1), (0, u "java/lang/Object"), (0, .class_ 3)] 3

/-- java/lang/Cloneable -/
def k10 : Class := { plain "java/lang/Cloneable" (some 0) with
  accessFlags := 1537
  interfaces := #[]
  cf := some (fileOf pool10 2 #[] #[] 1537 4 #[] #[])
  fields := #[]
  methods := #[]
  instanceTypes := #[]
  staticTypes := #[]
  resolved := Array.replicate 8 none
  statics := none }

/-- the primitive byte -/
def k11 : Class := { plain "byte" none with kind := .primitive 'B', accessFlags := 0x411 }
/-- [B -/
def k12 : Class := { plain "[B" (some 0) with kind := .array 11 .byte, interfaces := #[10, 3], accessFlags := 1041 }

/-- the primitive int -/
def k13 : Class := { plain "int" none with kind := .primitive 'I', accessFlags := 0x411 }
/-- [I -/
def k14 : Class := { plain "[I" (some 0) with kind := .array 13 .int, interfaces := #[10, 3], accessFlags := 1041 }

/-- [Ljava/lang/Long; -/
def k15 : Class := { plain "[Ljava/lang/Long;" (some 0) with kind := .array 8 (.object "java/lang/Long"), interfaces := #[10, 3], accessFlags := 1041 }

def heap : Heap := #[{ cls := 9, slots := #[.ref 1, .null, .int 0], vm := .statics 9 },
  { cls := 15, slots := #[.ref 2, .ref 3, .ref 4, .ref 5, .ref 6, .ref 7, .ref 8, .ref 9, .ref 10, .ref 11, .ref 12, .ref 13, .ref 14, .ref 15, .ref 16, .ref 17, .ref 18, .ref 19, .ref 20, .ref 21, .ref 22, .ref 23, .ref 24, .ref 25, .ref 26, .ref 27, .ref 28, .ref 29, .ref 30, .ref 31, .ref 32, .ref 33, .ref 34, .ref 35, .ref 36, .ref 37, .ref 38, .ref 39, .ref 40, .ref 41, .ref 42, .ref 43, .ref 44, .ref 45, .ref 46, .ref 47, .ref 48, .ref 49, .ref 50, .ref 51, .ref 52, .ref 53, .ref 54, .ref 55, .ref 56, .ref 57, .ref 58, .ref 59, .ref 60, .ref 61, .ref 62, .ref 63, .ref 64, .ref 65, .ref 66, .ref 67, .ref 68, .ref 69, .ref 70, .ref 71, .ref 72, .ref 73, .ref 74, .ref 75, .ref 76, .ref 77, .ref 78, .ref 79, .ref 80, .ref 81, .ref 82, .ref 83, .ref 84, .ref 85, .ref 86, .ref 87, .ref 88, .ref 89, .ref 90, .ref 91, .ref 92, .ref 93, .ref 94, .ref 95, .ref 96, .ref 97, .ref 98, .ref 99, .ref 100, .ref 101, .ref 102, .ref 103, .ref 104, .ref 105, .ref 106, .ref 107, .ref 108, .ref 109, .ref 110, .ref 111, .ref 112, .ref 113, .ref 114, .ref 115, .ref 116, .ref 117, .ref 118, .ref 119, .ref 120, .ref 121, .ref 122, .ref 123, .ref 124, .ref 125, .ref 126, .ref 127, .ref 128, .ref 129, .ref 130, .ref 131, .ref 132, .ref 133, .ref 134, .ref 135, .ref 136, .ref 137, .ref 138, .ref 139, .ref 140, .ref 141, .ref 142, .ref 143, .ref 144, .ref 145, .ref 146, .ref 147, .ref 148, .ref 149, .ref 150, .ref 151, .ref 152, .ref 153, .ref 154, .ref 155, .ref 156, .ref 157, .ref 158, .ref 159, .ref 160, .ref 161, .ref 162, .ref 163, .ref 164, .ref 165, .ref 166, .ref 167, .ref 168, .ref 169, .ref 170, .ref 171, .ref 172, .ref 173, .ref 174, .ref 175, .ref 176, .ref 177, .ref 178, .ref 179, .ref 180, .ref 181, .ref 182, .ref 183, .ref 184, .ref 185, .ref 186, .ref 187, .ref 188, .ref 189, .ref 190, .ref 191, .ref 192, .ref 193, .ref 194, .ref 195, .ref 196, .ref 197, .ref 198, .ref 199, .ref 200, .ref 201, .ref 202, .ref 203, .ref 204, .ref 205, .ref 206, .ref 207, .ref 208, .ref 209, .ref 210, .ref 211, .ref 212, .ref 213, .ref 214, .ref 215, .ref 216, .ref 217, .ref 218, .ref 219, .ref 220, .ref 221, .ref 222, .ref 223, .ref 224, .ref 225, .ref 226, .ref 227, .ref 228, .ref 229, .ref 230, .ref 231, .ref 232, .ref 233, .ref 234, .ref 235, .ref 236, .ref 237, .ref 238, .ref 239, .ref 240, .ref 241, .ref 242, .ref 243, .ref 244, .ref 245, .ref 246, .ref 247, .ref 248, .ref 249, .ref 250, .ref 251, .ref 252, .ref 253, .ref 254, .ref 255, .ref 256, .ref 257], vm := .none },
  { cls := 8, slots := #[.long (-128)], vm := .none },
  { cls := 8, slots := #[.long (-127)], vm := .none },
  { cls := 8, slots := #[.long (-126)], vm := .none },
  { cls := 8, slots := #[.long (-125)], vm := .none },
  { cls := 8, slots := #[.long (-124)], vm := .none },
  { cls := 8, slots := #[.long (-123)], vm := .none },
  { cls := 8, slots := #[.long (-122)], vm := .none },
  { cls := 8, slots := #[.long (-121)], vm := .none },
  { cls := 8, slots := #[.long (-120)], vm := .none },
  { cls := 8, slots := #[.long (-119)], vm := .none },
  { cls := 8, slots := #[.long (-118)], vm := .none },
  { cls := 8, slots := #[.long (-117)], vm := .none },
  { cls := 8, slots := #[.long (-116)], vm := .none },
  { cls := 8, slots := #[.long (-115)], vm := .none },
  { cls := 8, slots := #[.long (-114)], vm := .none },
  { cls := 8, slots := #[.long (-113)], vm := .none },
  { cls := 8, slots := #[.long (-112)], vm := .none },
  { cls := 8, slots := #[.long (-111)], vm := .none },
  { cls := 8, slots := #[.long (-110)], vm := .none },
  { cls := 8, slots := #[.long (-109)], vm := .none },
  { cls := 8, slots := #[.long (-108)], vm := .none },
  { cls := 8, slots := #[.long (-107)], vm := .none },
  { cls := 8, slots := #[.long (-106)], vm := .none },
  { cls := 8, slots := #[.long (-105)], vm := .none },
  { cls := 8, slots := #[.long (-104)], vm := .none },
  { cls := 8, slots := #[.long (-103)], vm := .none },
  { cls := 8, slots := #[.long (-102)], vm := .none },
  { cls := 8, slots := #[.long (-101)], vm := .none },
  { cls := 8, slots := #[.long (-100)], vm := .none },
  { cls := 8, slots := #[.long (-99)], vm := .none },
  { cls := 8, slots := #[.long (-98)], vm := .none },
  { cls := 8, slots := #[.long (-97)], vm := .none },
  { cls := 8, slots := #[.long (-96)], vm := .none },
  { cls := 8, slots := #[.long (-95)], vm := .none },
  { cls := 8, slots := #[.long (-94)], vm := .none },
  { cls := 8, slots := #[.long (-93)], vm := .none },
  { cls := 8, slots := #[.long (-92)], vm := .none },
  { cls := 8, slots := #[.long (-91)], vm := .none },
  { cls := 8, slots := #[.long (-90)], vm := .none },
  { cls := 8, slots := #[.long (-89)], vm := .none },
  { cls := 8, slots := #[.long (-88)], vm := .none },
  { cls := 8, slots := #[.long (-87)], vm := .none },
  { cls := 8, slots := #[.long (-86)], vm := .none },
  { cls := 8, slots := #[.long (-85)], vm := .none },
  { cls := 8, slots := #[.long (-84)], vm := .none },
  { cls := 8, slots := #[.long (-83)], vm := .none },
  { cls := 8, slots := #[.long (-82)], vm := .none },
  { cls := 8, slots := #[.long (-81)], vm := .none },
  { cls := 8, slots := #[.long (-80)], vm := .none },
  { cls := 8, slots := #[.long (-79)], vm := .none },
  { cls := 8, slots := #[.long (-78)], vm := .none },
  { cls := 8, slots := #[.long (-77)], vm := .none },
  { cls := 8, slots := #[.long (-76)], vm := .none },
  { cls := 8, slots := #[.long (-75)], vm := .none },
  { cls := 8, slots := #[.long (-74)], vm := .none },
  { cls := 8, slots := #[.long (-73)], vm := .none },
  { cls := 8, slots := #[.long (-72)], vm := .none },
  { cls := 8, slots := #[.long (-71)], vm := .none },
  { cls := 8, slots := #[.long (-70)], vm := .none },
  { cls := 8, slots := #[.long (-69)], vm := .none },
  { cls := 8, slots := #[.long (-68)], vm := .none },
  { cls := 8, slots := #[.long (-67)], vm := .none },
  { cls := 8, slots := #[.long (-66)], vm := .none },
  { cls := 8, slots := #[.long (-65)], vm := .none },
  { cls := 8, slots := #[.long (-64)], vm := .none },
  { cls := 8, slots := #[.long (-63)], vm := .none },
  { cls := 8, slots := #[.long (-62)], vm := .none },
  { cls := 8, slots := #[.long (-61)], vm := .none },
  { cls := 8, slots := #[.long (-60)], vm := .none },
  { cls := 8, slots := #[.long (-59)], vm := .none },
  { cls := 8, slots := #[.long (-58)], vm := .none },
  { cls := 8, slots := #[.long (-57)], vm := .none },
  { cls := 8, slots := #[.long (-56)], vm := .none },
  { cls := 8, slots := #[.long (-55)], vm := .none },
  { cls := 8, slots := #[.long (-54)], vm := .none },
  { cls := 8, slots := #[.long (-53)], vm := .none },
  { cls := 8, slots := #[.long (-52)], vm := .none },
  { cls := 8, slots := #[.long (-51)], vm := .none },
  { cls := 8, slots := #[.long (-50)], vm := .none },
  { cls := 8, slots := #[.long (-49)], vm := .none },
  { cls := 8, slots := #[.long (-48)], vm := .none },
  { cls := 8, slots := #[.long (-47)], vm := .none },
  { cls := 8, slots := #[.long (-46)], vm := .none },
  { cls := 8, slots := #[.long (-45)], vm := .none },
  { cls := 8, slots := #[.long (-44)], vm := .none },
  { cls := 8, slots := #[.long (-43)], vm := .none },
  { cls := 8, slots := #[.long (-42)], vm := .none },
  { cls := 8, slots := #[.long (-41)], vm := .none },
  { cls := 8, slots := #[.long (-40)], vm := .none },
  { cls := 8, slots := #[.long (-39)], vm := .none },
  { cls := 8, slots := #[.long (-38)], vm := .none },
  { cls := 8, slots := #[.long (-37)], vm := .none },
  { cls := 8, slots := #[.long (-36)], vm := .none },
  { cls := 8, slots := #[.long (-35)], vm := .none },
  { cls := 8, slots := #[.long (-34)], vm := .none },
  { cls := 8, slots := #[.long (-33)], vm := .none },
  { cls := 8, slots := #[.long (-32)], vm := .none },
  { cls := 8, slots := #[.long (-31)], vm := .none },
  { cls := 8, slots := #[.long (-30)], vm := .none },
  { cls := 8, slots := #[.long (-29)], vm := .none },
  { cls := 8, slots := #[.long (-28)], vm := .none },
  { cls := 8, slots := #[.long (-27)], vm := .none },
  { cls := 8, slots := #[.long (-26)], vm := .none },
  { cls := 8, slots := #[.long (-25)], vm := .none },
  { cls := 8, slots := #[.long (-24)], vm := .none },
  { cls := 8, slots := #[.long (-23)], vm := .none },
  { cls := 8, slots := #[.long (-22)], vm := .none },
  { cls := 8, slots := #[.long (-21)], vm := .none },
  { cls := 8, slots := #[.long (-20)], vm := .none },
  { cls := 8, slots := #[.long (-19)], vm := .none },
  { cls := 8, slots := #[.long (-18)], vm := .none },
  { cls := 8, slots := #[.long (-17)], vm := .none },
  { cls := 8, slots := #[.long (-16)], vm := .none },
  { cls := 8, slots := #[.long (-15)], vm := .none },
  { cls := 8, slots := #[.long (-14)], vm := .none },
  { cls := 8, slots := #[.long (-13)], vm := .none },
  { cls := 8, slots := #[.long (-12)], vm := .none },
  { cls := 8, slots := #[.long (-11)], vm := .none },
  { cls := 8, slots := #[.long (-10)], vm := .none },
  { cls := 8, slots := #[.long (-9)], vm := .none },
  { cls := 8, slots := #[.long (-8)], vm := .none },
  { cls := 8, slots := #[.long (-7)], vm := .none },
  { cls := 8, slots := #[.long (-6)], vm := .none },
  { cls := 8, slots := #[.long (-5)], vm := .none },
  { cls := 8, slots := #[.long (-4)], vm := .none },
  { cls := 8, slots := #[.long (-3)], vm := .none },
  { cls := 8, slots := #[.long (-2)], vm := .none },
  { cls := 8, slots := #[.long (-1)], vm := .none },
  { cls := 8, slots := #[.long (0)], vm := .none },
  { cls := 8, slots := #[.long (1)], vm := .none },
  { cls := 8, slots := #[.long (2)], vm := .none },
  { cls := 8, slots := #[.long (3)], vm := .none },
  { cls := 8, slots := #[.long (4)], vm := .none },
  { cls := 8, slots := #[.long (5)], vm := .none },
  { cls := 8, slots := #[.long (6)], vm := .none },
  { cls := 8, slots := #[.long (7)], vm := .none },
  { cls := 8, slots := #[.long (8)], vm := .none },
  { cls := 8, slots := #[.long (9)], vm := .none },
  { cls := 8, slots := #[.long (10)], vm := .none },
  { cls := 8, slots := #[.long (11)], vm := .none },
  { cls := 8, slots := #[.long (12)], vm := .none },
  { cls := 8, slots := #[.long (13)], vm := .none },
  { cls := 8, slots := #[.long (14)], vm := .none },
  { cls := 8, slots := #[.long (15)], vm := .none },
  { cls := 8, slots := #[.long (16)], vm := .none },
  { cls := 8, slots := #[.long (17)], vm := .none },
  { cls := 8, slots := #[.long (18)], vm := .none },
  { cls := 8, slots := #[.long (19)], vm := .none },
  { cls := 8, slots := #[.long (20)], vm := .none },
  { cls := 8, slots := #[.long (21)], vm := .none },
  { cls := 8, slots := #[.long (22)], vm := .none },
  { cls := 8, slots := #[.long (23)], vm := .none },
  { cls := 8, slots := #[.long (24)], vm := .none },
  { cls := 8, slots := #[.long (25)], vm := .none },
  { cls := 8, slots := #[.long (26)], vm := .none },
  { cls := 8, slots := #[.long (27)], vm := .none },
  { cls := 8, slots := #[.long (28)], vm := .none },
  { cls := 8, slots := #[.long (29)], vm := .none },
  { cls := 8, slots := #[.long (30)], vm := .none },
  { cls := 8, slots := #[.long (31)], vm := .none },
  { cls := 8, slots := #[.long (32)], vm := .none },
  { cls := 8, slots := #[.long (33)], vm := .none },
  { cls := 8, slots := #[.long (34)], vm := .none },
  { cls := 8, slots := #[.long (35)], vm := .none },
  { cls := 8, slots := #[.long (36)], vm := .none },
  { cls := 8, slots := #[.long (37)], vm := .none },
  { cls := 8, slots := #[.long (38)], vm := .none },
  { cls := 8, slots := #[.long (39)], vm := .none },
  { cls := 8, slots := #[.long (40)], vm := .none },
  { cls := 8, slots := #[.long (41)], vm := .none },
  { cls := 8, slots := #[.long (42)], vm := .none },
  { cls := 8, slots := #[.long (43)], vm := .none },
  { cls := 8, slots := #[.long (44)], vm := .none },
  { cls := 8, slots := #[.long (45)], vm := .none },
  { cls := 8, slots := #[.long (46)], vm := .none },
  { cls := 8, slots := #[.long (47)], vm := .none },
  { cls := 8, slots := #[.long (48)], vm := .none },
  { cls := 8, slots := #[.long (49)], vm := .none },
  { cls := 8, slots := #[.long (50)], vm := .none },
  { cls := 8, slots := #[.long (51)], vm := .none },
  { cls := 8, slots := #[.long (52)], vm := .none },
  { cls := 8, slots := #[.long (53)], vm := .none },
  { cls := 8, slots := #[.long (54)], vm := .none },
  { cls := 8, slots := #[.long (55)], vm := .none },
  { cls := 8, slots := #[.long (56)], vm := .none },
  { cls := 8, slots := #[.long (57)], vm := .none },
  { cls := 8, slots := #[.long (58)], vm := .none },
  { cls := 8, slots := #[.long (59)], vm := .none },
  { cls := 8, slots := #[.long (60)], vm := .none },
  { cls := 8, slots := #[.long (61)], vm := .none },
  { cls := 8, slots := #[.long (62)], vm := .none },
  { cls := 8, slots := #[.long (63)], vm := .none },
  { cls := 8, slots := #[.long (64)], vm := .none },
  { cls := 8, slots := #[.long (65)], vm := .none },
  { cls := 8, slots := #[.long (66)], vm := .none },
  { cls := 8, slots := #[.long (67)], vm := .none },
  { cls := 8, slots := #[.long (68)], vm := .none },
  { cls := 8, slots := #[.long (69)], vm := .none },
  { cls := 8, slots := #[.long (70)], vm := .none },
  { cls := 8, slots := #[.long (71)], vm := .none },
  { cls := 8, slots := #[.long (72)], vm := .none },
  { cls := 8, slots := #[.long (73)], vm := .none },
  { cls := 8, slots := #[.long (74)], vm := .none },
  { cls := 8, slots := #[.long (75)], vm := .none },
  { cls := 8, slots := #[.long (76)], vm := .none },
  { cls := 8, slots := #[.long (77)], vm := .none },
  { cls := 8, slots := #[.long (78)], vm := .none },
  { cls := 8, slots := #[.long (79)], vm := .none },
  { cls := 8, slots := #[.long (80)], vm := .none },
  { cls := 8, slots := #[.long (81)], vm := .none },
  { cls := 8, slots := #[.long (82)], vm := .none },
  { cls := 8, slots := #[.long (83)], vm := .none },
  { cls := 8, slots := #[.long (84)], vm := .none },
  { cls := 8, slots := #[.long (85)], vm := .none },
  { cls := 8, slots := #[.long (86)], vm := .none },
  { cls := 8, slots := #[.long (87)], vm := .none },
  { cls := 8, slots := #[.long (88)], vm := .none },
  { cls := 8, slots := #[.long (89)], vm := .none },
  { cls := 8, slots := #[.long (90)], vm := .none },
  { cls := 8, slots := #[.long (91)], vm := .none },
  { cls := 8, slots := #[.long (92)], vm := .none },
  { cls := 8, slots := #[.long (93)], vm := .none },
  { cls := 8, slots := #[.long (94)], vm := .none },
  { cls := 8, slots := #[.long (95)], vm := .none },
  { cls := 8, slots := #[.long (96)], vm := .none },
  { cls := 8, slots := #[.long (97)], vm := .none },
  { cls := 8, slots := #[.long (98)], vm := .none },
  { cls := 8, slots := #[.long (99)], vm := .none },
  { cls := 8, slots := #[.long (100)], vm := .none },
  { cls := 8, slots := #[.long (101)], vm := .none },
  { cls := 8, slots := #[.long (102)], vm := .none },
  { cls := 8, slots := #[.long (103)], vm := .none },
  { cls := 8, slots := #[.long (104)], vm := .none },
  { cls := 8, slots := #[.long (105)], vm := .none },
  { cls := 8, slots := #[.long (106)], vm := .none },
  { cls := 8, slots := #[.long (107)], vm := .none },
  { cls := 8, slots := #[.long (108)], vm := .none },
  { cls := 8, slots := #[.long (109)], vm := .none },
  { cls := 8, slots := #[.long (110)], vm := .none },
  { cls := 8, slots := #[.long (111)], vm := .none },
  { cls := 8, slots := #[.long (112)], vm := .none },
  { cls := 8, slots := #[.long (113)], vm := .none },
  { cls := 8, slots := #[.long (114)], vm := .none },
  { cls := 8, slots := #[.long (115)], vm := .none },
  { cls := 8, slots := #[.long (116)], vm := .none },
  { cls := 8, slots := #[.long (117)], vm := .none },
  { cls := 8, slots := #[.long (118)], vm := .none },
  { cls := 8, slots := #[.long (119)], vm := .none },
  { cls := 8, slots := #[.long (120)], vm := .none },
  { cls := 8, slots := #[.long (121)], vm := .none },
  { cls := 8, slots := #[.long (122)], vm := .none },
  { cls := 8, slots := #[.long (123)], vm := .none },
  { cls := 8, slots := #[.long (124)], vm := .none },
  { cls := 8, slots := #[.long (125)], vm := .none },
  { cls := 8, slots := #[.long (126)], vm := .none },
  { cls := 8, slots := #[.long (127)], vm := .none }]
def classes : Array Class := #[k0, k1, k2, k3, k4, k5, k6, k7, k8, k9, k10, k11, k12, k13, k14, k15]
def interned : List (Array UInt16 × Addr) := []
def slotsUsed : Nat := 515
def theMethod : MethodId := ⟨1, 1⟩
def args0 : Array Value := #[.long 1, .long 2, .long 3, .long 4, .int 0]
def aboutOver (below : List Frame) : State where
  vm := { classes := classes, interned := interned.toArray }
  heap := heap
  slotsUsed := slotsUsed
  threads := #[{ frames := .invoking theMethod args0 :: below }]
def below0 : List Frame := [.native { method := ⟨0, 0⟩, args := #[] }]
def about1 : State := aboutOver below0
def p0 : Program := .bare "" "" ""
def e0 : Env := launch0.env 0 0 0
theorem w_frames : about1.frames = Frame.invoking theMethod args0 :: below0 := rfl
set_option maxRecDepth 65536 in
theorem w_args : argsFit about1.vm theMethod args0 = true := by decide +kernel
set_option maxRecDepth 65536 in
theorem w_heap : heapFits about1 = true := by decide +kernel
set_option maxRecDepth 65536 in
theorem w_runnable : about1.curStatus? = some .runnable := by decide +kernel
set_option maxRecDepth 65536 in
theorem w_alone : about1.alone = true := by decide +kernel
set_option maxRecDepth 65536 in
theorem w_named : about1.methodNamed? x = some theMethod := by decide +kernel
set_option maxRecDepth 65536 in
theorem w_hears : about1.hears theMethod below0 = true := by decide +kernel
set_option maxRecDepth 65536 in
theorem w_ripe : about1.ripe theMethod args0 below0 = true := by decide +kernel
theorem w_running : about1.status = .running := rfl
set_option maxRecDepth 65536 in
theorem w_room : about1.hasRoom e0.platform room_1 = true :=
  launch0.hasRoom_least _ room_1 (by decide +kernel) (by decide +kernel) (by decide +kernel) (by decide +kernel) (by decide +kernel) (by decide +kernel)
theorem allAtoms_all (ts : List Jvm.Cond) (a : Array Jvm.Value) (st : Jvm.State) : (allAtoms ts).before a st = ts.all (fun c => c.before a st) := by
  induction ts with
  | nil => rfl
  | cons c t ih =>
    show (Jvm.Cond.and c (allAtoms t)).before a st = _
    rw [Jvm.Cond.before_and, ih, List.all_cons]
def words1 : List Jvm.Cond := Jvm.Cond.code x code maxLocals ret :: tables_1
/-- a 'code' word, met by the world's own term for the bytes: nothing is compared byte by byte -/
theorem code_word {y : MethodName} {bytes : ByteArray} {mx : Nat} {rt : Option FieldType} {a : Array Value} {s : State} {m : MethodId} {meth : Method} {c : Code} (h1 : s.methodNamed? y = some m) (h2 : s.vm.method? m = some meth) (h3 : meth.code = some c) (h4 : c.code = bytes)
    (h5 : (c.maxLocals == mx && c.exceptionTable.isEmpty && decide (c.maxStack ≤ mostOperands) && decide (meth.sig.returnType = rt) && !meth.locks && decide (parseMethodDescriptor y.desc = some meth.sig)) = true) : (Jvm.Cond.code y bytes mx rt).before a s = true := by
  simp only [Bool.and_eq_true, beq_iff_eq, Bool.not_eq_true', decide_eq_true_eq] at h5
  obtain ⟨⟨⟨⟨⟨g1, g2⟩, g3⟩, g4⟩, g5⟩, g6⟩ := h5
  simp [Cond.before, Cond.holds, Cond.value, h1, h2, h3, h4, g1, g2, g3, g4, g5, g6]
def isCode : Jvm.Cond → Bool
  | .code _ _ _ _ => true
  | _ => false
theorem all_split {L : List Jvm.Cond} {P : Jvm.Cond → Bool} (h1 : L.all (fun c => isCode c || P c) = true) (h2 : ∀ c ∈ L.filter isCode, P c = true) : L.all P = true := by
  refine List.all_eq_true.mpr fun c hc => ?_
  have h := List.all_eq_true.mp h1 c hc
  rcases Bool.eq_false_or_eq_true (isCode c) with hi | hi
  · exact h2 c (List.mem_filter.mpr ⟨hc, hi⟩)
  · simpa [hi] using h
set_option maxRecDepth 65536 in
theorem w_c0 : (Jvm.Cond.code x code maxLocals ret).before args0 about1 = true := code_word (m := ⟨1, 1⟩) (meth := k1m1) (c := k1c1) (by decide +kernel) rfl rfl rfl (by decide +kernel)
set_option maxRecDepth 65536 in
theorem w_c1 : (Jvm.Cond.code ({ cls := "com/example/sarasvati/sarasvati/window/Window", name := "<init>", desc := "(JJ)V" } : Jvm.MethodName) prog_190_method_1_code (5 : Nat) (Option.none : Option Jvm.ClassFile.FieldType)).before args0 about1 = true := code_word (m := ⟨2, 0⟩) (meth := k2m0) (c := k2c0) (by decide +kernel) rfl rfl rfl (by decide +kernel)
set_option maxRecDepth 65536 in
theorem w_c2 : (Jvm.Cond.code ({ cls := "java/lang/Object", name := "<init>", desc := "()V" } : Jvm.MethodName) object_method_1_code (1 : Nat) (Option.none : Option Jvm.ClassFile.FieldType)).before args0 about1 = true := code_word (m := ⟨0, 0⟩) (meth := k0m0) (c := k0c0) (by decide +kernel) rfl rfl rfl (by decide +kernel)
set_option maxRecDepth 65536 in
theorem w_c3 : (Jvm.Cond.code ({ cls := "com/example/sarasvati/sarasvati/window/Window", name := "equals", desc := "(Ljava/lang/Object;)Z" } : Jvm.MethodName) prog_190_method_8_code (3 : Nat) (Option.some Jvm.ClassFile.FieldType.boolean)).before args0 about1 = true := code_word (m := ⟨2, 1⟩) (meth := k2m1) (c := k2c1) (by decide +kernel) rfl rfl rfl (by decide +kernel)
set_option maxRecDepth 65536 in
theorem w_c4 : (Jvm.Cond.code ({ cls := "java/lang/Long", name := "valueOf", desc := "(J)Ljava/lang/Long;" } : Jvm.MethodName) jdk_35_method_24_code (3 : Nat) (Option.some (Jvm.ClassFile.FieldType.object "java/lang/Long"))).before args0 about1 = true := code_word (m := ⟨8, 0⟩) (meth := k8m0) (c := k8c0) (by decide +kernel) rfl rfl rfl (by decide +kernel)
set_option maxRecDepth 65536 in
theorem w_c5 : (Jvm.Cond.code ({ cls := "java/lang/Long", name := "<init>", desc := "(J)V" } : Jvm.MethodName) jdk_35_method_26_code (3 : Nat) (Option.none : Option Jvm.ClassFile.FieldType)).before args0 about1 = true := code_word (m := ⟨8, 1⟩) (meth := k8m1) (c := k8c1) (by decide +kernel) rfl rfl rfl (by decide +kernel)
set_option maxRecDepth 65536 in
theorem w_c6 : (Jvm.Cond.code ({ cls := "java/lang/Number", name := "<init>", desc := "()V" } : Jvm.MethodName) jdk_18_method_1_code (1 : Nat) (Option.none : Option Jvm.ClassFile.FieldType)).before args0 about1 = true := code_word (m := ⟨4, 0⟩) (meth := k4m0) (c := k4c0) (by decide +kernel) rfl rfl rfl (by decide +kernel)
def codes1 : List Jvm.Cond := [Jvm.Cond.code x code maxLocals ret, Jvm.Cond.code ({ cls := "com/example/sarasvati/sarasvati/window/Window", name := "<init>", desc := "(JJ)V" } : Jvm.MethodName) prog_190_method_1_code (5 : Nat) (Option.none : Option Jvm.ClassFile.FieldType), Jvm.Cond.code ({ cls := "java/lang/Object", name := "<init>", desc := "()V" } : Jvm.MethodName) object_method_1_code (1 : Nat) (Option.none : Option Jvm.ClassFile.FieldType), Jvm.Cond.code ({ cls := "com/example/sarasvati/sarasvati/window/Window", name := "equals", desc := "(Ljava/lang/Object;)Z" } : Jvm.MethodName) prog_190_method_8_code (3 : Nat) (Option.some Jvm.ClassFile.FieldType.boolean), Jvm.Cond.code ({ cls := "java/lang/Long", name := "valueOf", desc := "(J)Ljava/lang/Long;" } : Jvm.MethodName) jdk_35_method_24_code (3 : Nat) (Option.some (Jvm.ClassFile.FieldType.object "java/lang/Long")), Jvm.Cond.code ({ cls := "java/lang/Long", name := "<init>", desc := "(J)V" } : Jvm.MethodName) jdk_35_method_26_code (3 : Nat) (Option.none : Option Jvm.ClassFile.FieldType), Jvm.Cond.code ({ cls := "java/lang/Number", name := "<init>", desc := "()V" } : Jvm.MethodName) jdk_18_method_1_code (1 : Nat) (Option.none : Option Jvm.ClassFile.FieldType)]
set_option maxRecDepth 65536 in
theorem codes_eq : words1.filter isCode = codes1 := rfl
theorem w_codes : ∀ c ∈ words1.filter isCode, c.before args0 about1 = true := by
  rw [codes_eq]
  intro c hc
  simp only [codes1, List.mem_cons, List.not_mem_nil, or_false] at hc
  rcases hc with rfl | rfl | rfl | rfl | rfl | rfl | rfl
  · exact w_c0
  · exact w_c1
  · exact w_c2
  · exact w_c3
  · exact w_c4
  · exact w_c5
  · exact w_c6
set_option maxRecDepth 65536 in
theorem w_t1 : (words1.take 24).all (fun c => isCode c || c.before args0 about1) = true := by decide +kernel
set_option maxRecDepth 65536 in
theorem w_t2 : (words1.drop 24).all (fun c => isCode c || c.before args0 about1) = true := by decide +kernel
theorem w_tables : (allAtoms (Jvm.Cond.code x code maxLocals ret :: tables_1)).before args0 about1 = true := by
  rw [allAtoms_all]
  show words1.all (fun c => c.before args0 about1) = true
  refine all_split ?_ w_codes
  rw [← List.take_append_drop 24 words1, List.all_append, w_t1, w_t2]
  rfl
set_option maxRecDepth 65536 in
theorem w_rest : rest_1_c.before args0 about1 = true := by decide +kernel
set_option maxRecDepth 65536 in
theorem w_case : (Jvm.Cond.and given_1 narrow_1).before args0 about1 = true := by decide +kernel
theorem w_applies : (headSpec (Jvm.Cond.code x code maxLocals ret :: tables_1) room_1).applies x e0.platform about1 = true :=
  (Spec.applies_iff w_frames).mpr ⟨w_running, w_runnable, w_alone, w_named, w_hears, w_ripe, w_room, w_tables⟩
theorem atStart : AtStart classFile x code maxLocals ret World_1 tables_1 room_1 Calls_1 rest_1 Pre_1 launch0 p0 e0 about1 theMethod args0 below0 :=
  ⟨lists_1, trivial, launch0.admits_env _ _ _, launch0.least_env, fairChoices_fair.cas, fairChoices_fair.clock, w_frames, w_args, w_heap, w_applies, trivial, w_rest, w_case⟩
end start1
theorem witness_1 : WitnessClaimed_1 := ⟨start1.p0, start1.e0, start1.about1, start1.theMethod, start1.args0, start1.below0, start1.atStart⟩
end Jvm.Pilot.@@N@@
