import JvmDerived
import JvmDerived.Pilot.@@N@@Statement
import JvmDerived.Pilot.@@N@@Code
set_option linter.unusedVariables false
set_option linter.unusedSimpArgs false
namespace Jvm.RoadKit
open Sem ClassFile Op Lib Jvm.Stand Jvm.Free Jvm.LawKit
section New
variable {p : Program} {l : Launch} {e : Env} {R : Room} {s : State} {m : MethodId} {args : Array Value} {below : List Frame} {meth : Method} {c : Code} {T : State} {locs : List Loc} {cells slots : Nat}
theorem retI (X : Stand p l e R s m args below meth c T locs cells slots) (hx : p.tables.exec = Jvm.exec) {pc : Nat} {Ls : Array Slot} {z : Int32} {rest : List Value} (hret : meth.sig.returnType = some .int) (hd : decode c.code pc = .ok (.ireturn, 1)) {fs : List Frame}
    (hl : ∀ (f : JFrame) (acts : List Action), f.method = m → f.locked = none → f.entered = [] → (doReturn e (T.setTop f) acts (some (.int z))).1 = T.setFrames fs) : Steps p.tables e below (T.setTop (mkF m pc Ls (.int z :: rest))) (T.setFrames fs) := by
  have hm' : T.vm.method? m = some meth := X.method'
  have hn : narrow .int (.int z) = .int z := rfl
  show Steps p.tables e below (T.setTop { method := m, pc := pc, locals := Ls, stack := _ :: rest, locked := none }) _
  jvm_step X.here [X.here.top, hx, hd, hm', hret, hn]
  first | (intro acts; rw [hl _ acts rfl rfl rfl]) | rw [hl _ _ rfl rfl rfl]
  exact Steps.refl _
end New
end Jvm.RoadKit
namespace Jvm.Pilot.@@N@@
open Jvm Jvm.ClassFile Sem Op Lib Jvm.Free Jvm.Stand Jvm.LawKit Jvm.RoadKit Bundle Jvm.Pilot.@@N@@.Jvm.D
def own_us (x : Int64) (k : Int32) : Int64 := (x.toUInt64 >>> (k &&& 0x3f).toInt64.toUInt64).toInt64
def own_part (v : Int64) (k : Int32) : Int32 := (own_us v k).toInt32 &&& (255 : Int32)
def own_v (x : Int64) (k b : Int32) : Int64 := (x &&& (((255 : Int64) <<< (k &&& 0x3f).toInt64) ^^^ (-1 : Int64))) ||| (b.toInt64 <<< (k &&& 0x3f).toInt64)
theorem own_shrB (x : Int64) (q : Int32) (k : Nat) (hk : q.toBitVec.toNat % 64 = k) : (own_us x q).toBitVec = x.toBitVec >>> k := by
  show x.toBitVec >>> ((q &&& 0x3f).toInt64.toBitVec % 64) = _
  have h5 := (sm64 q k hk).2
  rw [BitVec.ushiftRight_eq', BitVec.toNat_umod, (sm64 q k hk).1, BitVec.toNat_ofNat]
  have h6 : k % 2 ^ 64 % (64 : BitVec 64).toNat = k := by show k % 2 ^ 64 % 64 = k; omega
  rw [h6]
theorem own_shlB (x : Int64) (q : Int32) (k : Nat) (hk : q.toBitVec.toNat % 64 = k) : (x <<< (q &&& 0x3f).toInt64).toBitVec = x.toBitVec <<< k := by
  show x.toBitVec <<< ((q &&& 0x3f).toInt64.toBitVec.smod 64) = _
  rw [BitVec.shiftLeft_eq', (sm64 q k hk).1, smod64 k (sm64 q k hk).2]
theorem own_nat (q : Int32) (h : 0 ≤ q.toInt) : (q.toBitVec.toNat : Int) = q.toInt := by
  have h1 : q.toInt = q.toBitVec.toInt := rfl
  have h2 := q.toBitVec.isLt
  rw [h1] at h ⊢
  rw [BitVec.toInt_eq_toNat_cond] at h ⊢
  split
  · rfl
  · rename_i h3
    rw [if_neg h3] at h
    omega
theorem own_255 (i : Nat) (hi : 8 ≤ i) : (255#64).getLsbD i = false := by
  rcases Nat.lt_or_ge i 64 with h | h
  · have : ∀ j : Fin 64, 8 ≤ j.val → (255#64).getLsbD j.val = false := by decide +kernel
    exact this ⟨i, h⟩ hi
  · exact BitVec.getLsbD_of_ge _ _ h
theorem own_law (x : Int64) (k b : Int32) (hk : 0 ≤ k.toInt ∧ k.toInt < 57) (hb : 0 ≤ b.toInt ∧ b.toInt < 256) : own_part (own_v x k b) k = b := by
  obtain ⟨K, hK⟩ : ∃ K : Nat, k.toInt = K := ⟨k.toInt.toNat, by omega⟩
  have hn := own_nat k hk.1
  have hq : k.toBitVec.toNat % 64 = K := by omega
  have hbn : b.toInt64.toBitVec.toNat < 256 ∧ (b.toInt64.toBitVec.toNat : Int) = b.toInt := by
    have h1 := c_i2l b
    have h2 : b.toInt64.toInt = b.toInt64.toBitVec.toInt := rfl
    have h3 := b.toInt64.toBitVec.isLt
    rw [h2, BitVec.toInt_eq_toNat_cond] at h1
    split at h1 <;> omega
  have hbz : ∀ i, 8 ≤ i → b.toInt64.toBitVec.getLsbD i = false := fun i hi => by
    rw [BitVec.getLsbD, Nat.testBit_lt_two_pow]
    exact Nat.lt_of_lt_of_le hbn.1 (Nat.pow_le_pow_right (show 0 < 2 by decide) hi)
  -- the low eight signs of the shifted word are b's
  have key : (own_us (own_v x k b) k).toBitVec &&& 255#64 = b.toInt64.toBitVec := by
    rw [own_shrB _ k K hq]
    unfold own_v
    rw [Int64.toBitVec_or, Int64.toBitVec_and, Int64.toBitVec_xor, own_shlB _ k K hq, own_shlB _ k K hq, show (255 : Int64).toBitVec = 255#64 from rfl, show (-1 : Int64).toBitVec = BitVec.allOnes 64 from by decide]
    apply BitVec.eq_of_getLsbD_eq
    intro i hi
    rw [BitVec.getLsbD_and, BitVec.getLsbD_ushiftRight, BitVec.getLsbD_or, BitVec.getLsbD_and, BitVec.getLsbD_xor, BitVec.getLsbD_shiftLeft, BitVec.getLsbD_shiftLeft, BitVec.getLsbD_allOnes]
    by_cases h8 : i < 8
    · have h1 : (255#64).getLsbD i = true := by
        have : ∀ j : Fin 8, (255#64).getLsbD j.val = true := by decide +kernel
        exact this ⟨i, h8⟩
      have h2 : K + i < 64 := by omega
      have h3 : ¬ K + i < K := by omega
      have h4 : K + i - K = i := by omega
      simp [h1, h2, h3, h4]
    · rw [own_255 i (by omega), hbz i (by omega), Bool.and_false]
  unfold own_part
  apply Int32.toInt_inj.mp
  have h1 := c_l2i (own_us (own_v x k b) k)
  have h2 := c_mask (own_us (own_v x k b) k).toInt32 (255 : Int32) 8 (by decide) (by decide)
  have e8 : ((2 ^ 8 : Nat) : Int) = 256 := by decide
  rw [e8] at h2
  rw [h2]
  have h3 := congrArg BitVec.toNat key
  rw [BitVec.toNat_and, show (255#64).toNat = 2 ^ 8 - 1 from rfl, Nat.and_two_pow_sub_one_eq_mod] at h3
  have h4 : (own_us (own_v x k b) k).toInt = (own_us (own_v x k b) k).toBitVec.toInt := rfl
  have h5 := (own_us (own_v x k b) k).toBitVec.isLt
  rw [h4, BitVec.toInt_eq_toNat_cond] at h1
  split at h1 <;> omega
theorem own_sh (p : Int32) : 0 ≤ ((p &&& (2147483647 : Int32)) % (57 : Int32)).toInt ∧ ((p &&& (2147483647 : Int32)) % (57 : Int32)).toInt < 57 := by
  have h1 := c_mask p (2147483647 : Int32) 31 (by decide) (by decide)
  have e31 : ((2 ^ 31 : Nat) : Int) = 2147483648 := by decide
  rw [e31] at h1
  have h2 := (c_irem (p &&& (2147483647 : Int32)) (57 : Int32) 57 (by decide)).1 (by omega)
  omega
theorem own_by (p : Int32) : 0 ≤ (p &&& (255 : Int32)).toInt ∧ (p &&& (255 : Int32)).toInt < 256 := by
  have h1 := c_mask p (255 : Int32) 8 (by decide) (by decide)
  have e8 : ((2 ^ 8 : Nat) : Int) = 256 := by decide
  rw [e8] at h1
  omega
theorem own_set : Jvm.Free.ALB.clinitW = jdkStatics_1 := by decide +kernel
theorem own_mv {Z s : State} {a0 args : Array Value} {d : Jvm.Cond} (hZ : Z.Warmed39 s.vm) (hr : (d.onTables && d.keepsFace) = true ∨ d = .arrayOver (.object "java/lang/Object")) (w : d.before a0 Z = true) : d.before args s = true := by
  rcases hr with h | rfl
  · exact mv hZ w h
  · exact Cond.arrayOver_alike hZ.alike w
theorem pn_0 : plainName "shelfmark/Longs" = true := by first | (simp [plainName, overriddenIn]; done) | decide +kernel
theorem pn_1 : plainName "shelfmark/LongsPartPinLaw" = true := by first | (simp [plainName, overriddenIn]; done) | decide +kernel
theorem pd_0 : parseMethodDescriptor "(I)V" = some ⟨[.int], none⟩ := by decide +kernel
theorem pd_1 : parseMethodDescriptor "(J)I" = some ⟨[.long], some .int⟩ := by decide +kernel
theorem d1_0 : decode prog_20_method_1_code 0 = .ok (.aload_n 0, 1) := by decide +kernel
theorem d1_1 : decode prog_20_method_1_code 1 = .ok (.invokespecial 1, 3) := by decide +kernel
theorem d1_4 : decode prog_20_method_1_code 4 = .ok (.aload_n 0, 1) := by decide +kernel
theorem d1_5 : decode prog_20_method_1_code 5 = .ok (.new 7, 3) := by decide +kernel
theorem d1_8 : decode prog_20_method_1_code 8 = .ok (.dup, 1) := by decide +kernel
theorem d1_9 : decode prog_20_method_1_code 9 = .ok (.invokespecial 9, 3) := by decide +kernel
theorem d1_12 : decode prog_20_method_1_code 12 = .ok (.putfield 10, 3) := by decide +kernel
theorem d1_15 : decode prog_20_method_1_code 15 = .ok (.aload_n 0, 1) := by decide +kernel
theorem d1_16 : decode prog_20_method_1_code 16 = .ok (.sipush 256, 3) := by decide +kernel
theorem d1_19 : decode prog_20_method_1_code 19 = .ok (.newarray .int, 2) := by decide +kernel
theorem d1_21 : decode prog_20_method_1_code 21 = .ok (.putfield 16, 3) := by decide +kernel
theorem d1_24 : decode prog_20_method_1_code 24 = .ok (.aload_n 0, 1) := by decide +kernel
theorem d1_25 : decode prog_20_method_1_code 25 = .ok (.sipush 256, 3) := by decide +kernel
theorem d1_28 : decode prog_20_method_1_code 28 = .ok (.anewarray 20, 3) := by decide +kernel
theorem d1_31 : decode prog_20_method_1_code 31 = .ok (.putfield 22, 3) := by decide +kernel
theorem d1_34 : decode prog_20_method_1_code 34 = .ok (.aload_n 0, 1) := by decide +kernel
theorem d1_35 : decode prog_20_method_1_code 35 = .ok (.iload_n 1, 1) := by decide +kernel
theorem d1_36 : decode prog_20_method_1_code 36 = .ok (.putfield 26, 3) := by decide +kernel
theorem d1_39 : decode prog_20_method_1_code 39 = .ok (.iconst 0, 1) := by decide +kernel
theorem d1_40 : decode prog_20_method_1_code 40 = .ok (.istore_n 2, 1) := by decide +kernel
theorem d1_41 : decode prog_20_method_1_code 41 = .ok (.iload_n 2, 1) := by decide +kernel
theorem d1_42 : decode prog_20_method_1_code 42 = .ok (.sipush 256, 3) := by decide +kernel
theorem d1_45 : decode prog_20_method_1_code 45 = .ok (.if_icmp .ge 26, 3) := by decide +kernel
theorem d1_48 : decode prog_20_method_1_code 48 = .ok (.aload_n 0, 1) := by decide +kernel
theorem d1_49 : decode prog_20_method_1_code 49 = .ok (.getfield 10, 3) := by decide +kernel
theorem d1_52 : decode prog_20_method_1_code 52 = .ok (.new 7, 3) := by decide +kernel
theorem d1_55 : decode prog_20_method_1_code 55 = .ok (.dup, 1) := by decide +kernel
theorem d1_56 : decode prog_20_method_1_code 56 = .ok (.invokespecial 9, 3) := by decide +kernel
theorem d1_59 : decode prog_20_method_1_code 59 = .ok (.invokeinterface 30 2, 5) := by decide +kernel
theorem d1_64 : decode prog_20_method_1_code 64 = .ok (.pop, 1) := by decide +kernel
theorem d1_65 : decode prog_20_method_1_code 65 = .ok (.iinc 2 1, 3) := by decide +kernel
theorem d1_68 : decode prog_20_method_1_code 68 = .ok (.goto (-27), 3) := by decide +kernel
theorem d1_71 : decode prog_20_method_1_code 71 = .ok (.return_, 1) := by decide +kernel
theorem pn_L : plainName "shelfmark/Longs" = true := by first | (simp [plainName, overriddenIn]; done) | decide +kernel
/-! The constructor's list: how great its array is when i lists lie in it, how many arrays have been made, of how many places together -/
def own_cap (i : Nat) : Nat := if i = 0 then 0 else if i ≤ 10 then 10 else if i ≤ 15 then 15 else if i ≤ 22 then 22 else if i ≤ 33 then 33 else if i ≤ 49 then 49 else if i ≤ 73 then 73 else if i ≤ 109 then 109 else if i ≤ 163 then 163 else if i ≤ 244 then 244 else 366
def own_gc (i : Nat) : Nat := if i = 0 then 0 else if i ≤ 10 then 1 else if i ≤ 15 then 2 else if i ≤ 22 then 3 else if i ≤ 33 then 4 else if i ≤ 49 then 5 else if i ≤ 73 then 6 else if i ≤ 109 then 7 else if i ≤ 163 then 8 else if i ≤ 244 then 9 else 10
def own_gs (i : Nat) : Nat := if i = 0 then 0 else if i ≤ 10 then 10 else if i ≤ 15 then 25 else if i ≤ 22 then 47 else if i ≤ 33 then 80 else if i ≤ 49 then 129 else if i ≤ 73 then 202 else if i ≤ 109 then 311 else if i ≤ 163 then 474 else if i ≤ 244 then 718 else 1084
theorem own_steps : ∀ i, i < 256 → (i < own_cap i ∧ own_cap (i + 1) = own_cap i ∧ own_gc (i + 1) = own_gc i ∧ own_gs (i + 1) = own_gs i) ∨ (own_cap i = i ∧ own_gc (i + 1) = own_gc i + 1 ∧ own_gs (i + 1) = own_gs i + own_cap (i + 1) ∧ (i = 0 ∧ own_cap (i + 1) = 10 ∨ 0 < i ∧ own_cap (i + 1) = Jvm.Free.ALB.newCap i)) := by decide +kernel
theorem own_fit : ∀ i, i < 257 → own_gc i ≤ 10 ∧ own_gs i ≤ 1084 ∧ own_cap i ≤ 366 := by decide +kernel
theorem own_ofNat (i : Nat) (hi : i < 257) : (Int32.ofNat i).toInt = i := by
  rw [Int32.toInt_ofNat_of_lt (by omega)]
theorem own_fld {Z : State} {h h' : Heap} {a : Addr} {C n d : String} {v : Value} (hh : ∀ c : Cell, h[a]? = some c → h'[a]? = some c) (F : Fld Z h a C n d v) : Fld Z h' a C n d v := by
  obtain ⟨cell, cf, k, i, f, h1, r⟩ := F
  exact ⟨cell, cf, k, i, f, hh _ h1, r⟩
theorem own_exa {Z : State} {h h' : Heap} {a : Addr} {C : String} (hh : ∀ c : Cell, h[a]? = some c → h'[a]? = some c) (F : Exa Z h a C) : Exa Z h' a C := by
  obtain ⟨cell, k, h1, r⟩ := F
  exact ⟨cell, k, hh _ h1, r⟩
/-- what stands at the loop's head when i lists have been added; n0: the heap's size when the constructor was entered -/
def own_inv (Z : State) (o0 : Addr) (p1 : Int32) (n0 : Nat) (dc : Addr) (Edc : Cell) (x : Jvm.Free.ALB.Fix) (i : Nat) (T : State) : Prop :=
  ∃ (C : Cell) (ea : Addr) (E : Cell) (mc : Int32), Jvm.Free.ALB.Al x C ea E i mc T ∧ Jvm.Free.ALB.EltsN x E i T ∧ E.slots.size = own_cap i ∧ (i = 0 ∧ ea = dc ∨ 0 < i ∧ n0 ≤ ea) ∧ Jvm.Free.ALB.DfArr dc Edc T ∧ dc < n0 ∧ n0 ≤ x.a ∧ o0 < n0 ∧ o0 ≠ dc ∧ n0 ≤ T.heap.size ∧
    T.vm.findClass "java/lang/Object" = some x.comp ∧ Exa Z T.heap o0 "shelfmark/Longs" ∧ Fld Z T.heap o0 "shelfmark/Longs" "chunks" "Ljava/util/List;" (.ref x.a) ∧ Fld Z T.heap o0 "shelfmark/Longs" "partShift" "I" (.int p1)
/-- it goes on where all cells stand as they stood -/
theorem own_inv.move {Z : State} {o0 : Addr} {p1 : Int32} {n0 : Nat} {dc : Addr} {Edc : Cell} {x : Jvm.Free.ALB.Fix} {i : Nat} {T T' : State} (I : own_inv Z o0 p1 n0 dc Edc x i T) (hal : T.vm.Alike T'.vm) (hk : ∀ (y : Addr) (c : Cell), T.heap[y]? = some c → T'.heap[y]? = some c) (hs : T.heap.size ≤ T'.heap.size) : own_inv Z o0 p1 n0 dc Edc x i T' := by
  obtain ⟨C, ea, E, mc, h1, h2, h3, h4, h5, h6, h7, h8, h9, h10, h11, h12, h13, h14⟩ := I
  exact ⟨C, ea, E, mc, h1.carry hal (hk _ _ h1.hC) (hk _ _ h1.hE), h2.carry hal (fun r cv hr => ⟨cv, hk _ _ hr, rfl, rfl⟩), h3, h4, h5.move hal (fun y cy hy _ => hk _ _ hy) (hk _ _ h5.2.1), h6, h7, h8, h9, Nat.le_trans h10 hs, by rw [hal.findClass]; exact h11, own_exa (fun c hc => hk _ _ hc) h12, own_fld (fun c hc => hk _ _ hc) h13, own_fld (fun c hc => hk _ _ hc) h14⟩
section Add
variable {p : Program} {l : Launch} {e : Env} {R : Room} {s : State} {m : MethodId} {args : Array Value} {below : List Frame} {meth : Method} {c : Code} {T : State} {locs : List Loc} {cells slots : Nat}
/-- List.add by a payer for ArrayList.add -/
theorem own_call (X : Stand p l e R s m args below meth c T locs cells slots) (hexec : p.tables.exec = Jvm.exec) {own : String} {index count : Nat} (hown : s.vm.findClass own = some m.cls) (hv : ∀ w ∈ Jvm.Free.ALB.addIW own index, w.before args s = true)
    {x : Jvm.Free.ALB.Fix} {C : Cell} {ea : Addr} {E : Cell} {n : Nat} {mc : Int32} (hA : Jvm.Free.ALB.Al x C ea E n mc T) {v : Value} {W : Nat} {Pre : Pt → Array Value → Prop} {Post : Pt → Array Value → Option Value → Pt → Prop} (hK : Back l R p e below s args Jvm.Free.AList.AddRoom.addN 5 W Pre Post)
    {g : JFrame} (hg : g.method = m) (hsize : g.locals.size = c.maxLocals) {rest : List Value} (hstack : g.stack = v :: .ref x.a :: rest) (hW : 2 * g.monitorRoom + (rest.map fun v => v.category).sum ≤ W) (hdg : decode c.code g.pc = .ok (.invokeinterface index count, 5)) (hpre : ∀ vm₁, s.WarmedH vm₁ → Pre ⟨T.setVm vm₁, locs, cells, slots⟩ #[.ref x.a, v]) :
    ∃ (r : Option Value) (vm₁ : Vm) (B : Pt), s.WarmedH vm₁ ∧ Stand p l e R s m args below meth c B.U B.locs B.cells B.slots ∧ Post ⟨T.setVm vm₁, locs, cells, slots⟩ #[.ref x.a, v] r B ∧ Steps p.tables e below (T.setTop g) (B.U.setTop { g with pc := g.pc + 5, stack := r.toList ++ rest }) := by
  have hcB : s.vm.findClass Jvm.Free.AList.AL = some x.cAL := by rw [← X.warmed.alike.findClass]; exact hA.fc
  have hinst := hv (.instanceMethod Jvm.Free.AList.AddRoom.addN) (by simp [Jvm.Free.ALB.addIW])
  obtain ⟨kT, hkT, -⟩ := hA.kAL
  obtain ⟨kB, hkB, -⟩ := X.warmed.alike.symm.2.2 _ _ hkT
  exact X.interfaceBack hexec (own := own) (C := Jvm.Free.AList.AL) (index := index) (count := count) (xi := Jvm.Free.ALB.lAddX) (y := Jvm.Free.AList.AddRoom.addN) hown (hv (.methodLink own index Jvm.Free.ALB.lAddX) (by simp [Jvm.Free.ALB.addIW])) (hv (.declares Jvm.Free.ALB.lAddX) (by simp [Jvm.Free.ALB.addIW]))
    (hv (.interfaceMethod "java/util/List" "java/util/List" "add" "(Ljava/lang/Object;)Z") (by simp [Jvm.Free.ALB.addIW])) (hv (.selects Jvm.Free.AList.AL Jvm.Free.ALB.lAddX Jvm.Free.AList.AddRoom.addN) (by simp [Jvm.Free.ALB.addIW])) hinst (hv (.publicMethod Jvm.Free.AList.AddRoom.addN) (by simp [Jvm.Free.ALB.addIW])) (hv (.unhidden Jvm.Free.AList.AL "add" "(Ljava/lang/Object;)Z") (by simp [Jvm.Free.ALB.addIW])) (hv (.castable Jvm.Free.AList.AL "java/util/List") (by simp [Jvm.Free.ALB.addIW])) (by decide)
    hK hcB hkB (alIsOf hA) hg hsize (Steps.refl _) (argsL := [v]) (rest := rest) (lenOf (show parseMethodDescriptor "(Ljava/lang/Object;)Z" = some ⟨[.object "java/lang/Object"], some .boolean⟩ from by decide +kernel) rfl) hstack hW hdg hpre
/-- one more element, on the road that its size tells; what it makes is told to the cell and to the slot -/
theorem own_add (X : Stand p l e R s m args below meth c T locs cells slots) (hexec : p.tables.exec = Jvm.exec) {own : String} {index count : Nat} (hown : s.vm.findClass own = some m.cls) (hv : ∀ w ∈ Jvm.Free.ALB.addIW own index, w.before args s = true) (hw : ∀ w ∈ Jvm.Free.ALB.addW3, w.before args s = true)
    {x : Jvm.Free.ALB.Fix} {C : Cell} {ea : Addr} {E : Cell} {n : Nat} {mc : Int32} (hA : Jvm.Free.ALB.Al x C ea E n mc T) (hEN : Jvm.Free.ALB.EltsN x E n T) {z : Jvm.Free.ALB.GX} (hG : Jvm.Free.ALB.Gen ⟨x, C, ea, E, n, mc⟩ z T) {v : Value} (hEl : Jvm.Free.ALB.Elt x v T) {dc : Addr} (hD : Jvm.Free.ALB.Dflt dc T)
    {gc gs cp : Nat} (hroad : (n < E.slots.size ∧ gc = 0 ∧ gs = 0 ∧ cp = E.slots.size) ∨ (E.slots.size = n ∧ gc = 1 ∧ gs = cp ∧ (n = 0 ∧ ea = dc ∧ cp = 10 ∨ 0 < n ∧ cp = Jvm.Free.ALB.newCap n ∧ cp * 4 ≤ 536870912)))
    {g : JFrame} (hg : g.method = m) (hsize : g.locals.size = c.maxLocals) (hstack : g.stack = [v, .ref x.a]) (hmr : g.monitorRoom = 0)
    (hdg : decode c.code g.pc = .ok (.invokeinterface index count, 5)) (hfr : 8 ≤ R.frames) (hlo : 173 ≤ R.locals) (hcl : cells + gc ≤ R.cells) (hsl : slots + gs ≤ R.slots) :
    ∃ (T' : State) (L : List Loc) (C' : Cell) (ea' : Addr) (E' : Cell), Stand p l e R s m args below meth c T' (locs ++ L) (cells + gc) (slots + gs) ∧ (∀ w ∈ L, w.base = x.a ∨ w.base = ea ∧ n < E.slots.size) ∧ Jvm.Free.ALB.Al x C' ea' E' (n + 1) (mc + 1) T' ∧ E'.slots.size = cp ∧ Jvm.Free.ALB.EltsN x E' (n + 1) T' ∧
      (ea' = ea ∧ n < E.slots.size ∨ ea' = T.heap.size) ∧ (∀ (y : Addr) (cy : Cell), y ≠ x.a → (y ≠ ea ∨ E.slots.size ≤ n) → T.heap[y]? = some cy → T'.heap[y]? = some cy) ∧ Steps p.tables e below (T.setTop g) (T'.setTop { g with pc := g.pc + 5, stack := [.int 1] }) := by
  have hmove : ∀ vm₁, s.WarmedH vm₁ → Jvm.Free.ALB.Al x C ea E n mc (T.setVm vm₁) ∧ Jvm.Free.ALB.Elt x v (T.setVm vm₁) := fun vm₁ hW => by
    have hal : T.vm.Alike vm₁ := X.warmed.alike.symm.trans hW.alike
    exact ⟨hA.carry (U' := T.setVm vm₁) hal hA.hC hA.hE, hEl.carry (U' := T.setVm vm₁) hal (fun r cv hr => ⟨cv, hr, rfl, rfl⟩)⟩
  have hEN' : ∀ {T' : State} {E' : Cell}, T.vm.Alike T'.vm → E'.slots[n]? = some v → (∀ i, i < n → E'.slots[i]? = E.slots[i]?) → (∀ (y : Addr) (cy : Cell), T.heap[y]? = some cy → ∃ cy' : Cell, T'.heap[y]? = some cy' ∧ cy'.cls = cy.cls ∧ cy'.vm = cy.vm) → Jvm.Free.ALB.EltsN x E' (n + 1) T' := fun hal h1 h2 h3 i hi => by
    rcases Nat.lt_succ_iff_lt_or_eq.mp hi with h | h
    · obtain ⟨u, u1, u2⟩ := hEN i h
      exact ⟨u, by rw [h2 i h]; exact u1, u2.carry hal h3⟩
    · subst h
      exact ⟨v, h1, hEl.carry hal h3⟩
  have hW0 : 2 * g.monitorRoom + (([] : List Value).map fun v => v.category).sum ≤ 0 := by rw [hmr]; decide
  rcases hroad with ⟨hlt, rfl, rfl, rfl⟩ | ⟨hfull, rfl, rfl, hroad⟩
  · have hpre : ∀ vm₁, s.WarmedH vm₁ → Jvm.Free.ALB.AddR.Pre R ⟨x, C, ea, E, n, mc⟩ v ⟨T.setVm vm₁, locs, cells, slots⟩ #[.ref x.a, v] := fun vm₁ hW => ⟨rfl, hcl, hsl, rfl, (hmove vm₁ hW).1, hlt, (hmove vm₁ hW).2⟩
    obtain ⟨r, vm₁, B, hWm, X', hpost, st⟩ := own_call X hexec hown hv hA (Jvm.Free.ALB.AddR.pays ⟨x, C, ea, E, n, mc⟩ v 0 (hw _ (by simp [Jvm.Free.ALB.addW3, Jvm.Free.ALB.addW])) (by omega) (by omega)) hg hsize hstack hW0 hdg hpre
    obtain ⟨C', ea', E', L, q1, q2, -, -, -, q3, q4, q5, q6, q7, -, -, q8, q9⟩ := Jvm.Free.ALB.Added.of_room (cap := 0) (hpre vm₁ hWm) hpost
    obtain ⟨-, -, -, b1, b2, -⟩ := hpost
    obtain ⟨U', L', k', n'⟩ := B
    dsimp only [Pt.U, Pt.locs, Pt.cells, Pt.slots] at X' q2 q5 q6 q7 q8 b1 b2 st
    subst b1 b2 q8 q1
    have hal : T.vm.Alike U'.vm := X.warmed.alike.symm.trans X'.warmed.alike
    rcases q5 with ⟨r1, r2, -⟩ | ⟨-, r2, -⟩
    · exact ⟨U', L, C', ea', E', X', fun w hm => (q9 w hm).imp id (fun q => ⟨q, hlt⟩), q2, r2, hEN' hal q3 q4 q7, Or.inl ⟨r1, hlt⟩, fun y cy h1 h2 h3 => q6 y cy h1 (h2.elim id (fun q => absurd hlt (Nat.not_lt.mpr q))) h3, st⟩
    · have g1 : n + 1 ≤ E'.slots.size := q2.le
      have g2 : E'.slots.size = 0 := r2
      omega
  · rcases hroad with ⟨hn0, hea, hcp⟩ | ⟨hn, hcp, h4⟩
    · have hpre : ∀ vm₁, s.WarmedH vm₁ → Jvm.Free.ALB.AddF.Pre R Jvm.Free.ALB.AddFirst.S0.room ⟨x, C, ea, E, n, mc⟩ v (Jvm.Free.ALB.AddFirst.Ps ⟨x, C, ea, E, n, mc⟩) ⟨T.setVm vm₁, locs, cells, slots⟩ #[.ref x.a, v] := fun vm₁ hW => by
        have hal : T.vm.Alike vm₁ := X.warmed.alike.symm.trans hW.alike
        exact ⟨rfl, hcl, (by subst hcp; exact hsl), rfl, (hmove vm₁ hW).1, hfull.symm, (hmove vm₁ hW).2, (hmove vm₁ hW).1, by rw [hfull, hn0], by rw [hea]; exact hD.move (U' := T.setVm vm₁) hal (fun _ _ h _ => h)⟩
      obtain ⟨r, vm₁, B, hWm, X', hpost, st⟩ := own_call X hexec hown hv hA (Jvm.Free.ALB.AddF.pays (S0 := Jvm.Free.ALB.AddFirst.S0) v 0 (Jvm.Free.ALB.AddFirst.gets l ⟨x, C, ea, E, n, mc⟩ v) (Jvm.Free.ALB.Grow0.tab_rides Jvm.Free.ALB.GrowD.tab_rides) Jvm.Free.ALB.AddFirst.Ps.move (hw _ (by simp [Jvm.Free.ALB.addW3, Jvm.Free.ALB.addW])) (by show 2 + 1 + 2 + 1 ≤ R.frames; omega) (by show 0 + (2 + 11) + (40 + 20 + 60) ≤ R.locals; omega)) hg hsize hstack hW0 hdg hpre
      obtain ⟨C', ea', E', L, q1, q2, -, -, -, q3, q4, q5, q6, q7, -, -, q8, q9⟩ := Jvm.Free.ALB.Added.of_full (hpre vm₁ hWm) hpost
      obtain ⟨-, -, -, -, -, -, -, b3, b1, b2, -⟩ := hpost
      obtain ⟨U', L', k', n'⟩ := B
      dsimp only [Pt.U, Pt.locs, Pt.cells, Pt.slots] at X' q2 q5 q6 q7 q8 b1 b2 b3 st
      subst b1 b2 q8 q1
      have hal : T.vm.Alike U'.vm := X.warmed.alike.symm.trans X'.warmed.alike
      rcases q5 with ⟨-, r2, -⟩ | ⟨r1, r2, r3, -⟩
      · have g1 : n < E'.slots.size := (Array.getElem?_eq_some_iff.mp q3).1
        have g2 : E'.slots.size = E.slots.size := r2
        omega
      · exact ⟨U', L, C', ea', E', (by rw [hcp]; exact X'), fun w hm => Or.inl (r3 w hm), q2, (by rw [hcp]; exact r2), hEN' hal q3 q4 q7, Or.inr r1, fun y cy h1 _ h3 => b3 y cy h1 h3, st⟩
    · have hpre : ∀ vm₁, s.WarmedH vm₁ → Jvm.Free.ALB.AddF.Pre R (Jvm.Free.ALB.AddGen.S0 gs).room ⟨x, C, ea, E, n, mc⟩ v (Jvm.Free.ALB.AddGen.Ps gs ⟨x, C, ea, E, n, mc⟩ z) ⟨T.setVm vm₁, locs, cells, slots⟩ #[.ref x.a, v] := fun vm₁ hW => by
        have hal : T.vm.Alike vm₁ := X.warmed.alike.symm.trans hW.alike
        exact ⟨rfl, hcl, hsl, rfl, (hmove vm₁ hW).1, hfull.symm, (hmove vm₁ hW).2, (hmove vm₁ hW).1, hfull, Or.inl hn, hG.move (U' := T.setVm vm₁) rfl hal, hEN.carry (U' := T.setVm vm₁) hal (fun r cv hr => ⟨cv, hr, rfl, rfl⟩), Nat.le_of_eq hcp.symm, by rw [← hcp]; exact h4⟩
      obtain ⟨r, vm₁, B, hWm, X', hpost, st⟩ := own_call X hexec hown hv hA (Jvm.Free.ALB.AddF.pays (S0 := Jvm.Free.ALB.AddGen.S0 gs) v 0 (Jvm.Free.ALB.AddGen.gets l gs ⟨x, C, ea, E, n, mc⟩ z v) (Jvm.Free.ALB.Grow0.tab_rides Jvm.Free.ALB.tabG_rides) Jvm.Free.ALB.AddGen.Ps.move (hw _ (by simp [Jvm.Free.ALB.addW3])) (by show 4 + 1 + 2 + 1 ≤ R.frames; omega) (by show 0 + (2 + 11) + (80 + 20 + 60) ≤ R.locals; omega)) hg hsize hstack hW0 hdg hpre
      obtain ⟨C', ea', E', L, q1, q2, -, -, -, q3, q4, q5, q6, q7, -, -, q8, q9⟩ := Jvm.Free.ALB.Added.of_full (hpre vm₁ hWm) hpost
      obtain ⟨-, -, -, -, -, -, -, b3, b1, b2, -⟩ := hpost
      obtain ⟨U', L', k', n'⟩ := B
      dsimp only [Pt.U, Pt.locs, Pt.cells, Pt.slots] at X' q2 q5 q6 q7 q8 b1 b2 b3 st
      subst b1 b2 q8 q1
      have hal : T.vm.Alike U'.vm := X.warmed.alike.symm.trans X'.warmed.alike
      rcases q5 with ⟨-, r2, -⟩ | ⟨r1, r2, r3, -⟩
      · have g1 : n < E'.slots.size := (Array.getElem?_eq_some_iff.mp q3).1
        have g2 : E'.slots.size = E.slots.size := r2
        omega
      · exact ⟨U', L, C', ea', E', (by rw [hcp]; exact X'), fun w hm => Or.inl (r3 w hm), q2, (by rw [hcp]; exact r2), hEN' hal q3 q4 q7, Or.inr r1, fun y cy h1 _ h3 => b3 y cy h1 h3, st⟩
end Add

abbrev own_R : Room := ({ frames := 8, cells := 270, slots := 2400, locals := 180 } : Room)
theorem own_newIn : ∀ w ∈ Jvm.Free.ALB.alNewAtoms, w ∈ tables_1 := by decide +kernel
theorem own_addIn : ∀ w ∈ Jvm.Free.ALB.alAddAnyAtoms, w ∈ tables_1 := by decide +kernel
theorem own_newRides : ∀ w ∈ Jvm.Free.ALB.alNewAtoms, (w.onTables && w.keepsFace) = true ∨ w = .arrayOver (.object "java/lang/Object") := by decide +kernel
theorem own_addRides : ∀ w ∈ Jvm.Free.ALB.alAddAnyAtoms, (w.onTables && w.keepsFace) = true ∨ w = .arrayOver (.object "java/lang/Object") := by decide +kernel
theorem own_nst {C : Cell} (h : ∀ q, C.vm ≠ .statics q) : C.vm.isStatics = false := by cases hv : C.vm <;> first | rfl | exact absurd hv (h _)
theorem own_turn {p : Program} {l : Launch} {e : Env} {s : State} {m : MethodId} {args : Array Value} {below : List Frame} {meth : Method} {c : Code} {T0 : State} {locs : List Loc} {Z : State} {a0 : Array Value} {o0 : Addr} {p1 : Int32} {dc : Addr} {Edc : Cell} {x : Jvm.Free.ALB.Fix} {i : Nat} {mir : Addr} {cAR cO : ClassId} {kO : Class}
    (X0 : Stand p l e own_R s m args below meth c T0 locs (3 + i + own_gc i) (515 + 3 * i + own_gs i)) (hx : p.tables.exec = Jvm.exec) (hZ : Z.Warmed39 s.vm) (hw : ∀ d ∈ tables_1, d.before a0 Z = true) (hby : c.code = prog_20_method_1_code) (hml : c.maxLocals = 3) (hown : s.vm.findClass "shelfmark/Longs" = some m.cls)
    (hAR : Z.vm.findClass "java/util/Arrays" = some cAR) (hM1 : Z.vm.findClass "[Ljava/lang/Object;" = some cO) (hM2 : Z.vm.classes[cO]? = some kO) (hM3 : kO.mirror = some mir)
    (wN : ∀ w ∈ Jvm.Free.ALB.initW "shelfmark/Longs" 9, w.before args s = true) (wRaw : ∀ w ∈ Jvm.Free.ALB.rawW, w.before args s = true) (wI : ∀ w ∈ Jvm.Free.ALB.addIW "shelfmark/Longs" 30, w.before args s = true) (wA : ∀ w ∈ Jvm.Free.ALB.addW3, w.before args s = true)
    (I : own_inv Z o0 p1 s.heap.size dc Edc x i T0) (hi : i < 256) :
    ∃ T' : State, Stand p l e own_R s m args below meth c T' locs (3 + (i + 1) + own_gc (i + 1)) (515 + 3 * (i + 1) + own_gs (i + 1)) ∧ own_inv Z o0 p1 s.heap.size dc Edc x (i + 1) T' ∧
      ∀ t, Steps p.tables e below (T'.setTop (mkF m 41 #[.val (.ref o0), .val (.int p1), .val (.int (Int32.ofNat (i + 1)))] [])) t → Steps p.tables e below (T0.setTop (mkF m 41 #[.val (.ref o0), .val (.int p1), .val (.int (Int32.ofNat i))] [])) t := by
  have hf1 := own_fit i (by omega)
  have hf2 := own_fit (i + 1) (by omega)
  obtain ⟨C0, ea0, E0, mc0, -, -, -, -, -, -, -, -, -, -, -, -, hFc, -⟩ := id I
  obtain ⟨T1, X1, e1, st1⟩ := getF X0 hx hZ hown (host := "") (Or.inl (hw _ (List.mem_of_getElem? (i := 36) rfl))) Via.refl rfl hFc (g := (mkF m 49 #[.val (.ref o0), .val (.int p1), .val (.int (Int32.ofNat i))] [(.ref o0)])) rfl rfl (hb hby d1_49)
  have I1 := I.move (X0.warmed.alike.symm.trans X1.warmed.alike) (fun y cy h => by rw [e1]; exact h) (by rw [e1]; exact Nat.le_refl _)
  obtain ⟨vm2, cC, kC, f1, f2, f3, f4, X2, st2⟩ := X1.newCold hx hown (mvT hZ (hw _ (List.mem_of_getElem? (i := 12) rfl))) (mvT hZ (hw _ (List.mem_of_getElem? (i := 13) rfl))) (mvT hZ (hw _ (List.mem_of_getElem? (i := 14) rfl))) (g := (mkF m 52 #[.val (.ref o0), .val (.int p1), .val (.int (Int32.ofNat i))] [(.ref x.a)])) rfl (hb hby d1_52) (by show 3 + i + own_gc i + 1 ≤ 270; omega) (by show 515 + 3 * i + own_gs i + 3 ≤ 2400; omega)
  have hN2 : ((T1.setVm vm2).pushCell { cls := cC, slots := kC.instanceTypes.map defaultValue, vm := .none }).heap[T1.heap.size]? = some { cls := cC, slots := kC.instanceTypes.map defaultValue, vm := .none } := by show (T1.heap.push _)[T1.heap.size]? = _; simp
  have k12 : ∀ (y : Addr) (cy : Cell), T1.heap[y]? = some cy → ((T1.setVm vm2).pushCell { cls := cC, slots := kC.instanceTypes.map defaultValue, vm := .none }).heap[y]? = some cy := fun y cy h => by
    have hy := (Array.getElem?_eq_some_iff.mp h).1
    show (T1.heap.push _)[y]? = _
    rw [Array.getElem?_push_lt hy, ← Array.getElem?_eq_getElem hy]; exact h
  have s12 : T1.heap.size ≤ ((T1.setVm vm2).pushCell { cls := cC, slots := kC.instanceTypes.map defaultValue, vm := .none }).heap.size := by show T1.heap.size ≤ (T1.heap.push _).size; simp
  generalize (T1.setVm vm2).pushCell { cls := cC, slots := kC.instanceTypes.map defaultValue, vm := .none } = T2 at X2 st2 hN2 k12 s12
  have I2 := I1.move (X1.warmed.alike.symm.trans X2.warmed.alike) k12 s12
  obtain ⟨_, _, _, _, -, -, -, -, hD2, -, -, -, -, -, -, -, -, -⟩ := id I2
  obtain ⟨T3, L3, y3, C3, hya, X3, hL3, hA3, -, hO3, -, k23, st3⟩ := X2.alInit hx (own := "shelfmark/Longs") (index := 9) hown wN wRaw hD2 f1 f2 f3 hN2 (W := 2) (g := (mkF m 56 #[.val (.ref o0), .val (.int p1), .val (.int (Int32.ofNat i))] [(.ref T1.heap.size), (.ref T1.heap.size), (.ref x.a)])) rfl (by rw [hml]; rfl) (Steps.refl _) (rest := [(.ref T1.heap.size), (.ref x.a)]) rfl (by show 2 * 0 + _ ≤ _; exact Nat.le_of_eq rfl) (hb hby d1_56) (by decide) (by decide) (by show 3 + i + own_gc i + 1 ≤ 270; omega) (by show 515 + 3 * i + own_gs i + 3 ≤ 2400; omega)
  replace X3 := X3.dropFresh (fun w hm => by rw [hL3 w hm]; exact X1.heapGrown)
  have k13 : ∀ (y : Addr) (cy : Cell), T1.heap[y]? = some cy → T3.heap[y]? = some cy := fun y cy h => k23 y cy (Nat.ne_of_lt (Array.getElem?_eq_some_iff.mp h).1) (k12 y cy h)
  have hC3 : T3.heap[T1.heap.size]? = some C3 := hya ▸ hA3.hC
  have I3 := I1.move (X1.warmed.alike.symm.trans X3.warmed.alike) k13 (Nat.le_of_lt (Array.getElem?_eq_some_iff.mp hC3).1)
  obtain ⟨C, ea, E, mc, hA, hEN, hsz, hea, hD, hdc, hxa, hoL, hod, hn0, hcomp, hE0, hF0, hFp⟩ := I3
  have ZT3 : Z.vm.Alike T3.vm := hZ.alike.trans X3.warmed.alike
  have hEl : Jvm.Free.ALB.Elt x (.ref T1.heap.size) T3 := by
    obtain ⟨ca, co, g1, g2, g3⟩ := Cond.castable_spec (hw _ (List.mem_of_getElem? (i := 81) rfl))
    obtain ⟨kv, hkv, -⟩ := hA3.kAL
    have r1 : y3.cAL = ca := Option.some.inj (hA3.fc.symm.trans (by rw [ZT3.findClass]; exact g1))
    have r2 : x.comp = co := Option.some.inj (hcomp.symm.trans (by rw [ZT3.findClass]; exact g2))
    exact Or.inr ⟨T1.heap.size, C3, kv, rfl, hC3, hA3.ob, by rw [hA3.cl]; exact hkv, by rw [hA3.cl, r1, r2, ZT3.assignable]; exact g3⟩
  have hG : Jvm.Free.ALB.Gen ⟨x, C, ea, E, i, mc⟩ ⟨mir, cAR⟩ T3 := by
    obtain ⟨k', hk', ek⟩ := ZT3.2.2 _ _ hM2
    have r1 : x.cOA = cO := Option.some.inj (hA.fcO.symm.trans (by rw [ZT3.findClass]; exact hM1))
    exact ⟨hcomp, by rw [ZT3.findClass]; exact hAR, k', by show T3.vm.classes[x.cOA]? = _; rw [r1]; exact hk', by rw [ek]; exact hM3⟩
  obtain ⟨gc, gs, hroad, hgc, hgs⟩ : ∃ gc gs : Nat, ((i < E.slots.size ∧ gc = 0 ∧ gs = 0 ∧ own_cap (i + 1) = E.slots.size) ∨ (E.slots.size = i ∧ gc = 1 ∧ gs = own_cap (i + 1) ∧ (i = 0 ∧ ea = dc ∧ own_cap (i + 1) = 10 ∨ 0 < i ∧ own_cap (i + 1) = Jvm.Free.ALB.newCap i ∧ own_cap (i + 1) * 4 ≤ 536870912))) ∧ own_gc (i + 1) = own_gc i + gc ∧ own_gs (i + 1) = own_gs i + gs := by
    rcases own_steps i hi with ⟨a1, a2, a3, a4⟩ | ⟨a1, a2, a3, a4⟩
    · exact ⟨0, 0, Or.inl ⟨by rw [hsz]; exact a1, rfl, rfl, by rw [hsz]; exact a2⟩, a3, a4⟩
    · refine ⟨1, own_cap (i + 1), Or.inr ⟨by rw [hsz]; exact a1, rfl, rfl, ?_⟩, a2, a3⟩
      rcases a4 with ⟨b1, b2⟩ | ⟨b1, b2⟩
      · refine Or.inl ⟨b1, ?_, b2⟩
        rcases hea with ⟨-, q⟩ | ⟨q, -⟩
        · exact q
        · omega
      · exact Or.inr ⟨b1, b2, by omega⟩
  obtain ⟨T4, L4, C4, ea4, E4, X4, hL4, hA4, hs4, hEN4, hea4, k34, st4⟩ := own_add X3 hx (own := "shelfmark/Longs") (index := 30) (count := 2) hown wI wA hA hEN hG hEl hD.1 hroad (g := (mkF m 59 #[.val (.ref o0), .val (.int p1), .val (.int (Int32.ofNat i))] [(.ref T1.heap.size), (.ref x.a)])) rfl (by rw [hml]; rfl) rfl rfl (hb hby d1_59) (by decide) (by decide) (by show 3 + i + own_gc i + 1 + gc ≤ 270; omega) (by show 515 + 3 * i + own_gs i + 3 + gs ≤ 2400; omega)
  have hpos : i < E.slots.size → 0 < i := fun q => by
    rcases Nat.eq_zero_or_pos i with h | h
    · subst h; rw [hsz] at q; exact absurd q (by decide)
    · exact h
  have hean : i < E.slots.size → s.heap.size ≤ ea := fun q => by
    rcases hea with ⟨r, -⟩ | ⟨-, r⟩
    · have := hpos q; omega
    · exact r
  replace X4 := X4.dropFresh (fun w hm => by
    rcases hL4 w hm with q | ⟨q, r⟩
    · rw [q]; exact hxa
    · rw [q]; exact hean r)
  have hal34 : T3.vm.Alike T4.vm := X3.warmed.alike.symm.trans X4.warmed.alike
  have far : ∀ a : Addr, a < s.heap.size → a ≠ dc → a ≠ ea := fun a h1 h2 q => by
    rcases hea with ⟨-, r⟩ | ⟨-, r⟩
    · exact h2 (q.trans r)
    · rw [q] at h1; exact absurd h1 (Nat.not_lt.mpr r)
  have ko : ∀ cy : Cell, T3.heap[o0]? = some cy → T4.heap[o0]? = some cy := fun cy h => k34 o0 cy (fun q => absurd hoL (by rw [q]; exact Nat.not_lt.mpr hxa)) (Or.inl (far o0 hoL hod)) h
  have kd : T4.heap[dc]? = some Edc := k34 dc Edc (fun q => absurd hdc (by rw [q]; exact Nat.not_lt.mpr hxa)) (by
    rcases hea with ⟨r, -⟩ | ⟨-, r⟩
    · exact Or.inr (by rw [hsz, r]; decide)
    · exact Or.inl (fun q => absurd hdc (by rw [q]; exact Nat.not_lt.mpr r))) hD.2.1
  have hD4 : Jvm.Free.ALB.DfArr dc Edc T4 := hD.move hal34 (fun y cy hy hst => k34 y cy (fun q => by
      rw [q] at hy; cases hA.hC.symm.trans hy; rw [own_nst hA.ob] at hst; cases hst) (Or.inl (fun q => by
      rw [q] at hy; cases hA.hE.symm.trans hy; rw [own_nst hA.obE] at hst; cases hst)) hy) kd
  refine ⟨T4, X4.more (by omega) (by omega), ⟨C4, ea4, E4, mc + 1, hA4, hEN4, hs4, Or.inr ⟨Nat.succ_pos _, ?_⟩, hD4, hdc, hxa, hoL, hod, X4.heapGrown, by rw [hal34.findClass]; exact hcomp, own_exa ko hE0, own_fld ko hF0, own_fld ko hFp⟩, fun t kt => ?_⟩
  · rcases hea4 with ⟨q, r⟩ | q
    · rw [q]; exact hean r
    · rw [q]; exact hn0
  have hlt : Int32.ofNat i < (256 : Int32) := by
    rw [Int32.lt_iff_toInt_lt, own_ofNat i (by omega), show (256 : Int32).toInt = 256 by decide]
    omega
  have hinc : Int32.ofNat i + (1 : Int32) = Int32.ofNat (i + 1) := by
    apply Int32.toInt_inj.mp
    have q := c_iadd (Int32.ofNat i) (1 : Int32)
    rw [own_ofNat i (by omega), show (1 : Int32).toInt = 1 by decide] at q
    have q1 := Int32.toInt_lt (Int32.ofNat i + (1 : Int32))
    have q2 := Int32.le_toInt (Int32.ofNat i + (1 : Int32))
    rw [own_ofNat (i + 1) (by omega)]
    omega
  show Steps p.tables e below (T0.setTop (mkF m 41 #[.val (.ref o0), .val (.int p1), .val (.int (Int32.ofNat i))] [])) _
  refine XS.iloadN X0.here hx rfl (hb hby d1_41) rfl ?_
  show Steps p.tables e below (T0.setTop (mkF m 42 #[.val (.ref o0), .val (.int p1), .val (.int (Int32.ofNat i))] [(.int (Int32.ofNat i))])) _
  refine XS.sipush X0.here hx rfl (hb hby d1_42) ?_
  show Steps p.tables e below (T0.setTop (mkF m 45 #[.val (.ref o0), .val (.int p1), .val (.int (Int32.ofNat i))] [(.int (256 : Int32)), (.int (Int32.ofNat i))])) _
  refine XS.icmpNo X0.here hx rfl (hb hby d1_45) rfl (tlt hlt).2.1 ?_
  show Steps p.tables e below (T0.setTop (mkF m 48 #[.val (.ref o0), .val (.int p1), .val (.int (Int32.ofNat i))] [])) _
  refine XS.aloadN X0.here hx rfl (hb hby d1_48) rfl rfl ?_
  show Steps p.tables e below (T0.setTop (mkF m 49 #[.val (.ref o0), .val (.int p1), .val (.int (Int32.ofNat i))] [(.ref o0)])) _
  refine st1 _ ?_
  show Steps p.tables e below (T1.setTop (mkF m 52 #[.val (.ref o0), .val (.int p1), .val (.int (Int32.ofNat i))] [(.ref x.a)])) _
  refine st2 _ ?_
  show Steps p.tables e below (T2.setTop (mkF m 55 #[.val (.ref o0), .val (.int p1), .val (.int (Int32.ofNat i))] [(.ref T1.heap.size), (.ref x.a)])) _
  refine XS.dup X2.here hx rfl (hb hby d1_55) rfl rfl ?_
  show Steps p.tables e below (T2.setTop (mkF m 56 #[.val (.ref o0), .val (.int p1), .val (.int (Int32.ofNat i))] [(.ref T1.heap.size), (.ref T1.heap.size), (.ref x.a)])) _
  refine st3.trans ?_
  show Steps p.tables e below (T3.setTop (mkF m 59 #[.val (.ref o0), .val (.int p1), .val (.int (Int32.ofNat i))] [(.ref T1.heap.size), (.ref x.a)])) _
  refine st4.trans ?_
  show Steps p.tables e below (T4.setTop (mkF m 64 #[.val (.ref o0), .val (.int p1), .val (.int (Int32.ofNat i))] [(.int (1 : Int32))])) _
  refine XS.pop X4.here hx rfl (hb hby d1_64) rfl rfl ?_
  show Steps p.tables e below (T4.setTop (mkF m 65 #[.val (.ref o0), .val (.int p1), .val (.int (Int32.ofNat i))] [])) _
  refine XS.iinc X4.here hx rfl (hb hby d1_65) rfl (l' := #[.val (.ref o0), .val (.int p1), .val (.int (Int32.ofNat i + (1 : Int32)))]) rfl ?_
  rw [hinc]
  show Steps p.tables e below (T4.setTop (mkF m 68 #[.val (.ref o0), .val (.int p1), .val (.int (Int32.ofNat (i + 1)))] [])) _
  refine XS.goto X4.here hx rfl (pc0 := 68) (pc' := 41) rfl (hb hby d1_68) (by decide) (by decide) ?_
  exact kt
theorem own_loop {p : Program} {l : Launch} {e : Env} {s : State} {m : MethodId} {args : Array Value} {below : List Frame} {meth : Method} {c : Code} {locs : List Loc} {Z : State} {a0 : Array Value} {o0 : Addr} {p1 : Int32} {dc : Addr} {Edc : Cell} {x : Jvm.Free.ALB.Fix} {mir : Addr} {cAR cO : ClassId} {kO : Class}
    (hx : p.tables.exec = Jvm.exec) (hZ : Z.Warmed39 s.vm) (hw : ∀ d ∈ tables_1, d.before a0 Z = true) (hby : c.code = prog_20_method_1_code) (hml : c.maxLocals = 3) (hown : s.vm.findClass "shelfmark/Longs" = some m.cls)
    (hAR : Z.vm.findClass "java/util/Arrays" = some cAR) (hM1 : Z.vm.findClass "[Ljava/lang/Object;" = some cO) (hM2 : Z.vm.classes[cO]? = some kO) (hM3 : kO.mirror = some mir)
    (wN : ∀ w ∈ Jvm.Free.ALB.initW "shelfmark/Longs" 9, w.before args s = true) (wRaw : ∀ w ∈ Jvm.Free.ALB.rawW, w.before args s = true) (wI : ∀ w ∈ Jvm.Free.ALB.addIW "shelfmark/Longs" 30, w.before args s = true) (wA : ∀ w ∈ Jvm.Free.ALB.addW3, w.before args s = true) :
    ∀ (k i : Nat) (T0 : State), i + k = 256 → Stand p l e own_R s m args below meth c T0 locs (3 + i + own_gc i) (515 + 3 * i + own_gs i) → own_inv Z o0 p1 s.heap.size dc Edc x i T0 →
    ∃ T' : State, Stand p l e own_R s m args below meth c T' locs 269 2367 ∧ own_inv Z o0 p1 s.heap.size dc Edc x 256 T' ∧
      ∀ t, Steps p.tables e below (T'.setTop (mkF m 41 #[.val (.ref o0), .val (.int p1), .val (.int (256 : Int32))] [])) t → Steps p.tables e below (T0.setTop (mkF m 41 #[.val (.ref o0), .val (.int p1), .val (.int (Int32.ofNat i))] [])) t := by
  intro k
  induction k with
  | zero =>
    intro i T0 hi X0 I
    obtain rfl : i = 256 := by omega
    exact ⟨T0, X0, I, fun t kt => kt⟩
  | succ k ih =>
    intro i T0 hi X0 I
    obtain ⟨T1, X1, I1, st1⟩ := own_turn X0 hx hZ hw hby hml hown hAR hM1 hM2 hM3 wN wRaw wI wA I (by omega)
    obtain ⟨T2, X2, I2, st2⟩ := ih (i + 1) T1 (by omega) X1 I1
    exact ⟨T2, X2, I2, fun t kt => st1 t (st2 t kt)⟩

theorem ef_rm1 (m : MethodId) (o0 : Addr) (p1 : Int32) : entryFrame m #[(.ref o0), (.int p1)] 3 = mkF m 0 #[.val (.ref o0), .val (.int p1), .unset] [] := by first | (simp [entryFrame, mkF, argsToLocals, Value.category]; done) | rfl
def Q1 (Z : State) (o0 : Addr) (p1 : Int32) (h0 : Heap) (n0 : Nat) (v : Option Value) (h : Heap) (L : List Loc) : Prop := v = none ∧ Fr n0 L ∧ n0 ≤ h.size ∧ Exa Z h o0 "shelfmark/Longs" ∧ Fld Z h o0 "shelfmark/Longs" "partShift" "I" (.int p1)
set_option maxRecDepth 65536 in
set_option maxHeartbeats 40000000 in
theorem rm1 (l : Launch) (Z : State) (a0 : Array Value) (hw : ∀ d ∈ tables_1, d.before a0 Z = true) (ws : List Jvm.Cond) (o0 : Addr) (p1 : Int32) (u0 u1 u2 u3 : Value) (dc : Addr) (Edc : Cell) (mir : Addr) (cAR cO : ClassId) (kO : Class) (h0 : Heap) (n0 : Nat) (Z0 : n0 ≤ h0.size)
    (E_a : Exa Z h0 o0 "shelfmark/Longs") (g_a : n0 ≤ o0) (F0 : Fld Z h0 o0 "shelfmark/Longs" "chunks" "Ljava/util/List;" u0) (F1 : Fld Z h0 o0 "shelfmark/Longs" "sizes" "[I" u1) (F2 : Fld Z h0 o0 "shelfmark/Longs" "parts" "[[J" u2) (F3 : Fld Z h0 o0 "shelfmark/Longs" "partShift" "I" u3)
    (O0 : Old Z n0 h0) (DZ : Jvm.Free.ALB.DfArr dc Edc Z) (hAR : Z.vm.findClass "java/util/Arrays" = some cAR) (hM1 : Z.vm.findClass "[Ljava/lang/Object;" = some cO) (hM2 : Z.vm.classes[cO]? = some kO) (hM3 : kO.mirror = some mir) :
    MetFree l (⟨"shelfmark/Longs", "<init>", "(I)V"⟩ : MethodName) (head1 (Jvm.Cond.code (⟨"shelfmark/Longs", "<init>", "(I)V"⟩ : MethodName) prog_20_method_1_code 3 none :: ws) own_R) (fun a U => a = #[(.ref o0), (.int p1)] ∧ Z.Warmed39 U.vm ∧ U.heap = h0) (fun _ _ _ _ _ => True) (fun _ U o U' => ∃ v L, o = .returned v ∧ Q1 Z o0 p1 h0 n0 v U'.heap L ∧ FrameEnd U o U' L own_R.cells own_R.slots) := by
  refine MetFree.of_bodySF (plainFor_of_name pn_L) hisR ?_
  intro p e s m args below meth c s₁ Bd hml0 hP hK
  obtain ⟨rfl, hZ, hh⟩ := hP
  have hx := Bd.exec
  have hby := Bd.bytes
  have hml : c.maxLocals = 3 := hml0
  have hown : s.vm.findClass "shelfmark/Longs" = some m.cls := findClass_of_methodNamed Bd.named
  have hnm := (name_of_methodNamed Bd.named Bd.method).1
  have X0 : Stand p l e own_R s m #[(.ref o0), (.int p1)] below meth c s₁ [] 0 0 := Stand.of_body Bd
  have e0 : s₁.heap = h0 := by rw [← hh, Bd.state]; rfl
  have N0 := Fr.nil n0
  have pre0 : ∀ t, Steps p.tables e below (s₁.setTop (mkF m 0 #[.val (.ref o0), .val (.int p1), .unset] [])) t → Steps p.tables e below (s₁.setTop (entryFrame m #[(.ref o0), (.int p1)] 3)) t := fun t k => castTop (ef_rm1 m o0 p1) k
  obtain ⟨wNi, wNz, wN, wRaw⟩ := Jvm.Free.ALB.alNewWords (args := #[(.ref o0), (.int p1)]) (s := s) (own := "shelfmark/Longs") (j := 9) (mvT hZ (hw _ (List.mem_of_getElem? (i := 15) rfl))) (fun w hm => own_mv hZ (own_newRides w hm) (hw w (own_newIn w hm)))
  obtain ⟨wI, wA⟩ := Jvm.Free.ALB.alAddAnyWords (args := #[(.ref o0), (.int p1)]) (s := s) (own := "shelfmark/Longs") (i := 30) (mvT hZ (hw _ (List.mem_of_getElem? (i := 47) rfl))) (fun w hm => own_mv hZ (own_addRides w hm) (hw w (own_addIn w hm)))
  have hdcZ : dc < n0 := by rw [← O0.1]; exact (Array.getElem?_eq_some_iff.mp DZ.2.1).1
  have hdc : dc < s.heap.size := by rw [hh]; exact Nat.lt_of_lt_of_le hdcZ Z0
  have hoL : o0 < s.heap.size := by rw [hh]; exact E_a.lt
  have hod : o0 ≠ dc := fun q => by rw [q] at g_a; exact absurd hdcZ (Nat.not_lt.mpr g_a)
  obtain ⟨T1, X1, e1, st1⟩ := initO X0 hx hZ hown (hw _ (List.mem_of_getElem? (i := 9) rfl)) (hw _ (List.mem_of_getElem? (i := 10) rfl)) (hw _ (List.mem_of_getElem? (i := 11) rfl)) e0 (g := (mkF m 1 #[.val (.ref o0), .val (.int p1), .unset] [(.ref o0)])) rfl (by rw [hml]; rfl) rfl (hb hby d1_1) (by decide) (W := 0) (by show 2 * 0 + _ ≤ _; exact Nat.le_of_eq rfl) (by decide)
  have hD1 : Jvm.Free.ALB.DfArr dc Edc T1 := DZ.move (hZ.alike.trans X1.warmed.alike) (fun y cy hy _ => by rw [e1]; exact O0.2.2 y cy hy) (by rw [e1]; exact O0.2.2 _ _ DZ.2.1)
  obtain ⟨vm2, cC, kC, f1, f2, f3, f4, X2, st2⟩ := X1.newCold hx hown (mvT hZ (hw _ (List.mem_of_getElem? (i := 12) rfl))) (mvT hZ (hw _ (List.mem_of_getElem? (i := 13) rfl))) (mvT hZ (hw _ (List.mem_of_getElem? (i := 14) rfl))) (g := (mkF m 5 #[.val (.ref o0), .val (.int p1), .unset] [(.ref o0)])) rfl (hb hby d1_5) (by decide) (by decide)
  have hN2 : ((T1.setVm vm2).pushCell { cls := cC, slots := kC.instanceTypes.map defaultValue, vm := .none }).heap[T1.heap.size]? = some { cls := cC, slots := kC.instanceTypes.map defaultValue, vm := .none } := by show (T1.heap.push _)[T1.heap.size]? = _; simp
  have k12 : ∀ (y : Addr) (cy : Cell), T1.heap[y]? = some cy → ((T1.setVm vm2).pushCell { cls := cC, slots := kC.instanceTypes.map defaultValue, vm := .none }).heap[y]? = some cy := fun y cy h => by
    have hy := (Array.getElem?_eq_some_iff.mp h).1
    show (T1.heap.push _)[y]? = _
    rw [Array.getElem?_push_lt hy, ← Array.getElem?_eq_getElem hy]; exact h
  generalize (T1.setVm vm2).pushCell { cls := cC, slots := kC.instanceTypes.map defaultValue, vm := .none } = T2 at X2 st2 hN2 k12
  have hD2 : Jvm.Free.ALB.DfArr dc Edc T2 := hD1.move (X1.warmed.alike.symm.trans X2.warmed.alike) (fun y cy hy _ => k12 y cy hy) (k12 _ _ hD1.2.1)
  obtain ⟨T3, L3, x, C3, hxa, X3, hL3, hA3, -, hO3, -, k23, st3⟩ := X2.alInit hx (own := "shelfmark/Longs") (index := 9) hown wN wRaw hD2 f1 f2 f3 hN2 (W := 2) (g := (mkF m 9 #[.val (.ref o0), .val (.int p1), .unset] [(.ref T1.heap.size), (.ref T1.heap.size), (.ref o0)])) rfl (by rw [hml]; rfl) (Steps.refl _) (rest := [(.ref T1.heap.size), (.ref o0)]) rfl (by show 2 * 0 + _ ≤ _; exact Nat.le_of_eq rfl) (hb hby d1_9) (by decide) (by decide) (by decide) (by decide)
  replace X3 := X3.dropFresh (fun w hm => by rw [hL3 w hm]; exact X1.heapGrown)
  have es : T1.heap.size = s.heap.size := by rw [e1, hh]
  have hxs : s.heap.size ≤ x.a := by rw [hxa, es]; exact Nat.le_refl _
  rw [← hxa] at st3 st2
  have k13 : ∀ (y : Addr) (cy : Cell), h0[y]? = some cy → T3.heap[y]? = some cy := fun y cy h => by
    rw [← e1] at h
    exact k23 y cy (Nat.ne_of_lt (Array.getElem?_eq_some_iff.mp h).1) (k12 y cy h)
  have hD3 : Jvm.Free.ALB.DfArr dc Edc T3 := DZ.move (hZ.alike.trans X3.warmed.alike) (fun y cy hy _ => k13 y cy (O0.2.2 y cy hy)) (k13 _ _ (O0.2.2 _ _ DZ.2.1))
  have E3 := own_exa (fun cy h => k13 _ _ h) E_a
  have G0 := own_fld (fun cy h => k13 _ _ h) F0
  have G1 := own_fld (fun cy h => k13 _ _ h) F1
  have G2 := own_fld (fun cy h => k13 _ _ h) F2
  have G3 := own_fld (fun cy h => k13 _ _ h) F3
  have lc : Laid Z a0 "shelfmark/Longs" "shelfmark/Longs" "chunks" "Ljava/util/List;" := Or.inr (hw _ (List.mem_of_getElem? (i := 37) rfl))
  have ls : Laid Z a0 "shelfmark/Longs" "shelfmark/Longs" "sizes" "[I" := Or.inr (hw _ (List.mem_of_getElem? (i := 40) rfl))
  have lp : Laid Z a0 "shelfmark/Longs" "shelfmark/Longs" "parts" "[[J" := Or.inr (hw _ (List.mem_of_getElem? (i := 44) rfl))
  have lh : Laid Z a0 "shelfmark/Longs" "shelfmark/Longs" "partShift" "I" := Or.inr (hw _ (List.mem_of_getElem? (i := 46) rfl))
  -- chunks
  obtain ⟨T4, h4, X4, e4, W4, st4⟩ := putF X3 hx hZ hown (host := "") (Or.inl (hw _ (List.mem_of_getElem? (i := 36) rfl))) Via.refl rfl G0 E3 (Or.inr ⟨(hw _ (List.mem_of_getElem? (i := 37) rfl)), rfl, hnm⟩) (hw _ (List.mem_of_getElem? (i := 4) rfl)) (ty := (.object "java/util/List")) (by decide) rfl rfl (g := (mkF m 12 #[.val (.ref o0), .val (.int p1), .unset] [(.ref x.a), (.ref o0)])) rfl rfl (hb hby d1_12)
  have N4 := Fr.snoc X4 N0 g_a
  -- sizes
  obtain ⟨T5, h5, k5, X5, e5, E5, A5, st5⟩ := newP X4 hx hZ (hw _ (List.mem_of_getElem? (i := 38) rfl)) e4 (g := (mkF m 19 #[.val (.ref o0), .val (.int p1), .unset] [(.int (256 : Int32)), (.ref o0)])) rfl (hb hby d1_19) rfl (by decide) (cap := 256) (by decide) (by decide) (by decide) (by decide)
  obtain ⟨T6, h6, X6, e6, W6, st6⟩ := putF X5 hx hZ hown (host := "") (Or.inl (hw _ (List.mem_of_getElem? (i := 39) rfl))) Via.refl e5 ((G1.other W4 (Or.inr (slot_ne ls lc (by decide) (t := (.array .int)) (t' := (.object "java/util/List")) (by decide) (by decide)))).ext E5) ((E3.wr W4).ext E5) (Or.inr ⟨(hw _ (List.mem_of_getElem? (i := 40) rfl)), rfl, hnm⟩) (hw _ (List.mem_of_getElem? (i := 4) rfl)) (ty := (.array .int)) (by decide) rfl rfl (g := (mkF m 21 #[.val (.ref o0), .val (.int p1), .unset] [(.ref h4.size), (.ref o0)])) rfl rfl (hb hby d1_21)
  have N6 := Fr.snoc X6 N4 g_a
  -- parts
  obtain ⟨T7, h7, k7, X7, e7, E7, A7, B7, C7, st7⟩ := newRA X6 hx hZ hown (ty := .long) (C := "[J") (by decide) (hw _ (List.mem_of_getElem? (i := 41) rfl)) (hw _ (List.mem_of_getElem? (i := 42) rfl)) e6 (g := (mkF m 28 #[.val (.ref o0), .val (.int p1), .unset] [(.int (256 : Int32)), (.ref o0)])) rfl (hb hby d1_28) rfl (by decide) (cap := 256) (by decide) (by decide) (by decide) (by decide) (ad := "[[J") (by decide)
  obtain ⟨T8, h8, X8, e8, W8, st8⟩ := putF X7 hx hZ hown (host := "") (Or.inl (hw _ (List.mem_of_getElem? (i := 43) rfl))) Via.refl e7 ((((G2.other W4 (Or.inr (slot_ne lp lc (by decide) (t := (.array (.array .long))) (t' := (.object "java/util/List")) (by decide) (by decide)))).ext E5).other W6 (Or.inr (slot_ne lp ls (by decide) (t := (.array (.array .long))) (t' := (.array .int)) (by decide) (by decide)))).ext E7) ((((E3.wr W4).ext E5).wr W6).ext E7) (Or.inr ⟨(hw _ (List.mem_of_getElem? (i := 44) rfl)), rfl, hnm⟩) (hw _ (List.mem_of_getElem? (i := 4) rfl)) (ty := (.array (.array .long))) (by decide) rfl rfl (g := (mkF m 31 #[.val (.ref o0), .val (.int p1), .unset] [(.ref h6.size), (.ref o0)])) rfl rfl (hb hby d1_31)
  have N8 := Fr.snoc X8 N6 g_a
  -- partShift
  have H3 := ((((G3.other W4 (Or.inr (slot_ne lh lc (by decide) (t := .int) (t' := (.object "java/util/List")) (by decide) (by decide)))).ext E5).other W6 (Or.inr (slot_ne lh ls (by decide) (t := .int) (t' := (.array .int)) (by decide) (by decide)))).ext E7).other W8 (Or.inr (slot_ne lh lp (by decide) (t := .int) (t' := (.array (.array .long))) (by decide) (by decide)))
  have X_e := ((((E3.wr W4).ext E5).wr W6).ext E7).wr W8
  obtain ⟨T9, h9, X9, e9, W9, st9⟩ := putF X8 hx hZ hown (host := "") (Or.inl (hw _ (List.mem_of_getElem? (i := 45) rfl))) Via.refl e8 H3 X_e (Or.inr ⟨(hw _ (List.mem_of_getElem? (i := 46) rfl)), rfl, hnm⟩) (hw _ (List.mem_of_getElem? (i := 4) rfl)) (ty := .int) (by decide) rfl rfl (g := (mkF m 36 #[.val (.ref o0), .val (.int p1), .unset] [(.int p1), (.ref o0)])) rfl rfl (hb hby d1_36)
  have N9 := Fr.snoc X9 N8 g_a
  have E9 := X_e.wr W9
  have P9 := H3.same W9
  have Q9 := (((((G0.same W4).ext E5).other W6 (Or.inr (slot_ne lc ls (by decide) (t := (.object "java/util/List")) (t' := (.array .int)) (by decide) (by decide)))).ext E7).other W8 (Or.inr (slot_ne lc lp (by decide) (t := (.object "java/util/List")) (t' := (.array (.array .long))) (by decide) (by decide)))).other W9 (Or.inr (slot_ne lc lh (by decide) (t := (.object "java/util/List")) (t' := .int) (by decide) (by decide)))
  have k39 : ∀ (y : Addr) (cy : Cell), y ≠ o0 → T3.heap[y]? = some cy → T9.heap[y]? = some cy := fun y cy hy h => by
    have hn : y ∉ [o0] := fun q => hy (List.mem_singleton.mp q)
    rw [e9]
    exact (Keep.of_wr W9).2.1 y cy ((Keep.of_wr W8).2.1 y cy (E7.2 y cy ((Keep.of_wr W6).2.1 y cy (E5.2 y cy ((Keep.of_wr W4).2.1 y cy h hn)) hn)) hn) hn
  have hal39 : T3.vm.Alike T9.vm := X3.warmed.alike.symm.trans X9.warmed.alike
  have hxo : x.a ≠ o0 := fun q => by rw [q] at hxs; exact absurd hoL (Nat.not_lt.mpr hxs)
  have hD9 : Jvm.Free.ALB.DfArr dc Edc T9 := hD3.move hal39 (fun y cy hy hst => k39 y cy (fun q => by
      obtain ⟨cl, kk, q1, -, -, q4, -⟩ := E3
      rw [q] at hy; cases q1.symm.trans hy; rw [q4] at hst; cases hst) hy) (k39 _ _ (Ne.symm hod) hD3.2.1)
  have I9 : own_inv Z o0 p1 s.heap.size dc Edc x 0 T9 := by
    refine ⟨C3, dc, Edc, 0, hA3.carry hal39 (k39 _ _ hxo hA3.hC) (k39 _ _ (Ne.symm hod) hA3.hE), (fun i hi => absurd hi (Nat.not_lt_zero _)), hD9.2.2.2.2.2, Or.inl ⟨rfl, rfl⟩, hD9, hdc, hxs, hoL, hod, X9.heapGrown, ?_, by rw [e9]; exact E9, by rw [e9]; exact Q9, by rw [e9]; exact P9⟩
    rw [X9.warmed.alike.findClass]; exact hO3
  obtain ⟨TL, XL, IL, stL⟩ := own_loop hx hZ hw hby hml hown hAR hM1 hM2 hM3 wN wRaw wI wA 256 0 T9 rfl X9 I9
  obtain ⟨_, _, _, _, -, -, -, -, -, -, -, -, -, -, -, EL, -, PL⟩ := IL
  obtain ⟨fs, hr, hrun, hended, hW, hsame⟩ := XL.leave (v := none) (fun _ => rfl)
  refine ⟨_, _, pre0 _ ?_, hrun, hended, _, _, rfl, ?_, ⟨_, rfl⟩, hW, hsame.mono (by decide) (by decide)⟩
  · show Steps p.tables e below (s₁.setTop (mkF m 0 #[.val (.ref o0), .val (.int p1), .unset] [])) _
    refine XS.aloadN X0.here hx rfl (hb hby d1_0) rfl rfl ?_
    show Steps p.tables e below (s₁.setTop (mkF m 1 #[.val (.ref o0), .val (.int p1), .unset] [(.ref o0)])) _
    refine st1 _ ?_
    show Steps p.tables e below (T1.setTop (mkF m 4 #[.val (.ref o0), .val (.int p1), .unset] [])) _
    refine XS.aloadN X1.here hx rfl (hb hby d1_4) rfl rfl ?_
    show Steps p.tables e below (T1.setTop (mkF m 5 #[.val (.ref o0), .val (.int p1), .unset] [(.ref o0)])) _
    refine st2 _ ?_
    show Steps p.tables e below (T2.setTop (mkF m 8 #[.val (.ref o0), .val (.int p1), .unset] [(.ref x.a), (.ref o0)])) _
    refine XS.dup X2.here hx rfl (hb hby d1_8) rfl rfl ?_
    show Steps p.tables e below (T2.setTop (mkF m 9 #[.val (.ref o0), .val (.int p1), .unset] [(.ref x.a), (.ref x.a), (.ref o0)])) _
    refine st3.trans ?_
    show Steps p.tables e below (T3.setTop (mkF m 12 #[.val (.ref o0), .val (.int p1), .unset] [(.ref x.a), (.ref o0)])) _
    refine st4 _ ?_
    show Steps p.tables e below (T4.setTop (mkF m 15 #[.val (.ref o0), .val (.int p1), .unset] [])) _
    refine XS.aloadN X4.here hx rfl (hb hby d1_15) rfl rfl ?_
    show Steps p.tables e below (T4.setTop (mkF m 16 #[.val (.ref o0), .val (.int p1), .unset] [(.ref o0)])) _
    refine XS.sipush X4.here hx rfl (hb hby d1_16) ?_
    show Steps p.tables e below (T4.setTop (mkF m 19 #[.val (.ref o0), .val (.int p1), .unset] [(.int (256 : Int32)), (.ref o0)])) _
    refine st5 _ ?_
    show Steps p.tables e below (T5.setTop (mkF m 21 #[.val (.ref o0), .val (.int p1), .unset] [(.ref h4.size), (.ref o0)])) _
    refine st6 _ ?_
    show Steps p.tables e below (T6.setTop (mkF m 24 #[.val (.ref o0), .val (.int p1), .unset] [])) _
    refine XS.aloadN X6.here hx rfl (hb hby d1_24) rfl rfl ?_
    show Steps p.tables e below (T6.setTop (mkF m 25 #[.val (.ref o0), .val (.int p1), .unset] [(.ref o0)])) _
    refine XS.sipush X6.here hx rfl (hb hby d1_25) ?_
    show Steps p.tables e below (T6.setTop (mkF m 28 #[.val (.ref o0), .val (.int p1), .unset] [(.int (256 : Int32)), (.ref o0)])) _
    refine st7 _ ?_
    show Steps p.tables e below (T7.setTop (mkF m 31 #[.val (.ref o0), .val (.int p1), .unset] [(.ref h6.size), (.ref o0)])) _
    refine st8 _ ?_
    show Steps p.tables e below (T8.setTop (mkF m 34 #[.val (.ref o0), .val (.int p1), .unset] [])) _
    refine XS.aloadN X8.here hx rfl (hb hby d1_34) rfl rfl ?_
    show Steps p.tables e below (T8.setTop (mkF m 35 #[.val (.ref o0), .val (.int p1), .unset] [(.ref o0)])) _
    refine XS.iloadN X8.here hx rfl (hb hby d1_35) rfl ?_
    show Steps p.tables e below (T8.setTop (mkF m 36 #[.val (.ref o0), .val (.int p1), .unset] [(.int p1), (.ref o0)])) _
    refine st9 _ ?_
    show Steps p.tables e below (T9.setTop (mkF m 39 #[.val (.ref o0), .val (.int p1), .unset] [])) _
    refine XS.iconst X9.here hx rfl (hb hby d1_39) ?_
    show Steps p.tables e below (T9.setTop (mkF m 40 #[.val (.ref o0), .val (.int p1), .unset] [(.int (0 : Int32))])) _
    refine XS.istoreN X9.here hx rfl (hb hby d1_40) rfl (l' := #[.val (.ref o0), .val (.int p1), .val (.int (0 : Int32))]) rfl ?_
    show Steps p.tables e below (T9.setTop (mkF m 41 #[.val (.ref o0), .val (.int p1), .val (.int (Int32.ofNat 0))] [])) _
    refine stL _ ?_
    show Steps p.tables e below (TL.setTop (mkF m 41 #[.val (.ref o0), .val (.int p1), .val (.int (256 : Int32))] [])) _
    refine XS.iloadN XL.here hx rfl (hb hby d1_41) rfl ?_
    show Steps p.tables e below (TL.setTop (mkF m 42 #[.val (.ref o0), .val (.int p1), .val (.int (256 : Int32))] [(.int (256 : Int32))])) _
    refine XS.sipush XL.here hx rfl (hb hby d1_42) ?_
    show Steps p.tables e below (TL.setTop (mkF m 45 #[.val (.ref o0), .val (.int p1), .val (.int (256 : Int32))] [(.int (256 : Int32)), (.int (256 : Int32))])) _
    refine XS.icmpYes XL.here hx rfl (pc0 := 45) (pc' := 71) rfl (hb hby d1_45) rfl (flt (by decide : ¬ ((256 : Int32) < (256 : Int32)))).2.1 (by decide) (by decide) ?_
    show Steps p.tables e below (TL.setTop (mkF m 71 #[.val (.ref o0), .val (.int p1), .val (.int (256 : Int32))] [])) _
    exact XL.returnOut hx Bd.returns (hb hby d1_71) hr
  · show Q1 Z o0 p1 h0 n0 _ TL.heap _
    refine ⟨rfl, N9, Nat.le_trans Z0 ?_, EL, PL⟩
    rw [← hh]; exact XL.heapGrown

theorem d15_0 : decode prog_20_method_8_code 0 = .ok (.lload_n 1, 1) := by decide +kernel
theorem d15_1 : decode prog_20_method_8_code 1 = .ok (.aload_n 0, 1) := by decide +kernel
theorem d15_2 : decode prog_20_method_8_code 2 = .ok (.getfield 26, 3) := by decide +kernel
theorem d15_5 : decode prog_20_method_8_code 5 = .ok (.lushr, 1) := by decide +kernel
theorem d15_6 : decode prog_20_method_8_code 6 = .ok (.l2i, 1) := by decide +kernel
theorem d15_7 : decode prog_20_method_8_code 7 = .ok (.sipush 255, 3) := by decide +kernel
theorem d15_10 : decode prog_20_method_8_code 10 = .ok (.iand, 1) := by decide +kernel
theorem d15_11 : decode prog_20_method_8_code 11 = .ok (.ireturn, 1) := by decide +kernel
theorem ef_rm15 (m : MethodId) (o0 : Addr) (q1 : Int64) : entryFrame m #[(.ref o0), (.long q1)] 3 = mkF m 0 #[.val (.ref o0), .val (.long q1), .second] [] := by first | (simp [entryFrame, mkF, argsToLocals, Value.category]; done) | rfl
def Q15 (Z : State) (o0 : Addr) (q1 : Int64) (w : Int32) (h0 : Heap) (n0 : Nat) (v : Option Value) (h : Heap) (L : List Loc) : Prop := v = some (.int (own_part q1 w)) ∧ Fr n0 L ∧ h = h0
set_option maxRecDepth 65536 in
set_option maxHeartbeats 40000000 in
theorem rm15 (l : Launch) (Z : State) (a0 : Array Value) (hw : ∀ d ∈ tables_1, d.before a0 Z = true) (ws : List Jvm.Cond) (o0 : Addr) (q1 : Int64) (w : Int32) (h0 : Heap) (n0 : Nat) (Z0 : n0 ≤ h0.size) (F : Fld Z h0 o0 "shelfmark/Longs" "partShift" "I" (.int w)) :
    MetFree l (⟨"shelfmark/Longs", "part", "(J)I"⟩ : MethodName) (head1 (Jvm.Cond.code (⟨"shelfmark/Longs", "part", "(J)I"⟩ : MethodName) prog_20_method_8_code 3 (some .int) :: ws) ({ frames := 0, cells := 0, slots := 0, locals := 0 } : Room)) (fun a U => a = #[(.ref o0), (.long q1)] ∧ Z.Warmed39 U.vm ∧ U.heap = h0) (fun _ _ _ _ _ => True) (fun _ U o U' => ∃ v L, o = .returned v ∧ Q15 Z o0 q1 w h0 n0 v U'.heap L ∧ FrameEnd U o U' L ({ frames := 0, cells := 0, slots := 0, locals := 0 } : Room).cells ({ frames := 0, cells := 0, slots := 0, locals := 0 } : Room).slots) := by
  refine MetFree.of_bodySF (plainFor_of_name pn_0) hisR ?_
  intro p e s m args below meth c s₁ Bd hml0 hP hK
  obtain ⟨rfl, hZ, hh⟩ := hP
  have hx := Bd.exec
  have hby := Bd.bytes
  have hml : c.maxLocals = 3 := hml0
  have hown : s.vm.findClass "shelfmark/Longs" = some m.cls := findClass_of_methodNamed Bd.named
  have hnm := (name_of_methodNamed Bd.named Bd.method).1
  have X0 : Stand p l e ({ frames := 0, cells := 0, slots := 0, locals := 0 } : Room) s m #[(.ref o0), (.long q1)] below meth c s₁ [] 0 0 := Stand.of_body Bd
  have e0 : s₁.heap = h0 := by rw [← hh, Bd.state]; rfl
  have N0 := Fr.nil n0
  have pre0 : ∀ t, Steps p.tables e below (s₁.setTop (mkF m 0 #[.val (.ref o0), .val (.long q1), .second] [])) t → Steps p.tables e below (s₁.setTop (entryFrame m #[(.ref o0), (.long q1)] 3)) t := fun t k => castTop (ef_rm15 m o0 q1) k
  obtain ⟨T1, X1, e1, st1⟩ := getF X0 hx hZ hown (host := "") (Or.inl (hw _ (List.mem_of_getElem? (i := 45) rfl))) Via.refl e0 F (g := (mkF m 2 #[.val (.ref o0), .val (.long q1), .second] [(.ref o0), (.long q1)])) rfl rfl (hb hby d15_2)
  obtain ⟨fs, hr, hrun, hended, hW, hsame⟩ := X1.leave (v := some (.int ((((q1.toUInt64 >>> (w &&& 0x3f).toInt64.toUInt64).toInt64).toInt32) &&& (255 : Int32)))) (fun h => by rw [Bd.returns] at h; cases h)
  refine ⟨_, _, pre0 _ ?_, hrun, hended, _, _, rfl, ?_, ⟨_, rfl⟩, hW, hsame.mono (by decide) (by decide)⟩
  · show Steps p.tables e below (s₁.setTop (mkF m 0 #[.val (.ref o0), .val (.long q1), .second] [])) _
    refine XS.lloadN X0.here hx rfl (hb hby d15_0) rfl ?_
    show Steps p.tables e below (s₁.setTop (mkF m 1 #[.val (.ref o0), .val (.long q1), .second] [(.long q1)])) _
    refine XS.aloadN X0.here hx rfl (hb hby d15_1) rfl rfl ?_
    show Steps p.tables e below (s₁.setTop (mkF m 2 #[.val (.ref o0), .val (.long q1), .second] [(.ref o0), (.long q1)])) _
    refine st1 _ ?_
    show Steps p.tables e below (T1.setTop (mkF m 5 #[.val (.ref o0), .val (.long q1), .second] [(.int w), (.long q1)])) _
    refine XS.lushr X1.here hx rfl (hb hby d15_5) rfl ?_
    show Steps p.tables e below (T1.setTop (mkF m 6 #[.val (.ref o0), .val (.long q1), .second] [(.long ((q1.toUInt64 >>> (w &&& 0x3f).toInt64.toUInt64).toInt64))])) _
    refine XS.l2i X1.here hx rfl (hb hby d15_6) rfl ?_
    show Steps p.tables e below (T1.setTop (mkF m 7 #[.val (.ref o0), .val (.long q1), .second] [(.int (((q1.toUInt64 >>> (w &&& 0x3f).toInt64.toUInt64).toInt64).toInt32))])) _
    refine XS.sipush X1.here hx rfl (hb hby d15_7) ?_
    show Steps p.tables e below (T1.setTop (mkF m 10 #[.val (.ref o0), .val (.long q1), .second] [(.int (255 : Int32)), (.int (((q1.toUInt64 >>> (w &&& 0x3f).toInt64.toUInt64).toInt64).toInt32))])) _
    refine XS.iand X1.here hx rfl (hb hby d15_10) rfl ?_
    show Steps p.tables e below (T1.setTop (mkF m 11 #[.val (.ref o0), .val (.long q1), .second] [(.int ((((q1.toUInt64 >>> (w &&& 0x3f).toInt64.toUInt64).toInt64).toInt32) &&& (255 : Int32)))])) _
    exact retI X1 hx Bd.returns (hb hby d15_11) hr
  · show Q15 Z o0 q1 w h0 n0 _ T1.heap _
    rw [e1]
    exact ⟨rfl, N0, rfl⟩
theorem ef_rm0 (m : MethodId) (p0 : Int32) (p1 : Int32) (q2 : Int64) : entryFrame m #[(.int p0), (.int p1), (.long q2)] maxLocals = mkF m 0 #[.val (.int p0), .val (.int p1), .val (.long q2), .second, .unset, .unset, .unset, .unset, .unset, .unset] [] := by first | (simp [entryFrame, mkF, argsToLocals, Value.category, maxLocals]; done) | rfl
def Q0 (Z : State) (p0 : Int32) (p1 : Int32) (q2 : Int64) (dc : Addr) (Edc : Cell) (mir : Addr) (cAR : ClassId) (cO : ClassId) (kO : Class) (h0 : Heap) (n0 : Nat) (v : Option Value) (h : Heap) (L : List Loc) : Prop := v = some (.int (1 : Int32)) ∧ Fr n0 L
set_option maxRecDepth 65536 in
set_option maxHeartbeats 40000000 in
theorem rm0 (l : Launch) (Z : State) (a0 : Array Value) (hw : ∀ d ∈ tables_1, d.before a0 Z = true) (ws : List Jvm.Cond) (p0 : Int32) (p1 : Int32) (q2 : Int64) (dc : Addr) (Edc : Cell) (mir : Addr) (cAR : ClassId) (cO : ClassId) (kO : Class) (h0 : Heap) (n0 : Nat) (Z0 : n0 ≤ h0.size) (O0 : Old Z n0 h0) (DZ : Jvm.Free.ALB.DfArr dc Edc Z) (hAR : Z.vm.findClass "java/util/Arrays" = some cAR) (hM1 : Z.vm.findClass "[Ljava/lang/Object;" = some cO) (hM2 : Z.vm.classes[cO]? = some kO) (hM3 : kO.mirror = some mir) :
    MetFree l x (head1 (Jvm.Cond.code x code maxLocals ret :: ws) room_1) (fun a U => a = #[(.int p0), (.int p1), (.long q2)] ∧ Z.Warmed39 U.vm ∧ U.heap = h0) (fun _ _ _ _ _ => True) (fun _ U o U' => ∃ v L, o = .returned v ∧ Q0 Z p0 p1 q2 dc Edc mir cAR cO kO h0 n0 v U'.heap L ∧ FrameEnd U o U' L room_1.cells room_1.slots) := by
  refine MetFree.of_bodySF (plainFor_of_name pn_1) hisR ?_
  intro p e s m args below meth c s₁ Bd hml0 hP hK
  obtain ⟨rfl, hZ, hh⟩ := hP
  have hx := Bd.exec
  have hby := Bd.bytes
  have hml : c.maxLocals = 10 := hml0
  have hown : s.vm.findClass "shelfmark/LongsPartPinLaw" = some m.cls := findClass_of_methodNamed Bd.named
  have hnm := (name_of_methodNamed Bd.named Bd.method).1
  have X0 : Stand p l e room_1 s m #[(.int p0), (.int p1), (.long q2)] below meth c s₁ [] 0 0 := Stand.of_body Bd
  have e0 : s₁.heap = h0 := by rw [← hh, Bd.state]; rfl
  have N0 := Fr.nil n0
  have pre0 : ∀ t, Steps p.tables e below (s₁.setTop (mkF m 0 #[.val (.int p0), .val (.int p1), .val (.long q2), .second, .unset, .unset, .unset, .unset, .unset, .unset] [])) t → Steps p.tables e below (s₁.setTop (entryFrame m #[(.int p0), (.int p1), (.long q2)] maxLocals)) t := fun t k => castTop (ef_rm0 m p0 p1 q2) k
  obtain ⟨sh, hm1, pre2⟩ : ∃ (sh : Int32), (0 ≤ sh.toInt ∧ sh.toInt < 57) ∧ ∀ t, Steps p.tables e below (s₁.setTop (mkF m 7 #[.val (.int p0), .val (.int p1), .val (.long q2), .second, .unset, .unset, .unset, .unset, .unset, .unset] [(.int sh)])) t → Steps p.tables e below (s₁.setTop (entryFrame m #[(.int p0), (.int p1), (.long q2)] maxLocals)) t := by
    refine ⟨((p0 &&& (2147483647 : Int32)) % (57 : Int32)), own_sh _, fun t kt => ?_⟩
    refine pre0 _ ?_
    show Steps p.tables e below (s₁.setTop (mkF m 0 #[.val (.int p0), .val (.int p1), .val (.long q2), .second, .unset, .unset, .unset, .unset, .unset, .unset] [])) _
    refine XS.iloadN X0.here hx rfl (hb hby at_0) rfl ?_
    show Steps p.tables e below (s₁.setTop (mkF m 1 #[.val (.int p0), .val (.int p1), .val (.long q2), .second, .unset, .unset, .unset, .unset, .unset, .unset] [(.int p0)])) _
    refine X0.ldcInt hx hown (mvT hZ (hw _ (List.mem_of_getElem? (i := 0) rfl))) (g := (mkF m 1 #[.val (.int p0), .val (.int p1), .val (.long q2), .second, .unset, .unset, .unset, .unset, .unset, .unset] [(.int p0)])) rfl (hb hby at_1) _ ?_
    show Steps p.tables e below (s₁.setTop (mkF m 3 #[.val (.int p0), .val (.int p1), .val (.long q2), .second, .unset, .unset, .unset, .unset, .unset, .unset] [(.int (2147483647 : Int32)), (.int p0)])) _
    refine XS.iand X0.here hx rfl (hb hby at_3) rfl ?_
    show Steps p.tables e below (s₁.setTop (mkF m 4 #[.val (.int p0), .val (.int p1), .val (.long q2), .second, .unset, .unset, .unset, .unset, .unset, .unset] [(.int (p0 &&& (2147483647 : Int32)))])) _
    refine XS.bipush X0.here hx rfl (hb hby at_4) ?_
    show Steps p.tables e below (s₁.setTop (mkF m 6 #[.val (.int p0), .val (.int p1), .val (.long q2), .second, .unset, .unset, .unset, .unset, .unset, .unset] [(.int (57 : Int32)), (.int (p0 &&& (2147483647 : Int32)))])) _
    refine iremM X0 hx rfl (hb hby at_6) rfl (by decide) ?_
    exact kt
  have pre3 : ∀ t, Steps p.tables e below (s₁.setTop (mkF m 9 #[.val (.int p0), .val (.int p1), .val (.long q2), .second, .val (.int sh), .unset, .unset, .unset, .unset, .unset] [])) t → Steps p.tables e below (s₁.setTop (entryFrame m #[(.int p0), (.int p1), (.long q2)] maxLocals)) t := by
    intro t kt
    refine pre2 _ ?_
    show Steps p.tables e below (s₁.setTop (mkF m 7 #[.val (.int p0), .val (.int p1), .val (.long q2), .second, .unset, .unset, .unset, .unset, .unset, .unset] [(.int sh)])) _
    refine XS.istore X0.here hx rfl (hb hby at_7) rfl (l' := #[.val (.int p0), .val (.int p1), .val (.long q2), .second, .val (.int sh), .unset, .unset, .unset, .unset, .unset]) rfl ?_
    exact kt
  obtain ⟨by_, hm4, pre5⟩ : ∃ (by_ : Int32), (0 ≤ by_.toInt ∧ by_.toInt < 256) ∧ ∀ t, Steps p.tables e below (s₁.setTop (mkF m 14 #[.val (.int p0), .val (.int p1), .val (.long q2), .second, .val (.int sh), .unset, .unset, .unset, .unset, .unset] [(.int by_)])) t → Steps p.tables e below (s₁.setTop (entryFrame m #[(.int p0), (.int p1), (.long q2)] maxLocals)) t := by
    refine ⟨(p1 &&& (255 : Int32)), own_by _, fun t kt => ?_⟩
    refine pre3 _ ?_
    show Steps p.tables e below (s₁.setTop (mkF m 9 #[.val (.int p0), .val (.int p1), .val (.long q2), .second, .val (.int sh), .unset, .unset, .unset, .unset, .unset] [])) _
    refine XS.iloadN X0.here hx rfl (hb hby at_9) rfl ?_
    show Steps p.tables e below (s₁.setTop (mkF m 10 #[.val (.int p0), .val (.int p1), .val (.long q2), .second, .val (.int sh), .unset, .unset, .unset, .unset, .unset] [(.int p1)])) _
    refine XS.sipush X0.here hx rfl (hb hby at_10) ?_
    show Steps p.tables e below (s₁.setTop (mkF m 13 #[.val (.int p0), .val (.int p1), .val (.long q2), .second, .val (.int sh), .unset, .unset, .unset, .unset, .unset] [(.int (255 : Int32)), (.int p1)])) _
    refine XS.iand X0.here hx rfl (hb hby at_13) rfl ?_
    exact kt
  obtain ⟨T6, h6, X6, e6, E6, A6, D6, -, st6⟩ := newO X0 hx hZ hown (hw _ (List.mem_of_getElem? (i := 3) rfl)) (hw _ (List.mem_of_getElem? (i := 4) rfl)) (hw _ (List.mem_of_getElem? (i := 5) rfl)) e0 (g := (mkF m 37 #[.val (.int p0), .val (.int p1), .val (.long q2), .second, .val (.int sh), .val (.int by_), .val (.long (own_v q2 sh by_)), .second, .unset, .unset] [])) rfl (hb hby at_37) (by decide) (by decide)
  obtain ⟨b6, g6⟩ : ∃ z, z = h0.size := ⟨_, rfl⟩
  rw [← g6] at A6 D6 st6
  have gn6 : n0 ≤ b6 := Nat.le_trans Z0 (Nat.le_of_eq g6.symm)
  have Z7 : n0 ≤ h6.size := Nat.le_trans Z0 E6.1
  have Fn6_37 : Fld Z h6 b6 "shelfmark/Longs" "chunks" "Ljava/util/List;" .null := D6 (Or.inr (hw _ (List.mem_of_getElem? (i := 37) rfl))) (ty := (.object "java/util/List")) (by decide)
  have Fn6_40 : Fld Z h6 b6 "shelfmark/Longs" "sizes" "[I" .null := D6 (Or.inr (hw _ (List.mem_of_getElem? (i := 40) rfl))) (ty := (.array .int)) (by decide)
  have Fn6_44 : Fld Z h6 b6 "shelfmark/Longs" "parts" "[[J" .null := D6 (Or.inr (hw _ (List.mem_of_getElem? (i := 44) rfl))) (ty := (.array (.array .long))) (by decide)
  have Fn6_46 : Fld Z h6 b6 "shelfmark/Longs" "partShift" "I" (.int (0 : Int32)) := D6 (Or.inr (hw _ (List.mem_of_getElem? (i := 46) rfl))) (ty := .int) (by decide)
  have f9 := (O0.ext E6)
  obtain ⟨_, _, ⟨T8, L8, k8, n8⟩, -, X8, ⟨Lc8, hQ8, l8, y8, z8⟩, st8⟩ := X6.specialBack hx (y := (⟨"shelfmark/Longs", "<init>", "(I)V"⟩ : MethodName)) rfl hown (mvT hZ (hw _ (List.mem_of_getElem? (i := 6) rfl))) (mvT hZ (hw _ (List.mem_of_getElem? (i := 7) rfl))) (mvT hZ (hw _ (List.mem_of_getElem? (i := 8) rfl))) (by decide) (backOf (W := 1) (rm1 l Z a0 hw [] b6 sh _ _ _ _ dc Edc mir cAR cO kO h6 n0 Z7 A6 gn6 Fn6_37 Fn6_40 Fn6_44 Fn6_46 f9 DZ hAR hM1 hM2 hM3) hZ (hw _ (List.mem_of_getElem? (i := 8) rfl)) (hw _ (List.mem_of_getElem? (i := 5) rfl)) (by decide) (by decide)) (g := (mkF m 43 #[.val (.int p0), .val (.int p1), .val (.long q2), .second, .val (.int sh), .val (.int by_), .val (.long (own_v q2 sh by_)), .second, .unset, .unset] [(.int sh), (.ref b6), (.ref b6)])) rfl (by rw [hml]; rfl) (Steps.refl _) (a := b6) (argsL := [(.int sh)]) (rest := [(.ref b6)]) (lenOf pd_0 rfl) rfl (by show 2 * 0 + _ ≤ _; exact Nat.le_of_eq rfl) (hb hby at_43) (fun _ _ => ⟨rfl, e6, (by decide : 1 + 270 ≤ _), (by decide : 4 + 2400 ≤ _)⟩)
  dsimp only [Pt.U, Pt.locs, Pt.cells, Pt.slots] at X8 l8 y8 z8 st8 hQ8
  subst l8 y8 z8
  obtain ⟨rfl, N8q, Z8s, A8x, F8x⟩ := hQ8
  have N8 := Fr.app N0 N8q
  obtain ⟨cq10, kq10, q10a, q10b, q10c⟩ := isOf hZ rfl A8x
  obtain ⟨_, _, ⟨T10, L10, k10, n10⟩, -, X10, ⟨Lc10, hQ10, l10, y10, z10⟩, st10⟩ := X8.virtualBack hx (y := (⟨"shelfmark/Longs", "part", "(J)I"⟩ : MethodName)) (z := (⟨"shelfmark/Longs", "part", "(J)I"⟩ : MethodName)) hown (mvT hZ (hw _ (List.mem_of_getElem? (i := 110) rfl))) (mvT hZ (hw _ (List.mem_of_getElem? (i := 111) rfl))) (notFace_of_selects (args := #[]) (mvT hZ (hw _ (List.mem_of_getElem? (i := 113) rfl)))) (mvT hZ (hw _ (List.mem_of_getElem? (i := 113) rfl))) (mvT hZ (hw _ (List.mem_of_getElem? (i := 112) rfl))) (by decide) (backOf (W := 0) (rm15 l Z a0 hw [] b6 (own_v q2 sh by_) sh T8.heap n0 Z8s F8x) hZ (hw _ (List.mem_of_getElem? (i := 114) rfl)) (hw _ (List.mem_of_getElem? (i := 5) rfl)) (by decide) (by decide)) q10a q10c (g := (mkF m 52 #[.val (.int p0), .val (.int p1), .val (.long q2), .second, .val (.int sh), .val (.int by_), .val (.long (own_v q2 sh by_)), .second, .val (.ref b6), .unset] [(.long (own_v q2 sh by_)), (.ref b6)])) rfl (by rw [hml]; rfl) (Steps.refl _) (argsL := [(.long (own_v q2 sh by_))]) (rest := []) (lenOf pd_1 rfl) rfl (by show 2 * 0 + _ ≤ _; exact Nat.le_of_eq rfl) (hb hby at_52) (fun _ _ => ⟨rfl, rfl, (by decide : 271 + 0 ≤ _), (by decide : 2404 + 0 ≤ _)⟩)
  dsimp only [Pt.U, Pt.locs, Pt.cells, Pt.slots] at X10 l10 y10 z10 st10 hQ10
  subst l10 y10 z10
  obtain ⟨rfl, N10q, e10q⟩ := hQ10
  have N10 := Fr.app N8 N10q
  obtain ⟨fs, hr, hrun, hended, hW, hsame⟩ := X10.leave (v := some (.int (1 : Int32))) (fun h => by rw [Bd.returns] at h; cases h)
  refine ⟨_, _, pre5 _ ?_, hrun, hended, _, _, rfl, ?_, ⟨_, rfl⟩, hW, hsame.mono (by decide) (by decide)⟩
  · show Steps p.tables e below (s₁.setTop (mkF m 14 #[.val (.int p0), .val (.int p1), .val (.long q2), .second, .val (.int sh), .unset, .unset, .unset, .unset, .unset] [(.int by_)])) _
    refine XS.istore X0.here hx rfl (hb hby at_14) rfl (l' := #[.val (.int p0), .val (.int p1), .val (.long q2), .second, .val (.int sh), .val (.int by_), .unset, .unset, .unset, .unset]) rfl ?_
    show Steps p.tables e below (s₁.setTop (mkF m 16 #[.val (.int p0), .val (.int p1), .val (.long q2), .second, .val (.int sh), .val (.int by_), .unset, .unset, .unset, .unset] [])) _
    refine XS.lloadN X0.here hx rfl (hb hby at_16) rfl ?_
    show Steps p.tables e below (s₁.setTop (mkF m 17 #[.val (.int p0), .val (.int p1), .val (.long q2), .second, .val (.int sh), .val (.int by_), .unset, .unset, .unset, .unset] [(.long q2)])) _
    refine X0.ldc2Long hx hown (mvT hZ (hw _ (List.mem_of_getElem? (i := 1) rfl))) (g := (mkF m 17 #[.val (.int p0), .val (.int p1), .val (.long q2), .second, .val (.int sh), .val (.int by_), .unset, .unset, .unset, .unset] [(.long q2)])) rfl (hb hby at_17) _ ?_
    show Steps p.tables e below (s₁.setTop (mkF m 20 #[.val (.int p0), .val (.int p1), .val (.long q2), .second, .val (.int sh), .val (.int by_), .unset, .unset, .unset, .unset] [(.long (255 : Int64)), (.long q2)])) _
    refine XS.iload X0.here hx rfl (hb hby at_20) rfl ?_
    show Steps p.tables e below (s₁.setTop (mkF m 22 #[.val (.int p0), .val (.int p1), .val (.long q2), .second, .val (.int sh), .val (.int by_), .unset, .unset, .unset, .unset] [(.int sh), (.long (255 : Int64)), (.long q2)])) _
    refine XS.lshl X0.here hx rfl (hb hby at_22) rfl ?_
    show Steps p.tables e below (s₁.setTop (mkF m 23 #[.val (.int p0), .val (.int p1), .val (.long q2), .second, .val (.int sh), .val (.int by_), .unset, .unset, .unset, .unset] [(.long ((255 : Int64) <<< (sh &&& 0x3f).toInt64)), (.long q2)])) _
    refine X0.ldc2Long hx hown (mvT hZ (hw _ (List.mem_of_getElem? (i := 2) rfl))) (g := (mkF m 23 #[.val (.int p0), .val (.int p1), .val (.long q2), .second, .val (.int sh), .val (.int by_), .unset, .unset, .unset, .unset] [(.long ((255 : Int64) <<< (sh &&& 0x3f).toInt64)), (.long q2)])) rfl (hb hby at_23) _ ?_
    show Steps p.tables e below (s₁.setTop (mkF m 26 #[.val (.int p0), .val (.int p1), .val (.long q2), .second, .val (.int sh), .val (.int by_), .unset, .unset, .unset, .unset] [(.long (-1 : Int64)), (.long ((255 : Int64) <<< (sh &&& 0x3f).toInt64)), (.long q2)])) _
    refine XS.lxor X0.here hx rfl (hb hby at_26) rfl ?_
    show Steps p.tables e below (s₁.setTop (mkF m 27 #[.val (.int p0), .val (.int p1), .val (.long q2), .second, .val (.int sh), .val (.int by_), .unset, .unset, .unset, .unset] [(.long (((255 : Int64) <<< (sh &&& 0x3f).toInt64) ^^^ (-1 : Int64))), (.long q2)])) _
    refine XS.land X0.here hx rfl (hb hby at_27) rfl ?_
    show Steps p.tables e below (s₁.setTop (mkF m 28 #[.val (.int p0), .val (.int p1), .val (.long q2), .second, .val (.int sh), .val (.int by_), .unset, .unset, .unset, .unset] [(.long (q2 &&& (((255 : Int64) <<< (sh &&& 0x3f).toInt64) ^^^ (-1 : Int64))))])) _
    refine XS.iload X0.here hx rfl (hb hby at_28) rfl ?_
    show Steps p.tables e below (s₁.setTop (mkF m 30 #[.val (.int p0), .val (.int p1), .val (.long q2), .second, .val (.int sh), .val (.int by_), .unset, .unset, .unset, .unset] [(.int by_), (.long (q2 &&& (((255 : Int64) <<< (sh &&& 0x3f).toInt64) ^^^ (-1 : Int64))))])) _
    refine XS.i2l X0.here hx rfl (hb hby at_30) rfl ?_
    show Steps p.tables e below (s₁.setTop (mkF m 31 #[.val (.int p0), .val (.int p1), .val (.long q2), .second, .val (.int sh), .val (.int by_), .unset, .unset, .unset, .unset] [(.long (by_.toInt64)), (.long (q2 &&& (((255 : Int64) <<< (sh &&& 0x3f).toInt64) ^^^ (-1 : Int64))))])) _
    refine XS.iload X0.here hx rfl (hb hby at_31) rfl ?_
    show Steps p.tables e below (s₁.setTop (mkF m 33 #[.val (.int p0), .val (.int p1), .val (.long q2), .second, .val (.int sh), .val (.int by_), .unset, .unset, .unset, .unset] [(.int sh), (.long (by_.toInt64)), (.long (q2 &&& (((255 : Int64) <<< (sh &&& 0x3f).toInt64) ^^^ (-1 : Int64))))])) _
    refine XS.lshl X0.here hx rfl (hb hby at_33) rfl ?_
    show Steps p.tables e below (s₁.setTop (mkF m 34 #[.val (.int p0), .val (.int p1), .val (.long q2), .second, .val (.int sh), .val (.int by_), .unset, .unset, .unset, .unset] [(.long ((by_.toInt64) <<< (sh &&& 0x3f).toInt64)), (.long (q2 &&& (((255 : Int64) <<< (sh &&& 0x3f).toInt64) ^^^ (-1 : Int64))))])) _
    refine XS.lor X0.here hx rfl (hb hby at_34) rfl ?_
    show Steps p.tables e below (s₁.setTop (mkF m 35 #[.val (.int p0), .val (.int p1), .val (.long q2), .second, .val (.int sh), .val (.int by_), .unset, .unset, .unset, .unset] [(.long (own_v q2 sh by_))])) _
    refine XS.lstore X0.here hx rfl (hb hby at_35) rfl (l' := #[.val (.int p0), .val (.int p1), .val (.long q2), .second, .val (.int sh), .val (.int by_), .val (.long (own_v q2 sh by_)), .second, .unset, .unset]) rfl ?_
    show Steps p.tables e below (s₁.setTop (mkF m 37 #[.val (.int p0), .val (.int p1), .val (.long q2), .second, .val (.int sh), .val (.int by_), .val (.long (own_v q2 sh by_)), .second, .unset, .unset] [])) _
    refine st6 _ ?_
    show Steps p.tables e below (T6.setTop (mkF m 40 #[.val (.int p0), .val (.int p1), .val (.long q2), .second, .val (.int sh), .val (.int by_), .val (.long (own_v q2 sh by_)), .second, .unset, .unset] [(.ref b6)])) _
    refine XS.dup X6.here hx rfl (hb hby at_40) rfl rfl ?_
    show Steps p.tables e below (T6.setTop (mkF m 41 #[.val (.int p0), .val (.int p1), .val (.long q2), .second, .val (.int sh), .val (.int by_), .val (.long (own_v q2 sh by_)), .second, .unset, .unset] [(.ref b6), (.ref b6)])) _
    refine XS.iload X6.here hx rfl (hb hby at_41) rfl ?_
    show Steps p.tables e below (T6.setTop (mkF m 43 #[.val (.int p0), .val (.int p1), .val (.long q2), .second, .val (.int sh), .val (.int by_), .val (.long (own_v q2 sh by_)), .second, .unset, .unset] [(.int sh), (.ref b6), (.ref b6)])) _
    refine st8.trans ?_
    show Steps p.tables e below (T8.setTop (mkF m 46 #[.val (.int p0), .val (.int p1), .val (.long q2), .second, .val (.int sh), .val (.int by_), .val (.long (own_v q2 sh by_)), .second, .unset, .unset] [(.ref b6)])) _
    refine XS.astore X8.here hx rfl (hb hby at_46) rfl rfl (l' := #[.val (.int p0), .val (.int p1), .val (.long q2), .second, .val (.int sh), .val (.int by_), .val (.long (own_v q2 sh by_)), .second, .val (.ref b6), .unset]) rfl ?_
    show Steps p.tables e below (T8.setTop (mkF m 48 #[.val (.int p0), .val (.int p1), .val (.long q2), .second, .val (.int sh), .val (.int by_), .val (.long (own_v q2 sh by_)), .second, .val (.ref b6), .unset] [])) _
    refine XS.aload X8.here hx rfl (hb hby at_48) rfl rfl ?_
    show Steps p.tables e below (T8.setTop (mkF m 50 #[.val (.int p0), .val (.int p1), .val (.long q2), .second, .val (.int sh), .val (.int by_), .val (.long (own_v q2 sh by_)), .second, .val (.ref b6), .unset] [(.ref b6)])) _
    refine XS.lload X8.here hx rfl (hb hby at_50) rfl ?_
    show Steps p.tables e below (T8.setTop (mkF m 52 #[.val (.int p0), .val (.int p1), .val (.long q2), .second, .val (.int sh), .val (.int by_), .val (.long (own_v q2 sh by_)), .second, .val (.ref b6), .unset] [(.long (own_v q2 sh by_)), (.ref b6)])) _
    refine st10.trans ?_
    show Steps p.tables e below (T10.setTop (mkF m 55 #[.val (.int p0), .val (.int p1), .val (.long q2), .second, .val (.int sh), .val (.int by_), .val (.long (own_v q2 sh by_)), .second, .val (.ref b6), .unset] [(.int (own_part (own_v q2 sh by_) sh))])) _
    refine XS.istore X10.here hx rfl (hb hby at_55) rfl (l' := #[.val (.int p0), .val (.int p1), .val (.long q2), .second, .val (.int sh), .val (.int by_), .val (.long (own_v q2 sh by_)), .second, .val (.ref b6), .val (.int (own_part (own_v q2 sh by_) sh))]) rfl ?_
    show Steps p.tables e below (T10.setTop (mkF m 57 #[.val (.int p0), .val (.int p1), .val (.long q2), .second, .val (.int sh), .val (.int by_), .val (.long (own_v q2 sh by_)), .second, .val (.ref b6), .val (.int (own_part (own_v q2 sh by_) sh))] [])) _
    refine XS.iload X10.here hx rfl (hb hby at_57) rfl ?_
    show Steps p.tables e below (T10.setTop (mkF m 59 #[.val (.int p0), .val (.int p1), .val (.long q2), .second, .val (.int sh), .val (.int by_), .val (.long (own_v q2 sh by_)), .second, .val (.ref b6), .val (.int (own_part (own_v q2 sh by_) sh))] [(.int (own_part (own_v q2 sh by_) sh))])) _
    refine XS.iload X10.here hx rfl (hb hby at_59) rfl ?_
    show Steps p.tables e below (T10.setTop (mkF m 61 #[.val (.int p0), .val (.int p1), .val (.long q2), .second, .val (.int sh), .val (.int by_), .val (.long (own_v q2 sh by_)), .second, .val (.ref b6), .val (.int (own_part (own_v q2 sh by_) sh))] [(.int by_), (.int (own_part (own_v q2 sh by_) sh))])) _
    refine XS.icmpNo X10.here hx rfl (hb hby at_61) rfl (teq (own_law q2 sh by_ hm1 hm4)).2 ?_
    show Steps p.tables e below (T10.setTop (mkF m 64 #[.val (.int p0), .val (.int p1), .val (.long q2), .second, .val (.int sh), .val (.int by_), .val (.long (own_v q2 sh by_)), .second, .val (.ref b6), .val (.int (own_part (own_v q2 sh by_) sh))] [])) _
    refine XS.iconst X10.here hx rfl (hb hby at_64) ?_
    show Steps p.tables e below (T10.setTop (mkF m 65 #[.val (.int p0), .val (.int p1), .val (.long q2), .second, .val (.int sh), .val (.int by_), .val (.long (own_v q2 sh by_)), .second, .val (.ref b6), .val (.int (own_part (own_v q2 sh by_) sh))] [(.int (1 : Int32))])) _
    refine XS.goto X10.here hx rfl (pc0 := 65) (pc' := 69) rfl (hb hby at_65) (by decide) (by decide) ?_
    show Steps p.tables e below (T10.setTop (mkF m 69 #[.val (.int p0), .val (.int p1), .val (.long q2), .second, .val (.int sh), .val (.int by_), .val (.long (own_v q2 sh by_)), .second, .val (.ref b6), .val (.int (own_part (own_v q2 sh by_) sh))] [(.int (1 : Int32))])) _
    exact retN X10 hx (t := .boolean) Bd.returns (by simp) (hb hby at_69) hr
  · show Q0 Z p0 p1 q2 dc Edc mir cAR cO kO h0 n0 _ T10.heap _
    rw [e10q]
    exact ⟨rfl, N10⟩
set_option maxRecDepth 65536 in
set_option maxHeartbeats 40000000 in
theorem comes_1 {Post : Tables → Env → Array Value → State → Outcome → State → Prop} (hpost : ∀ tb e args s v u, (limb_1_1.after args s (.returned v) u = true ∧ limb_1_2.after args s (.returned v) u = true ∧ True) → FrameEnd s (.returned v) u (Jvm.fieldLocs frame_1_writes args s ++ Jvm.arrayLocs frame_1_arrays args s ++ Jvm.staticLocs frame_1_statics s) 552 4864 → Post tb e args s (.returned v) u) :
    ArmFor flags0 classFile x code maxLocals ret World_1 tables_1 room_1 Calls_1 rest_1 Pre_1 Post := by
  intro l hfl _ _ p e ha hc hk s m args below hf hA hF happ hP
  obtain ⟨hcalls, hrest, hpre⟩ := hP
  obtain ⟨-, -, -, hnamed, -, -, -, hat⟩ := (Spec.applies_iff hf).mp happ
  obtain ⟨hg, hn⟩ := and_e (Cond.before_iff.mp (show (Jvm.Cond.and given_1 narrow_1).before args s = true from hpre))
  obtain ⟨g1, g2⟩ := and_e hg
  obtain ⟨g3, g4⟩ := and_e g2
  obtain ⟨g5, g6⟩ := and_e g4
  obtain ⟨w0, w1, w2, rfl⟩ : ∃ w0 w1 w2 : Value, args = #[w0, w1, w2] := by
    have hs : args.size = 3 := by simpa [Cond.value, given_1] using g1
    obtain ⟨L⟩ := args
    match L, hs with
    | [w0, w1, w2], _ => exact ⟨w0, w1, w2, rfl⟩
  have hw := fun d (hd : d ∈ tables_1) => atoms_spec (ws := Jvm.Cond.code x code maxLocals ret :: tables_1) hat d (List.mem_cons_of_mem _ hd)
  have hfit : Fit s := fun {y c} hc i hi => by
    obtain ⟨ha, rfl⟩ := Array.getElem?_eq_some_iff.mp hc
    have q := List.all_eq_true.mp ((Array.all_eq_true_iff_forall_mem.mp hF) _ (Array.getElem_mem ha)) i (List.mem_range.mpr hi)
    simpa [Array.getElem?_eq_getElem hi] using q
  obtain ⟨hsets, hown0⟩ := atoms_of _ (rest_1_c_eq ▸ (show rest_1_c.before _ s = true from hrest))
  have hr0 := Cond.before_iff.mp hown0
  obtain ⟨i0, ei0⟩ := is_v g3
  obtain rfl : w0 = (.int i0) := Option.some.inj ei0
  obtain ⟨i1, ei1⟩ := is_v g5
  obtain rfl : w1 = (.int i1) := Option.some.inj ei1
  obtain ⟨i2, ei2⟩ := isL_v g6
  obtain rfl : w2 = (.long i2) := Option.some.inj ei2
  obtain ⟨cO, kO, mir, hM1, hM2, hM3⟩ := hcalls.1
  obtain ⟨dc, Edc, DZ, -⟩ := Jvm.Free.ALB.DfArr.of_set (s := s) (fun w hm => hsets w (own_set ▸ hm))
  obtain ⟨cAR, hAR⟩ : ∃ c, s.vm.findClass "java/util/Arrays" = some c := by
    have w := hw _ (List.mem_of_getElem? (i := 90) rfl)
    cases hc : s.vm.findClass "java/util/Arrays" with
    | some c => exact ⟨c, rfl⟩
    | none => simp [Cond.before, Cond.holds, Cond.value, hc] at w
  obtain ⟨n, o, h1, h2, h3, _, L, rfl, ⟨rfl, N⟩, hq⟩ := rm0 l s _ hw tables_1 i0 i1 i2 dc Edc mir cAR cO kO s.heap s.heap.size (Nat.le_refl _) (Old.start s) DZ hAR hM1 hM2 hM3.1 p e ha hc hk s m _ below hf ((Spec.applies_iff_loose hf).mp happ).1 ⟨rfl, State.Warmed39.refl s, rfl⟩ trivial
  refine ⟨n, _, h1, h2, h3, hpost _ _ _ _ _ _ ⟨Cond.after_iff.mpr rfl, Cond.after_iff.mpr (eq_i res_at (Term.int_eval (1)) rfl), trivial⟩ ⟨hq.1, hq.2.1, (hq.2.2.sift fun y hy => Or.inr (N y hy)).mono (by decide) (by decide)⟩⟩
theorem main_1_1 : Claimed_1_1 := comes_1 fun _ _ _ _ _ _ h hF => ⟨h.1, hF⟩
theorem main_1_2 : Claimed_1_2 := comes_1 fun _ _ _ _ _ _ h hF => ⟨h.2.1, hF⟩
end Jvm.Pilot.@@N@@
namespace Jvm.Pilot.@@N@@
open Jvm Jvm.ClassFile Sem Op Lib Jvm.Free Jvm.Stand Jvm.Pilot.@@N@@.Jvm.D
/-! MADE BY PROGRAM (witnessworld.py) out of the Statement's table words and the real class files: 23 classes; the members and pool entries that the words name. The judged class is class 1, her method 1. -/
namespace start1
open Jvm.ClassFile
def u (s : String) : CpInfo := .utf8 (stringToUtf16 s)
/-- a pool by its gaps: so many unusable entries, then the entry; so many at the end -/
def gap : Nat → List CpInfo → List CpInfo
  | 0, r => r
  | n + 1, r => .unusable :: gap n r
def poolList (es : List (Nat × CpInfo)) (last : Nat) : List CpInfo := es.foldr (fun e r => gap e.1 (e.2 :: r)) (gap last [])
def pool (es : List (Nat × CpInfo)) (last : Nat) : Array CpInfo := ⟨poolList es last⟩
def fileOf (pool : Array CpInfo) (this : Nat) (attrs : Array Attribute := #[]) (ms : Array MethodInfo := #[]) (fl : Nat := 33) (sup : Nat := 0) (ifs : Array Nat := #[]) (fds : Array FieldInfo := #[]) : ClassFile where
  minorVersion := 0
  majorVersion := 65
  constantPool := pool
  accessFlags := fl
  thisClass := this
  superClass := sup
  interfaces := ifs
  fields := fds
  methods := ms
  attributes := attrs
def plain (name : String) (sup : Option ClassId) : Class where
  name := name
  kind := .ordinary
  loader := none
  accessFlags := 33
  super := sup
  interfaces := #[]
  cf := none
  fields := #[]
  methods := #[]
  instanceTypes := #[]
  staticTypes := #[]
  resolved := #[]
  callSites := []
  init := .initialized
  statics := none
  mirror := none

def pool0 : Array CpInfo := pool [(5, u "<init>"), (0, u "()V"), (1, .class_ 10), (1, u "java/lang/Object"), (0, u "getClass"), (0, u "()Ljava/lang/Class;")] 111

def k0c0 : Code := { maxStack := 0, maxLocals := 1, code := object_method_1_code, exceptionTable := #[], attributes := #[] }
def k0m0 : Method := { name := "<init>", desc := "()V", sig := { parameters := [], returnType := none }, accessFlags := 1, code := some k0c0 }
def k0m1 : Method := { name := "getClass", desc := "()Ljava/lang/Class;", sig := { parameters := [], returnType := some (.object "java/lang/Class") }, accessFlags := 273, code := none }
/-- java/lang/Object -/
def k0 : Class := { plain "java/lang/Object" none with
  accessFlags := 33
  interfaces := #[]
  cf := some (fileOf pool0 8 #[] #[{ accessFlags := 1, nameIndex := 5, descriptorIndex := 6, attributes := #[] }, { accessFlags := 273, nameIndex := 11, descriptorIndex := 12, attributes := #[] }] 33 0 #[] #[])
  fields := #[]
  methods := #[k0m0, k0m1]
  instanceTypes := #[]
  staticTypes := #[]
  resolved := Array.replicate 124 none
  statics := none }

def pool1 : Array CpInfo := pool [(2, .class_ 4), (1, u "java/lang/Object"), (0, u "<init>"), (0, u "()V"), (0, .integer 2147483647), (0, .long 255), (1, .long 18446744073709551615), (1, .class_ 13), (0, u "shelfmark/Longs"), (0, .methodref 12 15), (0, .nameAndType 5 16), (0, u "(I)V"), (0, .methodref 12 18), (0, .nameAndType 19 20), (0, u "part"), (0, u "(J)I"), (0, .class_ 22), (0, u "shelfmark/LongsPartPinLaw"), (2, u "law"), (0, u "(IIJ)Z")] 3

def k1m0 : Method := { name := "<init>", desc := "()V", sig := { parameters := [], returnType := none }, accessFlags := 1, code := none }
def k1c1 : Code := { maxStack := 6, maxLocals := 10, code := code, exceptionTable := #[], attributes := #[] }
def k1m1 : Method := { name := "law", desc := "(IIJ)Z", sig := { parameters := [.int, .int, .long], returnType := some .boolean }, accessFlags := 9, code := some k1c1 }
/-- shelfmark/LongsPartPinLaw -/
def k1 : Class := { plain "shelfmark/LongsPartPinLaw" (some 0) with
  accessFlags := 49
  interfaces := #[]
  cf := some (fileOf pool1 21 #[] #[{ accessFlags := 1, nameIndex := 5, descriptorIndex := 6, attributes := #[] }, { accessFlags := 9, nameIndex := 25, descriptorIndex := 26, attributes := #[] }] 49 2 #[] #[])
  fields := #[]
  methods := #[k1m0, k1m1]
  instanceTypes := #[]
  staticTypes := #[]
  resolved := Array.replicate 30 none
  statics := none }

def pool2 : Array CpInfo := pool [(1, .methodref 2 3), (0, .class_ 4), (0, .nameAndType 5 6), (0, u "java/lang/Object"), (0, u "<init>"), (0, u "()V"), (0, .class_ 8), (0, u "java/util/ArrayList"), (0, .methodref 7 3), (0, .fieldref 11 12), (0, .class_ 13), (0, .nameAndType 14 15), (0, u "shelfmark/Longs"), (0, u "chunks"), (0, u "Ljava/util/List;"), (0, .fieldref 11 17), (0, .nameAndType 18 19), (0, u "sizes"), (0, u "[I"), (0, .class_ 21), (0, u "[J"), (0, .fieldref 11 23), (0, .nameAndType 24 25), (0, u "parts"), (0, u "[[J"), (0, .fieldref 11 27), (0, .nameAndType 28 29), (0, u "partShift"), (0, u "I"), (0, .interfaceMethodref 31 32), (0, .class_ 33), (0, .nameAndType 34 35), (0, u "java/util/List"), (0, u "add"), (0, u "(Ljava/lang/Object;)Z"), (2, u "part"), (0, u "(J)I"), (53, .class_ 94), (0, u "shelfmark/Longs$1"), (6, u "PARTS"), (2, u "CHUNK"), (3, u "(I)V")] 47

def k2c0 : Code := { maxStack := 3, maxLocals := 3, code := prog_20_method_1_code, exceptionTable := #[], attributes := #[] }
def k2m0 : Method := { name := "<init>", desc := "(I)V", sig := { parameters := [.int], returnType := none }, accessFlags := 0, code := some k2c0 }
def k2c1 : Code := { maxStack := 3, maxLocals := 3, code := prog_20_method_8_code, exceptionTable := #[], attributes := #[] }
def k2m1 : Method := { name := "part", desc := "(J)I", sig := { parameters := [.long], returnType := some .int }, accessFlags := 0, code := some k2c1 }
/-- shelfmark/Longs -/
def k2 : Class := { plain "shelfmark/Longs" (some 0) with
  accessFlags := 48
  interfaces := #[]
  cf := some (fileOf pool2 11 #[.nestMembers #[93]] #[{ accessFlags := 0, nameIndex := 5, descriptorIndex := 108, attributes := #[] }, { accessFlags := 0, nameIndex := 38, descriptorIndex := 39, attributes := #[] }] 48 2 #[] #[{ accessFlags := 24, nameIndex := 101, descriptorIndex := 29, attributes := #[] }, { accessFlags := 26, nameIndex := 104, descriptorIndex := 29, attributes := #[] }, { accessFlags := 18, nameIndex := 28, descriptorIndex := 29, attributes := #[] }, { accessFlags := 18, nameIndex := 14, descriptorIndex := 15, attributes := #[] }, { accessFlags := 18, nameIndex := 18, descriptorIndex := 19, attributes := #[] }, { accessFlags := 18, nameIndex := 24, descriptorIndex := 25, attributes := #[] }])
  fields := #[{ name := "PARTS", type := .int, accessFlags := 24, slot := 0, constantValue := 0 }, { name := "CHUNK", type := .int, accessFlags := 26, slot := 1, constantValue := 0 }, { name := "partShift", type := .int, accessFlags := 18, slot := 0, constantValue := 0 }, { name := "chunks", type := (.object "java/util/List"), accessFlags := 18, slot := 1, constantValue := 0 }, { name := "sizes", type := (.array .int), accessFlags := 18, slot := 2, constantValue := 0 }, { name := "parts", type := (.array (.array .long)), accessFlags := 18, slot := 3, constantValue := 0 }]
  methods := #[k2m0, k2m1]
  instanceTypes := #[.int, (.object "java/util/List"), (.array .int), (.array (.array .long))]
  staticTypes := #[.int, .int]
  resolved := Array.replicate 156 none
  statics := none }

def pool3 : Array CpInfo := pool [(8, .class_ 10), (1, u "java/lang/Iterable"), (24, .class_ 36), (0, u "java/lang/Object")] 25

/-- java/lang/Iterable -/
def k3 : Class := { plain "java/lang/Iterable" (some 0) with
  accessFlags := 1537
  interfaces := #[]
  cf := some (fileOf pool3 8 #[] #[] 1537 35 #[] #[])
  fields := #[]
  methods := #[]
  instanceTypes := #[]
  staticTypes := #[]
  resolved := Array.replicate 62 none
  statics := none }

def pool4 : Array CpInfo := pool [(10, .class_ 12), (1, u "java/util/Collection"), (47, .class_ 61), (0, u "java/lang/Object"), (0, .class_ 63), (0, u "java/lang/Iterable")] 51

/-- java/util/Collection -/
def k4 : Class := { plain "java/util/Collection" (some 0) with
  accessFlags := 1537
  interfaces := #[3]
  cf := some (fileOf pool4 10 #[] #[] 1537 60 #[62] #[])
  fields := #[]
  methods := #[]
  instanceTypes := #[]
  staticTypes := #[]
  resolved := Array.replicate 115 none
  statics := none }

def pool5 : Array CpInfo := pool [(1, .methodref 2 3), (0, .class_ 4), (0, .nameAndType 5 6), (0, u "java/lang/Object"), (0, u "<init>"), (0, u "()V"), (1, .class_ 10), (1, u "java/util/AbstractCollection"), (66, .class_ 78), (0, u "java/util/Collection")] 81

def k5c0 : Code := { maxStack := 1, maxLocals := 1, code := jdk_22_method_1_code, exceptionTable := #[], attributes := #[] }
def k5m0 : Method := { name := "<init>", desc := "()V", sig := { parameters := [], returnType := none }, accessFlags := 4, code := some k5c0 }
/-- java/util/AbstractCollection -/
def k5 : Class := { plain "java/util/AbstractCollection" (some 0) with
  accessFlags := 1057
  interfaces := #[4]
  cf := some (fileOf pool5 8 #[] #[{ accessFlags := 4, nameIndex := 5, descriptorIndex := 6, attributes := #[] }] 1057 2 #[77] #[])
  fields := #[]
  methods := #[k5m0]
  instanceTypes := #[]
  staticTypes := #[]
  resolved := Array.replicate 160 none
  statics := none }

def pool6 : Array CpInfo := pool [(8, .class_ 10), (1, u "java/util/SequencedCollection"), (15, .class_ 27), (0, u "java/lang/Object"), (0, .class_ 29), (0, u "java/util/Collection")] 27

/-- java/util/SequencedCollection -/
def k6 : Class := { plain "java/util/SequencedCollection" (some 0) with
  accessFlags := 1537
  interfaces := #[4]
  cf := some (fileOf pool6 8 #[] #[] 1537 26 #[28] #[])
  fields := #[]
  methods := #[]
  instanceTypes := #[]
  staticTypes := #[]
  resolved := Array.replicate 57 none
  statics := none }

def pool7 : Array CpInfo := pool [(8, .class_ 10), (1, u "java/util/List"), (49, u "add"), (3, u "(Ljava/lang/Object;)Z"), (38, .class_ 104), (0, u "java/lang/Object"), (15, .class_ 121), (0, u "java/util/SequencedCollection")] 129

def k7m0 : Method := { name := "add", desc := "(Ljava/lang/Object;)Z", sig := { parameters := [(.object "java/lang/Object")], returnType := some .boolean }, accessFlags := 1025, code := none }
/-- java/util/List -/
def k7 : Class := { plain "java/util/List" (some 0) with
  accessFlags := 1537
  interfaces := #[6]
  cf := some (fileOf pool7 8 #[] #[{ accessFlags := 1025, nameIndex := 60, descriptorIndex := 64, attributes := #[] }] 1537 103 #[120] #[])
  fields := #[]
  methods := #[k7m0]
  instanceTypes := #[]
  staticTypes := #[]
  resolved := Array.replicate 251 none
  statics := none }

def pool8 : Array CpInfo := pool [(1, .methodref 2 3), (0, .class_ 4), (0, .nameAndType 5 6), (0, u "java/util/AbstractCollection"), (0, u "<init>"), (0, u "()V"), (0, .fieldref 8 9), (0, .class_ 10), (0, .nameAndType 11 12), (0, u "java/util/AbstractList"), (0, u "modCount"), (0, u "I"), (64, .class_ 78), (0, u "java/util/AbstractList$Itr"), (3, .class_ 83), (0, u "java/util/AbstractList$ListItr"), (9, .class_ 94), (0, u "java/util/AbstractList$RandomAccessSubList"), (3, .class_ 99), (0, u "java/util/AbstractList$SubList"), (33, .class_ 134), (0, u "java/util/List"), (73, .class_ 209), (0, u "java/util/AbstractList$SubList$1"), (0, .class_ 211), (0, u "java/util/AbstractList$RandomAccessSpliterator")] 6

def k8c0 : Code := { maxStack := 2, maxLocals := 1, code := jdk_39_method_1_code, exceptionTable := #[], attributes := #[] }
def k8m0 : Method := { name := "<init>", desc := "()V", sig := { parameters := [], returnType := none }, accessFlags := 4, code := some k8c0 }
/-- java/util/AbstractList -/
def k8 : Class := { plain "java/util/AbstractList" (some 5) with
  accessFlags := 1057
  interfaces := #[7]
  cf := some (fileOf pool8 8 #[.nestMembers #[93, 98, 208, 210, 82, 77]] #[{ accessFlags := 4, nameIndex := 5, descriptorIndex := 6, attributes := #[] }] 1057 2 #[133] #[{ accessFlags := 132, nameIndex := 11, descriptorIndex := 12, attributes := #[] }])
  fields := #[{ name := "modCount", type := .int, accessFlags := 132, slot := 0, constantValue := 0 }]
  methods := #[k8m0]
  instanceTypes := #[.int]
  staticTypes := #[]
  resolved := Array.replicate 218 none
  statics := none }

def pool9 : Array CpInfo := pool [(1, .class_ 2), (0, u "java/util/RandomAccess"), (0, .class_ 4), (0, u "java/lang/Object")] 2

/-- java/util/RandomAccess -/
def k9 : Class := { plain "java/util/RandomAccess" (some 0) with
  accessFlags := 1537
  interfaces := #[]
  cf := some (fileOf pool9 1 #[] #[] 1537 3 #[] #[])
  fields := #[]
  methods := #[]
  instanceTypes := #[]
  staticTypes := #[]
  resolved := Array.replicate 7 none
  statics := none }

def pool10 : Array CpInfo := pool [(1, .class_ 2), (0, u "java/lang/Cloneable"), (0, .class_ 4), (0, u "java/lang/Object")] 2

/-- java/lang/Cloneable -/
def k10 : Class := { plain "java/lang/Cloneable" (some 0) with
  accessFlags := 1537
  interfaces := #[]
  cf := some (fileOf pool10 1 #[] #[] 1537 3 #[] #[])
  fields := #[]
  methods := #[]
  instanceTypes := #[]
  staticTypes := #[]
  resolved := Array.replicate 7 none
  statics := none }

def pool11 : Array CpInfo := pool [(1, .class_ 2), (0, u "java/io/Serializable"), (0, .class_ 4), (0, u "java/lang/Object")] 2

/-- java/io/Serializable -/
def k11 : Class := { plain "java/io/Serializable" (some 0) with
  accessFlags := 1537
  interfaces := #[]
  cf := some (fileOf pool11 1 #[] #[] 1537 3 #[] #[])
  fields := #[]
  methods := #[]
  instanceTypes := #[]
  staticTypes := #[]
  resolved := Array.replicate 7 none
  statics := none }

def pool12 : Array CpInfo := pool [(1, .methodref 2 3), (0, .class_ 4), (0, .nameAndType 5 6), (0, u "java/util/AbstractList"), (0, u "<init>"), (0, u "()V"), (0, .class_ 8), (0, u "java/lang/Object"), (0, .fieldref 10 11), (0, .class_ 12), (0, .nameAndType 13 14), (0, u "java/util/ArrayList"), (0, u "elementData"), (0, u "[Ljava/lang/Object;"), (2, u "EMPTY_ELEMENTDATA"), (21, .fieldref 10 40), (0, .nameAndType 41 14), (0, u "DEFAULTCAPACITY_EMPTY_ELEMENTDATA"), (5, u "()[Ljava/lang/Object;"), (0, .fieldref 10 49), (0, .nameAndType 50 51), (0, u "size"), (0, u "I"), (6, .class_ 60), (1, u "java/util/Arrays"), (0, u "copyOf"), (1, .fieldref 10 64), (0, .nameAndType 65 51), (0, u "modCount"), (0, .methodref 58 67), (0, .nameAndType 61 68), (0, u "([Ljava/lang/Object;I)[Ljava/lang/Object;"), (0, .methodref 10 70), (0, .nameAndType 71 72), (0, u "grow"), (0, u "(I)[Ljava/lang/Object;"), (0, .methodref 74 75), (0, .class_ 76), (0, .nameAndType 77 78), (0, u "jdk/internal/util/ArraysSupport"), (0, u "newLength"), (0, u "(III)I"), (0, .methodref 80 81), (0, .class_ 82), (0, .nameAndType 83 84), (0, u "java/lang/Math"), (0, u "max"), (0, u "(II)I"), (11, u "(Ljava/lang/Object;)Z"), (32, .methodref 10 130), (0, .nameAndType 71 47), (0, .methodref 10 132), (0, .nameAndType 133 134), (0, u "add"), (0, u "(Ljava/lang/Object;[Ljava/lang/Object;I)V"), (13, .class_ 149), (0, u "java/util/List"), (112, .class_ 263), (0, u "java/util/ArrayList$ListItr"), (3, .class_ 268), (0, u "java/util/ArrayList$Itr"), (7, .class_ 277), (0, u "java/util/ArrayList$SubList"), (12, .class_ 291), (0, u "java/util/ArrayList$ArrayListSpliterator"), (37, .class_ 330), (0, u "java/util/RandomAccess"), (0, .class_ 332), (0, u "java/lang/Cloneable"), (0, .class_ 334), (0, u "java/io/Serializable"), (0, u "serialVersionUID"), (0, u "J"), (3, u "DEFAULT_CAPACITY"), (159, .class_ 501), (0, u "java/util/ArrayList$SubList$2"), (0, .class_ 503), (0, u "java/util/ArrayList$SubList$1")] 5

def k12c0 : Code := { maxStack := 2, maxLocals := 1, code := jdk_38_method_2_code, exceptionTable := #[], attributes := #[] }
def k12m0 : Method := { name := "<init>", desc := "()V", sig := { parameters := [], returnType := none }, accessFlags := 1, code := some k12c0 }
def k12c1 : Code := { maxStack := 4, maxLocals := 4, code := jdk_38_method_6_code, exceptionTable := #[], attributes := #[] }
def k12m1 : Method := { name := "grow", desc := "(I)[Ljava/lang/Object;", sig := { parameters := [.int], returnType := some (.array (.object "java/lang/Object")) }, accessFlags := 2, code := some k12c1 }
def k12c2 : Code := { maxStack := 3, maxLocals := 1, code := jdk_38_method_7_code, exceptionTable := #[], attributes := #[] }
def k12m2 : Method := { name := "grow", desc := "()[Ljava/lang/Object;", sig := { parameters := [], returnType := some (.array (.object "java/lang/Object")) }, accessFlags := 2, code := some k12c2 }
def k12c3 : Code := { maxStack := 3, maxLocals := 4, code := jdk_38_method_24_code, exceptionTable := #[], attributes := #[] }
def k12m3 : Method := { name := "add", desc := "(Ljava/lang/Object;[Ljava/lang/Object;I)V", sig := { parameters := [(.object "java/lang/Object"), (.array (.object "java/lang/Object")), .int], returnType := none }, accessFlags := 2, code := some k12c3 }
def k12c4 : Code := { maxStack := 4, maxLocals := 2, code := jdk_38_method_25_code, exceptionTable := #[], attributes := #[] }
def k12m4 : Method := { name := "add", desc := "(Ljava/lang/Object;)Z", sig := { parameters := [(.object "java/lang/Object")], returnType := some .boolean }, accessFlags := 1, code := some k12c4 }
/-- java/util/ArrayList -/
def k12 : Class := { plain "java/util/ArrayList" (some 8) with
  accessFlags := 33
  interfaces := #[7, 9, 10, 11]
  cf := some (fileOf pool12 10 #[.nestMembers #[290, 276, 500, 502, 262, 267]] #[{ accessFlags := 1, nameIndex := 5, descriptorIndex := 6, attributes := #[] }, { accessFlags := 2, nameIndex := 71, descriptorIndex := 72, attributes := #[] }, { accessFlags := 2, nameIndex := 71, descriptorIndex := 47, attributes := #[] }, { accessFlags := 2, nameIndex := 133, descriptorIndex := 134, attributes := #[] }, { accessFlags := 1, nameIndex := 133, descriptorIndex := 96, attributes := #[] }] 33 2 #[148, 329, 331, 333] #[{ accessFlags := 26, nameIndex := 335, descriptorIndex := 336, attributes := #[] }, { accessFlags := 26, nameIndex := 340, descriptorIndex := 51, attributes := #[] }, { accessFlags := 26, nameIndex := 17, descriptorIndex := 14, attributes := #[] }, { accessFlags := 26, nameIndex := 41, descriptorIndex := 14, attributes := #[] }, { accessFlags := 128, nameIndex := 13, descriptorIndex := 14, attributes := #[] }, { accessFlags := 2, nameIndex := 50, descriptorIndex := 51, attributes := #[] }])
  fields := #[{ name := "serialVersionUID", type := .long, accessFlags := 26, slot := 0, constantValue := 0 }, { name := "DEFAULT_CAPACITY", type := .int, accessFlags := 26, slot := 1, constantValue := 0 }, { name := "EMPTY_ELEMENTDATA", type := (.array (.object "java/lang/Object")), accessFlags := 26, slot := 2, constantValue := 0 }, { name := "DEFAULTCAPACITY_EMPTY_ELEMENTDATA", type := (.array (.object "java/lang/Object")), accessFlags := 26, slot := 3, constantValue := 0 }, { name := "elementData", type := (.array (.object "java/lang/Object")), accessFlags := 128, slot := 1, constantValue := 0 }, { name := "size", type := .int, accessFlags := 2, slot := 2, constantValue := 0 }]
  methods := #[k12m0, k12m1, k12m2, k12m3, k12m4]
  instanceTypes := #[.int, (.array (.object "java/lang/Object")), .int]
  staticTypes := #[.long, .int, (.array (.object "java/lang/Object")), (.array (.object "java/lang/Object"))]
  resolved := Array.replicate 509 none
  statics := some 0 }

def pool13 : Array CpInfo := pool [(1, .class_ 2), (0, u "java/lang/Math"), (1, .class_ 6), (1, u "java/lang/Object"), (0, u "<init>"), (0, u "()V"), (89, .class_ 100), (1, u "java/lang/Math$RandomNumberGeneratorHolder"), (71, u "negativeZeroFloatBits"), (0, u "J"), (2, u "negativeZeroDoubleBits"), (21, u "max"), (2, u "min"), (43, u "$assertionsDisabled"), (0, u "Z"), (88, u "(II)I"), (2, u "twoToTheDoubleScaleDown"), (0, u "D"), (4, u "twoToTheDoubleScaleUp"), (9, u "E"), (3, u "PI"), (2, u "TAU"), (2, u "DEGREES_TO_RADIANS"), (0, u "RADIANS_TO_DEGREES")] 94

def k13m0 : Method := { name := "<init>", desc := "()V", sig := { parameters := [], returnType := none }, accessFlags := 2, code := none }
def k13c1 : Code := { maxStack := 2, maxLocals := 2, code := jdk_29_method_65_code, exceptionTable := #[], attributes := #[] }
def k13m1 : Method := { name := "max", desc := "(II)I", sig := { parameters := [.int, .int], returnType := some .int }, accessFlags := 9, code := some k13c1 }
def k13c2 : Code := { maxStack := 2, maxLocals := 2, code := jdk_29_method_69_code, exceptionTable := #[], attributes := #[] }
def k13m2 : Method := { name := "min", desc := "(II)I", sig := { parameters := [.int, .int], returnType := some .int }, accessFlags := 9, code := some k13c2 }
/-- java/lang/Math -/
def k13 : Class := { plain "java/lang/Math" (some 0) with
  accessFlags := 49
  interfaces := #[]
  cf := some (fileOf pool13 1 #[.nestMembers #[98]] #[{ accessFlags := 2, nameIndex := 7, descriptorIndex := 8, attributes := #[] }, { accessFlags := 9, nameIndex := 198, descriptorIndex := 335, attributes := #[] }, { accessFlags := 9, nameIndex := 201, descriptorIndex := 335, attributes := #[] }] 49 4 #[] #[{ accessFlags := 25, nameIndex := 354, descriptorIndex := 339, attributes := #[] }, { accessFlags := 25, nameIndex := 358, descriptorIndex := 339, attributes := #[] }, { accessFlags := 25, nameIndex := 361, descriptorIndex := 339, attributes := #[] }, { accessFlags := 26, nameIndex := 364, descriptorIndex := 339, attributes := #[] }, { accessFlags := 26, nameIndex := 365, descriptorIndex := 339, attributes := #[] }, { accessFlags := 26, nameIndex := 172, descriptorIndex := 173, attributes := #[] }, { accessFlags := 26, nameIndex := 176, descriptorIndex := 173, attributes := #[] }, { accessFlags := 8, nameIndex := 344, descriptorIndex := 339, attributes := #[] }, { accessFlags := 8, nameIndex := 338, descriptorIndex := 339, attributes := #[] }, { accessFlags := 4120, nameIndex := 245, descriptorIndex := 246, attributes := #[] }])
  fields := #[{ name := "E", type := .double, accessFlags := 25, slot := 0, constantValue := 0 }, { name := "PI", type := .double, accessFlags := 25, slot := 1, constantValue := 0 }, { name := "TAU", type := .double, accessFlags := 25, slot := 2, constantValue := 0 }, { name := "DEGREES_TO_RADIANS", type := .double, accessFlags := 26, slot := 3, constantValue := 0 }, { name := "RADIANS_TO_DEGREES", type := .double, accessFlags := 26, slot := 4, constantValue := 0 }, { name := "negativeZeroFloatBits", type := .long, accessFlags := 26, slot := 5, constantValue := 0 }, { name := "negativeZeroDoubleBits", type := .long, accessFlags := 26, slot := 6, constantValue := 0 }, { name := "twoToTheDoubleScaleUp", type := .double, accessFlags := 8, slot := 7, constantValue := 0 }, { name := "twoToTheDoubleScaleDown", type := .double, accessFlags := 8, slot := 8, constantValue := 0 }, { name := "$assertionsDisabled", type := .boolean, accessFlags := 4120, slot := 9, constantValue := 0 }]
  methods := #[k13m0, k13m1, k13m2]
  instanceTypes := #[]
  staticTypes := #[.double, .double, .double, .double, .double, .long, .long, .double, .double, .boolean]
  resolved := Array.replicate 460 none
  statics := none }

def pool14 : Array CpInfo := pool [(9, u "<init>"), (6, .class_ 18), (1, u "java/lang/Object"), (0, u "()V"), (1, .class_ 23), (1, u "jdk/internal/util/ArraysSupport"), (0, u "LOG2_ARRAY_LONG_INDEX_SCALE"), (0, u "I"), (2, u "U"), (0, u "Ljdk/internal/misc/Unsafe;"), (8, u "BIG_ENDIAN"), (0, u "Z"), (8, u "LOG2_BYTE_BIT_SIZE"), (4, u "LOG2_ARRAY_INT_INDEX_SCALE"), (54, u "JLA"), (0, u "Ljdk/internal/access/JavaLangAccess;"), (11, u "LOG2_ARRAY_BOOLEAN_INDEX_SCALE"), (9, u "LOG2_ARRAY_BYTE_INDEX_SCALE"), (5, u "LOG2_ARRAY_CHAR_INDEX_SCALE"), (5, u "LOG2_ARRAY_SHORT_INDEX_SCALE"), (18, u "LOG2_ARRAY_FLOAT_INDEX_SCALE"), (24, u "LOG2_ARRAY_DOUBLE_INDEX_SCALE"), (6, .methodref 195 196), (0, .class_ 197), (0, .nameAndType 198 199), (0, u "java/lang/Math"), (0, u "max"), (0, u "(II)I"), (0, .integer 2147483639), (76, u "T_BOOLEAN"), (2, u "T_CHAR"), (1, u "T_FLOAT"), (1, u "T_DOUBLE"), (1, u "T_BYTE"), (1, u "T_SHORT"), (1, u "T_INT"), (1, u "T_LONG"), (1, u "SOFT_MAX_ARRAY_LENGTH"), (56, u "newLength"), (0, u "(III)I")] 25

def k14m0 : Method := { name := "<init>", desc := "()V", sig := { parameters := [], returnType := none }, accessFlags := 2, code := none }
def k14c1 : Code := { maxStack := 3, maxLocals := 4, code := jdk_48_method_27_code, exceptionTable := #[], attributes := #[] }
def k14m1 : Method := { name := "newLength", desc := "(III)I", sig := { parameters := [.int, .int, .int], returnType := some .int }, accessFlags := 9, code := some k14c1 }
/-- jdk/internal/util/ArraysSupport -/
def k14 : Class := { plain "jdk/internal/util/ArraysSupport" (some 0) with
  accessFlags := 33
  interfaces := #[]
  cf := some (fileOf pool14 21 #[] #[{ accessFlags := 2, nameIndex := 9, descriptorIndex := 19, attributes := #[] }, { accessFlags := 9, nameIndex := 351, descriptorIndex := 352, attributes := #[] }] 33 16 #[] #[{ accessFlags := 24, nameIndex := 28, descriptorIndex := 29, attributes := #[] }, { accessFlags := 26, nameIndex := 38, descriptorIndex := 39, attributes := #[] }, { accessFlags := 25, nameIndex := 121, descriptorIndex := 25, attributes := #[] }, { accessFlags := 25, nameIndex := 131, descriptorIndex := 25, attributes := #[] }, { accessFlags := 25, nameIndex := 137, descriptorIndex := 25, attributes := #[] }, { accessFlags := 25, nameIndex := 143, descriptorIndex := 25, attributes := #[] }, { accessFlags := 25, nameIndex := 53, descriptorIndex := 25, attributes := #[] }, { accessFlags := 25, nameIndex := 24, descriptorIndex := 25, attributes := #[] }, { accessFlags := 25, nameIndex := 162, descriptorIndex := 25, attributes := #[] }, { accessFlags := 25, nameIndex := 187, descriptorIndex := 25, attributes := #[] }, { accessFlags := 26, nameIndex := 48, descriptorIndex := 25, attributes := #[] }, { accessFlags := 25, nameIndex := 277, descriptorIndex := 25, attributes := #[] }, { accessFlags := 25, nameIndex := 280, descriptorIndex := 25, attributes := #[] }, { accessFlags := 25, nameIndex := 282, descriptorIndex := 25, attributes := #[] }, { accessFlags := 25, nameIndex := 284, descriptorIndex := 25, attributes := #[] }, { accessFlags := 25, nameIndex := 286, descriptorIndex := 25, attributes := #[] }, { accessFlags := 25, nameIndex := 288, descriptorIndex := 25, attributes := #[] }, { accessFlags := 25, nameIndex := 290, descriptorIndex := 25, attributes := #[] }, { accessFlags := 25, nameIndex := 292, descriptorIndex := 25, attributes := #[] }, { accessFlags := 26, nameIndex := 108, descriptorIndex := 109, attributes := #[] }, { accessFlags := 25, nameIndex := 294, descriptorIndex := 25, attributes := #[] }])
  fields := #[{ name := "U", type := (.object "jdk/internal/misc/Unsafe"), accessFlags := 24, slot := 0, constantValue := 0 }, { name := "BIG_ENDIAN", type := .boolean, accessFlags := 26, slot := 1, constantValue := 0 }, { name := "LOG2_ARRAY_BOOLEAN_INDEX_SCALE", type := .int, accessFlags := 25, slot := 2, constantValue := 0 }, { name := "LOG2_ARRAY_BYTE_INDEX_SCALE", type := .int, accessFlags := 25, slot := 3, constantValue := 0 }, { name := "LOG2_ARRAY_CHAR_INDEX_SCALE", type := .int, accessFlags := 25, slot := 4, constantValue := 0 }, { name := "LOG2_ARRAY_SHORT_INDEX_SCALE", type := .int, accessFlags := 25, slot := 5, constantValue := 0 }, { name := "LOG2_ARRAY_INT_INDEX_SCALE", type := .int, accessFlags := 25, slot := 6, constantValue := 0 }, { name := "LOG2_ARRAY_LONG_INDEX_SCALE", type := .int, accessFlags := 25, slot := 7, constantValue := 0 }, { name := "LOG2_ARRAY_FLOAT_INDEX_SCALE", type := .int, accessFlags := 25, slot := 8, constantValue := 0 }, { name := "LOG2_ARRAY_DOUBLE_INDEX_SCALE", type := .int, accessFlags := 25, slot := 9, constantValue := 0 }, { name := "LOG2_BYTE_BIT_SIZE", type := .int, accessFlags := 26, slot := 10, constantValue := 0 }, { name := "T_BOOLEAN", type := .int, accessFlags := 25, slot := 11, constantValue := 0 }, { name := "T_CHAR", type := .int, accessFlags := 25, slot := 12, constantValue := 0 }, { name := "T_FLOAT", type := .int, accessFlags := 25, slot := 13, constantValue := 0 }, { name := "T_DOUBLE", type := .int, accessFlags := 25, slot := 14, constantValue := 0 }, { name := "T_BYTE", type := .int, accessFlags := 25, slot := 15, constantValue := 0 }, { name := "T_SHORT", type := .int, accessFlags := 25, slot := 16, constantValue := 0 }, { name := "T_INT", type := .int, accessFlags := 25, slot := 17, constantValue := 0 }, { name := "T_LONG", type := .int, accessFlags := 25, slot := 18, constantValue := 0 }, { name := "JLA", type := (.object "jdk/internal/access/JavaLangAccess"), accessFlags := 26, slot := 19, constantValue := 0 }, { name := "SOFT_MAX_ARRAY_LENGTH", type := .int, accessFlags := 25, slot := 20, constantValue := 0 }]
  methods := #[k14m0, k14m1]
  instanceTypes := #[]
  staticTypes := #[(.object "jdk/internal/misc/Unsafe"), .boolean, .int, .int, .int, .int, .int, .int, .int, .int, .int, .int, .int, .int, .int, .int, .int, .int, .int, (.object "jdk/internal/access/JavaLangAccess"), .int]
  resolved := Array.replicate 378 none
  statics := none }

def pool15 : Array CpInfo := pool [(2, .class_ 4), (1, u "java/lang/Object"), (0, u "<init>"), (0, u "()V"), (7, .class_ 16), (1, u "java/util/Arrays"), (57, .class_ 76), (1, u "java/util/Arrays$NaturalOrder"), (9, .methodref 2 87), (0, .nameAndType 88 89), (0, u "getClass"), (0, u "()Ljava/lang/Class;"), (20, .class_ 111), (0, u "[Ljava/lang/Object;"), (1, .class_ 115), (1, u "java/util/Arrays$LegacyMergeSort"), (1, u "Z"), (32, .methodref 151 152), (0, .class_ 153), (0, .nameAndType 154 155), (0, u "java/lang/System"), (0, u "arraycopy"), (0, u "(Ljava/lang/Object;ILjava/lang/Object;II)V"), (144, .methodref 14 301), (0, .nameAndType 302 303), (0, u "copyOf"), (0, u "([Ljava/lang/Object;ILjava/lang/Class;)[Ljava/lang/Object;"), (0, .methodref 305 306), (0, .class_ 307), (0, .nameAndType 308 309), (0, u "java/lang/Math"), (0, u "min"), (0, u "(II)I"), (65, .class_ 376), (0, u "java/util/Arrays$ArrayList"), (68, u "$assertionsDisabled"), (269, u "MIN_ARRAY_SORT_GRAN"), (0, u "I"), (2, u "INSERTIONSORT_THRESHOLD"), (140, u "([Ljava/lang/Object;I)[Ljava/lang/Object;"), (114, .class_ 976), (0, u "java/util/Arrays$ArrayItr")] 52

def k15m0 : Method := { name := "<init>", desc := "()V", sig := { parameters := [], returnType := none }, accessFlags := 2, code := none }
def k15c1 : Code := { maxStack := 3, maxLocals := 2, code := jdk_65_method_119_code, exceptionTable := #[], attributes := #[] }
def k15m1 : Method := { name := "copyOf", desc := "([Ljava/lang/Object;I)[Ljava/lang/Object;", sig := { parameters := [(.array (.object "java/lang/Object")), .int], returnType := some (.array (.object "java/lang/Object")) }, accessFlags := 9, code := some k15c1 }
def k15c2 : Code := { maxStack := 6, maxLocals := 4, code := jdk_65_method_120_code, exceptionTable := #[], attributes := #[] }
def k15m2 : Method := { name := "copyOf", desc := "([Ljava/lang/Object;ILjava/lang/Class;)[Ljava/lang/Object;", sig := { parameters := [(.array (.object "java/lang/Object")), .int, (.object "java/lang/Class")], returnType := some (.array (.object "java/lang/Object")) }, accessFlags := 9, code := some k15c2 }
/-- java/util/Arrays -/
def k15 : Class := { plain "java/util/Arrays" (some 0) with
  accessFlags := 49
  interfaces := #[]
  cf := some (fileOf pool15 14 #[.nestMembers #[975, 375, 113, 74]] #[{ accessFlags := 2, nameIndex := 5, descriptorIndex := 6, attributes := #[] }, { accessFlags := 9, nameIndex := 302, descriptorIndex := 860, attributes := #[] }, { accessFlags := 9, nameIndex := 302, descriptorIndex := 303, attributes := #[] }] 49 2 #[] #[{ accessFlags := 26, nameIndex := 715, descriptorIndex := 716, attributes := #[] }, { accessFlags := 26, nameIndex := 719, descriptorIndex := 716, attributes := #[] }, { accessFlags := 4120, nameIndex := 445, descriptorIndex := 117, attributes := #[] }])
  fields := #[{ name := "MIN_ARRAY_SORT_GRAN", type := .int, accessFlags := 26, slot := 0, constantValue := 0 }, { name := "INSERTIONSORT_THRESHOLD", type := .int, accessFlags := 26, slot := 1, constantValue := 0 }, { name := "$assertionsDisabled", type := .boolean, accessFlags := 4120, slot := 2, constantValue := 0 }]
  methods := #[k15m0, k15m1, k15m2]
  instanceTypes := #[]
  staticTypes := #[.int, .int, .boolean]
  resolved := Array.replicate 1029 none
  statics := none }

def pool16 : Array CpInfo := pool [(2, .class_ 4), (1, u "java/lang/Object"), (0, u "<init>"), (0, u "()V"), (1, .class_ 10), (1, u "java/lang/System"), (0, u "allowSecurityManager"), (0, u "I"), (16, u "cons"), (0, u "Ljava/io/Console;"), (77, .class_ 110), (1, u "java/lang/System$CallersHolder"), (43, u "initialErrStream"), (0, u "Ljava/io/PrintStream;"), (19, u "security"), (0, u "Ljava/lang/SecurityManager;"), (31, .class_ 209), (0, u "java/lang/System$1"), (7, u "props"), (0, u "Ljava/util/Properties;"), (2, u "lineSeparator"), (0, u "Ljava/lang/String;"), (96, .class_ 321), (1, u "java/lang/System$LoggerFinder"), (5, .class_ 328), (0, u "java/lang/System$Logger"), (67, u "err"), (2, u "out"), (91, u "notSupportedJnuEncoding"), (15, u "in"), (17, u "initialIn"), (0, u "Ljava/io/InputStream;"), (35, u "bootLayer"), (0, u "Ljava/lang/ModuleLayer;"), (99, .class_ 664), (0, u "java/lang/System$2"), (9, u "NEVER"), (2, u "MAYBE"), (49, u "arraycopy"), (0, u "(Ljava/lang/Object;ILjava/lang/Object;II)V"), (72, .class_ 802), (0, u "java/lang/System$Logger$Level")] 31

def k16m0 : Method := { name := "<init>", desc := "()V", sig := { parameters := [], returnType := none }, accessFlags := 2, code := none }
def k16m1 : Method := { name := "arraycopy", desc := "(Ljava/lang/Object;ILjava/lang/Object;II)V", sig := { parameters := [(.object "java/lang/Object"), .int, (.object "java/lang/Object"), .int, .int], returnType := none }, accessFlags := 265, code := none }
/-- java/lang/System -/
def k16 : Class := { plain "java/lang/System" (some 0) with
  accessFlags := 49
  interfaces := #[]
  cf := some (fileOf pool16 8 #[.nestMembers #[319, 327, 801, 108, 663, 208]] #[{ accessFlags := 2, nameIndex := 5, descriptorIndex := 6, attributes := #[] }, { accessFlags := 265, nameIndex := 727, descriptorIndex := 728, attributes := #[] }] 49 2 #[] #[{ accessFlags := 25, nameIndex := 507, descriptorIndex := 526, attributes := #[] }, { accessFlags := 25, nameIndex := 399, descriptorIndex := 155, attributes := #[] }, { accessFlags := 25, nameIndex := 396, descriptorIndex := 155, attributes := #[] }, { accessFlags := 10, nameIndex := 525, descriptorIndex := 526, attributes := #[] }, { accessFlags := 26, nameIndex := 674, descriptorIndex := 12, attributes := #[] }, { accessFlags := 26, nameIndex := 677, descriptorIndex := 12, attributes := #[] }, { accessFlags := 10, nameIndex := 11, descriptorIndex := 12, attributes := #[] }, { accessFlags := 74, nameIndex := 175, descriptorIndex := 176, attributes := #[] }, { accessFlags := 10, nameIndex := 491, descriptorIndex := 222, attributes := #[] }, { accessFlags := 74, nameIndex := 29, descriptorIndex := 30, attributes := #[] }, { accessFlags := 74, nameIndex := 154, descriptorIndex := 155, attributes := #[] }, { accessFlags := 10, nameIndex := 217, descriptorIndex := 218, attributes := #[] }, { accessFlags := 10, nameIndex := 221, descriptorIndex := 222, attributes := #[] }, { accessFlags := 8, nameIndex := 562, descriptorIndex := 563, attributes := #[] }])
  fields := #[{ name := "in", type := (.object "java/io/InputStream"), accessFlags := 25, slot := 0, constantValue := 0 }, { name := "out", type := (.object "java/io/PrintStream"), accessFlags := 25, slot := 1, constantValue := 0 }, { name := "err", type := (.object "java/io/PrintStream"), accessFlags := 25, slot := 2, constantValue := 0 }, { name := "initialIn", type := (.object "java/io/InputStream"), accessFlags := 10, slot := 3, constantValue := 0 }, { name := "NEVER", type := .int, accessFlags := 26, slot := 4, constantValue := 0 }, { name := "MAYBE", type := .int, accessFlags := 26, slot := 5, constantValue := 0 }, { name := "allowSecurityManager", type := .int, accessFlags := 10, slot := 6, constantValue := 0 }, { name := "security", type := (.object "java/lang/SecurityManager"), accessFlags := 74, slot := 7, constantValue := 0 }, { name := "notSupportedJnuEncoding", type := (.object "java/lang/String"), accessFlags := 10, slot := 8, constantValue := 0 }, { name := "cons", type := (.object "java/io/Console"), accessFlags := 74, slot := 9, constantValue := 0 }, { name := "initialErrStream", type := (.object "java/io/PrintStream"), accessFlags := 74, slot := 10, constantValue := 0 }, { name := "props", type := (.object "java/util/Properties"), accessFlags := 10, slot := 11, constantValue := 0 }, { name := "lineSeparator", type := (.object "java/lang/String"), accessFlags := 10, slot := 12, constantValue := 0 }, { name := "bootLayer", type := (.object "java/lang/ModuleLayer"), accessFlags := 8, slot := 13, constantValue := 0 }]
  methods := #[k16m0, k16m1]
  instanceTypes := #[]
  staticTypes := #[(.object "java/io/InputStream"), (.object "java/io/PrintStream"), (.object "java/io/PrintStream"), (.object "java/io/InputStream"), .int, .int, .int, (.object "java/lang/SecurityManager"), (.object "java/lang/String"), (.object "java/io/Console"), (.object "java/io/PrintStream"), (.object "java/util/Properties"), (.object "java/lang/String"), (.object "java/lang/ModuleLayer")]
  resolved := Array.replicate 834 none
  statics := none }

def pool17 : Array CpInfo := pool [(1, u "java/lang/Class"), (0, .class_ 1), (0, u "java/lang/Object"), (0, .class_ 3)] 0

/-- java/lang/Class -/
def k17 : Class := { plain "java/lang/Class" (some 0) with
  accessFlags := 49
  interfaces := #[]
  cf := some (fileOf pool17 2 #[] #[] 49 4 #[] #[])
  fields := #[]
  methods := #[]
  instanceTypes := #[]
  staticTypes := #[]
  resolved := Array.replicate 5 none
  statics := none }

/-- the primitive byte -/
def k18 : Class := { plain "byte" none with kind := .primitive 'B', accessFlags := 0x411 }
/-- [B -/
def k19 : Class := { plain "[B" (some 0) with kind := .array 18 .byte, interfaces := #[10, 11], accessFlags := 1041 }

/-- the primitive int -/
def k20 : Class := { plain "int" none with kind := .primitive 'I', accessFlags := 0x411 }
/-- [I -/
def k21 : Class := { plain "[I" (some 0) with kind := .array 20 .int, interfaces := #[10, 11], accessFlags := 1041 }

/-- [Ljava/lang/Object; -/
def k22 : Class := { plain "[Ljava/lang/Object;" (some 0) with kind := .array 0 (.object "java/lang/Object"), interfaces := #[10, 11], accessFlags := 1041, mirror := some 1 }

/-- the primitive long -/
def k23 : Class := { plain "long" none with kind := .primitive 'J', accessFlags := 0x411 }
/-- [J -/
def k24 : Class := { plain "[J" (some 0) with kind := .array 23 .long, interfaces := #[10, 11], accessFlags := 1041 }
/-- [[J -/
def k25 : Class := { plain "[[J" (some 0) with kind := .array 24 (.array .long), interfaces := #[10, 11], accessFlags := 1041 }
def heap : Heap := #[{ cls := 12, slots := #[.long 0, .int 0, .ref 2, .ref 3], vm := .statics 12 },
  { cls := 17, slots := #[], vm := .mirror 22 },
  { cls := 22, slots := #[], vm := .none },
  { cls := 22, slots := #[], vm := .none }]
def classes : Array Class := #[k0, k1, k2, k3, k4, k5, k6, k7, k8, k9, k10, k11, k12, k13, k14, k15, k16, k17, k18, k19, k20, k21, k22, k23, k24, k25]
def interned : List (Array UInt16 × Addr) := []
def slotsUsed : Nat := 4
def theMethod : MethodId := ⟨1, 1⟩
def args0 : Array Value := #[.int 3, .int 5, .long 6]
def aboutOver (below : List Frame) : State where
  vm := { classes := classes, interned := interned.toArray }
  heap := heap
  slotsUsed := slotsUsed
  threads := #[{ frames := .invoking theMethod args0 :: below }]
def below0 : List Frame := [.native { method := ⟨0, 0⟩, args := #[] }]
def about1 : State := aboutOver below0
def p0 : Program := .bare "" "" ""
def e0 : Env := launch0.env 0 0 0
theorem w_frames : about1.frames = Frame.invoking theMethod args0 :: below0 := rfl
set_option maxRecDepth 65536 in
theorem w_args : argsFit about1.vm theMethod args0 = true := by decide +kernel
set_option maxRecDepth 65536 in
theorem w_heap : heapFits about1 = true := by decide +kernel
set_option maxRecDepth 65536 in
theorem w_runnable : about1.curStatus? = some .runnable := by decide +kernel
set_option maxRecDepth 65536 in
theorem w_alone : about1.alone = true := by decide +kernel
set_option maxRecDepth 65536 in
theorem w_named : about1.methodNamed? x = some theMethod := by decide +kernel
set_option maxRecDepth 65536 in
theorem w_hears : about1.hears theMethod below0 = true := by decide +kernel
set_option maxRecDepth 65536 in
theorem w_ripe : about1.ripe theMethod args0 below0 = true := by decide +kernel
theorem w_running : about1.status = .running := rfl
set_option maxRecDepth 65536 in
theorem w_room : about1.hasRoom e0.platform room_1 = true :=
  launch0.hasRoom_least _ room_1 (by decide +kernel) (by decide +kernel) (by decide +kernel) (by decide +kernel) (by decide +kernel) (by decide +kernel)
theorem allAtoms_all (ts : List Jvm.Cond) (a : Array Jvm.Value) (st : Jvm.State) : (allAtoms ts).before a st = ts.all (fun c => c.before a st) := by
  induction ts with
  | nil => rfl
  | cons c t ih =>
    show (Jvm.Cond.and c (allAtoms t)).before a st = _
    rw [Jvm.Cond.before_and, ih, List.all_cons]
def words1 : List Jvm.Cond := Jvm.Cond.code x code maxLocals ret :: tables_1
/-- a 'code' word, met by the world's own term for the bytes: nothing is compared byte by byte -/
theorem code_word {y : MethodName} {bytes : ByteArray} {mx : Nat} {rt : Option FieldType} {a : Array Value} {s : State} {m : MethodId} {meth : Method} {c : Code} (h1 : s.methodNamed? y = some m) (h2 : s.vm.method? m = some meth) (h3 : meth.code = some c) (h4 : c.code = bytes)
    (h5 : (c.maxLocals == mx && c.exceptionTable.isEmpty && decide (c.maxStack ≤ mostOperands) && decide (meth.sig.returnType = rt) && !meth.locks && decide (parseMethodDescriptor y.desc = some meth.sig)) = true) : (Jvm.Cond.code y bytes mx rt).before a s = true := by
  simp only [Bool.and_eq_true, beq_iff_eq, Bool.not_eq_true', decide_eq_true_eq] at h5
  obtain ⟨⟨⟨⟨⟨g1, g2⟩, g3⟩, g4⟩, g5⟩, g6⟩ := h5
  simp [Cond.before, Cond.holds, Cond.value, h1, h2, h3, h4, g1, g2, g3, g4, g5, g6]
def isCode : Jvm.Cond → Bool
  | .code _ _ _ _ => true
  | _ => false
theorem all_split {L : List Jvm.Cond} {P : Jvm.Cond → Bool} (h1 : L.all (fun c => isCode c || P c) = true) (h2 : ∀ c ∈ L.filter isCode, P c = true) : L.all P = true := by
  refine List.all_eq_true.mpr fun c hc => ?_
  have h := List.all_eq_true.mp h1 c hc
  rcases Bool.eq_false_or_eq_true (isCode c) with hi | hi
  · exact h2 c (List.mem_filter.mpr ⟨hc, hi⟩)
  · simpa [hi] using h
set_option maxRecDepth 65536 in
theorem w_c0 : (Jvm.Cond.code x code maxLocals ret).before args0 about1 = true := code_word (m := ⟨1, 1⟩) (meth := k1m1) (c := k1c1) (by decide +kernel) rfl rfl rfl (by decide +kernel)
set_option maxRecDepth 65536 in
theorem w_c1 : (Jvm.Cond.code ({ cls := "shelfmark/Longs", name := "<init>", desc := "(I)V" } : Jvm.MethodName) prog_20_method_1_code (3 : Nat) (Option.none : Option Jvm.ClassFile.FieldType)).before args0 about1 = true := code_word (m := ⟨2, 0⟩) (meth := k2m0) (c := k2c0) (by decide +kernel) rfl rfl rfl (by decide +kernel)
set_option maxRecDepth 65536 in
theorem w_c2 : (Jvm.Cond.code ({ cls := "java/lang/Object", name := "<init>", desc := "()V" } : Jvm.MethodName) object_method_1_code (1 : Nat) (Option.none : Option Jvm.ClassFile.FieldType)).before args0 about1 = true := code_word (m := ⟨0, 0⟩) (meth := k0m0) (c := k0c0) (by decide +kernel) rfl rfl rfl (by decide +kernel)
set_option maxRecDepth 65536 in
theorem w_c3 : (Jvm.Cond.code ({ cls := "java/util/ArrayList", name := "<init>", desc := "()V" } : Jvm.MethodName) jdk_38_method_2_code (1 : Nat) (Option.none : Option Jvm.ClassFile.FieldType)).before args0 about1 = true := code_word (m := ⟨12, 0⟩) (meth := k12m0) (c := k12c0) (by decide +kernel) rfl rfl rfl (by decide +kernel)
set_option maxRecDepth 65536 in
theorem w_c4 : (Jvm.Cond.code ({ cls := "java/util/AbstractList", name := "<init>", desc := "()V" } : Jvm.MethodName) jdk_39_method_1_code (1 : Nat) (Option.none : Option Jvm.ClassFile.FieldType)).before args0 about1 = true := code_word (m := ⟨8, 0⟩) (meth := k8m0) (c := k8c0) (by decide +kernel) rfl rfl rfl (by decide +kernel)
set_option maxRecDepth 65536 in
theorem w_c5 : (Jvm.Cond.code ({ cls := "java/util/AbstractCollection", name := "<init>", desc := "()V" } : Jvm.MethodName) jdk_22_method_1_code (1 : Nat) (Option.none : Option Jvm.ClassFile.FieldType)).before args0 about1 = true := code_word (m := ⟨5, 0⟩) (meth := k5m0) (c := k5c0) (by decide +kernel) rfl rfl rfl (by decide +kernel)
set_option maxRecDepth 65536 in
theorem w_c6 : (Jvm.Cond.code ({ cls := "java/util/ArrayList", name := "add", desc := "(Ljava/lang/Object;)Z" } : Jvm.MethodName) jdk_38_method_25_code (2 : Nat) (Option.some Jvm.ClassFile.FieldType.boolean)).before args0 about1 = true := code_word (m := ⟨12, 4⟩) (meth := k12m4) (c := k12c4) (by decide +kernel) rfl rfl rfl (by decide +kernel)
set_option maxRecDepth 65536 in
theorem w_c7 : (Jvm.Cond.code ({ cls := "java/util/ArrayList", name := "add", desc := "(Ljava/lang/Object;[Ljava/lang/Object;I)V" } : Jvm.MethodName) jdk_38_method_24_code (4 : Nat) (Option.none : Option Jvm.ClassFile.FieldType)).before args0 about1 = true := code_word (m := ⟨12, 3⟩) (meth := k12m3) (c := k12c3) (by decide +kernel) rfl rfl rfl (by decide +kernel)
set_option maxRecDepth 65536 in
theorem w_c8 : (Jvm.Cond.code ({ cls := "java/util/ArrayList", name := "grow", desc := "()[Ljava/lang/Object;" } : Jvm.MethodName) jdk_38_method_7_code (1 : Nat) (Option.some (Jvm.ClassFile.FieldType.array (Jvm.ClassFile.FieldType.object "java/lang/Object")))).before args0 about1 = true := code_word (m := ⟨12, 2⟩) (meth := k12m2) (c := k12c2) (by decide +kernel) rfl rfl rfl (by decide +kernel)
set_option maxRecDepth 65536 in
theorem w_c9 : (Jvm.Cond.code ({ cls := "java/util/ArrayList", name := "grow", desc := "(I)[Ljava/lang/Object;" } : Jvm.MethodName) jdk_38_method_6_code (4 : Nat) (Option.some (Jvm.ClassFile.FieldType.array (Jvm.ClassFile.FieldType.object "java/lang/Object")))).before args0 about1 = true := code_word (m := ⟨12, 1⟩) (meth := k12m1) (c := k12c1) (by decide +kernel) rfl rfl rfl (by decide +kernel)
set_option maxRecDepth 65536 in
theorem w_c10 : (Jvm.Cond.code ({ cls := "java/lang/Math", name := "max", desc := "(II)I" } : Jvm.MethodName) jdk_29_method_65_code (2 : Nat) (Option.some Jvm.ClassFile.FieldType.int)).before args0 about1 = true := code_word (m := ⟨13, 1⟩) (meth := k13m1) (c := k13c1) (by decide +kernel) rfl rfl rfl (by decide +kernel)
set_option maxRecDepth 65536 in
theorem w_c11 : (Jvm.Cond.code ({ cls := "jdk/internal/util/ArraysSupport", name := "newLength", desc := "(III)I" } : Jvm.MethodName) jdk_48_method_27_code (4 : Nat) (Option.some Jvm.ClassFile.FieldType.int)).before args0 about1 = true := code_word (m := ⟨14, 1⟩) (meth := k14m1) (c := k14c1) (by decide +kernel) rfl rfl rfl (by decide +kernel)
set_option maxRecDepth 65536 in
theorem w_c12 : (Jvm.Cond.code ({ cls := "java/util/Arrays", name := "copyOf", desc := "([Ljava/lang/Object;I)[Ljava/lang/Object;" } : Jvm.MethodName) jdk_65_method_119_code (2 : Nat) (Option.some (Jvm.ClassFile.FieldType.array (Jvm.ClassFile.FieldType.object "java/lang/Object")))).before args0 about1 = true := code_word (m := ⟨15, 1⟩) (meth := k15m1) (c := k15c1) (by decide +kernel) rfl rfl rfl (by decide +kernel)
set_option maxRecDepth 65536 in
theorem w_c13 : (Jvm.Cond.code ({ cls := "java/util/Arrays", name := "copyOf", desc := "([Ljava/lang/Object;ILjava/lang/Class;)[Ljava/lang/Object;" } : Jvm.MethodName) jdk_65_method_120_code (4 : Nat) (Option.some (Jvm.ClassFile.FieldType.array (Jvm.ClassFile.FieldType.object "java/lang/Object")))).before args0 about1 = true := code_word (m := ⟨15, 2⟩) (meth := k15m2) (c := k15c2) (by decide +kernel) rfl rfl rfl (by decide +kernel)
set_option maxRecDepth 65536 in
theorem w_c14 : (Jvm.Cond.code ({ cls := "java/lang/Math", name := "min", desc := "(II)I" } : Jvm.MethodName) jdk_29_method_69_code (2 : Nat) (Option.some Jvm.ClassFile.FieldType.int)).before args0 about1 = true := code_word (m := ⟨13, 2⟩) (meth := k13m2) (c := k13c2) (by decide +kernel) rfl rfl rfl (by decide +kernel)
set_option maxRecDepth 65536 in
theorem w_c15 : (Jvm.Cond.code ({ cls := "shelfmark/Longs", name := "part", desc := "(J)I" } : Jvm.MethodName) prog_20_method_8_code (3 : Nat) (Option.some Jvm.ClassFile.FieldType.int)).before args0 about1 = true := code_word (m := ⟨2, 1⟩) (meth := k2m1) (c := k2c1) (by decide +kernel) rfl rfl rfl (by decide +kernel)
def codes1 : List Jvm.Cond := [Jvm.Cond.code x code maxLocals ret, Jvm.Cond.code ({ cls := "shelfmark/Longs", name := "<init>", desc := "(I)V" } : Jvm.MethodName) prog_20_method_1_code (3 : Nat) (Option.none : Option Jvm.ClassFile.FieldType), Jvm.Cond.code ({ cls := "java/lang/Object", name := "<init>", desc := "()V" } : Jvm.MethodName) object_method_1_code (1 : Nat) (Option.none : Option Jvm.ClassFile.FieldType), Jvm.Cond.code ({ cls := "java/util/ArrayList", name := "<init>", desc := "()V" } : Jvm.MethodName) jdk_38_method_2_code (1 : Nat) (Option.none : Option Jvm.ClassFile.FieldType), Jvm.Cond.code ({ cls := "java/util/AbstractList", name := "<init>", desc := "()V" } : Jvm.MethodName) jdk_39_method_1_code (1 : Nat) (Option.none : Option Jvm.ClassFile.FieldType), Jvm.Cond.code ({ cls := "java/util/AbstractCollection", name := "<init>", desc := "()V" } : Jvm.MethodName) jdk_22_method_1_code (1 : Nat) (Option.none : Option Jvm.ClassFile.FieldType), Jvm.Cond.code ({ cls := "java/util/ArrayList", name := "add", desc := "(Ljava/lang/Object;)Z" } : Jvm.MethodName) jdk_38_method_25_code (2 : Nat) (Option.some Jvm.ClassFile.FieldType.boolean), Jvm.Cond.code ({ cls := "java/util/ArrayList", name := "add", desc := "(Ljava/lang/Object;[Ljava/lang/Object;I)V" } : Jvm.MethodName) jdk_38_method_24_code (4 : Nat) (Option.none : Option Jvm.ClassFile.FieldType), Jvm.Cond.code ({ cls := "java/util/ArrayList", name := "grow", desc := "()[Ljava/lang/Object;" } : Jvm.MethodName) jdk_38_method_7_code (1 : Nat) (Option.some (Jvm.ClassFile.FieldType.array (Jvm.ClassFile.FieldType.object "java/lang/Object"))), Jvm.Cond.code ({ cls := "java/util/ArrayList", name := "grow", desc := "(I)[Ljava/lang/Object;" } : Jvm.MethodName) jdk_38_method_6_code (4 : Nat) (Option.some (Jvm.ClassFile.FieldType.array (Jvm.ClassFile.FieldType.object "java/lang/Object"))), Jvm.Cond.code ({ cls := "java/lang/Math", name := "max", desc := "(II)I" } : Jvm.MethodName) jdk_29_method_65_code (2 : Nat) (Option.some Jvm.ClassFile.FieldType.int), Jvm.Cond.code ({ cls := "jdk/internal/util/ArraysSupport", name := "newLength", desc := "(III)I" } : Jvm.MethodName) jdk_48_method_27_code (4 : Nat) (Option.some Jvm.ClassFile.FieldType.int), Jvm.Cond.code ({ cls := "java/util/Arrays", name := "copyOf", desc := "([Ljava/lang/Object;I)[Ljava/lang/Object;" } : Jvm.MethodName) jdk_65_method_119_code (2 : Nat) (Option.some (Jvm.ClassFile.FieldType.array (Jvm.ClassFile.FieldType.object "java/lang/Object"))), Jvm.Cond.code ({ cls := "java/util/Arrays", name := "copyOf", desc := "([Ljava/lang/Object;ILjava/lang/Class;)[Ljava/lang/Object;" } : Jvm.MethodName) jdk_65_method_120_code (4 : Nat) (Option.some (Jvm.ClassFile.FieldType.array (Jvm.ClassFile.FieldType.object "java/lang/Object"))), Jvm.Cond.code ({ cls := "java/lang/Math", name := "min", desc := "(II)I" } : Jvm.MethodName) jdk_29_method_69_code (2 : Nat) (Option.some Jvm.ClassFile.FieldType.int), Jvm.Cond.code ({ cls := "shelfmark/Longs", name := "part", desc := "(J)I" } : Jvm.MethodName) prog_20_method_8_code (3 : Nat) (Option.some Jvm.ClassFile.FieldType.int)]
set_option maxRecDepth 65536 in
theorem codes_eq : words1.filter isCode = codes1 := rfl
theorem w_codes : ∀ c ∈ words1.filter isCode, c.before args0 about1 = true := by
  rw [codes_eq]
  intro c hc
  simp only [codes1, List.mem_cons, List.not_mem_nil, or_false] at hc
  rcases hc with rfl | rfl | rfl | rfl | rfl | rfl | rfl | rfl | rfl | rfl | rfl | rfl | rfl | rfl | rfl | rfl
  · exact w_c0
  · exact w_c1
  · exact w_c2
  · exact w_c3
  · exact w_c4
  · exact w_c5
  · exact w_c6
  · exact w_c7
  · exact w_c8
  · exact w_c9
  · exact w_c10
  · exact w_c11
  · exact w_c12
  · exact w_c13
  · exact w_c14
  · exact w_c15
set_option maxRecDepth 65536 in
theorem w_t1 : (words1.take 24).all (fun c => isCode c || c.before args0 about1) = true := by decide +kernel
set_option maxRecDepth 65536 in
theorem w_t2 : ((words1.drop 24).take 24).all (fun c => isCode c || c.before args0 about1) = true := by decide +kernel
set_option maxRecDepth 65536 in
theorem w_t3 : (((words1.drop 24).drop 24).take 24).all (fun c => isCode c || c.before args0 about1) = true := by decide +kernel
set_option maxRecDepth 65536 in
theorem w_t4 : ((((words1.drop 24).drop 24).drop 24).take 24).all (fun c => isCode c || c.before args0 about1) = true := by decide +kernel
set_option maxRecDepth 65536 in
theorem w_t5 : ((((words1.drop 24).drop 24).drop 24).drop 24).all (fun c => isCode c || c.before args0 about1) = true := by decide +kernel
theorem w_tables : (allAtoms (Jvm.Cond.code x code maxLocals ret :: tables_1)).before args0 about1 = true := by
  rw [allAtoms_all]
  show words1.all (fun c => c.before args0 about1) = true
  refine all_split ?_ w_codes
  rw [← List.take_append_drop 24 words1, List.all_append, w_t1, ← List.take_append_drop 24 (words1.drop 24), List.all_append, w_t2, ← List.take_append_drop 24 ((words1.drop 24).drop 24), List.all_append, w_t3, ← List.take_append_drop 24 (((words1.drop 24).drop 24).drop 24), List.all_append, w_t4, w_t5]
  rfl
set_option maxRecDepth 65536 in
theorem w_rest : rest_1_c.before args0 about1 = true := by decide +kernel
set_option maxRecDepth 65536 in
theorem w_case : (Jvm.Cond.and given_1 narrow_1).before args0 about1 = true := by decide +kernel
theorem w_applies : (headSpec (Jvm.Cond.code x code maxLocals ret :: tables_1) room_1).applies x e0.platform about1 = true :=
  (Spec.applies_iff w_frames).mpr ⟨w_running, w_runnable, w_alone, w_named, w_hears, w_ripe, w_room, w_tables⟩
theorem atStart : AtStart classFile x code maxLocals ret World_1 tables_1 room_1 Calls_1 rest_1 Pre_1 launch0 p0 e0 about1 theMethod args0 below0 :=
  ⟨lists_1, trivial, launch0.admits_env _ _ _, launch0.least_env, fairChoices_fair.cas, fairChoices_fair.clock, w_frames, w_args, w_heap, w_applies, ⟨⟨22, k22, 1, by decide +kernel, rfl, rfl, _, rfl, rfl⟩, trivial⟩, w_rest, w_case⟩
end start1
theorem witness_1 : WitnessClaimed_1 := ⟨start1.p0, start1.e0, start1.about1, start1.theMethod, start1.args0, start1.below0, start1.atStart⟩
end Jvm.Pilot.@@N@@
