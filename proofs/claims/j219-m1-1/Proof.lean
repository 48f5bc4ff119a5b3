import JvmDerived
import JvmDerived.Pilot.@@N@@Statement
import JvmDerived.Pilot.@@N@@Code
set_option linter.unusedVariables false
set_option linter.unusedSimpArgs false
@@BLOCK:NumsL.lean.txt@@
@@BLOCK:Masks.lean.txt@@
namespace Jvm.Pilot.@@N@@
open Jvm Jvm.ClassFile Sem Op Lib Jvm.Free Jvm.Stand Jvm.LawKit Jvm.RoadKit Bundle Jvm.Pilot.@@N@@.Jvm.D
def own_bI (P : Prop) [Decidable P] : Int32 := if P then 1 else 0
theorem own_bI_t {P : Prop} [Decidable P] (h : P) : own_bI P = 1 := if_pos h
theorem own_bI_f {P : Prop} [Decidable P] (h : ¬ P) : own_bI P = 0 := if_neg h
theorem own_bI_eq0 {P : Prop} [Decidable P] : own_bI P = 0 ↔ ¬ P := by
  by_cases h : P
  · rw [own_bI_t h]; exact ⟨fun q => absurd q (by decide), fun q => absurd h q⟩
  · rw [own_bI_f h]; exact ⟨fun _ => h, fun _ => rfl⟩
theorem own_bI_eq1 {P : Prop} [Decidable P] : own_bI P = 1 ↔ P := by
  by_cases h : P
  · rw [own_bI_t h]; exact ⟨fun _ => h, fun _ => rfl⟩
  · rw [own_bI_f h]; exact ⟨fun q => absurd q (by decide), fun q => absurd q h⟩
def own_first (a : Int32) : Int32 := a &&& (2147483647 : Int32)
def own_room (a : Int32) : Int64 := ((2147483647 : Int64) - (own_first a).toInt64) + (1 : Int64)
def own_last (a b : Int32) : Int32 := ((own_first a).toInt64 + ((b &&& (2147483647 : Int32)).toInt64 - ((b &&& (2147483647 : Int32)).toInt64 / own_room a) * own_room a)).toInt32
def own_cap (d : Int32) : Int32 := (d.toUInt32 >>> ((4 : Int32) &&& 31).toUInt32).toInt32
def own_u (s : Int32) : Int64 := s.toInt64 - (-2147483648 : Int64)
def own_len (a b : Int32) : Int64 := ((own_last a b).toInt64 - (own_first a).toInt64) + (1 : Int64)
def own_st1 (a b s : Int32) : Int32 := ((own_first a).toInt64 + (own_u s - (own_u s / own_len a b) * own_len a b)).toInt32
def own_sz2 (a : Int32) : Int64 := (own_first a).toInt64 - (-2147483648 : Int64)
def own_st2 (a s : Int32) : Int32 := ((-2147483648 : Int64) + (own_u s - (own_u s / own_sz2 a) * own_sz2 a)).toInt32
def own_sz3 (a b : Int32) : Int64 := (2147483647 : Int64) - (own_last a b).toInt64
def own_st3 (a b s : Int32) : Int32 := (((own_last a b).toInt64 + (1 : Int64)) + (own_u s - (own_u s / own_sz3 a b) * own_sz3 a b)).toInt32
theorem own_l1 : (1 : Int64).toInt = 1 := by decide
theorem own_l2 : (2147483647 : Int64).toInt = 2147483647 := by decide
theorem own_l3 : (-2147483648 : Int64).toInt = -2147483648 := by decide
theorem own_first_r (a : Int32) : 0 ≤ (own_first a).toInt ∧ (own_first a).toInt < 2147483648 := by
  have e : (own_first a).toInt = a.toInt % 2 ^ 31 := Jvm.Kit.i32_mask a 2147483647 (k := 31) (by decide) (by decide)
  omega
theorem own_add {x y : Int64} {i j : Int} (hx : x.toInt = i) (hy : y.toInt = j) (h1 : -2 ^ 63 ≤ i + j) (h2 : i + j < 2 ^ 63) : (x + y).toInt = i + j := by
  subst hx hy; exact Jvm.Kit.i64_add h1 h2
theorem own_sub {x y : Int64} {i j : Int} (hx : x.toInt = i) (hy : y.toInt = j) (h1 : -2 ^ 63 ≤ i - j) (h2 : i - j < 2 ^ 63) : (x - y).toInt = i - j := by
  subst hx hy; exact Jvm.Kit.i64_sub h1 h2
theorem own_rem {x y : Int64} {i j : Int} (hx : x.toInt = i) (hy : y.toInt = j) (h0 : 0 ≤ i) : (x - (x / y) * y).toInt = i % j := by
  subst hx hy; exact Jvm.Kit.i64_rem_nonneg h0
theorem own_room_r (a : Int32) : (own_room a).toInt = 2147483648 - (own_first a).toInt := by
  have r := own_first_r a
  have h1 := own_sub own_l2 (Jvm.Kit.i64_of_i32 (own_first a)) (by omega) (by omega)
  have h2 := own_add h1 own_l1 (by omega) (by omega)
  unfold own_room
  rw [h2]; omega
theorem own_last_r (a b : Int32) : (own_first a).toInt ≤ (own_last a b).toInt := by
  have r := own_first_r a
  have e : (b &&& (2147483647 : Int32)).toInt = b.toInt % 2 ^ 31 := Jvm.Kit.i32_mask b 2147483647 (k := 31) (by decide) (by decide)
  have h1 := own_rem (Jvm.Kit.i64_of_i32 (b &&& (2147483647 : Int32))) (own_room_r a) (by omega)
  have p1 := Int.emod_nonneg (b &&& (2147483647 : Int32)).toInt (b := 2147483648 - (own_first a).toInt) (by omega)
  have p2 := Int.emod_lt_of_pos (b &&& (2147483647 : Int32)).toInt (b := 2147483648 - (own_first a).toInt) (by omega)
  generalize hq : (b &&& (2147483647 : Int32)).toInt % (2147483648 - (own_first a).toInt) = q at h1 p1 p2
  have h2 := own_add (Jvm.Kit.i64_of_i32 (own_first a)) h1 (by omega) (by omega)
  have h3 := Jvm.Kit.i32_of_i64 (by rw [h2]; omega) (by rw [h2]; omega)
  unfold own_last
  rw [h3, h2]; omega
theorem own_cap_nn (d : Int32) : ¬ (own_cap d < (0 : Int32)) := by
  have h := Jvm.Kit.i32_iushr_nonneg d (n := ((4 : Int32) &&& 31).toUInt32) (k := 4) (by decide) (by decide) (by decide)
  unfold own_cap
  rw [Int32.le_iff_toInt_le] at h
  rw [Int32.lt_iff_toInt_lt]
  simp only [Int32.reduceToInt] at h ⊢
  omega
theorem own_u_r (s : Int32) : (own_u s).toInt = s.toInt + 2147483648 ∧ 0 ≤ s.toInt + 2147483648 := by
  have a := s.toInt_lt
  have b := s.le_toInt
  have h := own_sub (Jvm.Kit.i64_of_i32 s) own_l3 (by omega) (by omega)
  refine ⟨?_, by omega⟩
  unfold own_u
  rw [h]; omega
theorem own_len_r (a b : Int32) : (own_len a b).toInt = (own_last a b).toInt - (own_first a).toInt + 1 := by
  have r := own_first_r a
  have r2 := (own_last a b).toInt_lt
  have r3 := own_last_r a b
  have h1 := own_sub (Jvm.Kit.i64_of_i32 (own_last a b)) (Jvm.Kit.i64_of_i32 (own_first a)) (by omega) (by omega)
  have h2 := own_add h1 own_l1 (by omega) (by omega)
  unfold own_len
  rw [h2]
theorem own_sz2_r (a : Int32) : (own_sz2 a).toInt = (own_first a).toInt + 2147483648 := by
  have r := own_first_r a
  have h := own_sub (Jvm.Kit.i64_of_i32 (own_first a)) own_l3 (by omega) (by omega)
  unfold own_sz2
  rw [h]; omega
theorem own_sz3_r (a b : Int32) : (own_sz3 a b).toInt = 2147483647 - (own_last a b).toInt := by
  have r2 := (own_last a b).toInt_lt
  have r3 := (own_last a b).le_toInt
  have h := own_sub own_l2 (Jvm.Kit.i64_of_i32 (own_last a b)) (by omega) (by omega)
  unfold own_sz3
  rw [h]
theorem own_mod {u m : Int} (hm : 0 < m) : 0 ≤ u % m ∧ u % m < m := ⟨Int.emod_nonneg _ (by omega), Int.emod_lt_of_pos _ hm⟩
theorem own_st1_r (a b s : Int32) : (own_first a).toInt ≤ (own_st1 a b s).toInt ∧ (own_st1 a b s).toInt ≤ (own_last a b).toInt := by
  have r := own_first_r a
  have r2 := (own_last a b).toInt_lt
  have r3 := own_last_r a b
  have h1 := own_rem (own_u_r s).1 (own_len_r a b) (own_u_r s).2
  obtain ⟨p1, p2⟩ := own_mod (u := s.toInt + 2147483648) (m := (own_last a b).toInt - (own_first a).toInt + 1) (by omega)
  generalize (s.toInt + 2147483648) % ((own_last a b).toInt - (own_first a).toInt + 1) = q at h1 p1 p2
  have h2 := own_add (Jvm.Kit.i64_of_i32 (own_first a)) h1 (by omega) (by omega)
  have h3 := Jvm.Kit.i32_of_i64 (by rw [h2]; omega) (by rw [h2]; omega)
  unfold own_st1
  rw [h3, h2]; omega
theorem own_st2_r (a s : Int32) : (own_st2 a s).toInt < (own_first a).toInt := by
  have r := own_first_r a
  have h1 := own_rem (own_u_r s).1 (own_sz2_r a) (own_u_r s).2
  obtain ⟨p1, p2⟩ := own_mod (u := s.toInt + 2147483648) (m := (own_first a).toInt + 2147483648) (by omega)
  generalize (s.toInt + 2147483648) % ((own_first a).toInt + 2147483648) = q at h1 p1 p2
  have h2 := own_add own_l3 h1 (by omega) (by omega)
  have h3 := Jvm.Kit.i32_of_i64 (by rw [h2]; omega) (by rw [h2]; omega)
  unfold own_st2
  rw [h3, h2]; omega
theorem own_st3_r (a b s : Int32) (hl : (own_last a b).toInt ≠ 2147483647) : (own_last a b).toInt < (own_st3 a b s).toInt := by
  have r2 := (own_last a b).toInt_lt
  have r3 := (own_last a b).le_toInt
  have h1 := own_rem (own_u_r s).1 (own_sz3_r a b) (own_u_r s).2
  obtain ⟨p1, p2⟩ := own_mod (u := s.toInt + 2147483648) (m := 2147483647 - (own_last a b).toInt) (by omega)
  generalize (s.toInt + 2147483648) % (2147483647 - (own_last a b).toInt) = q at h1 p1 p2
  have h0 := own_add (Jvm.Kit.i64_of_i32 (own_last a b)) own_l1 (by omega) (by omega)
  have h2 := own_add h0 h1 (by omega) (by omega)
  have h3 := Jvm.Kit.i32_of_i64 (by rw [h2]; omega) (by rw [h2]; omega)
  unfold own_st3
  rw [h3, h2]; omega
theorem own_nz {x : Int64} (h : x.toInt ≠ 0) : x ≠ 0 := fun q => h (by rw [q]; rfl)
theorem own_pred (x : Int32) (h : 0 < x.toInt) : (x - (1 : Int32)).toInt = x.toInt - 1 := by
  have := x.toInt_lt
  exact Jvm.Kit.i32_sub (by simp only [Int32.reduceToInt]; omega) (by simp only [Int32.reduceToInt]; omega)
theorem own_succ (x : Int32) (h : x.toInt < 2147483647) : (x + (1 : Int32)).toInt = x.toInt + 1 := by
  have := x.le_toInt
  exact Jvm.Kit.i32_add (by simp only [Int32.reduceToInt]; omega) (by simp only [Int32.reduceToInt]; omega)
theorem d1_0 : decode prog_12_method_1_code 0 = .ok (.aload_n 0, 1) := by decide +kernel
theorem d1_1 : decode prog_12_method_1_code 1 = .ok (.invokespecial 1, 3) := by decide +kernel
theorem d1_4 : decode prog_12_method_1_code 4 = .ok (.iload_n 1, 1) := by decide +kernel
theorem d1_5 : decode prog_12_method_1_code 5 = .ok (.ifCond .lt 8, 3) := by decide +kernel
theorem d1_8 : decode prog_12_method_1_code 8 = .ok (.iload_n 2, 1) := by decide +kernel
theorem d1_9 : decode prog_12_method_1_code 9 = .ok (.iload_n 1, 1) := by decide +kernel
theorem d1_10 : decode prog_12_method_1_code 10 = .ok (.if_icmp .ge 18, 3) := by decide +kernel
theorem d1_13 : decode prog_12_method_1_code 13 = .ok (.new 7, 3) := by decide +kernel
theorem d1_16 : decode prog_12_method_1_code 16 = .ok (.dup, 1) := by decide +kernel
theorem d1_17 : decode prog_12_method_1_code 17 = .ok (.iload_n 1, 1) := by decide +kernel
theorem d1_18 : decode prog_12_method_1_code 18 = .ok (.iload_n 2, 1) := by decide +kernel
theorem d1_24 : decode prog_12_method_1_code 24 = .ok (.invokespecial 13, 3) := by decide +kernel
theorem d1_27 : decode prog_12_method_1_code 27 = .ok (.athrow, 1) := by decide +kernel
theorem d1_28 : decode prog_12_method_1_code 28 = .ok (.iload_n 3, 1) := by decide +kernel
theorem d1_29 : decode prog_12_method_1_code 29 = .ok (.ifCond .ge 17, 3) := by decide +kernel
theorem d1_32 : decode prog_12_method_1_code 32 = .ok (.new 7, 3) := by decide +kernel
theorem d1_35 : decode prog_12_method_1_code 35 = .ok (.dup, 1) := by decide +kernel
theorem d1_36 : decode prog_12_method_1_code 36 = .ok (.iload_n 3, 1) := by decide +kernel
theorem d1_42 : decode prog_12_method_1_code 42 = .ok (.invokespecial 13, 3) := by decide +kernel
theorem d1_45 : decode prog_12_method_1_code 45 = .ok (.athrow, 1) := by decide +kernel
theorem d1_46 : decode prog_12_method_1_code 46 = .ok (.aload_n 0, 1) := by decide +kernel
theorem d1_47 : decode prog_12_method_1_code 47 = .ok (.iload_n 1, 1) := by decide +kernel
theorem d1_48 : decode prog_12_method_1_code 48 = .ok (.putfield 19, 3) := by decide +kernel
theorem d1_51 : decode prog_12_method_1_code 51 = .ok (.aload_n 0, 1) := by decide +kernel
theorem d1_52 : decode prog_12_method_1_code 52 = .ok (.iload_n 2, 1) := by decide +kernel
theorem d1_53 : decode prog_12_method_1_code 53 = .ok (.putfield 25, 3) := by decide +kernel
theorem d1_56 : decode prog_12_method_1_code 56 = .ok (.aload_n 0, 1) := by decide +kernel
theorem d1_57 : decode prog_12_method_1_code 57 = .ok (.iload_n 3, 1) := by decide +kernel
theorem d1_58 : decode prog_12_method_1_code 58 = .ok (.putfield 28, 3) := by decide +kernel
theorem d1_61 : decode prog_12_method_1_code 61 = .ok (.return_, 1) := by decide +kernel
theorem ef_1 (m : MethodId) (r0 : Addr) (p1 : Int32) (p2 : Int32) (p3 : Int32) : entryFrame m #[(.ref r0), (.int p1), (.int p2), (.int p3)] 4 = mkF m 0 #[.val (.ref r0), .val (.int p1), .val (.int p2), .val (.int p3)] [] := by first | (simp [entryFrame, mkF, argsToLocals, Value.category]; done) | rfl
theorem pn_0 : plainName "com/example/backpressure/backpressure/model/CapacityChange" = true := by first | (simp [plainName, overriddenIn]; done) | decide +kernel
def Q1 (Z : State) (r0 : Addr) (p1 : Int32) (p2 : Int32) (p3 : Int32) (h0 : Heap) (n0 : Nat) (v : Option Value) (h : Heap) (L : List Loc) : Prop := v = none ∧ Fr n0 L ∧ Keep h0 h [r0] ∧ Exa Z h r0 "com/example/backpressure/backpressure/model/CapacityChange" ∧ Fld Z h r0 "com/example/backpressure/backpressure/model/CapacityChange" "firstStep" "I" (.int p1) ∧ Fld Z h r0 "com/example/backpressure/backpressure/model/CapacityChange" "lastStep" "I" (.int p2) ∧ Fld Z h r0 "com/example/backpressure/backpressure/model/CapacityChange" "capacity" "I" (.int p3)
set_option maxRecDepth 65536 in
set_option maxHeartbeats 40000000 in
theorem rm1 (l : Launch) (Z : State) (a0 : Array Value) (hw : ∀ d ∈ tables_1, d.before a0 Z = true) (ws : List Jvm.Cond) (r0 : Addr) (p1 : Int32) (p2 : Int32) (p3 : Int32) (h0 : Heap) (n0 : Nat) (Z0 : n0 ≤ h0.size) (F_firstStep_r0 : Fld Z h0 r0 "com/example/backpressure/backpressure/model/CapacityChange" "firstStep" "I" (.int (0 : Int32))) (F_lastStep_r0 : Fld Z h0 r0 "com/example/backpressure/backpressure/model/CapacityChange" "lastStep" "I" (.int (0 : Int32))) (F_capacity_r0 : Fld Z h0 r0 "com/example/backpressure/backpressure/model/CapacityChange" "capacity" "I" (.int (0 : Int32))) (E_r0 : Exa Z h0 r0 "com/example/backpressure/backpressure/model/CapacityChange") (g_r0 : n0 ≤ r0) (hp1 : ¬ (p1 < (0 : Int32))) (hp2 : ¬ (p2 < p1)) (hp3 : ¬ (p3 < (0 : Int32))) :
    MetFree l (⟨"com/example/backpressure/backpressure/model/CapacityChange", "<init>", "(III)V"⟩ : MethodName) (head1 (Jvm.Cond.code (⟨"com/example/backpressure/backpressure/model/CapacityChange", "<init>", "(III)V"⟩ : MethodName) prog_12_method_1_code 4 none :: ws) ({ frames := 1, cells := 0, slots := 0, locals := 12 } : Room)) (fun a U => a = #[(.ref r0), (.int p1), (.int p2), (.int p3)] ∧ Z.Warmed39 U.vm ∧ U.heap = h0) (fun _ _ _ _ _ => True) (fun _ U o U' => ∃ v L, o = .returned v ∧ Q1 Z r0 p1 p2 p3 h0 n0 v U'.heap L ∧ FrameEnd U o U' L ({ frames := 1, cells := 0, slots := 0, locals := 12 } : Room).cells ({ frames := 1, cells := 0, slots := 0, locals := 12 } : Room).slots) := by
  refine MetFree.of_bodySF (plainFor_of_name pn_0) hisR ?_
  intro p e s m args below meth c s₁ Bd hml0 hP hK
  obtain ⟨rfl, hZ, hh⟩ := hP
  have hx := Bd.exec
  have hby := Bd.bytes
  have hml : c.maxLocals = 4 := hml0
  have hown : s.vm.findClass "com/example/backpressure/backpressure/model/CapacityChange" = some m.cls := findClass_of_methodNamed Bd.named
  have hnm := (name_of_methodNamed Bd.named Bd.method).1
  have X0 : Stand p l e ({ frames := 1, cells := 0, slots := 0, locals := 12 } : Room) s m #[(.ref r0), (.int p1), (.int p2), (.int p3)] below meth c s₁ [] 0 0 := Stand.of_body Bd
  have e0 : s₁.heap = h0 := by rw [← hh, Bd.state]; rfl
  have N0 := Fr.nil n0
  have k0 : ∀ t, Steps p.tables e below (s₁.setTop (mkF m 0 #[.val (.ref r0), .val (.int p1), .val (.int p2), .val (.int p3)] [])) t → Steps p.tables e below (s₁.setTop (entryFrame m #[(.ref r0), (.int p1), (.int p2), (.int p3)] 4)) t := fun t k => castTop (ef_1 m r0 p1 p2 p3) k
  have k1 : ∀ t, Steps p.tables e below (s₁.setTop (mkF m 1 #[.val (.ref r0), .val (.int p1), .val (.int p2), .val (.int p3)] [(.ref r0)])) t → Steps p.tables e below (s₁.setTop (entryFrame m #[(.ref r0), (.int p1), (.int p2), (.int p3)] 4)) t := fun t k => k0 t (by
      show Steps p.tables e below (s₁.setTop (mkF m 0 #[.val (.ref r0), .val (.int p1), .val (.int p2), .val (.int p3)] [])) _
      refine XS.aloadN X0.here hx rfl (hb hby d1_0) rfl rfl ?_
      exact k)
  obtain ⟨T2, X2, e2, st2⟩ := initO X0 hx hZ hown (hw _ (List.mem_of_getElem? (i := 8) rfl)) (hw _ (List.mem_of_getElem? (i := 9) rfl)) (hw _ (List.mem_of_getElem? (i := 10) rfl)) e0 (g := (mkF m 1 #[.val (.ref r0), .val (.int p1), .val (.int p2), .val (.int p3)] [(.ref r0)])) rfl (by rw [hml]; rfl) rfl (hb hby d1_1) (by decide) (W := 0) (by show 2 * 0 + _ ≤ _; exact Nat.le_of_eq rfl) (by decide)
  have k3 : ∀ t, Steps p.tables e below (T2.setTop (mkF m 4 #[.val (.ref r0), .val (.int p1), .val (.int p2), .val (.int p3)] [])) t → Steps p.tables e below (s₁.setTop (entryFrame m #[(.ref r0), (.int p1), (.int p2), (.int p3)] 4)) t := fun t k => k1 t (st2 _ k)
  have hc5 : ¬ (p1 < (0 : Int32)) := hp1
  have hc10 : ¬ (p2 < p1) := hp2
  have hc29 : ¬ (p3 < (0 : Int32)) := hp3
  have k4 : ∀ t, Steps p.tables e below (T2.setTop (mkF m 48 #[.val (.ref r0), .val (.int p1), .val (.int p2), .val (.int p3)] [(.int p1), (.ref r0)])) t → Steps p.tables e below (s₁.setTop (entryFrame m #[(.ref r0), (.int p1), (.int p2), (.int p3)] 4)) t := fun t k => k3 t (by
      show Steps p.tables e below (T2.setTop (mkF m 4 #[.val (.ref r0), .val (.int p1), .val (.int p2), .val (.int p3)] [])) _
      refine XS.iloadN X2.here hx rfl (hb hby d1_4) rfl ?_
      show Steps p.tables e below (T2.setTop (mkF m 5 #[.val (.ref r0), .val (.int p1), .val (.int p2), .val (.int p3)] [(.int p1)])) _
      refine XS.ifNo X2.here hx rfl (hb hby d1_5) rfl ((if0 _ _).trans (flt hc5).1) ?_
      show Steps p.tables e below (T2.setTop (mkF m 8 #[.val (.ref r0), .val (.int p1), .val (.int p2), .val (.int p3)] [])) _
      refine XS.iloadN X2.here hx rfl (hb hby d1_8) rfl ?_
      show Steps p.tables e below (T2.setTop (mkF m 9 #[.val (.ref r0), .val (.int p1), .val (.int p2), .val (.int p3)] [(.int p2)])) _
      refine XS.iloadN X2.here hx rfl (hb hby d1_9) rfl ?_
      show Steps p.tables e below (T2.setTop (mkF m 10 #[.val (.ref r0), .val (.int p1), .val (.int p2), .val (.int p3)] [(.int p1), (.int p2)])) _
      refine XS.icmpYes X2.here hx rfl (pc0 := 10) (pc' := 28) rfl (hb hby d1_10) rfl (flt hc10).2.1 (by decide) (by decide) ?_
      show Steps p.tables e below (T2.setTop (mkF m 28 #[.val (.ref r0), .val (.int p1), .val (.int p2), .val (.int p3)] [])) _
      refine XS.iloadN X2.here hx rfl (hb hby d1_28) rfl ?_
      show Steps p.tables e below (T2.setTop (mkF m 29 #[.val (.ref r0), .val (.int p1), .val (.int p2), .val (.int p3)] [(.int p3)])) _
      refine XS.ifYes X2.here hx rfl (pc0 := 29) (pc' := 46) rfl (hb hby d1_29) rfl ((if0 _ _).trans (flt hc29).2.1) (by decide) (by decide) ?_
      show Steps p.tables e below (T2.setTop (mkF m 46 #[.val (.ref r0), .val (.int p1), .val (.int p2), .val (.int p3)] [])) _
      refine XS.aloadN X2.here hx rfl (hb hby d1_46) rfl rfl ?_
      show Steps p.tables e below (T2.setTop (mkF m 47 #[.val (.ref r0), .val (.int p1), .val (.int p2), .val (.int p3)] [(.ref r0)])) _
      refine XS.iloadN X2.here hx rfl (hb hby d1_47) rfl ?_
      exact k)
  obtain ⟨T5, h5, X5, e5, W5, st5⟩ := putF X2 hx hZ hown (host := "") (Or.inl (hw _ (List.mem_of_getElem? (i := 11) rfl))) Via.refl e2 F_firstStep_r0 E_r0 (Or.inr ⟨(hw _ (List.mem_of_getElem? (i := 12) rfl)), rfl, hnm⟩) (hw _ (List.mem_of_getElem? (i := 3) rfl)) (ty := .int) (by decide) rfl rfl (g := (mkF m 48 #[.val (.ref r0), .val (.int p1), .val (.int p2), .val (.int p3)] [(.int p1), (.ref r0)])) rfl rfl (hb hby d1_48)
  have fc6 := (F_lastStep_r0.other W5 (Or.inr (slot_ne (Or.inr (hw _ (List.mem_of_getElem? (i := 14) rfl))) (Or.inr (hw _ (List.mem_of_getElem? (i := 12) rfl))) (by decide) (t := .int) (t' := .int) (by decide) (by decide))))
  have fc7 := (F_capacity_r0.other W5 (Or.inr (slot_ne (Or.inr (hw _ (List.mem_of_getElem? (i := 16) rfl))) (Or.inr (hw _ (List.mem_of_getElem? (i := 12) rfl))) (by decide) (t := .int) (t' := .int) (by decide) (by decide))))
  have N5 := Fr.snoc X5 N0 g_r0
  have Zs5 : n0 ≤ h5.size := Nat.le_trans Z0 (Keep.of_wr W5).1
  have k8 : ∀ t, Steps p.tables e below (T5.setTop (mkF m 51 #[.val (.ref r0), .val (.int p1), .val (.int p2), .val (.int p3)] [])) t → Steps p.tables e below (s₁.setTop (entryFrame m #[(.ref r0), (.int p1), (.int p2), (.int p3)] 4)) t := fun t k => k4 t (st5 _ k)
  have k9 : ∀ t, Steps p.tables e below (T5.setTop (mkF m 53 #[.val (.ref r0), .val (.int p1), .val (.int p2), .val (.int p3)] [(.int p2), (.ref r0)])) t → Steps p.tables e below (s₁.setTop (entryFrame m #[(.ref r0), (.int p1), (.int p2), (.int p3)] 4)) t := fun t k => k8 t (by
      show Steps p.tables e below (T5.setTop (mkF m 51 #[.val (.ref r0), .val (.int p1), .val (.int p2), .val (.int p3)] [])) _
      refine XS.aloadN X5.here hx rfl (hb hby d1_51) rfl rfl ?_
      show Steps p.tables e below (T5.setTop (mkF m 52 #[.val (.ref r0), .val (.int p1), .val (.int p2), .val (.int p3)] [(.ref r0)])) _
      refine XS.iloadN X5.here hx rfl (hb hby d1_52) rfl ?_
      exact k)
  obtain ⟨T10, h10, X10, e10, W10, st10⟩ := putF X5 hx hZ hown (host := "") (Or.inl (hw _ (List.mem_of_getElem? (i := 13) rfl))) Via.refl e5 fc6 (E_r0.wr W5) (Or.inr ⟨(hw _ (List.mem_of_getElem? (i := 14) rfl)), rfl, hnm⟩) (hw _ (List.mem_of_getElem? (i := 3) rfl)) (ty := .int) (by decide) rfl rfl (g := (mkF m 53 #[.val (.ref r0), .val (.int p1), .val (.int p2), .val (.int p3)] [(.int p2), (.ref r0)])) rfl rfl (hb hby d1_53)
  have fc11 := ((F_firstStep_r0.same W5).other W10 (Or.inr (slot_ne (Or.inr (hw _ (List.mem_of_getElem? (i := 12) rfl))) (Or.inr (hw _ (List.mem_of_getElem? (i := 14) rfl))) (by decide) (t := .int) (t' := .int) (by decide) (by decide))))
  have fc12 := (fc7.other W10 (Or.inr (slot_ne (Or.inr (hw _ (List.mem_of_getElem? (i := 16) rfl))) (Or.inr (hw _ (List.mem_of_getElem? (i := 14) rfl))) (by decide) (t := .int) (t' := .int) (by decide) (by decide))))
  have N10 := Fr.snoc X10 N5 g_r0
  have Zs10 : n0 ≤ h10.size := Nat.le_trans Zs5 (Keep.of_wr W10).1
  have k13 : ∀ t, Steps p.tables e below (T10.setTop (mkF m 56 #[.val (.ref r0), .val (.int p1), .val (.int p2), .val (.int p3)] [])) t → Steps p.tables e below (s₁.setTop (entryFrame m #[(.ref r0), (.int p1), (.int p2), (.int p3)] 4)) t := fun t k => k9 t (st10 _ k)
  have k14 : ∀ t, Steps p.tables e below (T10.setTop (mkF m 58 #[.val (.ref r0), .val (.int p1), .val (.int p2), .val (.int p3)] [(.int p3), (.ref r0)])) t → Steps p.tables e below (s₁.setTop (entryFrame m #[(.ref r0), (.int p1), (.int p2), (.int p3)] 4)) t := fun t k => k13 t (by
      show Steps p.tables e below (T10.setTop (mkF m 56 #[.val (.ref r0), .val (.int p1), .val (.int p2), .val (.int p3)] [])) _
      refine XS.aloadN X10.here hx rfl (hb hby d1_56) rfl rfl ?_
      show Steps p.tables e below (T10.setTop (mkF m 57 #[.val (.ref r0), .val (.int p1), .val (.int p2), .val (.int p3)] [(.ref r0)])) _
      refine XS.iloadN X10.here hx rfl (hb hby d1_57) rfl ?_
      exact k)
  obtain ⟨T15, h15, X15, e15, W15, st15⟩ := putF X10 hx hZ hown (host := "") (Or.inl (hw _ (List.mem_of_getElem? (i := 15) rfl))) Via.refl e10 fc12 ((E_r0.wr W5).wr W10) (Or.inr ⟨(hw _ (List.mem_of_getElem? (i := 16) rfl)), rfl, hnm⟩) (hw _ (List.mem_of_getElem? (i := 3) rfl)) (ty := .int) (by decide) rfl rfl (g := (mkF m 58 #[.val (.ref r0), .val (.int p1), .val (.int p2), .val (.int p3)] [(.int p3), (.ref r0)])) rfl rfl (hb hby d1_58)
  have fc16 := (fc11.other W15 (Or.inr (slot_ne (Or.inr (hw _ (List.mem_of_getElem? (i := 12) rfl))) (Or.inr (hw _ (List.mem_of_getElem? (i := 16) rfl))) (by decide) (t := .int) (t' := .int) (by decide) (by decide))))
  have fc17 := ((fc6.same W10).other W15 (Or.inr (slot_ne (Or.inr (hw _ (List.mem_of_getElem? (i := 14) rfl))) (Or.inr (hw _ (List.mem_of_getElem? (i := 16) rfl))) (by decide) (t := .int) (t' := .int) (by decide) (by decide))))
  have N15 := Fr.snoc X15 N10 g_r0
  have Zs15 : n0 ≤ h15.size := Nat.le_trans Zs10 (Keep.of_wr W15).1
  have k18 : ∀ t, Steps p.tables e below (T15.setTop (mkF m 61 #[.val (.ref r0), .val (.int p1), .val (.int p2), .val (.int p3)] [])) t → Steps p.tables e below (s₁.setTop (entryFrame m #[(.ref r0), (.int p1), (.int p2), (.int p3)] 4)) t := fun t k => k14 t (st15 _ k)
  obtain ⟨fs, hr, hrun, hended, hW, hsame⟩ := X15.leave (v := none) (fun _ => rfl)
  refine ⟨_, _, k18 _ ?_, hrun, hended, _, _, rfl, ?_, ⟨_, rfl⟩, hW, hsame.mono (by decide) (by decide)⟩
  · exact X15.returnOut hx Bd.returns (hb hby d1_61) hr
  · show Q1 Z r0 p1 p2 p3 h0 n0 _ T15.heap _
    rw [e15]
    exact ⟨rfl, N15, ((((Keep.refl h0 [r0]).wr W5 (Or.inl (List.mem_of_getElem? (i := 0) rfl))).wr W10 (Or.inl (List.mem_of_getElem? (i := 0) rfl))).wr W15 (Or.inl (List.mem_of_getElem? (i := 0) rfl))), (((E_r0.wr W5).wr W10).wr W15), fc16, fc17, (fc12.same W15)⟩
theorem d3_0 : decode prog_12_method_5_code 0 = .ok (.aload_n 0, 1) := by decide +kernel
theorem d3_1 : decode prog_12_method_5_code 1 = .ok (.getfield 19, 3) := by decide +kernel
theorem d3_4 : decode prog_12_method_5_code 4 = .ok (.iload_n 1, 1) := by decide +kernel
theorem d3_5 : decode prog_12_method_5_code 5 = .ok (.if_icmp .gt 15, 3) := by decide +kernel
theorem d3_8 : decode prog_12_method_5_code 8 = .ok (.iload_n 1, 1) := by decide +kernel
theorem d3_9 : decode prog_12_method_5_code 9 = .ok (.aload_n 0, 1) := by decide +kernel
theorem d3_10 : decode prog_12_method_5_code 10 = .ok (.getfield 25, 3) := by decide +kernel
theorem d3_13 : decode prog_12_method_5_code 13 = .ok (.if_icmp .gt 7, 3) := by decide +kernel
theorem d3_16 : decode prog_12_method_5_code 16 = .ok (.iconst 1, 1) := by decide +kernel
theorem d3_17 : decode prog_12_method_5_code 17 = .ok (.goto 4, 3) := by decide +kernel
theorem d3_20 : decode prog_12_method_5_code 20 = .ok (.iconst 0, 1) := by decide +kernel
theorem d3_21 : decode prog_12_method_5_code 21 = .ok (.ireturn, 1) := by decide +kernel
theorem ef_3 (m : MethodId) (r0 : Addr) (p1 : Int32) : entryFrame m #[(.ref r0), (.int p1)] 2 = mkF m 0 #[.val (.ref r0), .val (.int p1)] [] := by first | (simp [entryFrame, mkF, argsToLocals, Value.category]; done) | rfl
def Q3 (Z : State) (r0 : Addr) (p1 : Int32) (lo : Int32) (hi : Int32) (h0 : Heap) (n0 : Nat) (v : Option Value) (h : Heap) (L : List Loc) : Prop := v = some (.int (own_bI (lo.toInt ≤ p1.toInt ∧ p1.toInt ≤ hi.toInt))) ∧ Fr n0 L ∧ h = h0
set_option maxRecDepth 65536 in
set_option maxHeartbeats 40000000 in
theorem rm3 (l : Launch) (Z : State) (a0 : Array Value) (hw : ∀ d ∈ tables_1, d.before a0 Z = true) (ws : List Jvm.Cond) (r0 : Addr) (p1 : Int32) (lo : Int32) (hi : Int32) (h0 : Heap) (n0 : Nat) (Z0 : n0 ≤ h0.size) (F_firstStep_r0 : Fld Z h0 r0 "com/example/backpressure/backpressure/model/CapacityChange" "firstStep" "I" (.int lo)) (F_lastStep_r0 : Fld Z h0 r0 "com/example/backpressure/backpressure/model/CapacityChange" "lastStep" "I" (.int hi)) :
    MetFree l (⟨"com/example/backpressure/backpressure/model/CapacityChange", "holdsIn", "(I)Z"⟩ : MethodName) (head1 (Jvm.Cond.code (⟨"com/example/backpressure/backpressure/model/CapacityChange", "holdsIn", "(I)Z"⟩ : MethodName) prog_12_method_5_code 2 (some .boolean) :: ws) ({ frames := 0, cells := 0, slots := 0, locals := 0 } : Room)) (fun a U => a = #[(.ref r0), (.int p1)] ∧ Z.Warmed39 U.vm ∧ U.heap = h0) (fun _ _ _ _ _ => True) (fun _ U o U' => ∃ v L, o = .returned v ∧ Q3 Z r0 p1 lo hi h0 n0 v U'.heap L ∧ FrameEnd U o U' L ({ frames := 0, cells := 0, slots := 0, locals := 0 } : Room).cells ({ frames := 0, cells := 0, slots := 0, locals := 0 } : Room).slots) := by
  refine MetFree.of_bodySF (plainFor_of_name pn_0) hisR ?_
  intro p e s m args below meth c s₁ Bd hml0 hP hK
  obtain ⟨rfl, hZ, hh⟩ := hP
  have hx := Bd.exec
  have hby := Bd.bytes
  have hml : c.maxLocals = 2 := hml0
  have hown : s.vm.findClass "com/example/backpressure/backpressure/model/CapacityChange" = some m.cls := findClass_of_methodNamed Bd.named
  have hnm := (name_of_methodNamed Bd.named Bd.method).1
  have X0 : Stand p l e ({ frames := 0, cells := 0, slots := 0, locals := 0 } : Room) s m #[(.ref r0), (.int p1)] below meth c s₁ [] 0 0 := Stand.of_body Bd
  have e0 : s₁.heap = h0 := by rw [← hh, Bd.state]; rfl
  have N0 := Fr.nil n0
  have k0 : ∀ t, Steps p.tables e below (s₁.setTop (mkF m 0 #[.val (.ref r0), .val (.int p1)] [])) t → Steps p.tables e below (s₁.setTop (entryFrame m #[(.ref r0), (.int p1)] 2)) t := fun t k => castTop (ef_3 m r0 p1) k
  have k1 : ∀ t, Steps p.tables e below (s₁.setTop (mkF m 1 #[.val (.ref r0), .val (.int p1)] [(.ref r0)])) t → Steps p.tables e below (s₁.setTop (entryFrame m #[(.ref r0), (.int p1)] 2)) t := fun t k => k0 t (by
      show Steps p.tables e below (s₁.setTop (mkF m 0 #[.val (.ref r0), .val (.int p1)] [])) _
      refine XS.aloadN X0.here hx rfl (hb hby d3_0) rfl rfl ?_
      exact k)
  obtain ⟨T2, X2, e2, st2⟩ := getF X0 hx hZ hown (host := "") (Or.inl (hw _ (List.mem_of_getElem? (i := 11) rfl))) Via.refl e0 F_firstStep_r0 (g := (mkF m 1 #[.val (.ref r0), .val (.int p1)] [(.ref r0)])) rfl rfl (hb hby d3_1)
  have k3 : ∀ t, Steps p.tables e below (T2.setTop (mkF m 4 #[.val (.ref r0), .val (.int p1)] [(.int lo)])) t → Steps p.tables e below (s₁.setTop (entryFrame m #[(.ref r0), (.int p1)] 2)) t := fun t k => k1 t (st2 _ k)
  have k4 : ∀ t, Steps p.tables e below (T2.setTop (mkF m 5 #[.val (.ref r0), .val (.int p1)] [(.int p1), (.int lo)])) t → Steps p.tables e below (s₁.setTop (entryFrame m #[(.ref r0), (.int p1)] 2)) t := fun t k => k3 t (by
      show Steps p.tables e below (T2.setTop (mkF m 4 #[.val (.ref r0), .val (.int p1)] [(.int lo)])) _
      refine XS.iloadN X2.here hx rfl (hb hby d3_4) rfl ?_
      exact k)
  by_cases hc5 : p1 < lo
  · have k5 : ∀ t, Steps p.tables e below (T2.setTop (mkF m 21 #[.val (.ref r0), .val (.int p1)] [(.int (0 : Int32))])) t → Steps p.tables e below (s₁.setTop (entryFrame m #[(.ref r0), (.int p1)] 2)) t := fun t k => k4 t (by
        show Steps p.tables e below (T2.setTop (mkF m 5 #[.val (.ref r0), .val (.int p1)] [(.int p1), (.int lo)])) _
        refine XS.icmpYes X2.here hx rfl (pc0 := 5) (pc' := 20) rfl (hb hby d3_5) rfl (tlt hc5).2.2.1 (by decide) (by decide) ?_
        show Steps p.tables e below (T2.setTop (mkF m 20 #[.val (.ref r0), .val (.int p1)] [])) _
        refine XS.iconst X2.here hx rfl (hb hby d3_20) ?_
        exact k)
    obtain ⟨fs, hr, hrun, hended, hW, hsame⟩ := X2.leave (v := (some (.int (0 : Int32)))) (fun h => by rw [Bd.returns] at h; cases h)
    refine ⟨_, _, k5 _ ?_, hrun, hended, _, _, rfl, ?_, ⟨_, rfl⟩, hW, hsame.mono (by decide) (by decide)⟩
    · exact retN X2 hx (t := .boolean) Bd.returns (by simp) (hb hby d3_21) hr
    · show Q3 Z r0 p1 lo hi h0 n0 _ T2.heap _
      rw [e2]
      exact ⟨congrArg (fun z => some (Value.int z)) (own_bI_f (by simp only [Int32.lt_iff_toInt_lt, ← Int32.toInt_inj, Int32.reduceToInt] at hc5; omega)).symm, N0, rfl⟩
  · have k6 : ∀ t, Steps p.tables e below (T2.setTop (mkF m 10 #[.val (.ref r0), .val (.int p1)] [(.ref r0), (.int p1)])) t → Steps p.tables e below (s₁.setTop (entryFrame m #[(.ref r0), (.int p1)] 2)) t := fun t k => k4 t (by
        show Steps p.tables e below (T2.setTop (mkF m 5 #[.val (.ref r0), .val (.int p1)] [(.int p1), (.int lo)])) _
        refine XS.icmpNo X2.here hx rfl (hb hby d3_5) rfl (flt hc5).2.2.1 ?_
        show Steps p.tables e below (T2.setTop (mkF m 8 #[.val (.ref r0), .val (.int p1)] [])) _
        refine XS.iloadN X2.here hx rfl (hb hby d3_8) rfl ?_
        show Steps p.tables e below (T2.setTop (mkF m 9 #[.val (.ref r0), .val (.int p1)] [(.int p1)])) _
        refine XS.aloadN X2.here hx rfl (hb hby d3_9) rfl rfl ?_
        exact k)
    obtain ⟨T7, X7, e7, st7⟩ := getF X2 hx hZ hown (host := "") (Or.inl (hw _ (List.mem_of_getElem? (i := 13) rfl))) Via.refl e2 F_lastStep_r0 (g := (mkF m 10 #[.val (.ref r0), .val (.int p1)] [(.ref r0), (.int p1)])) rfl rfl (hb hby d3_10)
    have k8 : ∀ t, Steps p.tables e below (T7.setTop (mkF m 13 #[.val (.ref r0), .val (.int p1)] [(.int hi), (.int p1)])) t → Steps p.tables e below (s₁.setTop (entryFrame m #[(.ref r0), (.int p1)] 2)) t := fun t k => k6 t (st7 _ k)
    by_cases hc13 : hi < p1
    · have k9 : ∀ t, Steps p.tables e below (T7.setTop (mkF m 21 #[.val (.ref r0), .val (.int p1)] [(.int (0 : Int32))])) t → Steps p.tables e below (s₁.setTop (entryFrame m #[(.ref r0), (.int p1)] 2)) t := fun t k => k8 t (by
          show Steps p.tables e below (T7.setTop (mkF m 13 #[.val (.ref r0), .val (.int p1)] [(.int hi), (.int p1)])) _
          refine XS.icmpYes X7.here hx rfl (pc0 := 13) (pc' := 20) rfl (hb hby d3_13) rfl (tlt hc13).2.2.1 (by decide) (by decide) ?_
          show Steps p.tables e below (T7.setTop (mkF m 20 #[.val (.ref r0), .val (.int p1)] [])) _
          refine XS.iconst X7.here hx rfl (hb hby d3_20) ?_
          exact k)
      obtain ⟨fs, hr, hrun, hended, hW, hsame⟩ := X7.leave (v := (some (.int (0 : Int32)))) (fun h => by rw [Bd.returns] at h; cases h)
      refine ⟨_, _, k9 _ ?_, hrun, hended, _, _, rfl, ?_, ⟨_, rfl⟩, hW, hsame.mono (by decide) (by decide)⟩
      · exact retN X7 hx (t := .boolean) Bd.returns (by simp) (hb hby d3_21) hr
      · show Q3 Z r0 p1 lo hi h0 n0 _ T7.heap _
        rw [e7]
        exact ⟨congrArg (fun z => some (Value.int z)) (own_bI_f (by simp only [Int32.lt_iff_toInt_lt, ← Int32.toInt_inj, Int32.reduceToInt] at hc5 hc13; omega)).symm, N0, rfl⟩
    · have k10 : ∀ t, Steps p.tables e below (T7.setTop (mkF m 21 #[.val (.ref r0), .val (.int p1)] [(.int (1 : Int32))])) t → Steps p.tables e below (s₁.setTop (entryFrame m #[(.ref r0), (.int p1)] 2)) t := fun t k => k8 t (by
          show Steps p.tables e below (T7.setTop (mkF m 13 #[.val (.ref r0), .val (.int p1)] [(.int hi), (.int p1)])) _
          refine XS.icmpNo X7.here hx rfl (hb hby d3_13) rfl (flt hc13).2.2.1 ?_
          show Steps p.tables e below (T7.setTop (mkF m 16 #[.val (.ref r0), .val (.int p1)] [])) _
          refine XS.iconst X7.here hx rfl (hb hby d3_16) ?_
          show Steps p.tables e below (T7.setTop (mkF m 17 #[.val (.ref r0), .val (.int p1)] [(.int (1 : Int32))])) _
          refine XS.goto X7.here hx rfl (pc0 := 17) (pc' := 21) rfl (hb hby d3_17) (by decide) (by decide) ?_
          exact k)
      obtain ⟨fs, hr, hrun, hended, hW, hsame⟩ := X7.leave (v := (some (.int (1 : Int32)))) (fun h => by rw [Bd.returns] at h; cases h)
      refine ⟨_, _, k10 _ ?_, hrun, hended, _, _, rfl, ?_, ⟨_, rfl⟩, hW, hsame.mono (by decide) (by decide)⟩
      · exact retN X7 hx (t := .boolean) Bd.returns (by simp) (hb hby d3_21) hr
      · show Q3 Z r0 p1 lo hi h0 n0 _ T7.heap _
        rw [e7]
        exact ⟨congrArg (fun z => some (Value.int z)) (own_bI_t (by simp only [Int32.lt_iff_toInt_lt, ← Int32.toInt_inj, Int32.reduceToInt] at hc5 hc13; omega)).symm, N0, rfl⟩
theorem ef_0 (m : MethodId) (p0 : Int32) (p1 : Int32) (p2 : Int32) (p3 : Int32) : entryFrame m #[(.int p0), (.int p1), (.int p2), (.int p3)] maxLocals = mkF m 0 #[.val (.int p0), .val (.int p1), .val (.int p2), .val (.int p3), .unset, .unset, .unset, .unset, .unset, .unset, .unset, .unset, .unset, .unset, .unset, .unset, .unset] [] := by first | (simp [entryFrame, mkF, argsToLocals, Value.category, maxLocals]; done) | rfl
theorem pn_1 : plainName "com/example/backpressure/backpressure/model/CapacityChangeHoldsInPinLaw" = true := by first | (simp [plainName, overriddenIn]; done) | decide +kernel
theorem pd_0 : parseMethodDescriptor "(III)V" = some ⟨[.int, .int, .int], none⟩ := by decide +kernel
theorem pd_1 : parseMethodDescriptor "(I)Z" = some ⟨[.int], some .boolean⟩ := by decide +kernel
def Q0 (Z : State) (p0 : Int32) (p1 : Int32) (p2 : Int32) (p3 : Int32) (h0 : Heap) (n0 : Nat) (v : Option Value) (h : Heap) (L : List Loc) : Prop := v = some (.int (1 : Int32)) ∧ Fr n0 L
set_option maxRecDepth 65536 in
set_option maxHeartbeats 40000000 in
theorem rm0 (l : Launch) (Z : State) (a0 : Array Value) (hw : ∀ d ∈ tables_1, d.before a0 Z = true) (ws : List Jvm.Cond) (p0 : Int32) (p1 : Int32) (p2 : Int32) (p3 : Int32) (h0 : Heap) (n0 : Nat) (Z0 : n0 ≤ h0.size) :
    MetFree l x (head1 (Jvm.Cond.code x code maxLocals ret :: ws) room_1) (fun a U => a = #[(.int p0), (.int p1), (.int p2), (.int p3)] ∧ Z.Warmed39 U.vm ∧ U.heap = h0) (fun _ _ _ _ _ => True) (fun _ U o U' => ∃ v L, o = .returned v ∧ Q0 Z p0 p1 p2 p3 h0 n0 v U'.heap L ∧ FrameEnd U o U' L 1 3) := by
  refine MetFree.of_bodySF (plainFor_of_name pn_1) hisR ?_
  intro p e s m args below meth c s₁ Bd hml0 hP hK
  obtain ⟨rfl, hZ, hh⟩ := hP
  have hx := Bd.exec
  have hby := Bd.bytes
  have hml : c.maxLocals = 17 := hml0
  have hown : s.vm.findClass "com/example/backpressure/backpressure/model/CapacityChangeHoldsInPinLaw" = some m.cls := findClass_of_methodNamed Bd.named
  have hnm := (name_of_methodNamed Bd.named Bd.method).1
  have X0 : Stand p l e room_1 s m #[(.int p0), (.int p1), (.int p2), (.int p3)] below meth c s₁ [] 0 0 := Stand.of_body Bd
  have e0 : s₁.heap = h0 := by rw [← hh, Bd.state]; rfl
  have N0 := Fr.nil n0
  have k0 : ∀ t, Steps p.tables e below (s₁.setTop (mkF m 0 #[.val (.int p0), .val (.int p1), .val (.int p2), .val (.int p3), .unset, .unset, .unset, .unset, .unset, .unset, .unset, .unset, .unset, .unset, .unset, .unset, .unset] [])) t → Steps p.tables e below (s₁.setTop (entryFrame m #[(.int p0), (.int p1), (.int p2), (.int p3)] maxLocals)) t := fun t k => castTop (ef_0 m p0 p1 p2 p3) k
  have hq1 : ¬ (own_first p0 < (0 : Int32)) := by have := own_first_r p0; rw [Int32.lt_iff_toInt_lt]; simp only [Int32.reduceToInt]; omega
  have hq2 : ¬ (own_last p0 p1 < own_first p0) := by have := own_last_r p0 p1; rw [Int32.lt_iff_toInt_lt]; omega
  have k1 : ∀ t, Steps p.tables e below (s₁.setTop (mkF m 37 #[.val (.int p0), .val (.int p1), .val (.int p2), .val (.int p3), .val (.int (own_first p0)), .val (.long (own_room p0)), .second, .val (.int (own_last p0 p1)), .val (.int (own_cap p3)), .unset, .unset, .unset, .unset, .unset, .unset, .unset, .unset] [])) t → Steps p.tables e below (s₁.setTop (entryFrame m #[(.int p0), (.int p1), (.int p2), (.int p3)] maxLocals)) t := fun t k => k0 t (by
      show Steps p.tables e below (s₁.setTop (mkF m 0 #[.val (.int p0), .val (.int p1), .val (.int p2), .val (.int p3), .unset, .unset, .unset, .unset, .unset, .unset, .unset, .unset, .unset, .unset, .unset, .unset, .unset] [])) _
      refine XS.iloadN X0.here hx rfl (hb hby at_0) rfl ?_
      show Steps p.tables e below (s₁.setTop (mkF m 1 #[.val (.int p0), .val (.int p1), .val (.int p2), .val (.int p3), .unset, .unset, .unset, .unset, .unset, .unset, .unset, .unset, .unset, .unset, .unset, .unset, .unset] [(.int p0)])) _
      refine X0.ldcInt hx hown (mvT hZ (hw _ (List.mem_of_getElem? (i := 0) rfl))) (g := (mkF m 1 #[.val (.int p0), .val (.int p1), .val (.int p2), .val (.int p3), .unset, .unset, .unset, .unset, .unset, .unset, .unset, .unset, .unset, .unset, .unset, .unset, .unset] [(.int p0)])) rfl (hb hby at_1) _ ?_
      show Steps p.tables e below (s₁.setTop (mkF m 3 #[.val (.int p0), .val (.int p1), .val (.int p2), .val (.int p3), .unset, .unset, .unset, .unset, .unset, .unset, .unset, .unset, .unset, .unset, .unset, .unset, .unset] [(.int (2147483647 : Int32)), (.int p0)])) _
      refine XS.iand X0.here hx rfl (hb hby at_3) rfl ?_
      show Steps p.tables e below (s₁.setTop (mkF m 4 #[.val (.int p0), .val (.int p1), .val (.int p2), .val (.int p3), .unset, .unset, .unset, .unset, .unset, .unset, .unset, .unset, .unset, .unset, .unset, .unset, .unset] [(.int (own_first p0))])) _
      refine XS.istore X0.here hx rfl (hb hby at_4) rfl (l' := #[.val (.int p0), .val (.int p1), .val (.int p2), .val (.int p3), .val (.int (own_first p0)), .unset, .unset, .unset, .unset, .unset, .unset, .unset, .unset, .unset, .unset, .unset, .unset]) rfl ?_
      show Steps p.tables e below (s₁.setTop (mkF m 6 #[.val (.int p0), .val (.int p1), .val (.int p2), .val (.int p3), .val (.int (own_first p0)), .unset, .unset, .unset, .unset, .unset, .unset, .unset, .unset, .unset, .unset, .unset, .unset] [])) _
      refine X0.ldc2Long hx hown (mvT hZ (hw _ (List.mem_of_getElem? (i := 1) rfl))) (g := (mkF m 6 #[.val (.int p0), .val (.int p1), .val (.int p2), .val (.int p3), .val (.int (own_first p0)), .unset, .unset, .unset, .unset, .unset, .unset, .unset, .unset, .unset, .unset, .unset, .unset] [])) rfl (hb hby at_6) _ ?_
      show Steps p.tables e below (s₁.setTop (mkF m 9 #[.val (.int p0), .val (.int p1), .val (.int p2), .val (.int p3), .val (.int (own_first p0)), .unset, .unset, .unset, .unset, .unset, .unset, .unset, .unset, .unset, .unset, .unset, .unset] [(.long (2147483647 : Int64))])) _
      refine XS.iload X0.here hx rfl (hb hby at_9) rfl ?_
      show Steps p.tables e below (s₁.setTop (mkF m 11 #[.val (.int p0), .val (.int p1), .val (.int p2), .val (.int p3), .val (.int (own_first p0)), .unset, .unset, .unset, .unset, .unset, .unset, .unset, .unset, .unset, .unset, .unset, .unset] [(.int (own_first p0)), (.long (2147483647 : Int64))])) _
      refine XS.i2l X0.here hx rfl (hb hby at_11) rfl ?_
      show Steps p.tables e below (s₁.setTop (mkF m 12 #[.val (.int p0), .val (.int p1), .val (.int p2), .val (.int p3), .val (.int (own_first p0)), .unset, .unset, .unset, .unset, .unset, .unset, .unset, .unset, .unset, .unset, .unset, .unset] [(.long ((own_first p0).toInt64)), (.long (2147483647 : Int64))])) _
      refine XS.lsub X0.here hx rfl (hb hby at_12) rfl ?_
      show Steps p.tables e below (s₁.setTop (mkF m 13 #[.val (.int p0), .val (.int p1), .val (.int p2), .val (.int p3), .val (.int (own_first p0)), .unset, .unset, .unset, .unset, .unset, .unset, .unset, .unset, .unset, .unset, .unset, .unset] [(.long ((2147483647 : Int64) - ((own_first p0).toInt64)))])) _
      refine XS.lconst X0.here hx rfl (hb hby at_13) ?_
      show Steps p.tables e below (s₁.setTop (mkF m 14 #[.val (.int p0), .val (.int p1), .val (.int p2), .val (.int p3), .val (.int (own_first p0)), .unset, .unset, .unset, .unset, .unset, .unset, .unset, .unset, .unset, .unset, .unset, .unset] [(.long (1 : Int64)), (.long ((2147483647 : Int64) - ((own_first p0).toInt64)))])) _
      refine XS.ladd X0.here hx rfl (hb hby at_14) rfl ?_
      show Steps p.tables e below (s₁.setTop (mkF m 15 #[.val (.int p0), .val (.int p1), .val (.int p2), .val (.int p3), .val (.int (own_first p0)), .unset, .unset, .unset, .unset, .unset, .unset, .unset, .unset, .unset, .unset, .unset, .unset] [(.long (own_room p0))])) _
      refine XS.lstore X0.here hx rfl (hb hby at_15) rfl (l' := #[.val (.int p0), .val (.int p1), .val (.int p2), .val (.int p3), .val (.int (own_first p0)), .val (.long (own_room p0)), .second, .unset, .unset, .unset, .unset, .unset, .unset, .unset, .unset, .unset, .unset]) rfl ?_
      show Steps p.tables e below (s₁.setTop (mkF m 17 #[.val (.int p0), .val (.int p1), .val (.int p2), .val (.int p3), .val (.int (own_first p0)), .val (.long (own_room p0)), .second, .unset, .unset, .unset, .unset, .unset, .unset, .unset, .unset, .unset, .unset] [])) _
      refine XS.iload X0.here hx rfl (hb hby at_17) rfl ?_
      show Steps p.tables e below (s₁.setTop (mkF m 19 #[.val (.int p0), .val (.int p1), .val (.int p2), .val (.int p3), .val (.int (own_first p0)), .val (.long (own_room p0)), .second, .unset, .unset, .unset, .unset, .unset, .unset, .unset, .unset, .unset, .unset] [(.int (own_first p0))])) _
      refine XS.i2l X0.here hx rfl (hb hby at_19) rfl ?_
      show Steps p.tables e below (s₁.setTop (mkF m 20 #[.val (.int p0), .val (.int p1), .val (.int p2), .val (.int p3), .val (.int (own_first p0)), .val (.long (own_room p0)), .second, .unset, .unset, .unset, .unset, .unset, .unset, .unset, .unset, .unset, .unset] [(.long ((own_first p0).toInt64))])) _
      refine XS.iloadN X0.here hx rfl (hb hby at_20) rfl ?_
      show Steps p.tables e below (s₁.setTop (mkF m 21 #[.val (.int p0), .val (.int p1), .val (.int p2), .val (.int p3), .val (.int (own_first p0)), .val (.long (own_room p0)), .second, .unset, .unset, .unset, .unset, .unset, .unset, .unset, .unset, .unset, .unset] [(.int p1), (.long ((own_first p0).toInt64))])) _
      refine X0.ldcInt hx hown (mvT hZ (hw _ (List.mem_of_getElem? (i := 0) rfl))) (g := (mkF m 21 #[.val (.int p0), .val (.int p1), .val (.int p2), .val (.int p3), .val (.int (own_first p0)), .val (.long (own_room p0)), .second, .unset, .unset, .unset, .unset, .unset, .unset, .unset, .unset, .unset, .unset] [(.int p1), (.long ((own_first p0).toInt64))])) rfl (hb hby at_21) _ ?_
      show Steps p.tables e below (s₁.setTop (mkF m 23 #[.val (.int p0), .val (.int p1), .val (.int p2), .val (.int p3), .val (.int (own_first p0)), .val (.long (own_room p0)), .second, .unset, .unset, .unset, .unset, .unset, .unset, .unset, .unset, .unset, .unset] [(.int (2147483647 : Int32)), (.int p1), (.long ((own_first p0).toInt64))])) _
      refine XS.iand X0.here hx rfl (hb hby at_23) rfl ?_
      show Steps p.tables e below (s₁.setTop (mkF m 24 #[.val (.int p0), .val (.int p1), .val (.int p2), .val (.int p3), .val (.int (own_first p0)), .val (.long (own_room p0)), .second, .unset, .unset, .unset, .unset, .unset, .unset, .unset, .unset, .unset, .unset] [(.int (p1 &&& (2147483647 : Int32))), (.long ((own_first p0).toInt64))])) _
      refine XS.i2l X0.here hx rfl (hb hby at_24) rfl ?_
      show Steps p.tables e below (s₁.setTop (mkF m 25 #[.val (.int p0), .val (.int p1), .val (.int p2), .val (.int p3), .val (.int (own_first p0)), .val (.long (own_room p0)), .second, .unset, .unset, .unset, .unset, .unset, .unset, .unset, .unset, .unset, .unset] [(.long ((p1 &&& (2147483647 : Int32)).toInt64)), (.long ((own_first p0).toInt64))])) _
      refine XS.lload X0.here hx rfl (hb hby at_25) rfl ?_
      show Steps p.tables e below (s₁.setTop (mkF m 27 #[.val (.int p0), .val (.int p1), .val (.int p2), .val (.int p3), .val (.int (own_first p0)), .val (.long (own_room p0)), .second, .unset, .unset, .unset, .unset, .unset, .unset, .unset, .unset, .unset, .unset] [(.long (own_room p0)), (.long ((p1 &&& (2147483647 : Int32)).toInt64)), (.long ((own_first p0).toInt64))])) _
      refine XS.lrem X0.here hx rfl (hb hby at_27) rfl (own_nz (by have := own_first_r p0; have := own_room_r p0; omega)) ?_
      show Steps p.tables e below (s₁.setTop (mkF m 28 #[.val (.int p0), .val (.int p1), .val (.int p2), .val (.int p3), .val (.int (own_first p0)), .val (.long (own_room p0)), .second, .unset, .unset, .unset, .unset, .unset, .unset, .unset, .unset, .unset, .unset] [(.long (((p1 &&& (2147483647 : Int32)).toInt64) - (((p1 &&& (2147483647 : Int32)).toInt64) / (own_room p0)) * (own_room p0))), (.long ((own_first p0).toInt64))])) _
      refine XS.ladd X0.here hx rfl (hb hby at_28) rfl ?_
      show Steps p.tables e below (s₁.setTop (mkF m 29 #[.val (.int p0), .val (.int p1), .val (.int p2), .val (.int p3), .val (.int (own_first p0)), .val (.long (own_room p0)), .second, .unset, .unset, .unset, .unset, .unset, .unset, .unset, .unset, .unset, .unset] [(.long (((own_first p0).toInt64) + (((p1 &&& (2147483647 : Int32)).toInt64) - (((p1 &&& (2147483647 : Int32)).toInt64) / (own_room p0)) * (own_room p0))))])) _
      refine XS.l2i X0.here hx rfl (hb hby at_29) rfl ?_
      show Steps p.tables e below (s₁.setTop (mkF m 30 #[.val (.int p0), .val (.int p1), .val (.int p2), .val (.int p3), .val (.int (own_first p0)), .val (.long (own_room p0)), .second, .unset, .unset, .unset, .unset, .unset, .unset, .unset, .unset, .unset, .unset] [(.int (own_last p0 p1))])) _
      refine XS.istore X0.here hx rfl (hb hby at_30) rfl (l' := #[.val (.int p0), .val (.int p1), .val (.int p2), .val (.int p3), .val (.int (own_first p0)), .val (.long (own_room p0)), .second, .val (.int (own_last p0 p1)), .unset, .unset, .unset, .unset, .unset, .unset, .unset, .unset, .unset]) rfl ?_
      show Steps p.tables e below (s₁.setTop (mkF m 32 #[.val (.int p0), .val (.int p1), .val (.int p2), .val (.int p3), .val (.int (own_first p0)), .val (.long (own_room p0)), .second, .val (.int (own_last p0 p1)), .unset, .unset, .unset, .unset, .unset, .unset, .unset, .unset, .unset] [])) _
      refine XS.iloadN X0.here hx rfl (hb hby at_32) rfl ?_
      show Steps p.tables e below (s₁.setTop (mkF m 33 #[.val (.int p0), .val (.int p1), .val (.int p2), .val (.int p3), .val (.int (own_first p0)), .val (.long (own_room p0)), .second, .val (.int (own_last p0 p1)), .unset, .unset, .unset, .unset, .unset, .unset, .unset, .unset, .unset] [(.int p3)])) _
      refine XS.iconst X0.here hx rfl (hb hby at_33) ?_
      show Steps p.tables e below (s₁.setTop (mkF m 34 #[.val (.int p0), .val (.int p1), .val (.int p2), .val (.int p3), .val (.int (own_first p0)), .val (.long (own_room p0)), .second, .val (.int (own_last p0 p1)), .unset, .unset, .unset, .unset, .unset, .unset, .unset, .unset, .unset] [(.int (4 : Int32)), (.int p3)])) _
      refine XS.iushr X0.here hx rfl (hb hby at_34) rfl ?_
      show Steps p.tables e below (s₁.setTop (mkF m 35 #[.val (.int p0), .val (.int p1), .val (.int p2), .val (.int p3), .val (.int (own_first p0)), .val (.long (own_room p0)), .second, .val (.int (own_last p0 p1)), .unset, .unset, .unset, .unset, .unset, .unset, .unset, .unset, .unset] [(.int (own_cap p3))])) _
      refine XS.istore X0.here hx rfl (hb hby at_35) rfl (l' := #[.val (.int p0), .val (.int p1), .val (.int p2), .val (.int p3), .val (.int (own_first p0)), .val (.long (own_room p0)), .second, .val (.int (own_last p0 p1)), .val (.int (own_cap p3)), .unset, .unset, .unset, .unset, .unset, .unset, .unset, .unset]) rfl ?_
      exact k)
  obtain ⟨T2, h2, X2, e2, E2, A2, D2, -, st2⟩ := newO X0 hx hZ hown (hw _ (List.mem_of_getElem? (i := 2) rfl)) (hw _ (List.mem_of_getElem? (i := 3) rfl)) (hw _ (List.mem_of_getElem? (i := 4) rfl)) e0 (g := (mkF m 37 #[.val (.int p0), .val (.int p1), .val (.int p2), .val (.int p3), .val (.int (own_first p0)), .val (.long (own_room p0)), .second, .val (.int (own_last p0 p1)), .val (.int (own_cap p3)), .unset, .unset, .unset, .unset, .unset, .unset, .unset, .unset] [])) rfl (hb hby at_37) (by decide) (by decide)
  obtain ⟨b2, g2⟩ : ∃ z, z = h0.size := ⟨_, rfl⟩
  rw [← g2] at A2 D2 st2
  have F_firstStep_b2 : Fld Z h2 b2 "com/example/backpressure/backpressure/model/CapacityChange" "firstStep" "I" (.int (0 : Int32)) := D2 (Or.inr (hw _ (List.mem_of_getElem? (i := 12) rfl))) (ty := .int) (by decide)
  have F_lastStep_b2 : Fld Z h2 b2 "com/example/backpressure/backpressure/model/CapacityChange" "lastStep" "I" (.int (0 : Int32)) := D2 (Or.inr (hw _ (List.mem_of_getElem? (i := 14) rfl))) (ty := .int) (by decide)
  have F_capacity_b2 : Fld Z h2 b2 "com/example/backpressure/backpressure/model/CapacityChange" "capacity" "I" (.int (0 : Int32)) := D2 (Or.inr (hw _ (List.mem_of_getElem? (i := 16) rfl))) (ty := .int) (by decide)
  have g_b2 : n0 ≤ b2 := Nat.le_trans Z0 (Nat.le_of_eq g2.symm)
  have Zs2 : n0 ≤ h2.size := Nat.le_trans Z0 E2.1
  have k3 : ∀ t, Steps p.tables e below (T2.setTop (mkF m 40 #[.val (.int p0), .val (.int p1), .val (.int p2), .val (.int p3), .val (.int (own_first p0)), .val (.long (own_room p0)), .second, .val (.int (own_last p0 p1)), .val (.int (own_cap p3)), .unset, .unset, .unset, .unset, .unset, .unset, .unset, .unset] [(.ref b2)])) t → Steps p.tables e below (s₁.setTop (entryFrame m #[(.int p0), (.int p1), (.int p2), (.int p3)] maxLocals)) t := fun t k => k1 t (st2 _ k)
  have k4 : ∀ t, Steps p.tables e below (T2.setTop (mkF m 47 #[.val (.int p0), .val (.int p1), .val (.int p2), .val (.int p3), .val (.int (own_first p0)), .val (.long (own_room p0)), .second, .val (.int (own_last p0 p1)), .val (.int (own_cap p3)), .unset, .unset, .unset, .unset, .unset, .unset, .unset, .unset] [(.int (own_cap p3)), (.int (own_last p0 p1)), (.int (own_first p0)), (.ref b2), (.ref b2)])) t → Steps p.tables e below (s₁.setTop (entryFrame m #[(.int p0), (.int p1), (.int p2), (.int p3)] maxLocals)) t := fun t k => k3 t (by
      show Steps p.tables e below (T2.setTop (mkF m 40 #[.val (.int p0), .val (.int p1), .val (.int p2), .val (.int p3), .val (.int (own_first p0)), .val (.long (own_room p0)), .second, .val (.int (own_last p0 p1)), .val (.int (own_cap p3)), .unset, .unset, .unset, .unset, .unset, .unset, .unset, .unset] [(.ref b2)])) _
      refine XS.dup X2.here hx rfl (hb hby at_40) rfl rfl ?_
      show Steps p.tables e below (T2.setTop (mkF m 41 #[.val (.int p0), .val (.int p1), .val (.int p2), .val (.int p3), .val (.int (own_first p0)), .val (.long (own_room p0)), .second, .val (.int (own_last p0 p1)), .val (.int (own_cap p3)), .unset, .unset, .unset, .unset, .unset, .unset, .unset, .unset] [(.ref b2), (.ref b2)])) _
      refine XS.iload X2.here hx rfl (hb hby at_41) rfl ?_
      show Steps p.tables e below (T2.setTop (mkF m 43 #[.val (.int p0), .val (.int p1), .val (.int p2), .val (.int p3), .val (.int (own_first p0)), .val (.long (own_room p0)), .second, .val (.int (own_last p0 p1)), .val (.int (own_cap p3)), .unset, .unset, .unset, .unset, .unset, .unset, .unset, .unset] [(.int (own_first p0)), (.ref b2), (.ref b2)])) _
      refine XS.iload X2.here hx rfl (hb hby at_43) rfl ?_
      show Steps p.tables e below (T2.setTop (mkF m 45 #[.val (.int p0), .val (.int p1), .val (.int p2), .val (.int p3), .val (.int (own_first p0)), .val (.long (own_room p0)), .second, .val (.int (own_last p0 p1)), .val (.int (own_cap p3)), .unset, .unset, .unset, .unset, .unset, .unset, .unset, .unset] [(.int (own_last p0 p1)), (.int (own_first p0)), (.ref b2), (.ref b2)])) _
      refine XS.iload X2.here hx rfl (hb hby at_45) rfl ?_
      exact k)
  obtain ⟨_, _, ⟨T5, L5, kq5, n5⟩, -, X5, ⟨Lc5, hQ5, l5, y5, z5⟩, st5⟩ := X2.specialBack hx (y := (⟨"com/example/backpressure/backpressure/model/CapacityChange", "<init>", "(III)V"⟩ : MethodName)) rfl hown (mvT hZ (hw _ (List.mem_of_getElem? (i := 5) rfl))) (mvT hZ (hw _ (List.mem_of_getElem? (i := 6) rfl))) (mvT hZ (hw _ (List.mem_of_getElem? (i := 7) rfl))) (by decide) (backOf (W := 1) (rm1 l Z a0 hw [] b2 (own_first p0) (own_last p0 p1) (own_cap p3) h2 n0 Zs2 F_firstStep_b2 F_lastStep_b2 F_capacity_b2 A2 g_b2 hq1 hq2 (own_cap_nn _)) hZ (hw _ (List.mem_of_getElem? (i := 7) rfl)) (hw _ (List.mem_of_getElem? (i := 4) rfl)) (by decide) (by decide)) (g := (mkF m 47 #[.val (.int p0), .val (.int p1), .val (.int p2), .val (.int p3), .val (.int (own_first p0)), .val (.long (own_room p0)), .second, .val (.int (own_last p0 p1)), .val (.int (own_cap p3)), .unset, .unset, .unset, .unset, .unset, .unset, .unset, .unset] [(.int (own_cap p3)), (.int (own_last p0 p1)), (.int (own_first p0)), (.ref b2), (.ref b2)])) rfl (by rw [hml]; rfl) (Steps.refl _) (a := b2) (argsL := [(.int (own_first p0)), (.int (own_last p0 p1)), (.int (own_cap p3))]) (rest := [(.ref b2)]) (lenOf pd_0 rfl) rfl (by show 2 * 0 + _ ≤ _; exact Nat.le_of_eq rfl) (hb hby at_47) (fun _ _ => ⟨rfl, e2, (by decide : 1 + 0 ≤ _), (by decide : 3 + 0 ≤ _)⟩)
  dsimp only [Pt.U, Pt.locs, Pt.cells, Pt.slots] at X5 l5 y5 z5 st5 hQ5
  subst l5 y5 z5
  obtain ⟨rfl, N5q, K5, Ex5, Fx5_0, Fx5_1, Fx5_2⟩ := hQ5
  have N5 := Fr.app N0 N5q
  have Zs5 : n0 ≤ T5.heap.size := Nat.le_trans Zs2 K5.1
  have k6 : ∀ t, Steps p.tables e below (T5.setTop (mkF m 50 #[.val (.int p0), .val (.int p1), .val (.int p2), .val (.int p3), .val (.int (own_first p0)), .val (.long (own_room p0)), .second, .val (.int (own_last p0 p1)), .val (.int (own_cap p3)), .unset, .unset, .unset, .unset, .unset, .unset, .unset, .unset] [(.ref b2)])) t → Steps p.tables e below (s₁.setTop (entryFrame m #[(.int p0), (.int p1), (.int p2), (.int p3)] maxLocals)) t := fun t k => k4 t (st5.trans k)
  have k7 : ∀ t, Steps p.tables e below (T5.setTop (mkF m 68 #[.val (.int p0), .val (.int p1), .val (.int p2), .val (.int p3), .val (.int (own_first p0)), .val (.long (own_room p0)), .second, .val (.int (own_last p0 p1)), .val (.int (own_cap p3)), .val (.ref b2), .val (.long (own_u p2)), .second, .val (.int (p3 &&& (7 : Int32))), .unset, .unset, .unset, .unset] [(.int (p3 &&& (7 : Int32)))])) t → Steps p.tables e below (s₁.setTop (entryFrame m #[(.int p0), (.int p1), (.int p2), (.int p3)] maxLocals)) t := fun t k => k6 t (by
      show Steps p.tables e below (T5.setTop (mkF m 50 #[.val (.int p0), .val (.int p1), .val (.int p2), .val (.int p3), .val (.int (own_first p0)), .val (.long (own_room p0)), .second, .val (.int (own_last p0 p1)), .val (.int (own_cap p3)), .unset, .unset, .unset, .unset, .unset, .unset, .unset, .unset] [(.ref b2)])) _
      refine XS.astore X5.here hx rfl (hb hby at_50) rfl rfl (l' := #[.val (.int p0), .val (.int p1), .val (.int p2), .val (.int p3), .val (.int (own_first p0)), .val (.long (own_room p0)), .second, .val (.int (own_last p0 p1)), .val (.int (own_cap p3)), .val (.ref b2), .unset, .unset, .unset, .unset, .unset, .unset, .unset]) rfl ?_
      show Steps p.tables e below (T5.setTop (mkF m 52 #[.val (.int p0), .val (.int p1), .val (.int p2), .val (.int p3), .val (.int (own_first p0)), .val (.long (own_room p0)), .second, .val (.int (own_last p0 p1)), .val (.int (own_cap p3)), .val (.ref b2), .unset, .unset, .unset, .unset, .unset, .unset, .unset] [])) _
      refine XS.iloadN X5.here hx rfl (hb hby at_52) rfl ?_
      show Steps p.tables e below (T5.setTop (mkF m 53 #[.val (.int p0), .val (.int p1), .val (.int p2), .val (.int p3), .val (.int (own_first p0)), .val (.long (own_room p0)), .second, .val (.int (own_last p0 p1)), .val (.int (own_cap p3)), .val (.ref b2), .unset, .unset, .unset, .unset, .unset, .unset, .unset] [(.int p2)])) _
      refine XS.i2l X5.here hx rfl (hb hby at_53) rfl ?_
      show Steps p.tables e below (T5.setTop (mkF m 54 #[.val (.int p0), .val (.int p1), .val (.int p2), .val (.int p3), .val (.int (own_first p0)), .val (.long (own_room p0)), .second, .val (.int (own_last p0 p1)), .val (.int (own_cap p3)), .val (.ref b2), .unset, .unset, .unset, .unset, .unset, .unset, .unset] [(.long (p2.toInt64))])) _
      refine X5.ldc2Long hx hown (mvT hZ (hw _ (List.mem_of_getElem? (i := 17) rfl))) (g := (mkF m 54 #[.val (.int p0), .val (.int p1), .val (.int p2), .val (.int p3), .val (.int (own_first p0)), .val (.long (own_room p0)), .second, .val (.int (own_last p0 p1)), .val (.int (own_cap p3)), .val (.ref b2), .unset, .unset, .unset, .unset, .unset, .unset, .unset] [(.long (p2.toInt64))])) rfl (hb hby at_54) _ ?_
      show Steps p.tables e below (T5.setTop (mkF m 57 #[.val (.int p0), .val (.int p1), .val (.int p2), .val (.int p3), .val (.int (own_first p0)), .val (.long (own_room p0)), .second, .val (.int (own_last p0 p1)), .val (.int (own_cap p3)), .val (.ref b2), .unset, .unset, .unset, .unset, .unset, .unset, .unset] [(.long (-2147483648 : Int64)), (.long (p2.toInt64))])) _
      refine XS.lsub X5.here hx rfl (hb hby at_57) rfl ?_
      show Steps p.tables e below (T5.setTop (mkF m 58 #[.val (.int p0), .val (.int p1), .val (.int p2), .val (.int p3), .val (.int (own_first p0)), .val (.long (own_room p0)), .second, .val (.int (own_last p0 p1)), .val (.int (own_cap p3)), .val (.ref b2), .unset, .unset, .unset, .unset, .unset, .unset, .unset] [(.long (own_u p2))])) _
      refine XS.lstore X5.here hx rfl (hb hby at_58) rfl (l' := #[.val (.int p0), .val (.int p1), .val (.int p2), .val (.int p3), .val (.int (own_first p0)), .val (.long (own_room p0)), .second, .val (.int (own_last p0 p1)), .val (.int (own_cap p3)), .val (.ref b2), .val (.long (own_u p2)), .second, .unset, .unset, .unset, .unset, .unset]) rfl ?_
      show Steps p.tables e below (T5.setTop (mkF m 60 #[.val (.int p0), .val (.int p1), .val (.int p2), .val (.int p3), .val (.int (own_first p0)), .val (.long (own_room p0)), .second, .val (.int (own_last p0 p1)), .val (.int (own_cap p3)), .val (.ref b2), .val (.long (own_u p2)), .second, .unset, .unset, .unset, .unset, .unset] [])) _
      refine XS.iloadN X5.here hx rfl (hb hby at_60) rfl ?_
      show Steps p.tables e below (T5.setTop (mkF m 61 #[.val (.int p0), .val (.int p1), .val (.int p2), .val (.int p3), .val (.int (own_first p0)), .val (.long (own_room p0)), .second, .val (.int (own_last p0 p1)), .val (.int (own_cap p3)), .val (.ref b2), .val (.long (own_u p2)), .second, .unset, .unset, .unset, .unset, .unset] [(.int p3)])) _
      refine XS.bipush X5.here hx rfl (hb hby at_61) ?_
      show Steps p.tables e below (T5.setTop (mkF m 63 #[.val (.int p0), .val (.int p1), .val (.int p2), .val (.int p3), .val (.int (own_first p0)), .val (.long (own_room p0)), .second, .val (.int (own_last p0 p1)), .val (.int (own_cap p3)), .val (.ref b2), .val (.long (own_u p2)), .second, .unset, .unset, .unset, .unset, .unset] [(.int (7 : Int32)), (.int p3)])) _
      refine XS.iand X5.here hx rfl (hb hby at_63) rfl ?_
      show Steps p.tables e below (T5.setTop (mkF m 64 #[.val (.int p0), .val (.int p1), .val (.int p2), .val (.int p3), .val (.int (own_first p0)), .val (.long (own_room p0)), .second, .val (.int (own_last p0 p1)), .val (.int (own_cap p3)), .val (.ref b2), .val (.long (own_u p2)), .second, .unset, .unset, .unset, .unset, .unset] [(.int (p3 &&& (7 : Int32)))])) _
      refine XS.istore X5.here hx rfl (hb hby at_64) rfl (l' := #[.val (.int p0), .val (.int p1), .val (.int p2), .val (.int p3), .val (.int (own_first p0)), .val (.long (own_room p0)), .second, .val (.int (own_last p0 p1)), .val (.int (own_cap p3)), .val (.ref b2), .val (.long (own_u p2)), .second, .val (.int (p3 &&& (7 : Int32))), .unset, .unset, .unset, .unset]) rfl ?_
      show Steps p.tables e below (T5.setTop (mkF m 66 #[.val (.int p0), .val (.int p1), .val (.int p2), .val (.int p3), .val (.int (own_first p0)), .val (.long (own_room p0)), .second, .val (.int (own_last p0 p1)), .val (.int (own_cap p3)), .val (.ref b2), .val (.long (own_u p2)), .second, .val (.int (p3 &&& (7 : Int32))), .unset, .unset, .unset, .unset] [])) _
      refine XS.iload X5.here hx rfl (hb hby at_66) rfl ?_
      exact k)
  by_cases hc68 : (p3 &&& (7 : Int32)) = (0 : Int32)
  · have k8 : ∀ t, Steps p.tables e below (T5.setTop (mkF m 281 #[.val (.int p0), .val (.int p1), .val (.int p2), .val (.int p3), .val (.int (own_first p0)), .val (.long (own_room p0)), .second, .val (.int (own_last p0 p1)), .val (.int (own_cap p3)), .val (.ref b2), .val (.long (own_u p2)), .second, .val (.int (p3 &&& (7 : Int32))), .val (.int (own_st1 p0 p1 p2)), .val (.int (1 : Int32)), .val (.long (own_len p0 p1)), .second] [(.int (own_st1 p0 p1 p2)), (.ref b2)])) t → Steps p.tables e below (s₁.setTop (entryFrame m #[(.int p0), (.int p1), (.int p2), (.int p3)] maxLocals)) t := fun t k => k7 t (by
        show Steps p.tables e below (T5.setTop (mkF m 68 #[.val (.int p0), .val (.int p1), .val (.int p2), .val (.int p3), .val (.int (own_first p0)), .val (.long (own_room p0)), .second, .val (.int (own_last p0 p1)), .val (.int (own_cap p3)), .val (.ref b2), .val (.long (own_u p2)), .second, .val (.int (p3 &&& (7 : Int32))), .unset, .unset, .unset, .unset] [(.int (p3 &&& (7 : Int32)))])) _
        refine XS.ifYes X5.here hx rfl (pc0 := 68) (pc' := 77) rfl (hb hby at_68) rfl ((if0 _ _).trans (teq hc68).1) (by decide) (by decide) ?_
        show Steps p.tables e below (T5.setTop (mkF m 77 #[.val (.int p0), .val (.int p1), .val (.int p2), .val (.int p3), .val (.int (own_first p0)), .val (.long (own_room p0)), .second, .val (.int (own_last p0 p1)), .val (.int (own_cap p3)), .val (.ref b2), .val (.long (own_u p2)), .second, .val (.int (p3 &&& (7 : Int32))), .unset, .unset, .unset, .unset] [])) _
        refine XS.iload X5.here hx rfl (hb hby at_77) rfl ?_
        show Steps p.tables e below (T5.setTop (mkF m 79 #[.val (.int p0), .val (.int p1), .val (.int p2), .val (.int p3), .val (.int (own_first p0)), .val (.long (own_room p0)), .second, .val (.int (own_last p0 p1)), .val (.int (own_cap p3)), .val (.ref b2), .val (.long (own_u p2)), .second, .val (.int (p3 &&& (7 : Int32))), .unset, .unset, .unset, .unset] [(.int (own_last p0 p1))])) _
        refine XS.i2l X5.here hx rfl (hb hby at_79) rfl ?_
        show Steps p.tables e below (T5.setTop (mkF m 80 #[.val (.int p0), .val (.int p1), .val (.int p2), .val (.int p3), .val (.int (own_first p0)), .val (.long (own_room p0)), .second, .val (.int (own_last p0 p1)), .val (.int (own_cap p3)), .val (.ref b2), .val (.long (own_u p2)), .second, .val (.int (p3 &&& (7 : Int32))), .unset, .unset, .unset, .unset] [(.long ((own_last p0 p1).toInt64))])) _
        refine XS.iload X5.here hx rfl (hb hby at_80) rfl ?_
        show Steps p.tables e below (T5.setTop (mkF m 82 #[.val (.int p0), .val (.int p1), .val (.int p2), .val (.int p3), .val (.int (own_first p0)), .val (.long (own_room p0)), .second, .val (.int (own_last p0 p1)), .val (.int (own_cap p3)), .val (.ref b2), .val (.long (own_u p2)), .second, .val (.int (p3 &&& (7 : Int32))), .unset, .unset, .unset, .unset] [(.int (own_first p0)), (.long ((own_last p0 p1).toInt64))])) _
        refine XS.i2l X5.here hx rfl (hb hby at_82) rfl ?_
        show Steps p.tables e below (T5.setTop (mkF m 83 #[.val (.int p0), .val (.int p1), .val (.int p2), .val (.int p3), .val (.int (own_first p0)), .val (.long (own_room p0)), .second, .val (.int (own_last p0 p1)), .val (.int (own_cap p3)), .val (.ref b2), .val (.long (own_u p2)), .second, .val (.int (p3 &&& (7 : Int32))), .unset, .unset, .unset, .unset] [(.long ((own_first p0).toInt64)), (.long ((own_last p0 p1).toInt64))])) _
        refine XS.lsub X5.here hx rfl (hb hby at_83) rfl ?_
        show Steps p.tables e below (T5.setTop (mkF m 84 #[.val (.int p0), .val (.int p1), .val (.int p2), .val (.int p3), .val (.int (own_first p0)), .val (.long (own_room p0)), .second, .val (.int (own_last p0 p1)), .val (.int (own_cap p3)), .val (.ref b2), .val (.long (own_u p2)), .second, .val (.int (p3 &&& (7 : Int32))), .unset, .unset, .unset, .unset] [(.long (((own_last p0 p1).toInt64) - ((own_first p0).toInt64)))])) _
        refine XS.lconst X5.here hx rfl (hb hby at_84) ?_
        show Steps p.tables e below (T5.setTop (mkF m 85 #[.val (.int p0), .val (.int p1), .val (.int p2), .val (.int p3), .val (.int (own_first p0)), .val (.long (own_room p0)), .second, .val (.int (own_last p0 p1)), .val (.int (own_cap p3)), .val (.ref b2), .val (.long (own_u p2)), .second, .val (.int (p3 &&& (7 : Int32))), .unset, .unset, .unset, .unset] [(.long (1 : Int64)), (.long (((own_last p0 p1).toInt64) - ((own_first p0).toInt64)))])) _
        refine XS.ladd X5.here hx rfl (hb hby at_85) rfl ?_
        show Steps p.tables e below (T5.setTop (mkF m 86 #[.val (.int p0), .val (.int p1), .val (.int p2), .val (.int p3), .val (.int (own_first p0)), .val (.long (own_room p0)), .second, .val (.int (own_last p0 p1)), .val (.int (own_cap p3)), .val (.ref b2), .val (.long (own_u p2)), .second, .val (.int (p3 &&& (7 : Int32))), .unset, .unset, .unset, .unset] [(.long (own_len p0 p1))])) _
        refine XS.lstore X5.here hx rfl (hb hby at_86) rfl (l' := #[.val (.int p0), .val (.int p1), .val (.int p2), .val (.int p3), .val (.int (own_first p0)), .val (.long (own_room p0)), .second, .val (.int (own_last p0 p1)), .val (.int (own_cap p3)), .val (.ref b2), .val (.long (own_u p2)), .second, .val (.int (p3 &&& (7 : Int32))), .unset, .unset, .val (.long (own_len p0 p1)), .second]) rfl ?_
        show Steps p.tables e below (T5.setTop (mkF m 88 #[.val (.int p0), .val (.int p1), .val (.int p2), .val (.int p3), .val (.int (own_first p0)), .val (.long (own_room p0)), .second, .val (.int (own_last p0 p1)), .val (.int (own_cap p3)), .val (.ref b2), .val (.long (own_u p2)), .second, .val (.int (p3 &&& (7 : Int32))), .unset, .unset, .val (.long (own_len p0 p1)), .second] [])) _
        refine XS.iload X5.here hx rfl (hb hby at_88) rfl ?_
        show Steps p.tables e below (T5.setTop (mkF m 90 #[.val (.int p0), .val (.int p1), .val (.int p2), .val (.int p3), .val (.int (own_first p0)), .val (.long (own_room p0)), .second, .val (.int (own_last p0 p1)), .val (.int (own_cap p3)), .val (.ref b2), .val (.long (own_u p2)), .second, .val (.int (p3 &&& (7 : Int32))), .unset, .unset, .val (.long (own_len p0 p1)), .second] [(.int (own_first p0))])) _
        refine XS.i2l X5.here hx rfl (hb hby at_90) rfl ?_
        show Steps p.tables e below (T5.setTop (mkF m 91 #[.val (.int p0), .val (.int p1), .val (.int p2), .val (.int p3), .val (.int (own_first p0)), .val (.long (own_room p0)), .second, .val (.int (own_last p0 p1)), .val (.int (own_cap p3)), .val (.ref b2), .val (.long (own_u p2)), .second, .val (.int (p3 &&& (7 : Int32))), .unset, .unset, .val (.long (own_len p0 p1)), .second] [(.long ((own_first p0).toInt64))])) _
        refine XS.lload X5.here hx rfl (hb hby at_91) rfl ?_
        show Steps p.tables e below (T5.setTop (mkF m 93 #[.val (.int p0), .val (.int p1), .val (.int p2), .val (.int p3), .val (.int (own_first p0)), .val (.long (own_room p0)), .second, .val (.int (own_last p0 p1)), .val (.int (own_cap p3)), .val (.ref b2), .val (.long (own_u p2)), .second, .val (.int (p3 &&& (7 : Int32))), .unset, .unset, .val (.long (own_len p0 p1)), .second] [(.long (own_u p2)), (.long ((own_first p0).toInt64))])) _
        refine XS.lload X5.here hx rfl (hb hby at_93) rfl ?_
        show Steps p.tables e below (T5.setTop (mkF m 95 #[.val (.int p0), .val (.int p1), .val (.int p2), .val (.int p3), .val (.int (own_first p0)), .val (.long (own_room p0)), .second, .val (.int (own_last p0 p1)), .val (.int (own_cap p3)), .val (.ref b2), .val (.long (own_u p2)), .second, .val (.int (p3 &&& (7 : Int32))), .unset, .unset, .val (.long (own_len p0 p1)), .second] [(.long (own_len p0 p1)), (.long (own_u p2)), (.long ((own_first p0).toInt64))])) _
        refine XS.lrem X5.here hx rfl (hb hby at_95) rfl (own_nz (by have := own_last_r p0 p1; have := own_len_r p0 p1; omega)) ?_
        show Steps p.tables e below (T5.setTop (mkF m 96 #[.val (.int p0), .val (.int p1), .val (.int p2), .val (.int p3), .val (.int (own_first p0)), .val (.long (own_room p0)), .second, .val (.int (own_last p0 p1)), .val (.int (own_cap p3)), .val (.ref b2), .val (.long (own_u p2)), .second, .val (.int (p3 &&& (7 : Int32))), .unset, .unset, .val (.long (own_len p0 p1)), .second] [(.long ((own_u p2) - ((own_u p2) / (own_len p0 p1)) * (own_len p0 p1))), (.long ((own_first p0).toInt64))])) _
        refine XS.ladd X5.here hx rfl (hb hby at_96) rfl ?_
        show Steps p.tables e below (T5.setTop (mkF m 97 #[.val (.int p0), .val (.int p1), .val (.int p2), .val (.int p3), .val (.int (own_first p0)), .val (.long (own_room p0)), .second, .val (.int (own_last p0 p1)), .val (.int (own_cap p3)), .val (.ref b2), .val (.long (own_u p2)), .second, .val (.int (p3 &&& (7 : Int32))), .unset, .unset, .val (.long (own_len p0 p1)), .second] [(.long (((own_first p0).toInt64) + ((own_u p2) - ((own_u p2) / (own_len p0 p1)) * (own_len p0 p1))))])) _
        refine XS.l2i X5.here hx rfl (hb hby at_97) rfl ?_
        show Steps p.tables e below (T5.setTop (mkF m 98 #[.val (.int p0), .val (.int p1), .val (.int p2), .val (.int p3), .val (.int (own_first p0)), .val (.long (own_room p0)), .second, .val (.int (own_last p0 p1)), .val (.int (own_cap p3)), .val (.ref b2), .val (.long (own_u p2)), .second, .val (.int (p3 &&& (7 : Int32))), .unset, .unset, .val (.long (own_len p0 p1)), .second] [(.int (own_st1 p0 p1 p2))])) _
        refine XS.istore X5.here hx rfl (hb hby at_98) rfl (l' := #[.val (.int p0), .val (.int p1), .val (.int p2), .val (.int p3), .val (.int (own_first p0)), .val (.long (own_room p0)), .second, .val (.int (own_last p0 p1)), .val (.int (own_cap p3)), .val (.ref b2), .val (.long (own_u p2)), .second, .val (.int (p3 &&& (7 : Int32))), .val (.int (own_st1 p0 p1 p2)), .unset, .val (.long (own_len p0 p1)), .second]) rfl ?_
        show Steps p.tables e below (T5.setTop (mkF m 100 #[.val (.int p0), .val (.int p1), .val (.int p2), .val (.int p3), .val (.int (own_first p0)), .val (.long (own_room p0)), .second, .val (.int (own_last p0 p1)), .val (.int (own_cap p3)), .val (.ref b2), .val (.long (own_u p2)), .second, .val (.int (p3 &&& (7 : Int32))), .val (.int (own_st1 p0 p1 p2)), .unset, .val (.long (own_len p0 p1)), .second] [])) _
        refine XS.iconst X5.here hx rfl (hb hby at_100) ?_
        show Steps p.tables e below (T5.setTop (mkF m 101 #[.val (.int p0), .val (.int p1), .val (.int p2), .val (.int p3), .val (.int (own_first p0)), .val (.long (own_room p0)), .second, .val (.int (own_last p0 p1)), .val (.int (own_cap p3)), .val (.ref b2), .val (.long (own_u p2)), .second, .val (.int (p3 &&& (7 : Int32))), .val (.int (own_st1 p0 p1 p2)), .unset, .val (.long (own_len p0 p1)), .second] [(.int (1 : Int32))])) _
        refine XS.istore X5.here hx rfl (hb hby at_101) rfl (l' := #[.val (.int p0), .val (.int p1), .val (.int p2), .val (.int p3), .val (.int (own_first p0)), .val (.long (own_room p0)), .second, .val (.int (own_last p0 p1)), .val (.int (own_cap p3)), .val (.ref b2), .val (.long (own_u p2)), .second, .val (.int (p3 &&& (7 : Int32))), .val (.int (own_st1 p0 p1 p2)), .val (.int (1 : Int32)), .val (.long (own_len p0 p1)), .second]) rfl ?_
        show Steps p.tables e below (T5.setTop (mkF m 103 #[.val (.int p0), .val (.int p1), .val (.int p2), .val (.int p3), .val (.int (own_first p0)), .val (.long (own_room p0)), .second, .val (.int (own_last p0 p1)), .val (.int (own_cap p3)), .val (.ref b2), .val (.long (own_u p2)), .second, .val (.int (p3 &&& (7 : Int32))), .val (.int (own_st1 p0 p1 p2)), .val (.int (1 : Int32)), .val (.long (own_len p0 p1)), .second] [])) _
        refine XS.goto X5.here hx rfl (pc0 := 103) (pc' := 277) rfl (hb hby at_103) (by decide) (by decide) ?_
        show Steps p.tables e below (T5.setTop (mkF m 277 #[.val (.int p0), .val (.int p1), .val (.int p2), .val (.int p3), .val (.int (own_first p0)), .val (.long (own_room p0)), .second, .val (.int (own_last p0 p1)), .val (.int (own_cap p3)), .val (.ref b2), .val (.long (own_u p2)), .second, .val (.int (p3 &&& (7 : Int32))), .val (.int (own_st1 p0 p1 p2)), .val (.int (1 : Int32)), .val (.long (own_len p0 p1)), .second] [])) _
        refine XS.aload X5.here hx rfl (hb hby at_277) rfl rfl ?_
        show Steps p.tables e below (T5.setTop (mkF m 279 #[.val (.int p0), .val (.int p1), .val (.int p2), .val (.int p3), .val (.int (own_first p0)), .val (.long (own_room p0)), .second, .val (.int (own_last p0 p1)), .val (.int (own_cap p3)), .val (.ref b2), .val (.long (own_u p2)), .second, .val (.int (p3 &&& (7 : Int32))), .val (.int (own_st1 p0 p1 p2)), .val (.int (1 : Int32)), .val (.long (own_len p0 p1)), .second] [(.ref b2)])) _
        refine XS.iload X5.here hx rfl (hb hby at_279) rfl ?_
        exact k)
    obtain ⟨cq9, kcq9, q9a, q9b, q9c⟩ := isOf hZ rfl Ex5
    obtain ⟨_, _, ⟨T9, L9, kq9, n9⟩, -, X9, ⟨Lc9, hQ9, l9, y9, z9⟩, st9⟩ := X5.virtualBack hx (y := (⟨"com/example/backpressure/backpressure/model/CapacityChange", "holdsIn", "(I)Z"⟩ : MethodName)) (z := (⟨"com/example/backpressure/backpressure/model/CapacityChange", "holdsIn", "(I)Z"⟩ : MethodName)) hown (mvT hZ (hw _ (List.mem_of_getElem? (i := 18) rfl))) (mvT hZ (hw _ (List.mem_of_getElem? (i := 19) rfl))) (notFace_of_selects (args := #[]) (mvT hZ (hw _ (List.mem_of_getElem? (i := 21) rfl)))) (mvT hZ (hw _ (List.mem_of_getElem? (i := 21) rfl))) (mvT hZ (hw _ (List.mem_of_getElem? (i := 20) rfl))) (by decide) (backOf (W := 0) (rm3 l Z a0 hw [] b2 (own_st1 p0 p1 p2) (own_first p0) (own_last p0 p1) T5.heap n0 Zs5 Fx5_0 Fx5_1) hZ (hw _ (List.mem_of_getElem? (i := 22) rfl)) (hw _ (List.mem_of_getElem? (i := 4) rfl)) (by decide) (by decide)) q9a q9c (g := (mkF m 281 #[.val (.int p0), .val (.int p1), .val (.int p2), .val (.int p3), .val (.int (own_first p0)), .val (.long (own_room p0)), .second, .val (.int (own_last p0 p1)), .val (.int (own_cap p3)), .val (.ref b2), .val (.long (own_u p2)), .second, .val (.int (p3 &&& (7 : Int32))), .val (.int (own_st1 p0 p1 p2)), .val (.int (1 : Int32)), .val (.long (own_len p0 p1)), .second] [(.int (own_st1 p0 p1 p2)), (.ref b2)])) rfl (by rw [hml]; rfl) (Steps.refl _) (argsL := [(.int (own_st1 p0 p1 p2))]) (rest := []) (lenOf pd_1 rfl) rfl (by show 2 * 0 + _ ≤ _; exact Nat.le_of_eq rfl) (hb hby at_281) (fun _ _ => ⟨rfl, rfl, (by decide : 1 + 0 ≤ _), (by decide : 3 + 0 ≤ _)⟩)
    dsimp only [Pt.U, Pt.locs, Pt.cells, Pt.slots] at X9 l9 y9 z9 st9 hQ9
    subst l9 y9 z9
    obtain ⟨rfl, N9q, e9⟩ := hQ9
    have N9 := Fr.app N5 N9q
    have k10 : ∀ t, Steps p.tables e below (T9.setTop (mkF m 284 #[.val (.int p0), .val (.int p1), .val (.int p2), .val (.int p3), .val (.int (own_first p0)), .val (.long (own_room p0)), .second, .val (.int (own_last p0 p1)), .val (.int (own_cap p3)), .val (.ref b2), .val (.long (own_u p2)), .second, .val (.int (p3 &&& (7 : Int32))), .val (.int (own_st1 p0 p1 p2)), .val (.int (1 : Int32)), .val (.long (own_len p0 p1)), .second] [(.int (own_bI ((own_first p0).toInt ≤ (own_st1 p0 p1 p2).toInt ∧ (own_st1 p0 p1 p2).toInt ≤ (own_last p0 p1).toInt)))])) t → Steps p.tables e below (s₁.setTop (entryFrame m #[(.int p0), (.int p1), (.int p2), (.int p3)] maxLocals)) t := fun t k => k8 t (st9.trans k)
    have hc286 : (own_bI ((own_first p0).toInt ≤ (own_st1 p0 p1 p2).toInt ∧ (own_st1 p0 p1 p2).toInt ≤ (own_last p0 p1).toInt)) = (1 : Int32) := own_bI_t (by have r0 := own_first_r p0; have r1 := own_last_r p0 p1; have r2 := (own_last p0 p1).toInt_lt; have r3 := own_st1_r p0 p1 p2; omega)
    have k11 : ∀ t, Steps p.tables e below (T9.setTop (mkF m 294 #[.val (.int p0), .val (.int p1), .val (.int p2), .val (.int p3), .val (.int (own_first p0)), .val (.long (own_room p0)), .second, .val (.int (own_last p0 p1)), .val (.int (own_cap p3)), .val (.ref b2), .val (.long (own_u p2)), .second, .val (.int (p3 &&& (7 : Int32))), .val (.int (own_st1 p0 p1 p2)), .val (.int (1 : Int32)), .val (.long (own_len p0 p1)), .second] [(.int (1 : Int32))])) t → Steps p.tables e below (s₁.setTop (entryFrame m #[(.int p0), (.int p1), (.int p2), (.int p3)] maxLocals)) t := fun t k => k10 t (by
        show Steps p.tables e below (T9.setTop (mkF m 284 #[.val (.int p0), .val (.int p1), .val (.int p2), .val (.int p3), .val (.int (own_first p0)), .val (.long (own_room p0)), .second, .val (.int (own_last p0 p1)), .val (.int (own_cap p3)), .val (.ref b2), .val (.long (own_u p2)), .second, .val (.int (p3 &&& (7 : Int32))), .val (.int (own_st1 p0 p1 p2)), .val (.int (1 : Int32)), .val (.long (own_len p0 p1)), .second] [(.int (own_bI ((own_first p0).toInt ≤ (own_st1 p0 p1 p2).toInt ∧ (own_st1 p0 p1 p2).toInt ≤ (own_last p0 p1).toInt)))])) _
        refine XS.iload X9.here hx rfl (hb hby at_284) rfl ?_
        show Steps p.tables e below (T9.setTop (mkF m 286 #[.val (.int p0), .val (.int p1), .val (.int p2), .val (.int p3), .val (.int (own_first p0)), .val (.long (own_room p0)), .second, .val (.int (own_last p0 p1)), .val (.int (own_cap p3)), .val (.ref b2), .val (.long (own_u p2)), .second, .val (.int (p3 &&& (7 : Int32))), .val (.int (own_st1 p0 p1 p2)), .val (.int (1 : Int32)), .val (.long (own_len p0 p1)), .second] [(.int (1 : Int32)), (.int (own_bI ((own_first p0).toInt ≤ (own_st1 p0 p1 p2).toInt ∧ (own_st1 p0 p1 p2).toInt ≤ (own_last p0 p1).toInt)))])) _
        refine XS.icmpNo X9.here hx rfl (hb hby at_286) rfl (teq hc286).2 ?_
        show Steps p.tables e below (T9.setTop (mkF m 289 #[.val (.int p0), .val (.int p1), .val (.int p2), .val (.int p3), .val (.int (own_first p0)), .val (.long (own_room p0)), .second, .val (.int (own_last p0 p1)), .val (.int (own_cap p3)), .val (.ref b2), .val (.long (own_u p2)), .second, .val (.int (p3 &&& (7 : Int32))), .val (.int (own_st1 p0 p1 p2)), .val (.int (1 : Int32)), .val (.long (own_len p0 p1)), .second] [])) _
        refine XS.iconst X9.here hx rfl (hb hby at_289) ?_
        show Steps p.tables e below (T9.setTop (mkF m 290 #[.val (.int p0), .val (.int p1), .val (.int p2), .val (.int p3), .val (.int (own_first p0)), .val (.long (own_room p0)), .second, .val (.int (own_last p0 p1)), .val (.int (own_cap p3)), .val (.ref b2), .val (.long (own_u p2)), .second, .val (.int (p3 &&& (7 : Int32))), .val (.int (own_st1 p0 p1 p2)), .val (.int (1 : Int32)), .val (.long (own_len p0 p1)), .second] [(.int (1 : Int32))])) _
        refine XS.goto X9.here hx rfl (pc0 := 290) (pc' := 294) rfl (hb hby at_290) (by decide) (by decide) ?_
        exact k)
    obtain ⟨fs, hr, hrun, hended, hW, hsame⟩ := X9.leave (v := (some (.int (1 : Int32)))) (fun h => by rw [Bd.returns] at h; cases h)
    refine ⟨_, _, k11 _ ?_, hrun, hended, _, _, rfl, ?_, ⟨_, rfl⟩, hW, hsame.mono (by decide) (by decide)⟩
    · exact retN X9 hx (t := .boolean) Bd.returns (by simp) (hb hby at_294) hr
    · show Q0 Z p0 p1 p2 p3 h0 n0 _ T9.heap _
      rw [e9]
      exact ⟨rfl, N9⟩
  · have k12 : ∀ t, Steps p.tables e below (T5.setTop (mkF m 74 #[.val (.int p0), .val (.int p1), .val (.int p2), .val (.int p3), .val (.int (own_first p0)), .val (.long (own_room p0)), .second, .val (.int (own_last p0 p1)), .val (.int (own_cap p3)), .val (.ref b2), .val (.long (own_u p2)), .second, .val (.int (p3 &&& (7 : Int32))), .unset, .unset, .unset, .unset] [(.int (1 : Int32)), (.int (p3 &&& (7 : Int32)))])) t → Steps p.tables e below (s₁.setTop (entryFrame m #[(.int p0), (.int p1), (.int p2), (.int p3)] maxLocals)) t := fun t k => k7 t (by
        show Steps p.tables e below (T5.setTop (mkF m 68 #[.val (.int p0), .val (.int p1), .val (.int p2), .val (.int p3), .val (.int (own_first p0)), .val (.long (own_room p0)), .second, .val (.int (own_last p0 p1)), .val (.int (own_cap p3)), .val (.ref b2), .val (.long (own_u p2)), .second, .val (.int (p3 &&& (7 : Int32))), .unset, .unset, .unset, .unset] [(.int (p3 &&& (7 : Int32)))])) _
        refine XS.ifNo X5.here hx rfl (hb hby at_68) rfl ((if0 _ _).trans (feq hc68).1) ?_
        show Steps p.tables e below (T5.setTop (mkF m 71 #[.val (.int p0), .val (.int p1), .val (.int p2), .val (.int p3), .val (.int (own_first p0)), .val (.long (own_room p0)), .second, .val (.int (own_last p0 p1)), .val (.int (own_cap p3)), .val (.ref b2), .val (.long (own_u p2)), .second, .val (.int (p3 &&& (7 : Int32))), .unset, .unset, .unset, .unset] [])) _
        refine XS.iload X5.here hx rfl (hb hby at_71) rfl ?_
        show Steps p.tables e below (T5.setTop (mkF m 73 #[.val (.int p0), .val (.int p1), .val (.int p2), .val (.int p3), .val (.int (own_first p0)), .val (.long (own_room p0)), .second, .val (.int (own_last p0 p1)), .val (.int (own_cap p3)), .val (.ref b2), .val (.long (own_u p2)), .second, .val (.int (p3 &&& (7 : Int32))), .unset, .unset, .unset, .unset] [(.int (p3 &&& (7 : Int32)))])) _
        refine XS.iconst X5.here hx rfl (hb hby at_73) ?_
        exact k)
    by_cases hc74 : (p3 &&& (7 : Int32)) = (1 : Int32)
    · have k13 : ∀ t, Steps p.tables e below (T5.setTop (mkF m 281 #[.val (.int p0), .val (.int p1), .val (.int p2), .val (.int p3), .val (.int (own_first p0)), .val (.long (own_room p0)), .second, .val (.int (own_last p0 p1)), .val (.int (own_cap p3)), .val (.ref b2), .val (.long (own_u p2)), .second, .val (.int (p3 &&& (7 : Int32))), .val (.int (own_st1 p0 p1 p2)), .val (.int (1 : Int32)), .val (.long (own_len p0 p1)), .second] [(.int (own_st1 p0 p1 p2)), (.ref b2)])) t → Steps p.tables e below (s₁.setTop (entryFrame m #[(.int p0), (.int p1), (.int p2), (.int p3)] maxLocals)) t := fun t k => k12 t (by
          show Steps p.tables e below (T5.setTop (mkF m 74 #[.val (.int p0), .val (.int p1), .val (.int p2), .val (.int p3), .val (.int (own_first p0)), .val (.long (own_room p0)), .second, .val (.int (own_last p0 p1)), .val (.int (own_cap p3)), .val (.ref b2), .val (.long (own_u p2)), .second, .val (.int (p3 &&& (7 : Int32))), .unset, .unset, .unset, .unset] [(.int (1 : Int32)), (.int (p3 &&& (7 : Int32)))])) _
          refine XS.icmpNo X5.here hx rfl (hb hby at_74) rfl (teq hc74).2 ?_
          show Steps p.tables e below (T5.setTop (mkF m 77 #[.val (.int p0), .val (.int p1), .val (.int p2), .val (.int p3), .val (.int (own_first p0)), .val (.long (own_room p0)), .second, .val (.int (own_last p0 p1)), .val (.int (own_cap p3)), .val (.ref b2), .val (.long (own_u p2)), .second, .val (.int (p3 &&& (7 : Int32))), .unset, .unset, .unset, .unset] [])) _
          refine XS.iload X5.here hx rfl (hb hby at_77) rfl ?_
          show Steps p.tables e below (T5.setTop (mkF m 79 #[.val (.int p0), .val (.int p1), .val (.int p2), .val (.int p3), .val (.int (own_first p0)), .val (.long (own_room p0)), .second, .val (.int (own_last p0 p1)), .val (.int (own_cap p3)), .val (.ref b2), .val (.long (own_u p2)), .second, .val (.int (p3 &&& (7 : Int32))), .unset, .unset, .unset, .unset] [(.int (own_last p0 p1))])) _
          refine XS.i2l X5.here hx rfl (hb hby at_79) rfl ?_
          show Steps p.tables e below (T5.setTop (mkF m 80 #[.val (.int p0), .val (.int p1), .val (.int p2), .val (.int p3), .val (.int (own_first p0)), .val (.long (own_room p0)), .second, .val (.int (own_last p0 p1)), .val (.int (own_cap p3)), .val (.ref b2), .val (.long (own_u p2)), .second, .val (.int (p3 &&& (7 : Int32))), .unset, .unset, .unset, .unset] [(.long ((own_last p0 p1).toInt64))])) _
          refine XS.iload X5.here hx rfl (hb hby at_80) rfl ?_
          show Steps p.tables e below (T5.setTop (mkF m 82 #[.val (.int p0), .val (.int p1), .val (.int p2), .val (.int p3), .val (.int (own_first p0)), .val (.long (own_room p0)), .second, .val (.int (own_last p0 p1)), .val (.int (own_cap p3)), .val (.ref b2), .val (.long (own_u p2)), .second, .val (.int (p3 &&& (7 : Int32))), .unset, .unset, .unset, .unset] [(.int (own_first p0)), (.long ((own_last p0 p1).toInt64))])) _
          refine XS.i2l X5.here hx rfl (hb hby at_82) rfl ?_
          show Steps p.tables e below (T5.setTop (mkF m 83 #[.val (.int p0), .val (.int p1), .val (.int p2), .val (.int p3), .val (.int (own_first p0)), .val (.long (own_room p0)), .second, .val (.int (own_last p0 p1)), .val (.int (own_cap p3)), .val (.ref b2), .val (.long (own_u p2)), .second, .val (.int (p3 &&& (7 : Int32))), .unset, .unset, .unset, .unset] [(.long ((own_first p0).toInt64)), (.long ((own_last p0 p1).toInt64))])) _
          refine XS.lsub X5.here hx rfl (hb hby at_83) rfl ?_
          show Steps p.tables e below (T5.setTop (mkF m 84 #[.val (.int p0), .val (.int p1), .val (.int p2), .val (.int p3), .val (.int (own_first p0)), .val (.long (own_room p0)), .second, .val (.int (own_last p0 p1)), .val (.int (own_cap p3)), .val (.ref b2), .val (.long (own_u p2)), .second, .val (.int (p3 &&& (7 : Int32))), .unset, .unset, .unset, .unset] [(.long (((own_last p0 p1).toInt64) - ((own_first p0).toInt64)))])) _
          refine XS.lconst X5.here hx rfl (hb hby at_84) ?_
          show Steps p.tables e below (T5.setTop (mkF m 85 #[.val (.int p0), .val (.int p1), .val (.int p2), .val (.int p3), .val (.int (own_first p0)), .val (.long (own_room p0)), .second, .val (.int (own_last p0 p1)), .val (.int (own_cap p3)), .val (.ref b2), .val (.long (own_u p2)), .second, .val (.int (p3 &&& (7 : Int32))), .unset, .unset, .unset, .unset] [(.long (1 : Int64)), (.long (((own_last p0 p1).toInt64) - ((own_first p0).toInt64)))])) _
          refine XS.ladd X5.here hx rfl (hb hby at_85) rfl ?_
          show Steps p.tables e below (T5.setTop (mkF m 86 #[.val (.int p0), .val (.int p1), .val (.int p2), .val (.int p3), .val (.int (own_first p0)), .val (.long (own_room p0)), .second, .val (.int (own_last p0 p1)), .val (.int (own_cap p3)), .val (.ref b2), .val (.long (own_u p2)), .second, .val (.int (p3 &&& (7 : Int32))), .unset, .unset, .unset, .unset] [(.long (own_len p0 p1))])) _
          refine XS.lstore X5.here hx rfl (hb hby at_86) rfl (l' := #[.val (.int p0), .val (.int p1), .val (.int p2), .val (.int p3), .val (.int (own_first p0)), .val (.long (own_room p0)), .second, .val (.int (own_last p0 p1)), .val (.int (own_cap p3)), .val (.ref b2), .val (.long (own_u p2)), .second, .val (.int (p3 &&& (7 : Int32))), .unset, .unset, .val (.long (own_len p0 p1)), .second]) rfl ?_
          show Steps p.tables e below (T5.setTop (mkF m 88 #[.val (.int p0), .val (.int p1), .val (.int p2), .val (.int p3), .val (.int (own_first p0)), .val (.long (own_room p0)), .second, .val (.int (own_last p0 p1)), .val (.int (own_cap p3)), .val (.ref b2), .val (.long (own_u p2)), .second, .val (.int (p3 &&& (7 : Int32))), .unset, .unset, .val (.long (own_len p0 p1)), .second] [])) _
          refine XS.iload X5.here hx rfl (hb hby at_88) rfl ?_
          show Steps p.tables e below (T5.setTop (mkF m 90 #[.val (.int p0), .val (.int p1), .val (.int p2), .val (.int p3), .val (.int (own_first p0)), .val (.long (own_room p0)), .second, .val (.int (own_last p0 p1)), .val (.int (own_cap p3)), .val (.ref b2), .val (.long (own_u p2)), .second, .val (.int (p3 &&& (7 : Int32))), .unset, .unset, .val (.long (own_len p0 p1)), .second] [(.int (own_first p0))])) _
          refine XS.i2l X5.here hx rfl (hb hby at_90) rfl ?_
          show Steps p.tables e below (T5.setTop (mkF m 91 #[.val (.int p0), .val (.int p1), .val (.int p2), .val (.int p3), .val (.int (own_first p0)), .val (.long (own_room p0)), .second, .val (.int (own_last p0 p1)), .val (.int (own_cap p3)), .val (.ref b2), .val (.long (own_u p2)), .second, .val (.int (p3 &&& (7 : Int32))), .unset, .unset, .val (.long (own_len p0 p1)), .second] [(.long ((own_first p0).toInt64))])) _
          refine XS.lload X5.here hx rfl (hb hby at_91) rfl ?_
          show Steps p.tables e below (T5.setTop (mkF m 93 #[.val (.int p0), .val (.int p1), .val (.int p2), .val (.int p3), .val (.int (own_first p0)), .val (.long (own_room p0)), .second, .val (.int (own_last p0 p1)), .val (.int (own_cap p3)), .val (.ref b2), .val (.long (own_u p2)), .second, .val (.int (p3 &&& (7 : Int32))), .unset, .unset, .val (.long (own_len p0 p1)), .second] [(.long (own_u p2)), (.long ((own_first p0).toInt64))])) _
          refine XS.lload X5.here hx rfl (hb hby at_93) rfl ?_
          show Steps p.tables e below (T5.setTop (mkF m 95 #[.val (.int p0), .val (.int p1), .val (.int p2), .val (.int p3), .val (.int (own_first p0)), .val (.long (own_room p0)), .second, .val (.int (own_last p0 p1)), .val (.int (own_cap p3)), .val (.ref b2), .val (.long (own_u p2)), .second, .val (.int (p3 &&& (7 : Int32))), .unset, .unset, .val (.long (own_len p0 p1)), .second] [(.long (own_len p0 p1)), (.long (own_u p2)), (.long ((own_first p0).toInt64))])) _
          refine XS.lrem X5.here hx rfl (hb hby at_95) rfl (own_nz (by have := own_last_r p0 p1; have := own_len_r p0 p1; omega)) ?_
          show Steps p.tables e below (T5.setTop (mkF m 96 #[.val (.int p0), .val (.int p1), .val (.int p2), .val (.int p3), .val (.int (own_first p0)), .val (.long (own_room p0)), .second, .val (.int (own_last p0 p1)), .val (.int (own_cap p3)), .val (.ref b2), .val (.long (own_u p2)), .second, .val (.int (p3 &&& (7 : Int32))), .unset, .unset, .val (.long (own_len p0 p1)), .second] [(.long ((own_u p2) - ((own_u p2) / (own_len p0 p1)) * (own_len p0 p1))), (.long ((own_first p0).toInt64))])) _
          refine XS.ladd X5.here hx rfl (hb hby at_96) rfl ?_
          show Steps p.tables e below (T5.setTop (mkF m 97 #[.val (.int p0), .val (.int p1), .val (.int p2), .val (.int p3), .val (.int (own_first p0)), .val (.long (own_room p0)), .second, .val (.int (own_last p0 p1)), .val (.int (own_cap p3)), .val (.ref b2), .val (.long (own_u p2)), .second, .val (.int (p3 &&& (7 : Int32))), .unset, .unset, .val (.long (own_len p0 p1)), .second] [(.long (((own_first p0).toInt64) + ((own_u p2) - ((own_u p2) / (own_len p0 p1)) * (own_len p0 p1))))])) _
          refine XS.l2i X5.here hx rfl (hb hby at_97) rfl ?_
          show Steps p.tables e below (T5.setTop (mkF m 98 #[.val (.int p0), .val (.int p1), .val (.int p2), .val (.int p3), .val (.int (own_first p0)), .val (.long (own_room p0)), .second, .val (.int (own_last p0 p1)), .val (.int (own_cap p3)), .val (.ref b2), .val (.long (own_u p2)), .second, .val (.int (p3 &&& (7 : Int32))), .unset, .unset, .val (.long (own_len p0 p1)), .second] [(.int (own_st1 p0 p1 p2))])) _
          refine XS.istore X5.here hx rfl (hb hby at_98) rfl (l' := #[.val (.int p0), .val (.int p1), .val (.int p2), .val (.int p3), .val (.int (own_first p0)), .val (.long (own_room p0)), .second, .val (.int (own_last p0 p1)), .val (.int (own_cap p3)), .val (.ref b2), .val (.long (own_u p2)), .second, .val (.int (p3 &&& (7 : Int32))), .val (.int (own_st1 p0 p1 p2)), .unset, .val (.long (own_len p0 p1)), .second]) rfl ?_
          show Steps p.tables e below (T5.setTop (mkF m 100 #[.val (.int p0), .val (.int p1), .val (.int p2), .val (.int p3), .val (.int (own_first p0)), .val (.long (own_room p0)), .second, .val (.int (own_last p0 p1)), .val (.int (own_cap p3)), .val (.ref b2), .val (.long (own_u p2)), .second, .val (.int (p3 &&& (7 : Int32))), .val (.int (own_st1 p0 p1 p2)), .unset, .val (.long (own_len p0 p1)), .second] [])) _
          refine XS.iconst X5.here hx rfl (hb hby at_100) ?_
          show Steps p.tables e below (T5.setTop (mkF m 101 #[.val (.int p0), .val (.int p1), .val (.int p2), .val (.int p3), .val (.int (own_first p0)), .val (.long (own_room p0)), .second, .val (.int (own_last p0 p1)), .val (.int (own_cap p3)), .val (.ref b2), .val (.long (own_u p2)), .second, .val (.int (p3 &&& (7 : Int32))), .val (.int (own_st1 p0 p1 p2)), .unset, .val (.long (own_len p0 p1)), .second] [(.int (1 : Int32))])) _
          refine XS.istore X5.here hx rfl (hb hby at_101) rfl (l' := #[.val (.int p0), .val (.int p1), .val (.int p2), .val (.int p3), .val (.int (own_first p0)), .val (.long (own_room p0)), .second, .val (.int (own_last p0 p1)), .val (.int (own_cap p3)), .val (.ref b2), .val (.long (own_u p2)), .second, .val (.int (p3 &&& (7 : Int32))), .val (.int (own_st1 p0 p1 p2)), .val (.int (1 : Int32)), .val (.long (own_len p0 p1)), .second]) rfl ?_
          show Steps p.tables e below (T5.setTop (mkF m 103 #[.val (.int p0), .val (.int p1), .val (.int p2), .val (.int p3), .val (.int (own_first p0)), .val (.long (own_room p0)), .second, .val (.int (own_last p0 p1)), .val (.int (own_cap p3)), .val (.ref b2), .val (.long (own_u p2)), .second, .val (.int (p3 &&& (7 : Int32))), .val (.int (own_st1 p0 p1 p2)), .val (.int (1 : Int32)), .val (.long (own_len p0 p1)), .second] [])) _
          refine XS.goto X5.here hx rfl (pc0 := 103) (pc' := 277) rfl (hb hby at_103) (by decide) (by decide) ?_
          show Steps p.tables e below (T5.setTop (mkF m 277 #[.val (.int p0), .val (.int p1), .val (.int p2), .val (.int p3), .val (.int (own_first p0)), .val (.long (own_room p0)), .second, .val (.int (own_last p0 p1)), .val (.int (own_cap p3)), .val (.ref b2), .val (.long (own_u p2)), .second, .val (.int (p3 &&& (7 : Int32))), .val (.int (own_st1 p0 p1 p2)), .val (.int (1 : Int32)), .val (.long (own_len p0 p1)), .second] [])) _
          refine XS.aload X5.here hx rfl (hb hby at_277) rfl rfl ?_
          show Steps p.tables e below (T5.setTop (mkF m 279 #[.val (.int p0), .val (.int p1), .val (.int p2), .val (.int p3), .val (.int (own_first p0)), .val (.long (own_room p0)), .second, .val (.int (own_last p0 p1)), .val (.int (own_cap p3)), .val (.ref b2), .val (.long (own_u p2)), .second, .val (.int (p3 &&& (7 : Int32))), .val (.int (own_st1 p0 p1 p2)), .val (.int (1 : Int32)), .val (.long (own_len p0 p1)), .second] [(.ref b2)])) _
          refine XS.iload X5.here hx rfl (hb hby at_279) rfl ?_
          exact k)
      obtain ⟨cq14, kcq14, q14a, q14b, q14c⟩ := isOf hZ rfl Ex5
      obtain ⟨_, _, ⟨T14, L14, kq14, n14⟩, -, X14, ⟨Lc14, hQ14, l14, y14, z14⟩, st14⟩ := X5.virtualBack hx (y := (⟨"com/example/backpressure/backpressure/model/CapacityChange", "holdsIn", "(I)Z"⟩ : MethodName)) (z := (⟨"com/example/backpressure/backpressure/model/CapacityChange", "holdsIn", "(I)Z"⟩ : MethodName)) hown (mvT hZ (hw _ (List.mem_of_getElem? (i := 18) rfl))) (mvT hZ (hw _ (List.mem_of_getElem? (i := 19) rfl))) (notFace_of_selects (args := #[]) (mvT hZ (hw _ (List.mem_of_getElem? (i := 21) rfl)))) (mvT hZ (hw _ (List.mem_of_getElem? (i := 21) rfl))) (mvT hZ (hw _ (List.mem_of_getElem? (i := 20) rfl))) (by decide) (backOf (W := 0) (rm3 l Z a0 hw [] b2 (own_st1 p0 p1 p2) (own_first p0) (own_last p0 p1) T5.heap n0 Zs5 Fx5_0 Fx5_1) hZ (hw _ (List.mem_of_getElem? (i := 22) rfl)) (hw _ (List.mem_of_getElem? (i := 4) rfl)) (by decide) (by decide)) q14a q14c (g := (mkF m 281 #[.val (.int p0), .val (.int p1), .val (.int p2), .val (.int p3), .val (.int (own_first p0)), .val (.long (own_room p0)), .second, .val (.int (own_last p0 p1)), .val (.int (own_cap p3)), .val (.ref b2), .val (.long (own_u p2)), .second, .val (.int (p3 &&& (7 : Int32))), .val (.int (own_st1 p0 p1 p2)), .val (.int (1 : Int32)), .val (.long (own_len p0 p1)), .second] [(.int (own_st1 p0 p1 p2)), (.ref b2)])) rfl (by rw [hml]; rfl) (Steps.refl _) (argsL := [(.int (own_st1 p0 p1 p2))]) (rest := []) (lenOf pd_1 rfl) rfl (by show 2 * 0 + _ ≤ _; exact Nat.le_of_eq rfl) (hb hby at_281) (fun _ _ => ⟨rfl, rfl, (by decide : 1 + 0 ≤ _), (by decide : 3 + 0 ≤ _)⟩)
      dsimp only [Pt.U, Pt.locs, Pt.cells, Pt.slots] at X14 l14 y14 z14 st14 hQ14
      subst l14 y14 z14
      obtain ⟨rfl, N14q, e14⟩ := hQ14
      have N14 := Fr.app N5 N14q
      have k15 : ∀ t, Steps p.tables e below (T14.setTop (mkF m 284 #[.val (.int p0), .val (.int p1), .val (.int p2), .val (.int p3), .val (.int (own_first p0)), .val (.long (own_room p0)), .second, .val (.int (own_last p0 p1)), .val (.int (own_cap p3)), .val (.ref b2), .val (.long (own_u p2)), .second, .val (.int (p3 &&& (7 : Int32))), .val (.int (own_st1 p0 p1 p2)), .val (.int (1 : Int32)), .val (.long (own_len p0 p1)), .second] [(.int (own_bI ((own_first p0).toInt ≤ (own_st1 p0 p1 p2).toInt ∧ (own_st1 p0 p1 p2).toInt ≤ (own_last p0 p1).toInt)))])) t → Steps p.tables e below (s₁.setTop (entryFrame m #[(.int p0), (.int p1), (.int p2), (.int p3)] maxLocals)) t := fun t k => k13 t (st14.trans k)
      have hc286 : (own_bI ((own_first p0).toInt ≤ (own_st1 p0 p1 p2).toInt ∧ (own_st1 p0 p1 p2).toInt ≤ (own_last p0 p1).toInt)) = (1 : Int32) := own_bI_t (by have r0 := own_first_r p0; have r1 := own_last_r p0 p1; have r2 := (own_last p0 p1).toInt_lt; have r3 := own_st1_r p0 p1 p2; omega)
      have k16 : ∀ t, Steps p.tables e below (T14.setTop (mkF m 294 #[.val (.int p0), .val (.int p1), .val (.int p2), .val (.int p3), .val (.int (own_first p0)), .val (.long (own_room p0)), .second, .val (.int (own_last p0 p1)), .val (.int (own_cap p3)), .val (.ref b2), .val (.long (own_u p2)), .second, .val (.int (p3 &&& (7 : Int32))), .val (.int (own_st1 p0 p1 p2)), .val (.int (1 : Int32)), .val (.long (own_len p0 p1)), .second] [(.int (1 : Int32))])) t → Steps p.tables e below (s₁.setTop (entryFrame m #[(.int p0), (.int p1), (.int p2), (.int p3)] maxLocals)) t := fun t k => k15 t (by
          show Steps p.tables e below (T14.setTop (mkF m 284 #[.val (.int p0), .val (.int p1), .val (.int p2), .val (.int p3), .val (.int (own_first p0)), .val (.long (own_room p0)), .second, .val (.int (own_last p0 p1)), .val (.int (own_cap p3)), .val (.ref b2), .val (.long (own_u p2)), .second, .val (.int (p3 &&& (7 : Int32))), .val (.int (own_st1 p0 p1 p2)), .val (.int (1 : Int32)), .val (.long (own_len p0 p1)), .second] [(.int (own_bI ((own_first p0).toInt ≤ (own_st1 p0 p1 p2).toInt ∧ (own_st1 p0 p1 p2).toInt ≤ (own_last p0 p1).toInt)))])) _
          refine XS.iload X14.here hx rfl (hb hby at_284) rfl ?_
          show Steps p.tables e below (T14.setTop (mkF m 286 #[.val (.int p0), .val (.int p1), .val (.int p2), .val (.int p3), .val (.int (own_first p0)), .val (.long (own_room p0)), .second, .val (.int (own_last p0 p1)), .val (.int (own_cap p3)), .val (.ref b2), .val (.long (own_u p2)), .second, .val (.int (p3 &&& (7 : Int32))), .val (.int (own_st1 p0 p1 p2)), .val (.int (1 : Int32)), .val (.long (own_len p0 p1)), .second] [(.int (1 : Int32)), (.int (own_bI ((own_first p0).toInt ≤ (own_st1 p0 p1 p2).toInt ∧ (own_st1 p0 p1 p2).toInt ≤ (own_last p0 p1).toInt)))])) _
          refine XS.icmpNo X14.here hx rfl (hb hby at_286) rfl (teq hc286).2 ?_
          show Steps p.tables e below (T14.setTop (mkF m 289 #[.val (.int p0), .val (.int p1), .val (.int p2), .val (.int p3), .val (.int (own_first p0)), .val (.long (own_room p0)), .second, .val (.int (own_last p0 p1)), .val (.int (own_cap p3)), .val (.ref b2), .val (.long (own_u p2)), .second, .val (.int (p3 &&& (7 : Int32))), .val (.int (own_st1 p0 p1 p2)), .val (.int (1 : Int32)), .val (.long (own_len p0 p1)), .second] [])) _
          refine XS.iconst X14.here hx rfl (hb hby at_289) ?_
          show Steps p.tables e below (T14.setTop (mkF m 290 #[.val (.int p0), .val (.int p1), .val (.int p2), .val (.int p3), .val (.int (own_first p0)), .val (.long (own_room p0)), .second, .val (.int (own_last p0 p1)), .val (.int (own_cap p3)), .val (.ref b2), .val (.long (own_u p2)), .second, .val (.int (p3 &&& (7 : Int32))), .val (.int (own_st1 p0 p1 p2)), .val (.int (1 : Int32)), .val (.long (own_len p0 p1)), .second] [(.int (1 : Int32))])) _
          refine XS.goto X14.here hx rfl (pc0 := 290) (pc' := 294) rfl (hb hby at_290) (by decide) (by decide) ?_
          exact k)
      obtain ⟨fs, hr, hrun, hended, hW, hsame⟩ := X14.leave (v := (some (.int (1 : Int32)))) (fun h => by rw [Bd.returns] at h; cases h)
      refine ⟨_, _, k16 _ ?_, hrun, hended, _, _, rfl, ?_, ⟨_, rfl⟩, hW, hsame.mono (by decide) (by decide)⟩
      · exact retN X14 hx (t := .boolean) Bd.returns (by simp) (hb hby at_294) hr
      · show Q0 Z p0 p1 p2 p3 h0 n0 _ T14.heap _
        rw [e14]
        exact ⟨rfl, N14⟩
    · have k17 : ∀ t, Steps p.tables e below (T5.setTop (mkF m 109 #[.val (.int p0), .val (.int p1), .val (.int p2), .val (.int p3), .val (.int (own_first p0)), .val (.long (own_room p0)), .second, .val (.int (own_last p0 p1)), .val (.int (own_cap p3)), .val (.ref b2), .val (.long (own_u p2)), .second, .val (.int (p3 &&& (7 : Int32))), .unset, .unset, .unset, .unset] [(.int (2 : Int32)), (.int (p3 &&& (7 : Int32)))])) t → Steps p.tables e below (s₁.setTop (entryFrame m #[(.int p0), (.int p1), (.int p2), (.int p3)] maxLocals)) t := fun t k => k12 t (by
          show Steps p.tables e below (T5.setTop (mkF m 74 #[.val (.int p0), .val (.int p1), .val (.int p2), .val (.int p3), .val (.int (own_first p0)), .val (.long (own_room p0)), .second, .val (.int (own_last p0 p1)), .val (.int (own_cap p3)), .val (.ref b2), .val (.long (own_u p2)), .second, .val (.int (p3 &&& (7 : Int32))), .unset, .unset, .unset, .unset] [(.int (1 : Int32)), (.int (p3 &&& (7 : Int32)))])) _
          refine XS.icmpYes X5.here hx rfl (pc0 := 74) (pc' := 106) rfl (hb hby at_74) rfl (feq hc74).2 (by decide) (by decide) ?_
          show Steps p.tables e below (T5.setTop (mkF m 106 #[.val (.int p0), .val (.int p1), .val (.int p2), .val (.int p3), .val (.int (own_first p0)), .val (.long (own_room p0)), .second, .val (.int (own_last p0 p1)), .val (.int (own_cap p3)), .val (.ref b2), .val (.long (own_u p2)), .second, .val (.int (p3 &&& (7 : Int32))), .unset, .unset, .unset, .unset] [])) _
          refine XS.iload X5.here hx rfl (hb hby at_106) rfl ?_
          show Steps p.tables e below (T5.setTop (mkF m 108 #[.val (.int p0), .val (.int p1), .val (.int p2), .val (.int p3), .val (.int (own_first p0)), .val (.long (own_room p0)), .second, .val (.int (own_last p0 p1)), .val (.int (own_cap p3)), .val (.ref b2), .val (.long (own_u p2)), .second, .val (.int (p3 &&& (7 : Int32))), .unset, .unset, .unset, .unset] [(.int (p3 &&& (7 : Int32)))])) _
          refine XS.iconst X5.here hx rfl (hb hby at_108) ?_
          exact k)
      by_cases hc109 : (p3 &&& (7 : Int32)) = (2 : Int32)
      · have k18 : ∀ t, Steps p.tables e below (T5.setTop (mkF m 281 #[.val (.int p0), .val (.int p1), .val (.int p2), .val (.int p3), .val (.int (own_first p0)), .val (.long (own_room p0)), .second, .val (.int (own_last p0 p1)), .val (.int (own_cap p3)), .val (.ref b2), .val (.long (own_u p2)), .second, .val (.int (p3 &&& (7 : Int32))), .val (.int (own_st2 p0 p2)), .val (.int (0 : Int32)), .val (.long (own_sz2 p0)), .second] [(.int (own_st2 p0 p2)), (.ref b2)])) t → Steps p.tables e below (s₁.setTop (entryFrame m #[(.int p0), (.int p1), (.int p2), (.int p3)] maxLocals)) t := fun t k => k17 t (by
            show Steps p.tables e below (T5.setTop (mkF m 109 #[.val (.int p0), .val (.int p1), .val (.int p2), .val (.int p3), .val (.int (own_first p0)), .val (.long (own_room p0)), .second, .val (.int (own_last p0 p1)), .val (.int (own_cap p3)), .val (.ref b2), .val (.long (own_u p2)), .second, .val (.int (p3 &&& (7 : Int32))), .unset, .unset, .unset, .unset] [(.int (2 : Int32)), (.int (p3 &&& (7 : Int32)))])) _
            refine XS.icmpNo X5.here hx rfl (hb hby at_109) rfl (teq hc109).2 ?_
            show Steps p.tables e below (T5.setTop (mkF m 112 #[.val (.int p0), .val (.int p1), .val (.int p2), .val (.int p3), .val (.int (own_first p0)), .val (.long (own_room p0)), .second, .val (.int (own_last p0 p1)), .val (.int (own_cap p3)), .val (.ref b2), .val (.long (own_u p2)), .second, .val (.int (p3 &&& (7 : Int32))), .unset, .unset, .unset, .unset] [])) _
            refine XS.iload X5.here hx rfl (hb hby at_112) rfl ?_
            show Steps p.tables e below (T5.setTop (mkF m 114 #[.val (.int p0), .val (.int p1), .val (.int p2), .val (.int p3), .val (.int (own_first p0)), .val (.long (own_room p0)), .second, .val (.int (own_last p0 p1)), .val (.int (own_cap p3)), .val (.ref b2), .val (.long (own_u p2)), .second, .val (.int (p3 &&& (7 : Int32))), .unset, .unset, .unset, .unset] [(.int (own_first p0))])) _
            refine XS.i2l X5.here hx rfl (hb hby at_114) rfl ?_
            show Steps p.tables e below (T5.setTop (mkF m 115 #[.val (.int p0), .val (.int p1), .val (.int p2), .val (.int p3), .val (.int (own_first p0)), .val (.long (own_room p0)), .second, .val (.int (own_last p0 p1)), .val (.int (own_cap p3)), .val (.ref b2), .val (.long (own_u p2)), .second, .val (.int (p3 &&& (7 : Int32))), .unset, .unset, .unset, .unset] [(.long ((own_first p0).toInt64))])) _
            refine X5.ldc2Long hx hown (mvT hZ (hw _ (List.mem_of_getElem? (i := 17) rfl))) (g := (mkF m 115 #[.val (.int p0), .val (.int p1), .val (.int p2), .val (.int p3), .val (.int (own_first p0)), .val (.long (own_room p0)), .second, .val (.int (own_last p0 p1)), .val (.int (own_cap p3)), .val (.ref b2), .val (.long (own_u p2)), .second, .val (.int (p3 &&& (7 : Int32))), .unset, .unset, .unset, .unset] [(.long ((own_first p0).toInt64))])) rfl (hb hby at_115) _ ?_
            show Steps p.tables e below (T5.setTop (mkF m 118 #[.val (.int p0), .val (.int p1), .val (.int p2), .val (.int p3), .val (.int (own_first p0)), .val (.long (own_room p0)), .second, .val (.int (own_last p0 p1)), .val (.int (own_cap p3)), .val (.ref b2), .val (.long (own_u p2)), .second, .val (.int (p3 &&& (7 : Int32))), .unset, .unset, .unset, .unset] [(.long (-2147483648 : Int64)), (.long ((own_first p0).toInt64))])) _
            refine XS.lsub X5.here hx rfl (hb hby at_118) rfl ?_
            show Steps p.tables e below (T5.setTop (mkF m 119 #[.val (.int p0), .val (.int p1), .val (.int p2), .val (.int p3), .val (.int (own_first p0)), .val (.long (own_room p0)), .second, .val (.int (own_last p0 p1)), .val (.int (own_cap p3)), .val (.ref b2), .val (.long (own_u p2)), .second, .val (.int (p3 &&& (7 : Int32))), .unset, .unset, .unset, .unset] [(.long (own_sz2 p0))])) _
            refine XS.lstore X5.here hx rfl (hb hby at_119) rfl (l' := #[.val (.int p0), .val (.int p1), .val (.int p2), .val (.int p3), .val (.int (own_first p0)), .val (.long (own_room p0)), .second, .val (.int (own_last p0 p1)), .val (.int (own_cap p3)), .val (.ref b2), .val (.long (own_u p2)), .second, .val (.int (p3 &&& (7 : Int32))), .unset, .unset, .val (.long (own_sz2 p0)), .second]) rfl ?_
            show Steps p.tables e below (T5.setTop (mkF m 121 #[.val (.int p0), .val (.int p1), .val (.int p2), .val (.int p3), .val (.int (own_first p0)), .val (.long (own_room p0)), .second, .val (.int (own_last p0 p1)), .val (.int (own_cap p3)), .val (.ref b2), .val (.long (own_u p2)), .second, .val (.int (p3 &&& (7 : Int32))), .unset, .unset, .val (.long (own_sz2 p0)), .second] [])) _
            refine X5.ldc2Long hx hown (mvT hZ (hw _ (List.mem_of_getElem? (i := 17) rfl))) (g := (mkF m 121 #[.val (.int p0), .val (.int p1), .val (.int p2), .val (.int p3), .val (.int (own_first p0)), .val (.long (own_room p0)), .second, .val (.int (own_last p0 p1)), .val (.int (own_cap p3)), .val (.ref b2), .val (.long (own_u p2)), .second, .val (.int (p3 &&& (7 : Int32))), .unset, .unset, .val (.long (own_sz2 p0)), .second] [])) rfl (hb hby at_121) _ ?_
            show Steps p.tables e below (T5.setTop (mkF m 124 #[.val (.int p0), .val (.int p1), .val (.int p2), .val (.int p3), .val (.int (own_first p0)), .val (.long (own_room p0)), .second, .val (.int (own_last p0 p1)), .val (.int (own_cap p3)), .val (.ref b2), .val (.long (own_u p2)), .second, .val (.int (p3 &&& (7 : Int32))), .unset, .unset, .val (.long (own_sz2 p0)), .second] [(.long (-2147483648 : Int64))])) _
            refine XS.lload X5.here hx rfl (hb hby at_124) rfl ?_
            show Steps p.tables e below (T5.setTop (mkF m 126 #[.val (.int p0), .val (.int p1), .val (.int p2), .val (.int p3), .val (.int (own_first p0)), .val (.long (own_room p0)), .second, .val (.int (own_last p0 p1)), .val (.int (own_cap p3)), .val (.ref b2), .val (.long (own_u p2)), .second, .val (.int (p3 &&& (7 : Int32))), .unset, .unset, .val (.long (own_sz2 p0)), .second] [(.long (own_u p2)), (.long (-2147483648 : Int64))])) _
            refine XS.lload X5.here hx rfl (hb hby at_126) rfl ?_
            show Steps p.tables e below (T5.setTop (mkF m 128 #[.val (.int p0), .val (.int p1), .val (.int p2), .val (.int p3), .val (.int (own_first p0)), .val (.long (own_room p0)), .second, .val (.int (own_last p0 p1)), .val (.int (own_cap p3)), .val (.ref b2), .val (.long (own_u p2)), .second, .val (.int (p3 &&& (7 : Int32))), .unset, .unset, .val (.long (own_sz2 p0)), .second] [(.long (own_sz2 p0)), (.long (own_u p2)), (.long (-2147483648 : Int64))])) _
            refine XS.lrem X5.here hx rfl (hb hby at_128) rfl (own_nz (by have := own_first_r p0; have := own_sz2_r p0; omega)) ?_
            show Steps p.tables e below (T5.setTop (mkF m 129 #[.val (.int p0), .val (.int p1), .val (.int p2), .val (.int p3), .val (.int (own_first p0)), .val (.long (own_room p0)), .second, .val (.int (own_last p0 p1)), .val (.int (own_cap p3)), .val (.ref b2), .val (.long (own_u p2)), .second, .val (.int (p3 &&& (7 : Int32))), .unset, .unset, .val (.long (own_sz2 p0)), .second] [(.long ((own_u p2) - ((own_u p2) / (own_sz2 p0)) * (own_sz2 p0))), (.long (-2147483648 : Int64))])) _
            refine XS.ladd X5.here hx rfl (hb hby at_129) rfl ?_
            show Steps p.tables e below (T5.setTop (mkF m 130 #[.val (.int p0), .val (.int p1), .val (.int p2), .val (.int p3), .val (.int (own_first p0)), .val (.long (own_room p0)), .second, .val (.int (own_last p0 p1)), .val (.int (own_cap p3)), .val (.ref b2), .val (.long (own_u p2)), .second, .val (.int (p3 &&& (7 : Int32))), .unset, .unset, .val (.long (own_sz2 p0)), .second] [(.long ((-2147483648 : Int64) + ((own_u p2) - ((own_u p2) / (own_sz2 p0)) * (own_sz2 p0))))])) _
            refine XS.l2i X5.here hx rfl (hb hby at_130) rfl ?_
            show Steps p.tables e below (T5.setTop (mkF m 131 #[.val (.int p0), .val (.int p1), .val (.int p2), .val (.int p3), .val (.int (own_first p0)), .val (.long (own_room p0)), .second, .val (.int (own_last p0 p1)), .val (.int (own_cap p3)), .val (.ref b2), .val (.long (own_u p2)), .second, .val (.int (p3 &&& (7 : Int32))), .unset, .unset, .val (.long (own_sz2 p0)), .second] [(.int (own_st2 p0 p2))])) _
            refine XS.istore X5.here hx rfl (hb hby at_131) rfl (l' := #[.val (.int p0), .val (.int p1), .val (.int p2), .val (.int p3), .val (.int (own_first p0)), .val (.long (own_room p0)), .second, .val (.int (own_last p0 p1)), .val (.int (own_cap p3)), .val (.ref b2), .val (.long (own_u p2)), .second, .val (.int (p3 &&& (7 : Int32))), .val (.int (own_st2 p0 p2)), .unset, .val (.long (own_sz2 p0)), .second]) rfl ?_
            show Steps p.tables e below (T5.setTop (mkF m 133 #[.val (.int p0), .val (.int p1), .val (.int p2), .val (.int p3), .val (.int (own_first p0)), .val (.long (own_room p0)), .second, .val (.int (own_last p0 p1)), .val (.int (own_cap p3)), .val (.ref b2), .val (.long (own_u p2)), .second, .val (.int (p3 &&& (7 : Int32))), .val (.int (own_st2 p0 p2)), .unset, .val (.long (own_sz2 p0)), .second] [])) _
            refine XS.iconst X5.here hx rfl (hb hby at_133) ?_
            show Steps p.tables e below (T5.setTop (mkF m 134 #[.val (.int p0), .val (.int p1), .val (.int p2), .val (.int p3), .val (.int (own_first p0)), .val (.long (own_room p0)), .second, .val (.int (own_last p0 p1)), .val (.int (own_cap p3)), .val (.ref b2), .val (.long (own_u p2)), .second, .val (.int (p3 &&& (7 : Int32))), .val (.int (own_st2 p0 p2)), .unset, .val (.long (own_sz2 p0)), .second] [(.int (0 : Int32))])) _
            refine XS.istore X5.here hx rfl (hb hby at_134) rfl (l' := #[.val (.int p0), .val (.int p1), .val (.int p2), .val (.int p3), .val (.int (own_first p0)), .val (.long (own_room p0)), .second, .val (.int (own_last p0 p1)), .val (.int (own_cap p3)), .val (.ref b2), .val (.long (own_u p2)), .second, .val (.int (p3 &&& (7 : Int32))), .val (.int (own_st2 p0 p2)), .val (.int (0 : Int32)), .val (.long (own_sz2 p0)), .second]) rfl ?_
            show Steps p.tables e below (T5.setTop (mkF m 136 #[.val (.int p0), .val (.int p1), .val (.int p2), .val (.int p3), .val (.int (own_first p0)), .val (.long (own_room p0)), .second, .val (.int (own_last p0 p1)), .val (.int (own_cap p3)), .val (.ref b2), .val (.long (own_u p2)), .second, .val (.int (p3 &&& (7 : Int32))), .val (.int (own_st2 p0 p2)), .val (.int (0 : Int32)), .val (.long (own_sz2 p0)), .second] [])) _
            refine XS.goto X5.here hx rfl (pc0 := 136) (pc' := 277) rfl (hb hby at_136) (by decide) (by decide) ?_
            show Steps p.tables e below (T5.setTop (mkF m 277 #[.val (.int p0), .val (.int p1), .val (.int p2), .val (.int p3), .val (.int (own_first p0)), .val (.long (own_room p0)), .second, .val (.int (own_last p0 p1)), .val (.int (own_cap p3)), .val (.ref b2), .val (.long (own_u p2)), .second, .val (.int (p3 &&& (7 : Int32))), .val (.int (own_st2 p0 p2)), .val (.int (0 : Int32)), .val (.long (own_sz2 p0)), .second] [])) _
            refine XS.aload X5.here hx rfl (hb hby at_277) rfl rfl ?_
            show Steps p.tables e below (T5.setTop (mkF m 279 #[.val (.int p0), .val (.int p1), .val (.int p2), .val (.int p3), .val (.int (own_first p0)), .val (.long (own_room p0)), .second, .val (.int (own_last p0 p1)), .val (.int (own_cap p3)), .val (.ref b2), .val (.long (own_u p2)), .second, .val (.int (p3 &&& (7 : Int32))), .val (.int (own_st2 p0 p2)), .val (.int (0 : Int32)), .val (.long (own_sz2 p0)), .second] [(.ref b2)])) _
            refine XS.iload X5.here hx rfl (hb hby at_279) rfl ?_
            exact k)
        obtain ⟨cq19, kcq19, q19a, q19b, q19c⟩ := isOf hZ rfl Ex5
        obtain ⟨_, _, ⟨T19, L19, kq19, n19⟩, -, X19, ⟨Lc19, hQ19, l19, y19, z19⟩, st19⟩ := X5.virtualBack hx (y := (⟨"com/example/backpressure/backpressure/model/CapacityChange", "holdsIn", "(I)Z"⟩ : MethodName)) (z := (⟨"com/example/backpressure/backpressure/model/CapacityChange", "holdsIn", "(I)Z"⟩ : MethodName)) hown (mvT hZ (hw _ (List.mem_of_getElem? (i := 18) rfl))) (mvT hZ (hw _ (List.mem_of_getElem? (i := 19) rfl))) (notFace_of_selects (args := #[]) (mvT hZ (hw _ (List.mem_of_getElem? (i := 21) rfl)))) (mvT hZ (hw _ (List.mem_of_getElem? (i := 21) rfl))) (mvT hZ (hw _ (List.mem_of_getElem? (i := 20) rfl))) (by decide) (backOf (W := 0) (rm3 l Z a0 hw [] b2 (own_st2 p0 p2) (own_first p0) (own_last p0 p1) T5.heap n0 Zs5 Fx5_0 Fx5_1) hZ (hw _ (List.mem_of_getElem? (i := 22) rfl)) (hw _ (List.mem_of_getElem? (i := 4) rfl)) (by decide) (by decide)) q19a q19c (g := (mkF m 281 #[.val (.int p0), .val (.int p1), .val (.int p2), .val (.int p3), .val (.int (own_first p0)), .val (.long (own_room p0)), .second, .val (.int (own_last p0 p1)), .val (.int (own_cap p3)), .val (.ref b2), .val (.long (own_u p2)), .second, .val (.int (p3 &&& (7 : Int32))), .val (.int (own_st2 p0 p2)), .val (.int (0 : Int32)), .val (.long (own_sz2 p0)), .second] [(.int (own_st2 p0 p2)), (.ref b2)])) rfl (by rw [hml]; rfl) (Steps.refl _) (argsL := [(.int (own_st2 p0 p2))]) (rest := []) (lenOf pd_1 rfl) rfl (by show 2 * 0 + _ ≤ _; exact Nat.le_of_eq rfl) (hb hby at_281) (fun _ _ => ⟨rfl, rfl, (by decide : 1 + 0 ≤ _), (by decide : 3 + 0 ≤ _)⟩)
        dsimp only [Pt.U, Pt.locs, Pt.cells, Pt.slots] at X19 l19 y19 z19 st19 hQ19
        subst l19 y19 z19
        obtain ⟨rfl, N19q, e19⟩ := hQ19
        have N19 := Fr.app N5 N19q
        have k20 : ∀ t, Steps p.tables e below (T19.setTop (mkF m 284 #[.val (.int p0), .val (.int p1), .val (.int p2), .val (.int p3), .val (.int (own_first p0)), .val (.long (own_room p0)), .second, .val (.int (own_last p0 p1)), .val (.int (own_cap p3)), .val (.ref b2), .val (.long (own_u p2)), .second, .val (.int (p3 &&& (7 : Int32))), .val (.int (own_st2 p0 p2)), .val (.int (0 : Int32)), .val (.long (own_sz2 p0)), .second] [(.int (own_bI ((own_first p0).toInt ≤ (own_st2 p0 p2).toInt ∧ (own_st2 p0 p2).toInt ≤ (own_last p0 p1).toInt)))])) t → Steps p.tables e below (s₁.setTop (entryFrame m #[(.int p0), (.int p1), (.int p2), (.int p3)] maxLocals)) t := fun t k => k18 t (st19.trans k)
        have hc286 : (own_bI ((own_first p0).toInt ≤ (own_st2 p0 p2).toInt ∧ (own_st2 p0 p2).toInt ≤ (own_last p0 p1).toInt)) = (0 : Int32) := own_bI_f (by have r0 := own_first_r p0; have r1 := own_last_r p0 p1; have r2 := (own_last p0 p1).toInt_lt; have r3 := own_st2_r p0 p2; omega)
        have k21 : ∀ t, Steps p.tables e below (T19.setTop (mkF m 294 #[.val (.int p0), .val (.int p1), .val (.int p2), .val (.int p3), .val (.int (own_first p0)), .val (.long (own_room p0)), .second, .val (.int (own_last p0 p1)), .val (.int (own_cap p3)), .val (.ref b2), .val (.long (own_u p2)), .second, .val (.int (p3 &&& (7 : Int32))), .val (.int (own_st2 p0 p2)), .val (.int (0 : Int32)), .val (.long (own_sz2 p0)), .second] [(.int (1 : Int32))])) t → Steps p.tables e below (s₁.setTop (entryFrame m #[(.int p0), (.int p1), (.int p2), (.int p3)] maxLocals)) t := fun t k => k20 t (by
            show Steps p.tables e below (T19.setTop (mkF m 284 #[.val (.int p0), .val (.int p1), .val (.int p2), .val (.int p3), .val (.int (own_first p0)), .val (.long (own_room p0)), .second, .val (.int (own_last p0 p1)), .val (.int (own_cap p3)), .val (.ref b2), .val (.long (own_u p2)), .second, .val (.int (p3 &&& (7 : Int32))), .val (.int (own_st2 p0 p2)), .val (.int (0 : Int32)), .val (.long (own_sz2 p0)), .second] [(.int (own_bI ((own_first p0).toInt ≤ (own_st2 p0 p2).toInt ∧ (own_st2 p0 p2).toInt ≤ (own_last p0 p1).toInt)))])) _
            refine XS.iload X19.here hx rfl (hb hby at_284) rfl ?_
            show Steps p.tables e below (T19.setTop (mkF m 286 #[.val (.int p0), .val (.int p1), .val (.int p2), .val (.int p3), .val (.int (own_first p0)), .val (.long (own_room p0)), .second, .val (.int (own_last p0 p1)), .val (.int (own_cap p3)), .val (.ref b2), .val (.long (own_u p2)), .second, .val (.int (p3 &&& (7 : Int32))), .val (.int (own_st2 p0 p2)), .val (.int (0 : Int32)), .val (.long (own_sz2 p0)), .second] [(.int (0 : Int32)), (.int (own_bI ((own_first p0).toInt ≤ (own_st2 p0 p2).toInt ∧ (own_st2 p0 p2).toInt ≤ (own_last p0 p1).toInt)))])) _
            refine XS.icmpNo X19.here hx rfl (hb hby at_286) rfl (teq hc286).2 ?_
            show Steps p.tables e below (T19.setTop (mkF m 289 #[.val (.int p0), .val (.int p1), .val (.int p2), .val (.int p3), .val (.int (own_first p0)), .val (.long (own_room p0)), .second, .val (.int (own_last p0 p1)), .val (.int (own_cap p3)), .val (.ref b2), .val (.long (own_u p2)), .second, .val (.int (p3 &&& (7 : Int32))), .val (.int (own_st2 p0 p2)), .val (.int (0 : Int32)), .val (.long (own_sz2 p0)), .second] [])) _
            refine XS.iconst X19.here hx rfl (hb hby at_289) ?_
            show Steps p.tables e below (T19.setTop (mkF m 290 #[.val (.int p0), .val (.int p1), .val (.int p2), .val (.int p3), .val (.int (own_first p0)), .val (.long (own_room p0)), .second, .val (.int (own_last p0 p1)), .val (.int (own_cap p3)), .val (.ref b2), .val (.long (own_u p2)), .second, .val (.int (p3 &&& (7 : Int32))), .val (.int (own_st2 p0 p2)), .val (.int (0 : Int32)), .val (.long (own_sz2 p0)), .second] [(.int (1 : Int32))])) _
            refine XS.goto X19.here hx rfl (pc0 := 290) (pc' := 294) rfl (hb hby at_290) (by decide) (by decide) ?_
            exact k)
        obtain ⟨fs, hr, hrun, hended, hW, hsame⟩ := X19.leave (v := (some (.int (1 : Int32)))) (fun h => by rw [Bd.returns] at h; cases h)
        refine ⟨_, _, k21 _ ?_, hrun, hended, _, _, rfl, ?_, ⟨_, rfl⟩, hW, hsame.mono (by decide) (by decide)⟩
        · exact retN X19 hx (t := .boolean) Bd.returns (by simp) (hb hby at_294) hr
        · show Q0 Z p0 p1 p2 p3 h0 n0 _ T19.heap _
          rw [e19]
          exact ⟨rfl, N19⟩
      · have k22 : ∀ t, Steps p.tables e below (T5.setTop (mkF m 142 #[.val (.int p0), .val (.int p1), .val (.int p2), .val (.int p3), .val (.int (own_first p0)), .val (.long (own_room p0)), .second, .val (.int (own_last p0 p1)), .val (.int (own_cap p3)), .val (.ref b2), .val (.long (own_u p2)), .second, .val (.int (p3 &&& (7 : Int32))), .unset, .unset, .unset, .unset] [(.int (3 : Int32)), (.int (p3 &&& (7 : Int32)))])) t → Steps p.tables e below (s₁.setTop (entryFrame m #[(.int p0), (.int p1), (.int p2), (.int p3)] maxLocals)) t := fun t k => k17 t (by
            show Steps p.tables e below (T5.setTop (mkF m 109 #[.val (.int p0), .val (.int p1), .val (.int p2), .val (.int p3), .val (.int (own_first p0)), .val (.long (own_room p0)), .second, .val (.int (own_last p0 p1)), .val (.int (own_cap p3)), .val (.ref b2), .val (.long (own_u p2)), .second, .val (.int (p3 &&& (7 : Int32))), .unset, .unset, .unset, .unset] [(.int (2 : Int32)), (.int (p3 &&& (7 : Int32)))])) _
            refine XS.icmpYes X5.here hx rfl (pc0 := 109) (pc' := 139) rfl (hb hby at_109) rfl (feq hc109).2 (by decide) (by decide) ?_
            show Steps p.tables e below (T5.setTop (mkF m 139 #[.val (.int p0), .val (.int p1), .val (.int p2), .val (.int p3), .val (.int (own_first p0)), .val (.long (own_room p0)), .second, .val (.int (own_last p0 p1)), .val (.int (own_cap p3)), .val (.ref b2), .val (.long (own_u p2)), .second, .val (.int (p3 &&& (7 : Int32))), .unset, .unset, .unset, .unset] [])) _
            refine XS.iload X5.here hx rfl (hb hby at_139) rfl ?_
            show Steps p.tables e below (T5.setTop (mkF m 141 #[.val (.int p0), .val (.int p1), .val (.int p2), .val (.int p3), .val (.int (own_first p0)), .val (.long (own_room p0)), .second, .val (.int (own_last p0 p1)), .val (.int (own_cap p3)), .val (.ref b2), .val (.long (own_u p2)), .second, .val (.int (p3 &&& (7 : Int32))), .unset, .unset, .unset, .unset] [(.int (p3 &&& (7 : Int32)))])) _
            refine XS.iconst X5.here hx rfl (hb hby at_141) ?_
            exact k)
        by_cases hc142 : (p3 &&& (7 : Int32)) = (3 : Int32)
        · have k23 : ∀ t, Steps p.tables e below (T5.setTop (mkF m 149 #[.val (.int p0), .val (.int p1), .val (.int p2), .val (.int p3), .val (.int (own_first p0)), .val (.long (own_room p0)), .second, .val (.int (own_last p0 p1)), .val (.int (own_cap p3)), .val (.ref b2), .val (.long (own_u p2)), .second, .val (.int (p3 &&& (7 : Int32))), .unset, .unset, .unset, .unset] [(.int (2147483647 : Int32)), (.int (own_last p0 p1))])) t → Steps p.tables e below (s₁.setTop (entryFrame m #[(.int p0), (.int p1), (.int p2), (.int p3)] maxLocals)) t := fun t k => k22 t (by
              show Steps p.tables e below (T5.setTop (mkF m 142 #[.val (.int p0), .val (.int p1), .val (.int p2), .val (.int p3), .val (.int (own_first p0)), .val (.long (own_room p0)), .second, .val (.int (own_last p0 p1)), .val (.int (own_cap p3)), .val (.ref b2), .val (.long (own_u p2)), .second, .val (.int (p3 &&& (7 : Int32))), .unset, .unset, .unset, .unset] [(.int (3 : Int32)), (.int (p3 &&& (7 : Int32)))])) _
              refine XS.icmpNo X5.here hx rfl (hb hby at_142) rfl (teq hc142).2 ?_
              show Steps p.tables e below (T5.setTop (mkF m 145 #[.val (.int p0), .val (.int p1), .val (.int p2), .val (.int p3), .val (.int (own_first p0)), .val (.long (own_room p0)), .second, .val (.int (own_last p0 p1)), .val (.int (own_cap p3)), .val (.ref b2), .val (.long (own_u p2)), .second, .val (.int (p3 &&& (7 : Int32))), .unset, .unset, .unset, .unset] [])) _
              refine XS.iload X5.here hx rfl (hb hby at_145) rfl ?_
              show Steps p.tables e below (T5.setTop (mkF m 147 #[.val (.int p0), .val (.int p1), .val (.int p2), .val (.int p3), .val (.int (own_first p0)), .val (.long (own_room p0)), .second, .val (.int (own_last p0 p1)), .val (.int (own_cap p3)), .val (.ref b2), .val (.long (own_u p2)), .second, .val (.int (p3 &&& (7 : Int32))), .unset, .unset, .unset, .unset] [(.int (own_last p0 p1))])) _
              refine X5.ldcInt hx hown (mvT hZ (hw _ (List.mem_of_getElem? (i := 0) rfl))) (g := (mkF m 147 #[.val (.int p0), .val (.int p1), .val (.int p2), .val (.int p3), .val (.int (own_first p0)), .val (.long (own_room p0)), .second, .val (.int (own_last p0 p1)), .val (.int (own_cap p3)), .val (.ref b2), .val (.long (own_u p2)), .second, .val (.int (p3 &&& (7 : Int32))), .unset, .unset, .unset, .unset] [(.int (own_last p0 p1))])) rfl (hb hby at_147) _ ?_
              exact k)
          by_cases hc149 : (own_last p0 p1) = (2147483647 : Int32)
          · have k24 : ∀ t, Steps p.tables e below (T5.setTop (mkF m 281 #[.val (.int p0), .val (.int p1), .val (.int p2), .val (.int p3), .val (.int (own_first p0)), .val (.long (own_room p0)), .second, .val (.int (own_last p0 p1)), .val (.int (own_cap p3)), .val (.ref b2), .val (.long (own_u p2)), .second, .val (.int (p3 &&& (7 : Int32))), .val (.int (own_last p0 p1)), .val (.int (1 : Int32)), .unset, .unset] [(.int (own_last p0 p1)), (.ref b2)])) t → Steps p.tables e below (s₁.setTop (entryFrame m #[(.int p0), (.int p1), (.int p2), (.int p3)] maxLocals)) t := fun t k => k23 t (by
                show Steps p.tables e below (T5.setTop (mkF m 149 #[.val (.int p0), .val (.int p1), .val (.int p2), .val (.int p3), .val (.int (own_first p0)), .val (.long (own_room p0)), .second, .val (.int (own_last p0 p1)), .val (.int (own_cap p3)), .val (.ref b2), .val (.long (own_u p2)), .second, .val (.int (p3 &&& (7 : Int32))), .unset, .unset, .unset, .unset] [(.int (2147483647 : Int32)), (.int (own_last p0 p1))])) _
                refine XS.icmpNo X5.here hx rfl (hb hby at_149) rfl (teq hc149).2 ?_
                show Steps p.tables e below (T5.setTop (mkF m 152 #[.val (.int p0), .val (.int p1), .val (.int p2), .val (.int p3), .val (.int (own_first p0)), .val (.long (own_room p0)), .second, .val (.int (own_last p0 p1)), .val (.int (own_cap p3)), .val (.ref b2), .val (.long (own_u p2)), .second, .val (.int (p3 &&& (7 : Int32))), .unset, .unset, .unset, .unset] [])) _
                refine XS.iload X5.here hx rfl (hb hby at_152) rfl ?_
                show Steps p.tables e below (T5.setTop (mkF m 154 #[.val (.int p0), .val (.int p1), .val (.int p2), .val (.int p3), .val (.int (own_first p0)), .val (.long (own_room p0)), .second, .val (.int (own_last p0 p1)), .val (.int (own_cap p3)), .val (.ref b2), .val (.long (own_u p2)), .second, .val (.int (p3 &&& (7 : Int32))), .unset, .unset, .unset, .unset] [(.int (own_last p0 p1))])) _
                refine XS.istore X5.here hx rfl (hb hby at_154) rfl (l' := #[.val (.int p0), .val (.int p1), .val (.int p2), .val (.int p3), .val (.int (own_first p0)), .val (.long (own_room p0)), .second, .val (.int (own_last p0 p1)), .val (.int (own_cap p3)), .val (.ref b2), .val (.long (own_u p2)), .second, .val (.int (p3 &&& (7 : Int32))), .val (.int (own_last p0 p1)), .unset, .unset, .unset]) rfl ?_
                show Steps p.tables e below (T5.setTop (mkF m 156 #[.val (.int p0), .val (.int p1), .val (.int p2), .val (.int p3), .val (.int (own_first p0)), .val (.long (own_room p0)), .second, .val (.int (own_last p0 p1)), .val (.int (own_cap p3)), .val (.ref b2), .val (.long (own_u p2)), .second, .val (.int (p3 &&& (7 : Int32))), .val (.int (own_last p0 p1)), .unset, .unset, .unset] [])) _
                refine XS.iconst X5.here hx rfl (hb hby at_156) ?_
                show Steps p.tables e below (T5.setTop (mkF m 157 #[.val (.int p0), .val (.int p1), .val (.int p2), .val (.int p3), .val (.int (own_first p0)), .val (.long (own_room p0)), .second, .val (.int (own_last p0 p1)), .val (.int (own_cap p3)), .val (.ref b2), .val (.long (own_u p2)), .second, .val (.int (p3 &&& (7 : Int32))), .val (.int (own_last p0 p1)), .unset, .unset, .unset] [(.int (1 : Int32))])) _
                refine XS.istore X5.here hx rfl (hb hby at_157) rfl (l' := #[.val (.int p0), .val (.int p1), .val (.int p2), .val (.int p3), .val (.int (own_first p0)), .val (.long (own_room p0)), .second, .val (.int (own_last p0 p1)), .val (.int (own_cap p3)), .val (.ref b2), .val (.long (own_u p2)), .second, .val (.int (p3 &&& (7 : Int32))), .val (.int (own_last p0 p1)), .val (.int (1 : Int32)), .unset, .unset]) rfl ?_
                show Steps p.tables e below (T5.setTop (mkF m 159 #[.val (.int p0), .val (.int p1), .val (.int p2), .val (.int p3), .val (.int (own_first p0)), .val (.long (own_room p0)), .second, .val (.int (own_last p0 p1)), .val (.int (own_cap p3)), .val (.ref b2), .val (.long (own_u p2)), .second, .val (.int (p3 &&& (7 : Int32))), .val (.int (own_last p0 p1)), .val (.int (1 : Int32)), .unset, .unset] [])) _
                refine XS.goto X5.here hx rfl (pc0 := 159) (pc' := 277) rfl (hb hby at_159) (by decide) (by decide) ?_
                show Steps p.tables e below (T5.setTop (mkF m 277 #[.val (.int p0), .val (.int p1), .val (.int p2), .val (.int p3), .val (.int (own_first p0)), .val (.long (own_room p0)), .second, .val (.int (own_last p0 p1)), .val (.int (own_cap p3)), .val (.ref b2), .val (.long (own_u p2)), .second, .val (.int (p3 &&& (7 : Int32))), .val (.int (own_last p0 p1)), .val (.int (1 : Int32)), .unset, .unset] [])) _
                refine XS.aload X5.here hx rfl (hb hby at_277) rfl rfl ?_
                show Steps p.tables e below (T5.setTop (mkF m 279 #[.val (.int p0), .val (.int p1), .val (.int p2), .val (.int p3), .val (.int (own_first p0)), .val (.long (own_room p0)), .second, .val (.int (own_last p0 p1)), .val (.int (own_cap p3)), .val (.ref b2), .val (.long (own_u p2)), .second, .val (.int (p3 &&& (7 : Int32))), .val (.int (own_last p0 p1)), .val (.int (1 : Int32)), .unset, .unset] [(.ref b2)])) _
                refine XS.iload X5.here hx rfl (hb hby at_279) rfl ?_
                exact k)
            obtain ⟨cq25, kcq25, q25a, q25b, q25c⟩ := isOf hZ rfl Ex5
            obtain ⟨_, _, ⟨T25, L25, kq25, n25⟩, -, X25, ⟨Lc25, hQ25, l25, y25, z25⟩, st25⟩ := X5.virtualBack hx (y := (⟨"com/example/backpressure/backpressure/model/CapacityChange", "holdsIn", "(I)Z"⟩ : MethodName)) (z := (⟨"com/example/backpressure/backpressure/model/CapacityChange", "holdsIn", "(I)Z"⟩ : MethodName)) hown (mvT hZ (hw _ (List.mem_of_getElem? (i := 18) rfl))) (mvT hZ (hw _ (List.mem_of_getElem? (i := 19) rfl))) (notFace_of_selects (args := #[]) (mvT hZ (hw _ (List.mem_of_getElem? (i := 21) rfl)))) (mvT hZ (hw _ (List.mem_of_getElem? (i := 21) rfl))) (mvT hZ (hw _ (List.mem_of_getElem? (i := 20) rfl))) (by decide) (backOf (W := 0) (rm3 l Z a0 hw [] b2 (own_last p0 p1) (own_first p0) (own_last p0 p1) T5.heap n0 Zs5 Fx5_0 Fx5_1) hZ (hw _ (List.mem_of_getElem? (i := 22) rfl)) (hw _ (List.mem_of_getElem? (i := 4) rfl)) (by decide) (by decide)) q25a q25c (g := (mkF m 281 #[.val (.int p0), .val (.int p1), .val (.int p2), .val (.int p3), .val (.int (own_first p0)), .val (.long (own_room p0)), .second, .val (.int (own_last p0 p1)), .val (.int (own_cap p3)), .val (.ref b2), .val (.long (own_u p2)), .second, .val (.int (p3 &&& (7 : Int32))), .val (.int (own_last p0 p1)), .val (.int (1 : Int32)), .unset, .unset] [(.int (own_last p0 p1)), (.ref b2)])) rfl (by rw [hml]; rfl) (Steps.refl _) (argsL := [(.int (own_last p0 p1))]) (rest := []) (lenOf pd_1 rfl) rfl (by show 2 * 0 + _ ≤ _; exact Nat.le_of_eq rfl) (hb hby at_281) (fun _ _ => ⟨rfl, rfl, (by decide : 1 + 0 ≤ _), (by decide : 3 + 0 ≤ _)⟩)
            dsimp only [Pt.U, Pt.locs, Pt.cells, Pt.slots] at X25 l25 y25 z25 st25 hQ25
            subst l25 y25 z25
            obtain ⟨rfl, N25q, e25⟩ := hQ25
            have N25 := Fr.app N5 N25q
            have k26 : ∀ t, Steps p.tables e below (T25.setTop (mkF m 284 #[.val (.int p0), .val (.int p1), .val (.int p2), .val (.int p3), .val (.int (own_first p0)), .val (.long (own_room p0)), .second, .val (.int (own_last p0 p1)), .val (.int (own_cap p3)), .val (.ref b2), .val (.long (own_u p2)), .second, .val (.int (p3 &&& (7 : Int32))), .val (.int (own_last p0 p1)), .val (.int (1 : Int32)), .unset, .unset] [(.int (own_bI ((own_first p0).toInt ≤ (own_last p0 p1).toInt ∧ (own_last p0 p1).toInt ≤ (own_last p0 p1).toInt)))])) t → Steps p.tables e below (s₁.setTop (entryFrame m #[(.int p0), (.int p1), (.int p2), (.int p3)] maxLocals)) t := fun t k => k24 t (st25.trans k)
            have hc286 : (own_bI ((own_first p0).toInt ≤ (own_last p0 p1).toInt ∧ (own_last p0 p1).toInt ≤ (own_last p0 p1).toInt)) = (1 : Int32) := own_bI_t (by have r0 := own_first_r p0; have r1 := own_last_r p0 p1; have r2 := (own_last p0 p1).toInt_lt; simp only [Int32.lt_iff_toInt_lt, ← Int32.toInt_inj, Int32.reduceToInt] at hc149; omega)
            have k27 : ∀ t, Steps p.tables e below (T25.setTop (mkF m 294 #[.val (.int p0), .val (.int p1), .val (.int p2), .val (.int p3), .val (.int (own_first p0)), .val (.long (own_room p0)), .second, .val (.int (own_last p0 p1)), .val (.int (own_cap p3)), .val (.ref b2), .val (.long (own_u p2)), .second, .val (.int (p3 &&& (7 : Int32))), .val (.int (own_last p0 p1)), .val (.int (1 : Int32)), .unset, .unset] [(.int (1 : Int32))])) t → Steps p.tables e below (s₁.setTop (entryFrame m #[(.int p0), (.int p1), (.int p2), (.int p3)] maxLocals)) t := fun t k => k26 t (by
                show Steps p.tables e below (T25.setTop (mkF m 284 #[.val (.int p0), .val (.int p1), .val (.int p2), .val (.int p3), .val (.int (own_first p0)), .val (.long (own_room p0)), .second, .val (.int (own_last p0 p1)), .val (.int (own_cap p3)), .val (.ref b2), .val (.long (own_u p2)), .second, .val (.int (p3 &&& (7 : Int32))), .val (.int (own_last p0 p1)), .val (.int (1 : Int32)), .unset, .unset] [(.int (own_bI ((own_first p0).toInt ≤ (own_last p0 p1).toInt ∧ (own_last p0 p1).toInt ≤ (own_last p0 p1).toInt)))])) _
                refine XS.iload X25.here hx rfl (hb hby at_284) rfl ?_
                show Steps p.tables e below (T25.setTop (mkF m 286 #[.val (.int p0), .val (.int p1), .val (.int p2), .val (.int p3), .val (.int (own_first p0)), .val (.long (own_room p0)), .second, .val (.int (own_last p0 p1)), .val (.int (own_cap p3)), .val (.ref b2), .val (.long (own_u p2)), .second, .val (.int (p3 &&& (7 : Int32))), .val (.int (own_last p0 p1)), .val (.int (1 : Int32)), .unset, .unset] [(.int (1 : Int32)), (.int (own_bI ((own_first p0).toInt ≤ (own_last p0 p1).toInt ∧ (own_last p0 p1).toInt ≤ (own_last p0 p1).toInt)))])) _
                refine XS.icmpNo X25.here hx rfl (hb hby at_286) rfl (teq hc286).2 ?_
                show Steps p.tables e below (T25.setTop (mkF m 289 #[.val (.int p0), .val (.int p1), .val (.int p2), .val (.int p3), .val (.int (own_first p0)), .val (.long (own_room p0)), .second, .val (.int (own_last p0 p1)), .val (.int (own_cap p3)), .val (.ref b2), .val (.long (own_u p2)), .second, .val (.int (p3 &&& (7 : Int32))), .val (.int (own_last p0 p1)), .val (.int (1 : Int32)), .unset, .unset] [])) _
                refine XS.iconst X25.here hx rfl (hb hby at_289) ?_
                show Steps p.tables e below (T25.setTop (mkF m 290 #[.val (.int p0), .val (.int p1), .val (.int p2), .val (.int p3), .val (.int (own_first p0)), .val (.long (own_room p0)), .second, .val (.int (own_last p0 p1)), .val (.int (own_cap p3)), .val (.ref b2), .val (.long (own_u p2)), .second, .val (.int (p3 &&& (7 : Int32))), .val (.int (own_last p0 p1)), .val (.int (1 : Int32)), .unset, .unset] [(.int (1 : Int32))])) _
                refine XS.goto X25.here hx rfl (pc0 := 290) (pc' := 294) rfl (hb hby at_290) (by decide) (by decide) ?_
                exact k)
            obtain ⟨fs, hr, hrun, hended, hW, hsame⟩ := X25.leave (v := (some (.int (1 : Int32)))) (fun h => by rw [Bd.returns] at h; cases h)
            refine ⟨_, _, k27 _ ?_, hrun, hended, _, _, rfl, ?_, ⟨_, rfl⟩, hW, hsame.mono (by decide) (by decide)⟩
            · exact retN X25 hx (t := .boolean) Bd.returns (by simp) (hb hby at_294) hr
            · show Q0 Z p0 p1 p2 p3 h0 n0 _ T25.heap _
              rw [e25]
              exact ⟨rfl, N25⟩
          · have k28 : ∀ t, Steps p.tables e below (T5.setTop (mkF m 281 #[.val (.int p0), .val (.int p1), .val (.int p2), .val (.int p3), .val (.int (own_first p0)), .val (.long (own_room p0)), .second, .val (.int (own_last p0 p1)), .val (.int (own_cap p3)), .val (.ref b2), .val (.long (own_u p2)), .second, .val (.int (p3 &&& (7 : Int32))), .val (.int (own_st3 p0 p1 p2)), .val (.int (0 : Int32)), .val (.long (own_sz3 p0 p1)), .second] [(.int (own_st3 p0 p1 p2)), (.ref b2)])) t → Steps p.tables e below (s₁.setTop (entryFrame m #[(.int p0), (.int p1), (.int p2), (.int p3)] maxLocals)) t := fun t k => k23 t (by
                show Steps p.tables e below (T5.setTop (mkF m 149 #[.val (.int p0), .val (.int p1), .val (.int p2), .val (.int p3), .val (.int (own_first p0)), .val (.long (own_room p0)), .second, .val (.int (own_last p0 p1)), .val (.int (own_cap p3)), .val (.ref b2), .val (.long (own_u p2)), .second, .val (.int (p3 &&& (7 : Int32))), .unset, .unset, .unset, .unset] [(.int (2147483647 : Int32)), (.int (own_last p0 p1))])) _
                refine XS.icmpYes X5.here hx rfl (pc0 := 149) (pc' := 162) rfl (hb hby at_149) rfl (feq hc149).2 (by decide) (by decide) ?_
                show Steps p.tables e below (T5.setTop (mkF m 162 #[.val (.int p0), .val (.int p1), .val (.int p2), .val (.int p3), .val (.int (own_first p0)), .val (.long (own_room p0)), .second, .val (.int (own_last p0 p1)), .val (.int (own_cap p3)), .val (.ref b2), .val (.long (own_u p2)), .second, .val (.int (p3 &&& (7 : Int32))), .unset, .unset, .unset, .unset] [])) _
                refine X5.ldc2Long hx hown (mvT hZ (hw _ (List.mem_of_getElem? (i := 1) rfl))) (g := (mkF m 162 #[.val (.int p0), .val (.int p1), .val (.int p2), .val (.int p3), .val (.int (own_first p0)), .val (.long (own_room p0)), .second, .val (.int (own_last p0 p1)), .val (.int (own_cap p3)), .val (.ref b2), .val (.long (own_u p2)), .second, .val (.int (p3 &&& (7 : Int32))), .unset, .unset, .unset, .unset] [])) rfl (hb hby at_162) _ ?_
                show Steps p.tables e below (T5.setTop (mkF m 165 #[.val (.int p0), .val (.int p1), .val (.int p2), .val (.int p3), .val (.int (own_first p0)), .val (.long (own_room p0)), .second, .val (.int (own_last p0 p1)), .val (.int (own_cap p3)), .val (.ref b2), .val (.long (own_u p2)), .second, .val (.int (p3 &&& (7 : Int32))), .unset, .unset, .unset, .unset] [(.long (2147483647 : Int64))])) _
                refine XS.iload X5.here hx rfl (hb hby at_165) rfl ?_
                show Steps p.tables e below (T5.setTop (mkF m 167 #[.val (.int p0), .val (.int p1), .val (.int p2), .val (.int p3), .val (.int (own_first p0)), .val (.long (own_room p0)), .second, .val (.int (own_last p0 p1)), .val (.int (own_cap p3)), .val (.ref b2), .val (.long (own_u p2)), .second, .val (.int (p3 &&& (7 : Int32))), .unset, .unset, .unset, .unset] [(.int (own_last p0 p1)), (.long (2147483647 : Int64))])) _
                refine XS.i2l X5.here hx rfl (hb hby at_167) rfl ?_
                show Steps p.tables e below (T5.setTop (mkF m 168 #[.val (.int p0), .val (.int p1), .val (.int p2), .val (.int p3), .val (.int (own_first p0)), .val (.long (own_room p0)), .second, .val (.int (own_last p0 p1)), .val (.int (own_cap p3)), .val (.ref b2), .val (.long (own_u p2)), .second, .val (.int (p3 &&& (7 : Int32))), .unset, .unset, .unset, .unset] [(.long ((own_last p0 p1).toInt64)), (.long (2147483647 : Int64))])) _
                refine XS.lsub X5.here hx rfl (hb hby at_168) rfl ?_
                show Steps p.tables e below (T5.setTop (mkF m 169 #[.val (.int p0), .val (.int p1), .val (.int p2), .val (.int p3), .val (.int (own_first p0)), .val (.long (own_room p0)), .second, .val (.int (own_last p0 p1)), .val (.int (own_cap p3)), .val (.ref b2), .val (.long (own_u p2)), .second, .val (.int (p3 &&& (7 : Int32))), .unset, .unset, .unset, .unset] [(.long (own_sz3 p0 p1))])) _
                refine XS.lstore X5.here hx rfl (hb hby at_169) rfl (l' := #[.val (.int p0), .val (.int p1), .val (.int p2), .val (.int p3), .val (.int (own_first p0)), .val (.long (own_room p0)), .second, .val (.int (own_last p0 p1)), .val (.int (own_cap p3)), .val (.ref b2), .val (.long (own_u p2)), .second, .val (.int (p3 &&& (7 : Int32))), .unset, .unset, .val (.long (own_sz3 p0 p1)), .second]) rfl ?_
                show Steps p.tables e below (T5.setTop (mkF m 171 #[.val (.int p0), .val (.int p1), .val (.int p2), .val (.int p3), .val (.int (own_first p0)), .val (.long (own_room p0)), .second, .val (.int (own_last p0 p1)), .val (.int (own_cap p3)), .val (.ref b2), .val (.long (own_u p2)), .second, .val (.int (p3 &&& (7 : Int32))), .unset, .unset, .val (.long (own_sz3 p0 p1)), .second] [])) _
                refine XS.iload X5.here hx rfl (hb hby at_171) rfl ?_
                show Steps p.tables e below (T5.setTop (mkF m 173 #[.val (.int p0), .val (.int p1), .val (.int p2), .val (.int p3), .val (.int (own_first p0)), .val (.long (own_room p0)), .second, .val (.int (own_last p0 p1)), .val (.int (own_cap p3)), .val (.ref b2), .val (.long (own_u p2)), .second, .val (.int (p3 &&& (7 : Int32))), .unset, .unset, .val (.long (own_sz3 p0 p1)), .second] [(.int (own_last p0 p1))])) _
                refine XS.i2l X5.here hx rfl (hb hby at_173) rfl ?_
                show Steps p.tables e below (T5.setTop (mkF m 174 #[.val (.int p0), .val (.int p1), .val (.int p2), .val (.int p3), .val (.int (own_first p0)), .val (.long (own_room p0)), .second, .val (.int (own_last p0 p1)), .val (.int (own_cap p3)), .val (.ref b2), .val (.long (own_u p2)), .second, .val (.int (p3 &&& (7 : Int32))), .unset, .unset, .val (.long (own_sz3 p0 p1)), .second] [(.long ((own_last p0 p1).toInt64))])) _
                refine XS.lconst X5.here hx rfl (hb hby at_174) ?_
                show Steps p.tables e below (T5.setTop (mkF m 175 #[.val (.int p0), .val (.int p1), .val (.int p2), .val (.int p3), .val (.int (own_first p0)), .val (.long (own_room p0)), .second, .val (.int (own_last p0 p1)), .val (.int (own_cap p3)), .val (.ref b2), .val (.long (own_u p2)), .second, .val (.int (p3 &&& (7 : Int32))), .unset, .unset, .val (.long (own_sz3 p0 p1)), .second] [(.long (1 : Int64)), (.long ((own_last p0 p1).toInt64))])) _
                refine XS.ladd X5.here hx rfl (hb hby at_175) rfl ?_
                show Steps p.tables e below (T5.setTop (mkF m 176 #[.val (.int p0), .val (.int p1), .val (.int p2), .val (.int p3), .val (.int (own_first p0)), .val (.long (own_room p0)), .second, .val (.int (own_last p0 p1)), .val (.int (own_cap p3)), .val (.ref b2), .val (.long (own_u p2)), .second, .val (.int (p3 &&& (7 : Int32))), .unset, .unset, .val (.long (own_sz3 p0 p1)), .second] [(.long (((own_last p0 p1).toInt64) + (1 : Int64)))])) _
                refine XS.lload X5.here hx rfl (hb hby at_176) rfl ?_
                show Steps p.tables e below (T5.setTop (mkF m 178 #[.val (.int p0), .val (.int p1), .val (.int p2), .val (.int p3), .val (.int (own_first p0)), .val (.long (own_room p0)), .second, .val (.int (own_last p0 p1)), .val (.int (own_cap p3)), .val (.ref b2), .val (.long (own_u p2)), .second, .val (.int (p3 &&& (7 : Int32))), .unset, .unset, .val (.long (own_sz3 p0 p1)), .second] [(.long (own_u p2)), (.long (((own_last p0 p1).toInt64) + (1 : Int64)))])) _
                refine XS.lload X5.here hx rfl (hb hby at_178) rfl ?_
                show Steps p.tables e below (T5.setTop (mkF m 180 #[.val (.int p0), .val (.int p1), .val (.int p2), .val (.int p3), .val (.int (own_first p0)), .val (.long (own_room p0)), .second, .val (.int (own_last p0 p1)), .val (.int (own_cap p3)), .val (.ref b2), .val (.long (own_u p2)), .second, .val (.int (p3 &&& (7 : Int32))), .unset, .unset, .val (.long (own_sz3 p0 p1)), .second] [(.long (own_sz3 p0 p1)), (.long (own_u p2)), (.long (((own_last p0 p1).toInt64) + (1 : Int64)))])) _
                refine XS.lrem X5.here hx rfl (hb hby at_180) rfl (own_nz (by have := own_sz3_r p0 p1; simp only [← Int32.toInt_inj, Int32.reduceToInt] at hc149; omega)) ?_
                show Steps p.tables e below (T5.setTop (mkF m 181 #[.val (.int p0), .val (.int p1), .val (.int p2), .val (.int p3), .val (.int (own_first p0)), .val (.long (own_room p0)), .second, .val (.int (own_last p0 p1)), .val (.int (own_cap p3)), .val (.ref b2), .val (.long (own_u p2)), .second, .val (.int (p3 &&& (7 : Int32))), .unset, .unset, .val (.long (own_sz3 p0 p1)), .second] [(.long ((own_u p2) - ((own_u p2) / (own_sz3 p0 p1)) * (own_sz3 p0 p1))), (.long (((own_last p0 p1).toInt64) + (1 : Int64)))])) _
                refine XS.ladd X5.here hx rfl (hb hby at_181) rfl ?_
                show Steps p.tables e below (T5.setTop (mkF m 182 #[.val (.int p0), .val (.int p1), .val (.int p2), .val (.int p3), .val (.int (own_first p0)), .val (.long (own_room p0)), .second, .val (.int (own_last p0 p1)), .val (.int (own_cap p3)), .val (.ref b2), .val (.long (own_u p2)), .second, .val (.int (p3 &&& (7 : Int32))), .unset, .unset, .val (.long (own_sz3 p0 p1)), .second] [(.long ((((own_last p0 p1).toInt64) + (1 : Int64)) + ((own_u p2) - ((own_u p2) / (own_sz3 p0 p1)) * (own_sz3 p0 p1))))])) _
                refine XS.l2i X5.here hx rfl (hb hby at_182) rfl ?_
                show Steps p.tables e below (T5.setTop (mkF m 183 #[.val (.int p0), .val (.int p1), .val (.int p2), .val (.int p3), .val (.int (own_first p0)), .val (.long (own_room p0)), .second, .val (.int (own_last p0 p1)), .val (.int (own_cap p3)), .val (.ref b2), .val (.long (own_u p2)), .second, .val (.int (p3 &&& (7 : Int32))), .unset, .unset, .val (.long (own_sz3 p0 p1)), .second] [(.int (own_st3 p0 p1 p2))])) _
                refine XS.istore X5.here hx rfl (hb hby at_183) rfl (l' := #[.val (.int p0), .val (.int p1), .val (.int p2), .val (.int p3), .val (.int (own_first p0)), .val (.long (own_room p0)), .second, .val (.int (own_last p0 p1)), .val (.int (own_cap p3)), .val (.ref b2), .val (.long (own_u p2)), .second, .val (.int (p3 &&& (7 : Int32))), .val (.int (own_st3 p0 p1 p2)), .unset, .val (.long (own_sz3 p0 p1)), .second]) rfl ?_
                show Steps p.tables e below (T5.setTop (mkF m 185 #[.val (.int p0), .val (.int p1), .val (.int p2), .val (.int p3), .val (.int (own_first p0)), .val (.long (own_room p0)), .second, .val (.int (own_last p0 p1)), .val (.int (own_cap p3)), .val (.ref b2), .val (.long (own_u p2)), .second, .val (.int (p3 &&& (7 : Int32))), .val (.int (own_st3 p0 p1 p2)), .unset, .val (.long (own_sz3 p0 p1)), .second] [])) _
                refine XS.iconst X5.here hx rfl (hb hby at_185) ?_
                show Steps p.tables e below (T5.setTop (mkF m 186 #[.val (.int p0), .val (.int p1), .val (.int p2), .val (.int p3), .val (.int (own_first p0)), .val (.long (own_room p0)), .second, .val (.int (own_last p0 p1)), .val (.int (own_cap p3)), .val (.ref b2), .val (.long (own_u p2)), .second, .val (.int (p3 &&& (7 : Int32))), .val (.int (own_st3 p0 p1 p2)), .unset, .val (.long (own_sz3 p0 p1)), .second] [(.int (0 : Int32))])) _
                refine XS.istore X5.here hx rfl (hb hby at_186) rfl (l' := #[.val (.int p0), .val (.int p1), .val (.int p2), .val (.int p3), .val (.int (own_first p0)), .val (.long (own_room p0)), .second, .val (.int (own_last p0 p1)), .val (.int (own_cap p3)), .val (.ref b2), .val (.long (own_u p2)), .second, .val (.int (p3 &&& (7 : Int32))), .val (.int (own_st3 p0 p1 p2)), .val (.int (0 : Int32)), .val (.long (own_sz3 p0 p1)), .second]) rfl ?_
                show Steps p.tables e below (T5.setTop (mkF m 188 #[.val (.int p0), .val (.int p1), .val (.int p2), .val (.int p3), .val (.int (own_first p0)), .val (.long (own_room p0)), .second, .val (.int (own_last p0 p1)), .val (.int (own_cap p3)), .val (.ref b2), .val (.long (own_u p2)), .second, .val (.int (p3 &&& (7 : Int32))), .val (.int (own_st3 p0 p1 p2)), .val (.int (0 : Int32)), .val (.long (own_sz3 p0 p1)), .second] [])) _
                refine XS.goto X5.here hx rfl (pc0 := 188) (pc' := 277) rfl (hb hby at_188) (by decide) (by decide) ?_
                show Steps p.tables e below (T5.setTop (mkF m 277 #[.val (.int p0), .val (.int p1), .val (.int p2), .val (.int p3), .val (.int (own_first p0)), .val (.long (own_room p0)), .second, .val (.int (own_last p0 p1)), .val (.int (own_cap p3)), .val (.ref b2), .val (.long (own_u p2)), .second, .val (.int (p3 &&& (7 : Int32))), .val (.int (own_st3 p0 p1 p2)), .val (.int (0 : Int32)), .val (.long (own_sz3 p0 p1)), .second] [])) _
                refine XS.aload X5.here hx rfl (hb hby at_277) rfl rfl ?_
                show Steps p.tables e below (T5.setTop (mkF m 279 #[.val (.int p0), .val (.int p1), .val (.int p2), .val (.int p3), .val (.int (own_first p0)), .val (.long (own_room p0)), .second, .val (.int (own_last p0 p1)), .val (.int (own_cap p3)), .val (.ref b2), .val (.long (own_u p2)), .second, .val (.int (p3 &&& (7 : Int32))), .val (.int (own_st3 p0 p1 p2)), .val (.int (0 : Int32)), .val (.long (own_sz3 p0 p1)), .second] [(.ref b2)])) _
                refine XS.iload X5.here hx rfl (hb hby at_279) rfl ?_
                exact k)
            obtain ⟨cq29, kcq29, q29a, q29b, q29c⟩ := isOf hZ rfl Ex5
            obtain ⟨_, _, ⟨T29, L29, kq29, n29⟩, -, X29, ⟨Lc29, hQ29, l29, y29, z29⟩, st29⟩ := X5.virtualBack hx (y := (⟨"com/example/backpressure/backpressure/model/CapacityChange", "holdsIn", "(I)Z"⟩ : MethodName)) (z := (⟨"com/example/backpressure/backpressure/model/CapacityChange", "holdsIn", "(I)Z"⟩ : MethodName)) hown (mvT hZ (hw _ (List.mem_of_getElem? (i := 18) rfl))) (mvT hZ (hw _ (List.mem_of_getElem? (i := 19) rfl))) (notFace_of_selects (args := #[]) (mvT hZ (hw _ (List.mem_of_getElem? (i := 21) rfl)))) (mvT hZ (hw _ (List.mem_of_getElem? (i := 21) rfl))) (mvT hZ (hw _ (List.mem_of_getElem? (i := 20) rfl))) (by decide) (backOf (W := 0) (rm3 l Z a0 hw [] b2 (own_st3 p0 p1 p2) (own_first p0) (own_last p0 p1) T5.heap n0 Zs5 Fx5_0 Fx5_1) hZ (hw _ (List.mem_of_getElem? (i := 22) rfl)) (hw _ (List.mem_of_getElem? (i := 4) rfl)) (by decide) (by decide)) q29a q29c (g := (mkF m 281 #[.val (.int p0), .val (.int p1), .val (.int p2), .val (.int p3), .val (.int (own_first p0)), .val (.long (own_room p0)), .second, .val (.int (own_last p0 p1)), .val (.int (own_cap p3)), .val (.ref b2), .val (.long (own_u p2)), .second, .val (.int (p3 &&& (7 : Int32))), .val (.int (own_st3 p0 p1 p2)), .val (.int (0 : Int32)), .val (.long (own_sz3 p0 p1)), .second] [(.int (own_st3 p0 p1 p2)), (.ref b2)])) rfl (by rw [hml]; rfl) (Steps.refl _) (argsL := [(.int (own_st3 p0 p1 p2))]) (rest := []) (lenOf pd_1 rfl) rfl (by show 2 * 0 + _ ≤ _; exact Nat.le_of_eq rfl) (hb hby at_281) (fun _ _ => ⟨rfl, rfl, (by decide : 1 + 0 ≤ _), (by decide : 3 + 0 ≤ _)⟩)
            dsimp only [Pt.U, Pt.locs, Pt.cells, Pt.slots] at X29 l29 y29 z29 st29 hQ29
            subst l29 y29 z29
            obtain ⟨rfl, N29q, e29⟩ := hQ29
            have N29 := Fr.app N5 N29q
            have k30 : ∀ t, Steps p.tables e below (T29.setTop (mkF m 284 #[.val (.int p0), .val (.int p1), .val (.int p2), .val (.int p3), .val (.int (own_first p0)), .val (.long (own_room p0)), .second, .val (.int (own_last p0 p1)), .val (.int (own_cap p3)), .val (.ref b2), .val (.long (own_u p2)), .second, .val (.int (p3 &&& (7 : Int32))), .val (.int (own_st3 p0 p1 p2)), .val (.int (0 : Int32)), .val (.long (own_sz3 p0 p1)), .second] [(.int (own_bI ((own_first p0).toInt ≤ (own_st3 p0 p1 p2).toInt ∧ (own_st3 p0 p1 p2).toInt ≤ (own_last p0 p1).toInt)))])) t → Steps p.tables e below (s₁.setTop (entryFrame m #[(.int p0), (.int p1), (.int p2), (.int p3)] maxLocals)) t := fun t k => k28 t (st29.trans k)
            have hc286 : (own_bI ((own_first p0).toInt ≤ (own_st3 p0 p1 p2).toInt ∧ (own_st3 p0 p1 p2).toInt ≤ (own_last p0 p1).toInt)) = (0 : Int32) := own_bI_f (by have r0 := own_first_r p0; have r1 := own_last_r p0 p1; have r2 := (own_last p0 p1).toInt_lt; simp only [Int32.lt_iff_toInt_lt, ← Int32.toInt_inj, Int32.reduceToInt] at hc149; have r3 := own_st3_r p0 p1 p2 hc149; omega)
            have k31 : ∀ t, Steps p.tables e below (T29.setTop (mkF m 294 #[.val (.int p0), .val (.int p1), .val (.int p2), .val (.int p3), .val (.int (own_first p0)), .val (.long (own_room p0)), .second, .val (.int (own_last p0 p1)), .val (.int (own_cap p3)), .val (.ref b2), .val (.long (own_u p2)), .second, .val (.int (p3 &&& (7 : Int32))), .val (.int (own_st3 p0 p1 p2)), .val (.int (0 : Int32)), .val (.long (own_sz3 p0 p1)), .second] [(.int (1 : Int32))])) t → Steps p.tables e below (s₁.setTop (entryFrame m #[(.int p0), (.int p1), (.int p2), (.int p3)] maxLocals)) t := fun t k => k30 t (by
                show Steps p.tables e below (T29.setTop (mkF m 284 #[.val (.int p0), .val (.int p1), .val (.int p2), .val (.int p3), .val (.int (own_first p0)), .val (.long (own_room p0)), .second, .val (.int (own_last p0 p1)), .val (.int (own_cap p3)), .val (.ref b2), .val (.long (own_u p2)), .second, .val (.int (p3 &&& (7 : Int32))), .val (.int (own_st3 p0 p1 p2)), .val (.int (0 : Int32)), .val (.long (own_sz3 p0 p1)), .second] [(.int (own_bI ((own_first p0).toInt ≤ (own_st3 p0 p1 p2).toInt ∧ (own_st3 p0 p1 p2).toInt ≤ (own_last p0 p1).toInt)))])) _
                refine XS.iload X29.here hx rfl (hb hby at_284) rfl ?_
                show Steps p.tables e below (T29.setTop (mkF m 286 #[.val (.int p0), .val (.int p1), .val (.int p2), .val (.int p3), .val (.int (own_first p0)), .val (.long (own_room p0)), .second, .val (.int (own_last p0 p1)), .val (.int (own_cap p3)), .val (.ref b2), .val (.long (own_u p2)), .second, .val (.int (p3 &&& (7 : Int32))), .val (.int (own_st3 p0 p1 p2)), .val (.int (0 : Int32)), .val (.long (own_sz3 p0 p1)), .second] [(.int (0 : Int32)), (.int (own_bI ((own_first p0).toInt ≤ (own_st3 p0 p1 p2).toInt ∧ (own_st3 p0 p1 p2).toInt ≤ (own_last p0 p1).toInt)))])) _
                refine XS.icmpNo X29.here hx rfl (hb hby at_286) rfl (teq hc286).2 ?_
                show Steps p.tables e below (T29.setTop (mkF m 289 #[.val (.int p0), .val (.int p1), .val (.int p2), .val (.int p3), .val (.int (own_first p0)), .val (.long (own_room p0)), .second, .val (.int (own_last p0 p1)), .val (.int (own_cap p3)), .val (.ref b2), .val (.long (own_u p2)), .second, .val (.int (p3 &&& (7 : Int32))), .val (.int (own_st3 p0 p1 p2)), .val (.int (0 : Int32)), .val (.long (own_sz3 p0 p1)), .second] [])) _
                refine XS.iconst X29.here hx rfl (hb hby at_289) ?_
                show Steps p.tables e below (T29.setTop (mkF m 290 #[.val (.int p0), .val (.int p1), .val (.int p2), .val (.int p3), .val (.int (own_first p0)), .val (.long (own_room p0)), .second, .val (.int (own_last p0 p1)), .val (.int (own_cap p3)), .val (.ref b2), .val (.long (own_u p2)), .second, .val (.int (p3 &&& (7 : Int32))), .val (.int (own_st3 p0 p1 p2)), .val (.int (0 : Int32)), .val (.long (own_sz3 p0 p1)), .second] [(.int (1 : Int32))])) _
                refine XS.goto X29.here hx rfl (pc0 := 290) (pc' := 294) rfl (hb hby at_290) (by decide) (by decide) ?_
                exact k)
            obtain ⟨fs, hr, hrun, hended, hW, hsame⟩ := X29.leave (v := (some (.int (1 : Int32)))) (fun h => by rw [Bd.returns] at h; cases h)
            refine ⟨_, _, k31 _ ?_, hrun, hended, _, _, rfl, ?_, ⟨_, rfl⟩, hW, hsame.mono (by decide) (by decide)⟩
            · exact retN X29 hx (t := .boolean) Bd.returns (by simp) (hb hby at_294) hr
            · show Q0 Z p0 p1 p2 p3 h0 n0 _ T29.heap _
              rw [e29]
              exact ⟨rfl, N29⟩
        · have k32 : ∀ t, Steps p.tables e below (T5.setTop (mkF m 194 #[.val (.int p0), .val (.int p1), .val (.int p2), .val (.int p3), .val (.int (own_first p0)), .val (.long (own_room p0)), .second, .val (.int (own_last p0 p1)), .val (.int (own_cap p3)), .val (.ref b2), .val (.long (own_u p2)), .second, .val (.int (p3 &&& (7 : Int32))), .unset, .unset, .unset, .unset] [(.int (4 : Int32)), (.int (p3 &&& (7 : Int32)))])) t → Steps p.tables e below (s₁.setTop (entryFrame m #[(.int p0), (.int p1), (.int p2), (.int p3)] maxLocals)) t := fun t k => k22 t (by
              show Steps p.tables e below (T5.setTop (mkF m 142 #[.val (.int p0), .val (.int p1), .val (.int p2), .val (.int p3), .val (.int (own_first p0)), .val (.long (own_room p0)), .second, .val (.int (own_last p0 p1)), .val (.int (own_cap p3)), .val (.ref b2), .val (.long (own_u p2)), .second, .val (.int (p3 &&& (7 : Int32))), .unset, .unset, .unset, .unset] [(.int (3 : Int32)), (.int (p3 &&& (7 : Int32)))])) _
              refine XS.icmpYes X5.here hx rfl (pc0 := 142) (pc' := 191) rfl (hb hby at_142) rfl (feq hc142).2 (by decide) (by decide) ?_
              show Steps p.tables e below (T5.setTop (mkF m 191 #[.val (.int p0), .val (.int p1), .val (.int p2), .val (.int p3), .val (.int (own_first p0)), .val (.long (own_room p0)), .second, .val (.int (own_last p0 p1)), .val (.int (own_cap p3)), .val (.ref b2), .val (.long (own_u p2)), .second, .val (.int (p3 &&& (7 : Int32))), .unset, .unset, .unset, .unset] [])) _
              refine XS.iload X5.here hx rfl (hb hby at_191) rfl ?_
              show Steps p.tables e below (T5.setTop (mkF m 193 #[.val (.int p0), .val (.int p1), .val (.int p2), .val (.int p3), .val (.int (own_first p0)), .val (.long (own_room p0)), .second, .val (.int (own_last p0 p1)), .val (.int (own_cap p3)), .val (.ref b2), .val (.long (own_u p2)), .second, .val (.int (p3 &&& (7 : Int32))), .unset, .unset, .unset, .unset] [(.int (p3 &&& (7 : Int32)))])) _
              refine XS.iconst X5.here hx rfl (hb hby at_193) ?_
              exact k)
          by_cases hc194 : (p3 &&& (7 : Int32)) = (4 : Int32)
          · have k33 : ∀ t, Steps p.tables e below (T5.setTop (mkF m 281 #[.val (.int p0), .val (.int p1), .val (.int p2), .val (.int p3), .val (.int (own_first p0)), .val (.long (own_room p0)), .second, .val (.int (own_last p0 p1)), .val (.int (own_cap p3)), .val (.ref b2), .val (.long (own_u p2)), .second, .val (.int (p3 &&& (7 : Int32))), .val (.int (own_first p0)), .val (.int (1 : Int32)), .unset, .unset] [(.int (own_first p0)), (.ref b2)])) t → Steps p.tables e below (s₁.setTop (entryFrame m #[(.int p0), (.int p1), (.int p2), (.int p3)] maxLocals)) t := fun t k => k32 t (by
                show Steps p.tables e below (T5.setTop (mkF m 194 #[.val (.int p0), .val (.int p1), .val (.int p2), .val (.int p3), .val (.int (own_first p0)), .val (.long (own_room p0)), .second, .val (.int (own_last p0 p1)), .val (.int (own_cap p3)), .val (.ref b2), .val (.long (own_u p2)), .second, .val (.int (p3 &&& (7 : Int32))), .unset, .unset, .unset, .unset] [(.int (4 : Int32)), (.int (p3 &&& (7 : Int32)))])) _
                refine XS.icmpNo X5.here hx rfl (hb hby at_194) rfl (teq hc194).2 ?_
                show Steps p.tables e below (T5.setTop (mkF m 197 #[.val (.int p0), .val (.int p1), .val (.int p2), .val (.int p3), .val (.int (own_first p0)), .val (.long (own_room p0)), .second, .val (.int (own_last p0 p1)), .val (.int (own_cap p3)), .val (.ref b2), .val (.long (own_u p2)), .second, .val (.int (p3 &&& (7 : Int32))), .unset, .unset, .unset, .unset] [])) _
                refine XS.iload X5.here hx rfl (hb hby at_197) rfl ?_
                show Steps p.tables e below (T5.setTop (mkF m 199 #[.val (.int p0), .val (.int p1), .val (.int p2), .val (.int p3), .val (.int (own_first p0)), .val (.long (own_room p0)), .second, .val (.int (own_last p0 p1)), .val (.int (own_cap p3)), .val (.ref b2), .val (.long (own_u p2)), .second, .val (.int (p3 &&& (7 : Int32))), .unset, .unset, .unset, .unset] [(.int (own_first p0))])) _
                refine XS.istore X5.here hx rfl (hb hby at_199) rfl (l' := #[.val (.int p0), .val (.int p1), .val (.int p2), .val (.int p3), .val (.int (own_first p0)), .val (.long (own_room p0)), .second, .val (.int (own_last p0 p1)), .val (.int (own_cap p3)), .val (.ref b2), .val (.long (own_u p2)), .second, .val (.int (p3 &&& (7 : Int32))), .val (.int (own_first p0)), .unset, .unset, .unset]) rfl ?_
                show Steps p.tables e below (T5.setTop (mkF m 201 #[.val (.int p0), .val (.int p1), .val (.int p2), .val (.int p3), .val (.int (own_first p0)), .val (.long (own_room p0)), .second, .val (.int (own_last p0 p1)), .val (.int (own_cap p3)), .val (.ref b2), .val (.long (own_u p2)), .second, .val (.int (p3 &&& (7 : Int32))), .val (.int (own_first p0)), .unset, .unset, .unset] [])) _
                refine XS.iconst X5.here hx rfl (hb hby at_201) ?_
                show Steps p.tables e below (T5.setTop (mkF m 202 #[.val (.int p0), .val (.int p1), .val (.int p2), .val (.int p3), .val (.int (own_first p0)), .val (.long (own_room p0)), .second, .val (.int (own_last p0 p1)), .val (.int (own_cap p3)), .val (.ref b2), .val (.long (own_u p2)), .second, .val (.int (p3 &&& (7 : Int32))), .val (.int (own_first p0)), .unset, .unset, .unset] [(.int (1 : Int32))])) _
                refine XS.istore X5.here hx rfl (hb hby at_202) rfl (l' := #[.val (.int p0), .val (.int p1), .val (.int p2), .val (.int p3), .val (.int (own_first p0)), .val (.long (own_room p0)), .second, .val (.int (own_last p0 p1)), .val (.int (own_cap p3)), .val (.ref b2), .val (.long (own_u p2)), .second, .val (.int (p3 &&& (7 : Int32))), .val (.int (own_first p0)), .val (.int (1 : Int32)), .unset, .unset]) rfl ?_
                show Steps p.tables e below (T5.setTop (mkF m 204 #[.val (.int p0), .val (.int p1), .val (.int p2), .val (.int p3), .val (.int (own_first p0)), .val (.long (own_room p0)), .second, .val (.int (own_last p0 p1)), .val (.int (own_cap p3)), .val (.ref b2), .val (.long (own_u p2)), .second, .val (.int (p3 &&& (7 : Int32))), .val (.int (own_first p0)), .val (.int (1 : Int32)), .unset, .unset] [])) _
                refine XS.goto X5.here hx rfl (pc0 := 204) (pc' := 277) rfl (hb hby at_204) (by decide) (by decide) ?_
                show Steps p.tables e below (T5.setTop (mkF m 277 #[.val (.int p0), .val (.int p1), .val (.int p2), .val (.int p3), .val (.int (own_first p0)), .val (.long (own_room p0)), .second, .val (.int (own_last p0 p1)), .val (.int (own_cap p3)), .val (.ref b2), .val (.long (own_u p2)), .second, .val (.int (p3 &&& (7 : Int32))), .val (.int (own_first p0)), .val (.int (1 : Int32)), .unset, .unset] [])) _
                refine XS.aload X5.here hx rfl (hb hby at_277) rfl rfl ?_
                show Steps p.tables e below (T5.setTop (mkF m 279 #[.val (.int p0), .val (.int p1), .val (.int p2), .val (.int p3), .val (.int (own_first p0)), .val (.long (own_room p0)), .second, .val (.int (own_last p0 p1)), .val (.int (own_cap p3)), .val (.ref b2), .val (.long (own_u p2)), .second, .val (.int (p3 &&& (7 : Int32))), .val (.int (own_first p0)), .val (.int (1 : Int32)), .unset, .unset] [(.ref b2)])) _
                refine XS.iload X5.here hx rfl (hb hby at_279) rfl ?_
                exact k)
            obtain ⟨cq34, kcq34, q34a, q34b, q34c⟩ := isOf hZ rfl Ex5
            obtain ⟨_, _, ⟨T34, L34, kq34, n34⟩, -, X34, ⟨Lc34, hQ34, l34, y34, z34⟩, st34⟩ := X5.virtualBack hx (y := (⟨"com/example/backpressure/backpressure/model/CapacityChange", "holdsIn", "(I)Z"⟩ : MethodName)) (z := (⟨"com/example/backpressure/backpressure/model/CapacityChange", "holdsIn", "(I)Z"⟩ : MethodName)) hown (mvT hZ (hw _ (List.mem_of_getElem? (i := 18) rfl))) (mvT hZ (hw _ (List.mem_of_getElem? (i := 19) rfl))) (notFace_of_selects (args := #[]) (mvT hZ (hw _ (List.mem_of_getElem? (i := 21) rfl)))) (mvT hZ (hw _ (List.mem_of_getElem? (i := 21) rfl))) (mvT hZ (hw _ (List.mem_of_getElem? (i := 20) rfl))) (by decide) (backOf (W := 0) (rm3 l Z a0 hw [] b2 (own_first p0) (own_first p0) (own_last p0 p1) T5.heap n0 Zs5 Fx5_0 Fx5_1) hZ (hw _ (List.mem_of_getElem? (i := 22) rfl)) (hw _ (List.mem_of_getElem? (i := 4) rfl)) (by decide) (by decide)) q34a q34c (g := (mkF m 281 #[.val (.int p0), .val (.int p1), .val (.int p2), .val (.int p3), .val (.int (own_first p0)), .val (.long (own_room p0)), .second, .val (.int (own_last p0 p1)), .val (.int (own_cap p3)), .val (.ref b2), .val (.long (own_u p2)), .second, .val (.int (p3 &&& (7 : Int32))), .val (.int (own_first p0)), .val (.int (1 : Int32)), .unset, .unset] [(.int (own_first p0)), (.ref b2)])) rfl (by rw [hml]; rfl) (Steps.refl _) (argsL := [(.int (own_first p0))]) (rest := []) (lenOf pd_1 rfl) rfl (by show 2 * 0 + _ ≤ _; exact Nat.le_of_eq rfl) (hb hby at_281) (fun _ _ => ⟨rfl, rfl, (by decide : 1 + 0 ≤ _), (by decide : 3 + 0 ≤ _)⟩)
            dsimp only [Pt.U, Pt.locs, Pt.cells, Pt.slots] at X34 l34 y34 z34 st34 hQ34
            subst l34 y34 z34
            obtain ⟨rfl, N34q, e34⟩ := hQ34
            have N34 := Fr.app N5 N34q
            have k35 : ∀ t, Steps p.tables e below (T34.setTop (mkF m 284 #[.val (.int p0), .val (.int p1), .val (.int p2), .val (.int p3), .val (.int (own_first p0)), .val (.long (own_room p0)), .second, .val (.int (own_last p0 p1)), .val (.int (own_cap p3)), .val (.ref b2), .val (.long (own_u p2)), .second, .val (.int (p3 &&& (7 : Int32))), .val (.int (own_first p0)), .val (.int (1 : Int32)), .unset, .unset] [(.int (own_bI ((own_first p0).toInt ≤ (own_first p0).toInt ∧ (own_first p0).toInt ≤ (own_last p0 p1).toInt)))])) t → Steps p.tables e below (s₁.setTop (entryFrame m #[(.int p0), (.int p1), (.int p2), (.int p3)] maxLocals)) t := fun t k => k33 t (st34.trans k)
            have hc286 : (own_bI ((own_first p0).toInt ≤ (own_first p0).toInt ∧ (own_first p0).toInt ≤ (own_last p0 p1).toInt)) = (1 : Int32) := own_bI_t (by have r0 := own_first_r p0; have r1 := own_last_r p0 p1; have r2 := (own_last p0 p1).toInt_lt; omega)
            have k36 : ∀ t, Steps p.tables e below (T34.setTop (mkF m 294 #[.val (.int p0), .val (.int p1), .val (.int p2), .val (.int p3), .val (.int (own_first p0)), .val (.long (own_room p0)), .second, .val (.int (own_last p0 p1)), .val (.int (own_cap p3)), .val (.ref b2), .val (.long (own_u p2)), .second, .val (.int (p3 &&& (7 : Int32))), .val (.int (own_first p0)), .val (.int (1 : Int32)), .unset, .unset] [(.int (1 : Int32))])) t → Steps p.tables e below (s₁.setTop (entryFrame m #[(.int p0), (.int p1), (.int p2), (.int p3)] maxLocals)) t := fun t k => k35 t (by
                show Steps p.tables e below (T34.setTop (mkF m 284 #[.val (.int p0), .val (.int p1), .val (.int p2), .val (.int p3), .val (.int (own_first p0)), .val (.long (own_room p0)), .second, .val (.int (own_last p0 p1)), .val (.int (own_cap p3)), .val (.ref b2), .val (.long (own_u p2)), .second, .val (.int (p3 &&& (7 : Int32))), .val (.int (own_first p0)), .val (.int (1 : Int32)), .unset, .unset] [(.int (own_bI ((own_first p0).toInt ≤ (own_first p0).toInt ∧ (own_first p0).toInt ≤ (own_last p0 p1).toInt)))])) _
                refine XS.iload X34.here hx rfl (hb hby at_284) rfl ?_
                show Steps p.tables e below (T34.setTop (mkF m 286 #[.val (.int p0), .val (.int p1), .val (.int p2), .val (.int p3), .val (.int (own_first p0)), .val (.long (own_room p0)), .second, .val (.int (own_last p0 p1)), .val (.int (own_cap p3)), .val (.ref b2), .val (.long (own_u p2)), .second, .val (.int (p3 &&& (7 : Int32))), .val (.int (own_first p0)), .val (.int (1 : Int32)), .unset, .unset] [(.int (1 : Int32)), (.int (own_bI ((own_first p0).toInt ≤ (own_first p0).toInt ∧ (own_first p0).toInt ≤ (own_last p0 p1).toInt)))])) _
                refine XS.icmpNo X34.here hx rfl (hb hby at_286) rfl (teq hc286).2 ?_
                show Steps p.tables e below (T34.setTop (mkF m 289 #[.val (.int p0), .val (.int p1), .val (.int p2), .val (.int p3), .val (.int (own_first p0)), .val (.long (own_room p0)), .second, .val (.int (own_last p0 p1)), .val (.int (own_cap p3)), .val (.ref b2), .val (.long (own_u p2)), .second, .val (.int (p3 &&& (7 : Int32))), .val (.int (own_first p0)), .val (.int (1 : Int32)), .unset, .unset] [])) _
                refine XS.iconst X34.here hx rfl (hb hby at_289) ?_
                show Steps p.tables e below (T34.setTop (mkF m 290 #[.val (.int p0), .val (.int p1), .val (.int p2), .val (.int p3), .val (.int (own_first p0)), .val (.long (own_room p0)), .second, .val (.int (own_last p0 p1)), .val (.int (own_cap p3)), .val (.ref b2), .val (.long (own_u p2)), .second, .val (.int (p3 &&& (7 : Int32))), .val (.int (own_first p0)), .val (.int (1 : Int32)), .unset, .unset] [(.int (1 : Int32))])) _
                refine XS.goto X34.here hx rfl (pc0 := 290) (pc' := 294) rfl (hb hby at_290) (by decide) (by decide) ?_
                exact k)
            obtain ⟨fs, hr, hrun, hended, hW, hsame⟩ := X34.leave (v := (some (.int (1 : Int32)))) (fun h => by rw [Bd.returns] at h; cases h)
            refine ⟨_, _, k36 _ ?_, hrun, hended, _, _, rfl, ?_, ⟨_, rfl⟩, hW, hsame.mono (by decide) (by decide)⟩
            · exact retN X34 hx (t := .boolean) Bd.returns (by simp) (hb hby at_294) hr
            · show Q0 Z p0 p1 p2 p3 h0 n0 _ T34.heap _
              rw [e34]
              exact ⟨rfl, N34⟩
          · have k37 : ∀ t, Steps p.tables e below (T5.setTop (mkF m 210 #[.val (.int p0), .val (.int p1), .val (.int p2), .val (.int p3), .val (.int (own_first p0)), .val (.long (own_room p0)), .second, .val (.int (own_last p0 p1)), .val (.int (own_cap p3)), .val (.ref b2), .val (.long (own_u p2)), .second, .val (.int (p3 &&& (7 : Int32))), .unset, .unset, .unset, .unset] [(.int (5 : Int32)), (.int (p3 &&& (7 : Int32)))])) t → Steps p.tables e below (s₁.setTop (entryFrame m #[(.int p0), (.int p1), (.int p2), (.int p3)] maxLocals)) t := fun t k => k32 t (by
                show Steps p.tables e below (T5.setTop (mkF m 194 #[.val (.int p0), .val (.int p1), .val (.int p2), .val (.int p3), .val (.int (own_first p0)), .val (.long (own_room p0)), .second, .val (.int (own_last p0 p1)), .val (.int (own_cap p3)), .val (.ref b2), .val (.long (own_u p2)), .second, .val (.int (p3 &&& (7 : Int32))), .unset, .unset, .unset, .unset] [(.int (4 : Int32)), (.int (p3 &&& (7 : Int32)))])) _
                refine XS.icmpYes X5.here hx rfl (pc0 := 194) (pc' := 207) rfl (hb hby at_194) rfl (feq hc194).2 (by decide) (by decide) ?_
                show Steps p.tables e below (T5.setTop (mkF m 207 #[.val (.int p0), .val (.int p1), .val (.int p2), .val (.int p3), .val (.int (own_first p0)), .val (.long (own_room p0)), .second, .val (.int (own_last p0 p1)), .val (.int (own_cap p3)), .val (.ref b2), .val (.long (own_u p2)), .second, .val (.int (p3 &&& (7 : Int32))), .unset, .unset, .unset, .unset] [])) _
                refine XS.iload X5.here hx rfl (hb hby at_207) rfl ?_
                show Steps p.tables e below (T5.setTop (mkF m 209 #[.val (.int p0), .val (.int p1), .val (.int p2), .val (.int p3), .val (.int (own_first p0)), .val (.long (own_room p0)), .second, .val (.int (own_last p0 p1)), .val (.int (own_cap p3)), .val (.ref b2), .val (.long (own_u p2)), .second, .val (.int (p3 &&& (7 : Int32))), .unset, .unset, .unset, .unset] [(.int (p3 &&& (7 : Int32)))])) _
                refine XS.iconst X5.here hx rfl (hb hby at_209) ?_
                exact k)
            by_cases hc210 : (p3 &&& (7 : Int32)) = (5 : Int32)
            · have k38 : ∀ t, Steps p.tables e below (T5.setTop (mkF m 281 #[.val (.int p0), .val (.int p1), .val (.int p2), .val (.int p3), .val (.int (own_first p0)), .val (.long (own_room p0)), .second, .val (.int (own_last p0 p1)), .val (.int (own_cap p3)), .val (.ref b2), .val (.long (own_u p2)), .second, .val (.int (p3 &&& (7 : Int32))), .val (.int (own_last p0 p1)), .val (.int (1 : Int32)), .unset, .unset] [(.int (own_last p0 p1)), (.ref b2)])) t → Steps p.tables e below (s₁.setTop (entryFrame m #[(.int p0), (.int p1), (.int p2), (.int p3)] maxLocals)) t := fun t k => k37 t (by
                  show Steps p.tables e below (T5.setTop (mkF m 210 #[.val (.int p0), .val (.int p1), .val (.int p2), .val (.int p3), .val (.int (own_first p0)), .val (.long (own_room p0)), .second, .val (.int (own_last p0 p1)), .val (.int (own_cap p3)), .val (.ref b2), .val (.long (own_u p2)), .second, .val (.int (p3 &&& (7 : Int32))), .unset, .unset, .unset, .unset] [(.int (5 : Int32)), (.int (p3 &&& (7 : Int32)))])) _
                  refine XS.icmpNo X5.here hx rfl (hb hby at_210) rfl (teq hc210).2 ?_
                  show Steps p.tables e below (T5.setTop (mkF m 213 #[.val (.int p0), .val (.int p1), .val (.int p2), .val (.int p3), .val (.int (own_first p0)), .val (.long (own_room p0)), .second, .val (.int (own_last p0 p1)), .val (.int (own_cap p3)), .val (.ref b2), .val (.long (own_u p2)), .second, .val (.int (p3 &&& (7 : Int32))), .unset, .unset, .unset, .unset] [])) _
                  refine XS.iload X5.here hx rfl (hb hby at_213) rfl ?_
                  show Steps p.tables e below (T5.setTop (mkF m 215 #[.val (.int p0), .val (.int p1), .val (.int p2), .val (.int p3), .val (.int (own_first p0)), .val (.long (own_room p0)), .second, .val (.int (own_last p0 p1)), .val (.int (own_cap p3)), .val (.ref b2), .val (.long (own_u p2)), .second, .val (.int (p3 &&& (7 : Int32))), .unset, .unset, .unset, .unset] [(.int (own_last p0 p1))])) _
                  refine XS.istore X5.here hx rfl (hb hby at_215) rfl (l' := #[.val (.int p0), .val (.int p1), .val (.int p2), .val (.int p3), .val (.int (own_first p0)), .val (.long (own_room p0)), .second, .val (.int (own_last p0 p1)), .val (.int (own_cap p3)), .val (.ref b2), .val (.long (own_u p2)), .second, .val (.int (p3 &&& (7 : Int32))), .val (.int (own_last p0 p1)), .unset, .unset, .unset]) rfl ?_
                  show Steps p.tables e below (T5.setTop (mkF m 217 #[.val (.int p0), .val (.int p1), .val (.int p2), .val (.int p3), .val (.int (own_first p0)), .val (.long (own_room p0)), .second, .val (.int (own_last p0 p1)), .val (.int (own_cap p3)), .val (.ref b2), .val (.long (own_u p2)), .second, .val (.int (p3 &&& (7 : Int32))), .val (.int (own_last p0 p1)), .unset, .unset, .unset] [])) _
                  refine XS.iconst X5.here hx rfl (hb hby at_217) ?_
                  show Steps p.tables e below (T5.setTop (mkF m 218 #[.val (.int p0), .val (.int p1), .val (.int p2), .val (.int p3), .val (.int (own_first p0)), .val (.long (own_room p0)), .second, .val (.int (own_last p0 p1)), .val (.int (own_cap p3)), .val (.ref b2), .val (.long (own_u p2)), .second, .val (.int (p3 &&& (7 : Int32))), .val (.int (own_last p0 p1)), .unset, .unset, .unset] [(.int (1 : Int32))])) _
                  refine XS.istore X5.here hx rfl (hb hby at_218) rfl (l' := #[.val (.int p0), .val (.int p1), .val (.int p2), .val (.int p3), .val (.int (own_first p0)), .val (.long (own_room p0)), .second, .val (.int (own_last p0 p1)), .val (.int (own_cap p3)), .val (.ref b2), .val (.long (own_u p2)), .second, .val (.int (p3 &&& (7 : Int32))), .val (.int (own_last p0 p1)), .val (.int (1 : Int32)), .unset, .unset]) rfl ?_
                  show Steps p.tables e below (T5.setTop (mkF m 220 #[.val (.int p0), .val (.int p1), .val (.int p2), .val (.int p3), .val (.int (own_first p0)), .val (.long (own_room p0)), .second, .val (.int (own_last p0 p1)), .val (.int (own_cap p3)), .val (.ref b2), .val (.long (own_u p2)), .second, .val (.int (p3 &&& (7 : Int32))), .val (.int (own_last p0 p1)), .val (.int (1 : Int32)), .unset, .unset] [])) _
                  refine XS.goto X5.here hx rfl (pc0 := 220) (pc' := 277) rfl (hb hby at_220) (by decide) (by decide) ?_
                  show Steps p.tables e below (T5.setTop (mkF m 277 #[.val (.int p0), .val (.int p1), .val (.int p2), .val (.int p3), .val (.int (own_first p0)), .val (.long (own_room p0)), .second, .val (.int (own_last p0 p1)), .val (.int (own_cap p3)), .val (.ref b2), .val (.long (own_u p2)), .second, .val (.int (p3 &&& (7 : Int32))), .val (.int (own_last p0 p1)), .val (.int (1 : Int32)), .unset, .unset] [])) _
                  refine XS.aload X5.here hx rfl (hb hby at_277) rfl rfl ?_
                  show Steps p.tables e below (T5.setTop (mkF m 279 #[.val (.int p0), .val (.int p1), .val (.int p2), .val (.int p3), .val (.int (own_first p0)), .val (.long (own_room p0)), .second, .val (.int (own_last p0 p1)), .val (.int (own_cap p3)), .val (.ref b2), .val (.long (own_u p2)), .second, .val (.int (p3 &&& (7 : Int32))), .val (.int (own_last p0 p1)), .val (.int (1 : Int32)), .unset, .unset] [(.ref b2)])) _
                  refine XS.iload X5.here hx rfl (hb hby at_279) rfl ?_
                  exact k)
              obtain ⟨cq39, kcq39, q39a, q39b, q39c⟩ := isOf hZ rfl Ex5
              obtain ⟨_, _, ⟨T39, L39, kq39, n39⟩, -, X39, ⟨Lc39, hQ39, l39, y39, z39⟩, st39⟩ := X5.virtualBack hx (y := (⟨"com/example/backpressure/backpressure/model/CapacityChange", "holdsIn", "(I)Z"⟩ : MethodName)) (z := (⟨"com/example/backpressure/backpressure/model/CapacityChange", "holdsIn", "(I)Z"⟩ : MethodName)) hown (mvT hZ (hw _ (List.mem_of_getElem? (i := 18) rfl))) (mvT hZ (hw _ (List.mem_of_getElem? (i := 19) rfl))) (notFace_of_selects (args := #[]) (mvT hZ (hw _ (List.mem_of_getElem? (i := 21) rfl)))) (mvT hZ (hw _ (List.mem_of_getElem? (i := 21) rfl))) (mvT hZ (hw _ (List.mem_of_getElem? (i := 20) rfl))) (by decide) (backOf (W := 0) (rm3 l Z a0 hw [] b2 (own_last p0 p1) (own_first p0) (own_last p0 p1) T5.heap n0 Zs5 Fx5_0 Fx5_1) hZ (hw _ (List.mem_of_getElem? (i := 22) rfl)) (hw _ (List.mem_of_getElem? (i := 4) rfl)) (by decide) (by decide)) q39a q39c (g := (mkF m 281 #[.val (.int p0), .val (.int p1), .val (.int p2), .val (.int p3), .val (.int (own_first p0)), .val (.long (own_room p0)), .second, .val (.int (own_last p0 p1)), .val (.int (own_cap p3)), .val (.ref b2), .val (.long (own_u p2)), .second, .val (.int (p3 &&& (7 : Int32))), .val (.int (own_last p0 p1)), .val (.int (1 : Int32)), .unset, .unset] [(.int (own_last p0 p1)), (.ref b2)])) rfl (by rw [hml]; rfl) (Steps.refl _) (argsL := [(.int (own_last p0 p1))]) (rest := []) (lenOf pd_1 rfl) rfl (by show 2 * 0 + _ ≤ _; exact Nat.le_of_eq rfl) (hb hby at_281) (fun _ _ => ⟨rfl, rfl, (by decide : 1 + 0 ≤ _), (by decide : 3 + 0 ≤ _)⟩)
              dsimp only [Pt.U, Pt.locs, Pt.cells, Pt.slots] at X39 l39 y39 z39 st39 hQ39
              subst l39 y39 z39
              obtain ⟨rfl, N39q, e39⟩ := hQ39
              have N39 := Fr.app N5 N39q
              have k40 : ∀ t, Steps p.tables e below (T39.setTop (mkF m 284 #[.val (.int p0), .val (.int p1), .val (.int p2), .val (.int p3), .val (.int (own_first p0)), .val (.long (own_room p0)), .second, .val (.int (own_last p0 p1)), .val (.int (own_cap p3)), .val (.ref b2), .val (.long (own_u p2)), .second, .val (.int (p3 &&& (7 : Int32))), .val (.int (own_last p0 p1)), .val (.int (1 : Int32)), .unset, .unset] [(.int (own_bI ((own_first p0).toInt ≤ (own_last p0 p1).toInt ∧ (own_last p0 p1).toInt ≤ (own_last p0 p1).toInt)))])) t → Steps p.tables e below (s₁.setTop (entryFrame m #[(.int p0), (.int p1), (.int p2), (.int p3)] maxLocals)) t := fun t k => k38 t (st39.trans k)
              have hc286 : (own_bI ((own_first p0).toInt ≤ (own_last p0 p1).toInt ∧ (own_last p0 p1).toInt ≤ (own_last p0 p1).toInt)) = (1 : Int32) := own_bI_t (by have r0 := own_first_r p0; have r1 := own_last_r p0 p1; have r2 := (own_last p0 p1).toInt_lt; omega)
              have k41 : ∀ t, Steps p.tables e below (T39.setTop (mkF m 294 #[.val (.int p0), .val (.int p1), .val (.int p2), .val (.int p3), .val (.int (own_first p0)), .val (.long (own_room p0)), .second, .val (.int (own_last p0 p1)), .val (.int (own_cap p3)), .val (.ref b2), .val (.long (own_u p2)), .second, .val (.int (p3 &&& (7 : Int32))), .val (.int (own_last p0 p1)), .val (.int (1 : Int32)), .unset, .unset] [(.int (1 : Int32))])) t → Steps p.tables e below (s₁.setTop (entryFrame m #[(.int p0), (.int p1), (.int p2), (.int p3)] maxLocals)) t := fun t k => k40 t (by
                  show Steps p.tables e below (T39.setTop (mkF m 284 #[.val (.int p0), .val (.int p1), .val (.int p2), .val (.int p3), .val (.int (own_first p0)), .val (.long (own_room p0)), .second, .val (.int (own_last p0 p1)), .val (.int (own_cap p3)), .val (.ref b2), .val (.long (own_u p2)), .second, .val (.int (p3 &&& (7 : Int32))), .val (.int (own_last p0 p1)), .val (.int (1 : Int32)), .unset, .unset] [(.int (own_bI ((own_first p0).toInt ≤ (own_last p0 p1).toInt ∧ (own_last p0 p1).toInt ≤ (own_last p0 p1).toInt)))])) _
                  refine XS.iload X39.here hx rfl (hb hby at_284) rfl ?_
                  show Steps p.tables e below (T39.setTop (mkF m 286 #[.val (.int p0), .val (.int p1), .val (.int p2), .val (.int p3), .val (.int (own_first p0)), .val (.long (own_room p0)), .second, .val (.int (own_last p0 p1)), .val (.int (own_cap p3)), .val (.ref b2), .val (.long (own_u p2)), .second, .val (.int (p3 &&& (7 : Int32))), .val (.int (own_last p0 p1)), .val (.int (1 : Int32)), .unset, .unset] [(.int (1 : Int32)), (.int (own_bI ((own_first p0).toInt ≤ (own_last p0 p1).toInt ∧ (own_last p0 p1).toInt ≤ (own_last p0 p1).toInt)))])) _
                  refine XS.icmpNo X39.here hx rfl (hb hby at_286) rfl (teq hc286).2 ?_
                  show Steps p.tables e below (T39.setTop (mkF m 289 #[.val (.int p0), .val (.int p1), .val (.int p2), .val (.int p3), .val (.int (own_first p0)), .val (.long (own_room p0)), .second, .val (.int (own_last p0 p1)), .val (.int (own_cap p3)), .val (.ref b2), .val (.long (own_u p2)), .second, .val (.int (p3 &&& (7 : Int32))), .val (.int (own_last p0 p1)), .val (.int (1 : Int32)), .unset, .unset] [])) _
                  refine XS.iconst X39.here hx rfl (hb hby at_289) ?_
                  show Steps p.tables e below (T39.setTop (mkF m 290 #[.val (.int p0), .val (.int p1), .val (.int p2), .val (.int p3), .val (.int (own_first p0)), .val (.long (own_room p0)), .second, .val (.int (own_last p0 p1)), .val (.int (own_cap p3)), .val (.ref b2), .val (.long (own_u p2)), .second, .val (.int (p3 &&& (7 : Int32))), .val (.int (own_last p0 p1)), .val (.int (1 : Int32)), .unset, .unset] [(.int (1 : Int32))])) _
                  refine XS.goto X39.here hx rfl (pc0 := 290) (pc' := 294) rfl (hb hby at_290) (by decide) (by decide) ?_
                  exact k)
              obtain ⟨fs, hr, hrun, hended, hW, hsame⟩ := X39.leave (v := (some (.int (1 : Int32)))) (fun h => by rw [Bd.returns] at h; cases h)
              refine ⟨_, _, k41 _ ?_, hrun, hended, _, _, rfl, ?_, ⟨_, rfl⟩, hW, hsame.mono (by decide) (by decide)⟩
              · exact retN X39 hx (t := .boolean) Bd.returns (by simp) (hb hby at_294) hr
              · show Q0 Z p0 p1 p2 p3 h0 n0 _ T39.heap _
                rw [e39]
                exact ⟨rfl, N39⟩
            · have k42 : ∀ t, Steps p.tables e below (T5.setTop (mkF m 227 #[.val (.int p0), .val (.int p1), .val (.int p2), .val (.int p3), .val (.int (own_first p0)), .val (.long (own_room p0)), .second, .val (.int (own_last p0 p1)), .val (.int (own_cap p3)), .val (.ref b2), .val (.long (own_u p2)), .second, .val (.int (p3 &&& (7 : Int32))), .unset, .unset, .unset, .unset] [(.int (6 : Int32)), (.int (p3 &&& (7 : Int32)))])) t → Steps p.tables e below (s₁.setTop (entryFrame m #[(.int p0), (.int p1), (.int p2), (.int p3)] maxLocals)) t := fun t k => k37 t (by
                  show Steps p.tables e below (T5.setTop (mkF m 210 #[.val (.int p0), .val (.int p1), .val (.int p2), .val (.int p3), .val (.int (own_first p0)), .val (.long (own_room p0)), .second, .val (.int (own_last p0 p1)), .val (.int (own_cap p3)), .val (.ref b2), .val (.long (own_u p2)), .second, .val (.int (p3 &&& (7 : Int32))), .unset, .unset, .unset, .unset] [(.int (5 : Int32)), (.int (p3 &&& (7 : Int32)))])) _
                  refine XS.icmpYes X5.here hx rfl (pc0 := 210) (pc' := 223) rfl (hb hby at_210) rfl (feq hc210).2 (by decide) (by decide) ?_
                  show Steps p.tables e below (T5.setTop (mkF m 223 #[.val (.int p0), .val (.int p1), .val (.int p2), .val (.int p3), .val (.int (own_first p0)), .val (.long (own_room p0)), .second, .val (.int (own_last p0 p1)), .val (.int (own_cap p3)), .val (.ref b2), .val (.long (own_u p2)), .second, .val (.int (p3 &&& (7 : Int32))), .unset, .unset, .unset, .unset] [])) _
                  refine XS.iload X5.here hx rfl (hb hby at_223) rfl ?_
                  show Steps p.tables e below (T5.setTop (mkF m 225 #[.val (.int p0), .val (.int p1), .val (.int p2), .val (.int p3), .val (.int (own_first p0)), .val (.long (own_room p0)), .second, .val (.int (own_last p0 p1)), .val (.int (own_cap p3)), .val (.ref b2), .val (.long (own_u p2)), .second, .val (.int (p3 &&& (7 : Int32))), .unset, .unset, .unset, .unset] [(.int (p3 &&& (7 : Int32)))])) _
                  refine XS.bipush X5.here hx rfl (hb hby at_225) ?_
                  exact k)
              by_cases hc227 : (p3 &&& (7 : Int32)) = (6 : Int32)
              · have k43 : ∀ t, Steps p.tables e below (T5.setTop (mkF m 232 #[.val (.int p0), .val (.int p1), .val (.int p2), .val (.int p3), .val (.int (own_first p0)), .val (.long (own_room p0)), .second, .val (.int (own_last p0 p1)), .val (.int (own_cap p3)), .val (.ref b2), .val (.long (own_u p2)), .second, .val (.int (p3 &&& (7 : Int32))), .unset, .unset, .unset, .unset] [(.int (own_first p0))])) t → Steps p.tables e below (s₁.setTop (entryFrame m #[(.int p0), (.int p1), (.int p2), (.int p3)] maxLocals)) t := fun t k => k42 t (by
                    show Steps p.tables e below (T5.setTop (mkF m 227 #[.val (.int p0), .val (.int p1), .val (.int p2), .val (.int p3), .val (.int (own_first p0)), .val (.long (own_room p0)), .second, .val (.int (own_last p0 p1)), .val (.int (own_cap p3)), .val (.ref b2), .val (.long (own_u p2)), .second, .val (.int (p3 &&& (7 : Int32))), .unset, .unset, .unset, .unset] [(.int (6 : Int32)), (.int (p3 &&& (7 : Int32)))])) _
                    refine XS.icmpNo X5.here hx rfl (hb hby at_227) rfl (teq hc227).2 ?_
                    show Steps p.tables e below (T5.setTop (mkF m 230 #[.val (.int p0), .val (.int p1), .val (.int p2), .val (.int p3), .val (.int (own_first p0)), .val (.long (own_room p0)), .second, .val (.int (own_last p0 p1)), .val (.int (own_cap p3)), .val (.ref b2), .val (.long (own_u p2)), .second, .val (.int (p3 &&& (7 : Int32))), .unset, .unset, .unset, .unset] [])) _
                    refine XS.iload X5.here hx rfl (hb hby at_230) rfl ?_
                    exact k)
                by_cases hc232 : (0 : Int32) < (own_first p0)
                · have k44 : ∀ t, Steps p.tables e below (T5.setTop (mkF m 281 #[.val (.int p0), .val (.int p1), .val (.int p2), .val (.int p3), .val (.int (own_first p0)), .val (.long (own_room p0)), .second, .val (.int (own_last p0 p1)), .val (.int (own_cap p3)), .val (.ref b2), .val (.long (own_u p2)), .second, .val (.int (p3 &&& (7 : Int32))), .val (.int ((own_first p0) - (1 : Int32))), .val (.int (0 : Int32)), .unset, .unset] [(.int ((own_first p0) - (1 : Int32))), (.ref b2)])) t → Steps p.tables e below (s₁.setTop (entryFrame m #[(.int p0), (.int p1), (.int p2), (.int p3)] maxLocals)) t := fun t k => k43 t (by
                      show Steps p.tables e below (T5.setTop (mkF m 232 #[.val (.int p0), .val (.int p1), .val (.int p2), .val (.int p3), .val (.int (own_first p0)), .val (.long (own_room p0)), .second, .val (.int (own_last p0 p1)), .val (.int (own_cap p3)), .val (.ref b2), .val (.long (own_u p2)), .second, .val (.int (p3 &&& (7 : Int32))), .unset, .unset, .unset, .unset] [(.int (own_first p0))])) _
                      refine XS.ifNo X5.here hx rfl (hb hby at_232) rfl ((if0 _ _).trans (tlt hc232).2.2.2) ?_
                      show Steps p.tables e below (T5.setTop (mkF m 235 #[.val (.int p0), .val (.int p1), .val (.int p2), .val (.int p3), .val (.int (own_first p0)), .val (.long (own_room p0)), .second, .val (.int (own_last p0 p1)), .val (.int (own_cap p3)), .val (.ref b2), .val (.long (own_u p2)), .second, .val (.int (p3 &&& (7 : Int32))), .unset, .unset, .unset, .unset] [])) _
                      refine XS.iload X5.here hx rfl (hb hby at_235) rfl ?_
                      show Steps p.tables e below (T5.setTop (mkF m 237 #[.val (.int p0), .val (.int p1), .val (.int p2), .val (.int p3), .val (.int (own_first p0)), .val (.long (own_room p0)), .second, .val (.int (own_last p0 p1)), .val (.int (own_cap p3)), .val (.ref b2), .val (.long (own_u p2)), .second, .val (.int (p3 &&& (7 : Int32))), .unset, .unset, .unset, .unset] [(.int (own_first p0))])) _
                      refine XS.iconst X5.here hx rfl (hb hby at_237) ?_
                      show Steps p.tables e below (T5.setTop (mkF m 238 #[.val (.int p0), .val (.int p1), .val (.int p2), .val (.int p3), .val (.int (own_first p0)), .val (.long (own_room p0)), .second, .val (.int (own_last p0 p1)), .val (.int (own_cap p3)), .val (.ref b2), .val (.long (own_u p2)), .second, .val (.int (p3 &&& (7 : Int32))), .unset, .unset, .unset, .unset] [(.int (1 : Int32)), (.int (own_first p0))])) _
                      refine XS.isub X5.here hx rfl (hb hby at_238) rfl ?_
                      show Steps p.tables e below (T5.setTop (mkF m 239 #[.val (.int p0), .val (.int p1), .val (.int p2), .val (.int p3), .val (.int (own_first p0)), .val (.long (own_room p0)), .second, .val (.int (own_last p0 p1)), .val (.int (own_cap p3)), .val (.ref b2), .val (.long (own_u p2)), .second, .val (.int (p3 &&& (7 : Int32))), .unset, .unset, .unset, .unset] [(.int ((own_first p0) - (1 : Int32)))])) _
                      refine XS.istore X5.here hx rfl (hb hby at_239) rfl (l' := #[.val (.int p0), .val (.int p1), .val (.int p2), .val (.int p3), .val (.int (own_first p0)), .val (.long (own_room p0)), .second, .val (.int (own_last p0 p1)), .val (.int (own_cap p3)), .val (.ref b2), .val (.long (own_u p2)), .second, .val (.int (p3 &&& (7 : Int32))), .val (.int ((own_first p0) - (1 : Int32))), .unset, .unset, .unset]) rfl ?_
                      show Steps p.tables e below (T5.setTop (mkF m 241 #[.val (.int p0), .val (.int p1), .val (.int p2), .val (.int p3), .val (.int (own_first p0)), .val (.long (own_room p0)), .second, .val (.int (own_last p0 p1)), .val (.int (own_cap p3)), .val (.ref b2), .val (.long (own_u p2)), .second, .val (.int (p3 &&& (7 : Int32))), .val (.int ((own_first p0) - (1 : Int32))), .unset, .unset, .unset] [])) _
                      refine XS.goto X5.here hx rfl (pc0 := 241) (pc' := 248) rfl (hb hby at_241) (by decide) (by decide) ?_
                      show Steps p.tables e below (T5.setTop (mkF m 248 #[.val (.int p0), .val (.int p1), .val (.int p2), .val (.int p3), .val (.int (own_first p0)), .val (.long (own_room p0)), .second, .val (.int (own_last p0 p1)), .val (.int (own_cap p3)), .val (.ref b2), .val (.long (own_u p2)), .second, .val (.int (p3 &&& (7 : Int32))), .val (.int ((own_first p0) - (1 : Int32))), .unset, .unset, .unset] [])) _
                      refine XS.iconst X5.here hx rfl (hb hby at_248) ?_
                      show Steps p.tables e below (T5.setTop (mkF m 249 #[.val (.int p0), .val (.int p1), .val (.int p2), .val (.int p3), .val (.int (own_first p0)), .val (.long (own_room p0)), .second, .val (.int (own_last p0 p1)), .val (.int (own_cap p3)), .val (.ref b2), .val (.long (own_u p2)), .second, .val (.int (p3 &&& (7 : Int32))), .val (.int ((own_first p0) - (1 : Int32))), .unset, .unset, .unset] [(.int (0 : Int32))])) _
                      refine XS.istore X5.here hx rfl (hb hby at_249) rfl (l' := #[.val (.int p0), .val (.int p1), .val (.int p2), .val (.int p3), .val (.int (own_first p0)), .val (.long (own_room p0)), .second, .val (.int (own_last p0 p1)), .val (.int (own_cap p3)), .val (.ref b2), .val (.long (own_u p2)), .second, .val (.int (p3 &&& (7 : Int32))), .val (.int ((own_first p0) - (1 : Int32))), .val (.int (0 : Int32)), .unset, .unset]) rfl ?_
                      show Steps p.tables e below (T5.setTop (mkF m 251 #[.val (.int p0), .val (.int p1), .val (.int p2), .val (.int p3), .val (.int (own_first p0)), .val (.long (own_room p0)), .second, .val (.int (own_last p0 p1)), .val (.int (own_cap p3)), .val (.ref b2), .val (.long (own_u p2)), .second, .val (.int (p3 &&& (7 : Int32))), .val (.int ((own_first p0) - (1 : Int32))), .val (.int (0 : Int32)), .unset, .unset] [])) _
                      refine XS.goto X5.here hx rfl (pc0 := 251) (pc' := 277) rfl (hb hby at_251) (by decide) (by decide) ?_
                      show Steps p.tables e below (T5.setTop (mkF m 277 #[.val (.int p0), .val (.int p1), .val (.int p2), .val (.int p3), .val (.int (own_first p0)), .val (.long (own_room p0)), .second, .val (.int (own_last p0 p1)), .val (.int (own_cap p3)), .val (.ref b2), .val (.long (own_u p2)), .second, .val (.int (p3 &&& (7 : Int32))), .val (.int ((own_first p0) - (1 : Int32))), .val (.int (0 : Int32)), .unset, .unset] [])) _
                      refine XS.aload X5.here hx rfl (hb hby at_277) rfl rfl ?_
                      show Steps p.tables e below (T5.setTop (mkF m 279 #[.val (.int p0), .val (.int p1), .val (.int p2), .val (.int p3), .val (.int (own_first p0)), .val (.long (own_room p0)), .second, .val (.int (own_last p0 p1)), .val (.int (own_cap p3)), .val (.ref b2), .val (.long (own_u p2)), .second, .val (.int (p3 &&& (7 : Int32))), .val (.int ((own_first p0) - (1 : Int32))), .val (.int (0 : Int32)), .unset, .unset] [(.ref b2)])) _
                      refine XS.iload X5.here hx rfl (hb hby at_279) rfl ?_
                      exact k)
                  obtain ⟨cq45, kcq45, q45a, q45b, q45c⟩ := isOf hZ rfl Ex5
                  obtain ⟨_, _, ⟨T45, L45, kq45, n45⟩, -, X45, ⟨Lc45, hQ45, l45, y45, z45⟩, st45⟩ := X5.virtualBack hx (y := (⟨"com/example/backpressure/backpressure/model/CapacityChange", "holdsIn", "(I)Z"⟩ : MethodName)) (z := (⟨"com/example/backpressure/backpressure/model/CapacityChange", "holdsIn", "(I)Z"⟩ : MethodName)) hown (mvT hZ (hw _ (List.mem_of_getElem? (i := 18) rfl))) (mvT hZ (hw _ (List.mem_of_getElem? (i := 19) rfl))) (notFace_of_selects (args := #[]) (mvT hZ (hw _ (List.mem_of_getElem? (i := 21) rfl)))) (mvT hZ (hw _ (List.mem_of_getElem? (i := 21) rfl))) (mvT hZ (hw _ (List.mem_of_getElem? (i := 20) rfl))) (by decide) (backOf (W := 0) (rm3 l Z a0 hw [] b2 ((own_first p0) - (1 : Int32)) (own_first p0) (own_last p0 p1) T5.heap n0 Zs5 Fx5_0 Fx5_1) hZ (hw _ (List.mem_of_getElem? (i := 22) rfl)) (hw _ (List.mem_of_getElem? (i := 4) rfl)) (by decide) (by decide)) q45a q45c (g := (mkF m 281 #[.val (.int p0), .val (.int p1), .val (.int p2), .val (.int p3), .val (.int (own_first p0)), .val (.long (own_room p0)), .second, .val (.int (own_last p0 p1)), .val (.int (own_cap p3)), .val (.ref b2), .val (.long (own_u p2)), .second, .val (.int (p3 &&& (7 : Int32))), .val (.int ((own_first p0) - (1 : Int32))), .val (.int (0 : Int32)), .unset, .unset] [(.int ((own_first p0) - (1 : Int32))), (.ref b2)])) rfl (by rw [hml]; rfl) (Steps.refl _) (argsL := [(.int ((own_first p0) - (1 : Int32)))]) (rest := []) (lenOf pd_1 rfl) rfl (by show 2 * 0 + _ ≤ _; exact Nat.le_of_eq rfl) (hb hby at_281) (fun _ _ => ⟨rfl, rfl, (by decide : 1 + 0 ≤ _), (by decide : 3 + 0 ≤ _)⟩)
                  dsimp only [Pt.U, Pt.locs, Pt.cells, Pt.slots] at X45 l45 y45 z45 st45 hQ45
                  subst l45 y45 z45
                  obtain ⟨rfl, N45q, e45⟩ := hQ45
                  have N45 := Fr.app N5 N45q
                  have k46 : ∀ t, Steps p.tables e below (T45.setTop (mkF m 284 #[.val (.int p0), .val (.int p1), .val (.int p2), .val (.int p3), .val (.int (own_first p0)), .val (.long (own_room p0)), .second, .val (.int (own_last p0 p1)), .val (.int (own_cap p3)), .val (.ref b2), .val (.long (own_u p2)), .second, .val (.int (p3 &&& (7 : Int32))), .val (.int ((own_first p0) - (1 : Int32))), .val (.int (0 : Int32)), .unset, .unset] [(.int (own_bI ((own_first p0).toInt ≤ ((own_first p0) - (1 : Int32)).toInt ∧ ((own_first p0) - (1 : Int32)).toInt ≤ (own_last p0 p1).toInt)))])) t → Steps p.tables e below (s₁.setTop (entryFrame m #[(.int p0), (.int p1), (.int p2), (.int p3)] maxLocals)) t := fun t k => k44 t (st45.trans k)
                  have hc286 : (own_bI ((own_first p0).toInt ≤ ((own_first p0) - (1 : Int32)).toInt ∧ ((own_first p0) - (1 : Int32)).toInt ≤ (own_last p0 p1).toInt)) = (0 : Int32) := own_bI_f (by have r0 := own_first_r p0; have r1 := own_last_r p0 p1; have r2 := (own_last p0 p1).toInt_lt; simp only [Int32.lt_iff_toInt_lt, ← Int32.toInt_inj, Int32.reduceToInt] at hc232; have r3 := own_pred (own_first p0) hc232; omega)
                  have k47 : ∀ t, Steps p.tables e below (T45.setTop (mkF m 294 #[.val (.int p0), .val (.int p1), .val (.int p2), .val (.int p3), .val (.int (own_first p0)), .val (.long (own_room p0)), .second, .val (.int (own_last p0 p1)), .val (.int (own_cap p3)), .val (.ref b2), .val (.long (own_u p2)), .second, .val (.int (p3 &&& (7 : Int32))), .val (.int ((own_first p0) - (1 : Int32))), .val (.int (0 : Int32)), .unset, .unset] [(.int (1 : Int32))])) t → Steps p.tables e below (s₁.setTop (entryFrame m #[(.int p0), (.int p1), (.int p2), (.int p3)] maxLocals)) t := fun t k => k46 t (by
                      show Steps p.tables e below (T45.setTop (mkF m 284 #[.val (.int p0), .val (.int p1), .val (.int p2), .val (.int p3), .val (.int (own_first p0)), .val (.long (own_room p0)), .second, .val (.int (own_last p0 p1)), .val (.int (own_cap p3)), .val (.ref b2), .val (.long (own_u p2)), .second, .val (.int (p3 &&& (7 : Int32))), .val (.int ((own_first p0) - (1 : Int32))), .val (.int (0 : Int32)), .unset, .unset] [(.int (own_bI ((own_first p0).toInt ≤ ((own_first p0) - (1 : Int32)).toInt ∧ ((own_first p0) - (1 : Int32)).toInt ≤ (own_last p0 p1).toInt)))])) _
                      refine XS.iload X45.here hx rfl (hb hby at_284) rfl ?_
                      show Steps p.tables e below (T45.setTop (mkF m 286 #[.val (.int p0), .val (.int p1), .val (.int p2), .val (.int p3), .val (.int (own_first p0)), .val (.long (own_room p0)), .second, .val (.int (own_last p0 p1)), .val (.int (own_cap p3)), .val (.ref b2), .val (.long (own_u p2)), .second, .val (.int (p3 &&& (7 : Int32))), .val (.int ((own_first p0) - (1 : Int32))), .val (.int (0 : Int32)), .unset, .unset] [(.int (0 : Int32)), (.int (own_bI ((own_first p0).toInt ≤ ((own_first p0) - (1 : Int32)).toInt ∧ ((own_first p0) - (1 : Int32)).toInt ≤ (own_last p0 p1).toInt)))])) _
                      refine XS.icmpNo X45.here hx rfl (hb hby at_286) rfl (teq hc286).2 ?_
                      show Steps p.tables e below (T45.setTop (mkF m 289 #[.val (.int p0), .val (.int p1), .val (.int p2), .val (.int p3), .val (.int (own_first p0)), .val (.long (own_room p0)), .second, .val (.int (own_last p0 p1)), .val (.int (own_cap p3)), .val (.ref b2), .val (.long (own_u p2)), .second, .val (.int (p3 &&& (7 : Int32))), .val (.int ((own_first p0) - (1 : Int32))), .val (.int (0 : Int32)), .unset, .unset] [])) _
                      refine XS.iconst X45.here hx rfl (hb hby at_289) ?_
                      show Steps p.tables e below (T45.setTop (mkF m 290 #[.val (.int p0), .val (.int p1), .val (.int p2), .val (.int p3), .val (.int (own_first p0)), .val (.long (own_room p0)), .second, .val (.int (own_last p0 p1)), .val (.int (own_cap p3)), .val (.ref b2), .val (.long (own_u p2)), .second, .val (.int (p3 &&& (7 : Int32))), .val (.int ((own_first p0) - (1 : Int32))), .val (.int (0 : Int32)), .unset, .unset] [(.int (1 : Int32))])) _
                      refine XS.goto X45.here hx rfl (pc0 := 290) (pc' := 294) rfl (hb hby at_290) (by decide) (by decide) ?_
                      exact k)
                  obtain ⟨fs, hr, hrun, hended, hW, hsame⟩ := X45.leave (v := (some (.int (1 : Int32)))) (fun h => by rw [Bd.returns] at h; cases h)
                  refine ⟨_, _, k47 _ ?_, hrun, hended, _, _, rfl, ?_, ⟨_, rfl⟩, hW, hsame.mono (by decide) (by decide)⟩
                  · exact retN X45 hx (t := .boolean) Bd.returns (by simp) (hb hby at_294) hr
                  · show Q0 Z p0 p1 p2 p3 h0 n0 _ T45.heap _
                    rw [e45]
                    exact ⟨rfl, N45⟩
                · have k48 : ∀ t, Steps p.tables e below (T5.setTop (mkF m 281 #[.val (.int p0), .val (.int p1), .val (.int p2), .val (.int p3), .val (.int (own_first p0)), .val (.long (own_room p0)), .second, .val (.int (own_last p0 p1)), .val (.int (own_cap p3)), .val (.ref b2), .val (.long (own_u p2)), .second, .val (.int (p3 &&& (7 : Int32))), .val (.int (-2147483648 : Int32)), .val (.int (0 : Int32)), .unset, .unset] [(.int (-2147483648 : Int32)), (.ref b2)])) t → Steps p.tables e below (s₁.setTop (entryFrame m #[(.int p0), (.int p1), (.int p2), (.int p3)] maxLocals)) t := fun t k => k43 t (by
                      show Steps p.tables e below (T5.setTop (mkF m 232 #[.val (.int p0), .val (.int p1), .val (.int p2), .val (.int p3), .val (.int (own_first p0)), .val (.long (own_room p0)), .second, .val (.int (own_last p0 p1)), .val (.int (own_cap p3)), .val (.ref b2), .val (.long (own_u p2)), .second, .val (.int (p3 &&& (7 : Int32))), .unset, .unset, .unset, .unset] [(.int (own_first p0))])) _
                      refine XS.ifYes X5.here hx rfl (pc0 := 232) (pc' := 244) rfl (hb hby at_232) rfl ((if0 _ _).trans (flt hc232).2.2.2) (by decide) (by decide) ?_
                      show Steps p.tables e below (T5.setTop (mkF m 244 #[.val (.int p0), .val (.int p1), .val (.int p2), .val (.int p3), .val (.int (own_first p0)), .val (.long (own_room p0)), .second, .val (.int (own_last p0 p1)), .val (.int (own_cap p3)), .val (.ref b2), .val (.long (own_u p2)), .second, .val (.int (p3 &&& (7 : Int32))), .unset, .unset, .unset, .unset] [])) _
                      refine X5.ldcInt hx hown (mvT hZ (hw _ (List.mem_of_getElem? (i := 23) rfl))) (g := (mkF m 244 #[.val (.int p0), .val (.int p1), .val (.int p2), .val (.int p3), .val (.int (own_first p0)), .val (.long (own_room p0)), .second, .val (.int (own_last p0 p1)), .val (.int (own_cap p3)), .val (.ref b2), .val (.long (own_u p2)), .second, .val (.int (p3 &&& (7 : Int32))), .unset, .unset, .unset, .unset] [])) rfl (hb hby at_244) _ ?_
                      show Steps p.tables e below (T5.setTop (mkF m 246 #[.val (.int p0), .val (.int p1), .val (.int p2), .val (.int p3), .val (.int (own_first p0)), .val (.long (own_room p0)), .second, .val (.int (own_last p0 p1)), .val (.int (own_cap p3)), .val (.ref b2), .val (.long (own_u p2)), .second, .val (.int (p3 &&& (7 : Int32))), .unset, .unset, .unset, .unset] [(.int (-2147483648 : Int32))])) _
                      refine XS.istore X5.here hx rfl (hb hby at_246) rfl (l' := #[.val (.int p0), .val (.int p1), .val (.int p2), .val (.int p3), .val (.int (own_first p0)), .val (.long (own_room p0)), .second, .val (.int (own_last p0 p1)), .val (.int (own_cap p3)), .val (.ref b2), .val (.long (own_u p2)), .second, .val (.int (p3 &&& (7 : Int32))), .val (.int (-2147483648 : Int32)), .unset, .unset, .unset]) rfl ?_
                      show Steps p.tables e below (T5.setTop (mkF m 248 #[.val (.int p0), .val (.int p1), .val (.int p2), .val (.int p3), .val (.int (own_first p0)), .val (.long (own_room p0)), .second, .val (.int (own_last p0 p1)), .val (.int (own_cap p3)), .val (.ref b2), .val (.long (own_u p2)), .second, .val (.int (p3 &&& (7 : Int32))), .val (.int (-2147483648 : Int32)), .unset, .unset, .unset] [])) _
                      refine XS.iconst X5.here hx rfl (hb hby at_248) ?_
                      show Steps p.tables e below (T5.setTop (mkF m 249 #[.val (.int p0), .val (.int p1), .val (.int p2), .val (.int p3), .val (.int (own_first p0)), .val (.long (own_room p0)), .second, .val (.int (own_last p0 p1)), .val (.int (own_cap p3)), .val (.ref b2), .val (.long (own_u p2)), .second, .val (.int (p3 &&& (7 : Int32))), .val (.int (-2147483648 : Int32)), .unset, .unset, .unset] [(.int (0 : Int32))])) _
                      refine XS.istore X5.here hx rfl (hb hby at_249) rfl (l' := #[.val (.int p0), .val (.int p1), .val (.int p2), .val (.int p3), .val (.int (own_first p0)), .val (.long (own_room p0)), .second, .val (.int (own_last p0 p1)), .val (.int (own_cap p3)), .val (.ref b2), .val (.long (own_u p2)), .second, .val (.int (p3 &&& (7 : Int32))), .val (.int (-2147483648 : Int32)), .val (.int (0 : Int32)), .unset, .unset]) rfl ?_
                      show Steps p.tables e below (T5.setTop (mkF m 251 #[.val (.int p0), .val (.int p1), .val (.int p2), .val (.int p3), .val (.int (own_first p0)), .val (.long (own_room p0)), .second, .val (.int (own_last p0 p1)), .val (.int (own_cap p3)), .val (.ref b2), .val (.long (own_u p2)), .second, .val (.int (p3 &&& (7 : Int32))), .val (.int (-2147483648 : Int32)), .val (.int (0 : Int32)), .unset, .unset] [])) _
                      refine XS.goto X5.here hx rfl (pc0 := 251) (pc' := 277) rfl (hb hby at_251) (by decide) (by decide) ?_
                      show Steps p.tables e below (T5.setTop (mkF m 277 #[.val (.int p0), .val (.int p1), .val (.int p2), .val (.int p3), .val (.int (own_first p0)), .val (.long (own_room p0)), .second, .val (.int (own_last p0 p1)), .val (.int (own_cap p3)), .val (.ref b2), .val (.long (own_u p2)), .second, .val (.int (p3 &&& (7 : Int32))), .val (.int (-2147483648 : Int32)), .val (.int (0 : Int32)), .unset, .unset] [])) _
                      refine XS.aload X5.here hx rfl (hb hby at_277) rfl rfl ?_
                      show Steps p.tables e below (T5.setTop (mkF m 279 #[.val (.int p0), .val (.int p1), .val (.int p2), .val (.int p3), .val (.int (own_first p0)), .val (.long (own_room p0)), .second, .val (.int (own_last p0 p1)), .val (.int (own_cap p3)), .val (.ref b2), .val (.long (own_u p2)), .second, .val (.int (p3 &&& (7 : Int32))), .val (.int (-2147483648 : Int32)), .val (.int (0 : Int32)), .unset, .unset] [(.ref b2)])) _
                      refine XS.iload X5.here hx rfl (hb hby at_279) rfl ?_
                      exact k)
                  obtain ⟨cq49, kcq49, q49a, q49b, q49c⟩ := isOf hZ rfl Ex5
                  obtain ⟨_, _, ⟨T49, L49, kq49, n49⟩, -, X49, ⟨Lc49, hQ49, l49, y49, z49⟩, st49⟩ := X5.virtualBack hx (y := (⟨"com/example/backpressure/backpressure/model/CapacityChange", "holdsIn", "(I)Z"⟩ : MethodName)) (z := (⟨"com/example/backpressure/backpressure/model/CapacityChange", "holdsIn", "(I)Z"⟩ : MethodName)) hown (mvT hZ (hw _ (List.mem_of_getElem? (i := 18) rfl))) (mvT hZ (hw _ (List.mem_of_getElem? (i := 19) rfl))) (notFace_of_selects (args := #[]) (mvT hZ (hw _ (List.mem_of_getElem? (i := 21) rfl)))) (mvT hZ (hw _ (List.mem_of_getElem? (i := 21) rfl))) (mvT hZ (hw _ (List.mem_of_getElem? (i := 20) rfl))) (by decide) (backOf (W := 0) (rm3 l Z a0 hw [] b2 (-2147483648 : Int32) (own_first p0) (own_last p0 p1) T5.heap n0 Zs5 Fx5_0 Fx5_1) hZ (hw _ (List.mem_of_getElem? (i := 22) rfl)) (hw _ (List.mem_of_getElem? (i := 4) rfl)) (by decide) (by decide)) q49a q49c (g := (mkF m 281 #[.val (.int p0), .val (.int p1), .val (.int p2), .val (.int p3), .val (.int (own_first p0)), .val (.long (own_room p0)), .second, .val (.int (own_last p0 p1)), .val (.int (own_cap p3)), .val (.ref b2), .val (.long (own_u p2)), .second, .val (.int (p3 &&& (7 : Int32))), .val (.int (-2147483648 : Int32)), .val (.int (0 : Int32)), .unset, .unset] [(.int (-2147483648 : Int32)), (.ref b2)])) rfl (by rw [hml]; rfl) (Steps.refl _) (argsL := [(.int (-2147483648 : Int32))]) (rest := []) (lenOf pd_1 rfl) rfl (by show 2 * 0 + _ ≤ _; exact Nat.le_of_eq rfl) (hb hby at_281) (fun _ _ => ⟨rfl, rfl, (by decide : 1 + 0 ≤ _), (by decide : 3 + 0 ≤ _)⟩)
                  dsimp only [Pt.U, Pt.locs, Pt.cells, Pt.slots] at X49 l49 y49 z49 st49 hQ49
                  subst l49 y49 z49
                  obtain ⟨rfl, N49q, e49⟩ := hQ49
                  have N49 := Fr.app N5 N49q
                  have k50 : ∀ t, Steps p.tables e below (T49.setTop (mkF m 284 #[.val (.int p0), .val (.int p1), .val (.int p2), .val (.int p3), .val (.int (own_first p0)), .val (.long (own_room p0)), .second, .val (.int (own_last p0 p1)), .val (.int (own_cap p3)), .val (.ref b2), .val (.long (own_u p2)), .second, .val (.int (p3 &&& (7 : Int32))), .val (.int (-2147483648 : Int32)), .val (.int (0 : Int32)), .unset, .unset] [(.int (own_bI ((own_first p0).toInt ≤ (-2147483648 : Int32).toInt ∧ (-2147483648 : Int32).toInt ≤ (own_last p0 p1).toInt)))])) t → Steps p.tables e below (s₁.setTop (entryFrame m #[(.int p0), (.int p1), (.int p2), (.int p3)] maxLocals)) t := fun t k => k48 t (st49.trans k)
                  have hc286 : (own_bI ((own_first p0).toInt ≤ (-2147483648 : Int32).toInt ∧ (-2147483648 : Int32).toInt ≤ (own_last p0 p1).toInt)) = (0 : Int32) := own_bI_f (by have r0 := own_first_r p0; have r1 := own_last_r p0 p1; have r2 := (own_last p0 p1).toInt_lt; simp only [Int32.lt_iff_toInt_lt, ← Int32.toInt_inj, Int32.reduceToInt] at hc232; have r3 : (-2147483648 : Int32).toInt = -2147483648 := (by decide); omega)
                  have k51 : ∀ t, Steps p.tables e below (T49.setTop (mkF m 294 #[.val (.int p0), .val (.int p1), .val (.int p2), .val (.int p3), .val (.int (own_first p0)), .val (.long (own_room p0)), .second, .val (.int (own_last p0 p1)), .val (.int (own_cap p3)), .val (.ref b2), .val (.long (own_u p2)), .second, .val (.int (p3 &&& (7 : Int32))), .val (.int (-2147483648 : Int32)), .val (.int (0 : Int32)), .unset, .unset] [(.int (1 : Int32))])) t → Steps p.tables e below (s₁.setTop (entryFrame m #[(.int p0), (.int p1), (.int p2), (.int p3)] maxLocals)) t := fun t k => k50 t (by
                      show Steps p.tables e below (T49.setTop (mkF m 284 #[.val (.int p0), .val (.int p1), .val (.int p2), .val (.int p3), .val (.int (own_first p0)), .val (.long (own_room p0)), .second, .val (.int (own_last p0 p1)), .val (.int (own_cap p3)), .val (.ref b2), .val (.long (own_u p2)), .second, .val (.int (p3 &&& (7 : Int32))), .val (.int (-2147483648 : Int32)), .val (.int (0 : Int32)), .unset, .unset] [(.int (own_bI ((own_first p0).toInt ≤ (-2147483648 : Int32).toInt ∧ (-2147483648 : Int32).toInt ≤ (own_last p0 p1).toInt)))])) _
                      refine XS.iload X49.here hx rfl (hb hby at_284) rfl ?_
                      show Steps p.tables e below (T49.setTop (mkF m 286 #[.val (.int p0), .val (.int p1), .val (.int p2), .val (.int p3), .val (.int (own_first p0)), .val (.long (own_room p0)), .second, .val (.int (own_last p0 p1)), .val (.int (own_cap p3)), .val (.ref b2), .val (.long (own_u p2)), .second, .val (.int (p3 &&& (7 : Int32))), .val (.int (-2147483648 : Int32)), .val (.int (0 : Int32)), .unset, .unset] [(.int (0 : Int32)), (.int (own_bI ((own_first p0).toInt ≤ (-2147483648 : Int32).toInt ∧ (-2147483648 : Int32).toInt ≤ (own_last p0 p1).toInt)))])) _
                      refine XS.icmpNo X49.here hx rfl (hb hby at_286) rfl (teq hc286).2 ?_
                      show Steps p.tables e below (T49.setTop (mkF m 289 #[.val (.int p0), .val (.int p1), .val (.int p2), .val (.int p3), .val (.int (own_first p0)), .val (.long (own_room p0)), .second, .val (.int (own_last p0 p1)), .val (.int (own_cap p3)), .val (.ref b2), .val (.long (own_u p2)), .second, .val (.int (p3 &&& (7 : Int32))), .val (.int (-2147483648 : Int32)), .val (.int (0 : Int32)), .unset, .unset] [])) _
                      refine XS.iconst X49.here hx rfl (hb hby at_289) ?_
                      show Steps p.tables e below (T49.setTop (mkF m 290 #[.val (.int p0), .val (.int p1), .val (.int p2), .val (.int p3), .val (.int (own_first p0)), .val (.long (own_room p0)), .second, .val (.int (own_last p0 p1)), .val (.int (own_cap p3)), .val (.ref b2), .val (.long (own_u p2)), .second, .val (.int (p3 &&& (7 : Int32))), .val (.int (-2147483648 : Int32)), .val (.int (0 : Int32)), .unset, .unset] [(.int (1 : Int32))])) _
                      refine XS.goto X49.here hx rfl (pc0 := 290) (pc' := 294) rfl (hb hby at_290) (by decide) (by decide) ?_
                      exact k)
                  obtain ⟨fs, hr, hrun, hended, hW, hsame⟩ := X49.leave (v := (some (.int (1 : Int32)))) (fun h => by rw [Bd.returns] at h; cases h)
                  refine ⟨_, _, k51 _ ?_, hrun, hended, _, _, rfl, ?_, ⟨_, rfl⟩, hW, hsame.mono (by decide) (by decide)⟩
                  · exact retN X49 hx (t := .boolean) Bd.returns (by simp) (hb hby at_294) hr
                  · show Q0 Z p0 p1 p2 p3 h0 n0 _ T49.heap _
                    rw [e49]
                    exact ⟨rfl, N49⟩
              · have k52 : ∀ t, Steps p.tables e below (T5.setTop (mkF m 258 #[.val (.int p0), .val (.int p1), .val (.int p2), .val (.int p3), .val (.int (own_first p0)), .val (.long (own_room p0)), .second, .val (.int (own_last p0 p1)), .val (.int (own_cap p3)), .val (.ref b2), .val (.long (own_u p2)), .second, .val (.int (p3 &&& (7 : Int32))), .unset, .unset, .unset, .unset] [(.int (2147483647 : Int32)), (.int (own_last p0 p1))])) t → Steps p.tables e below (s₁.setTop (entryFrame m #[(.int p0), (.int p1), (.int p2), (.int p3)] maxLocals)) t := fun t k => k42 t (by
                    show Steps p.tables e below (T5.setTop (mkF m 227 #[.val (.int p0), .val (.int p1), .val (.int p2), .val (.int p3), .val (.int (own_first p0)), .val (.long (own_room p0)), .second, .val (.int (own_last p0 p1)), .val (.int (own_cap p3)), .val (.ref b2), .val (.long (own_u p2)), .second, .val (.int (p3 &&& (7 : Int32))), .unset, .unset, .unset, .unset] [(.int (6 : Int32)), (.int (p3 &&& (7 : Int32)))])) _
                    refine XS.icmpYes X5.here hx rfl (pc0 := 227) (pc' := 254) rfl (hb hby at_227) rfl (feq hc227).2 (by decide) (by decide) ?_
                    show Steps p.tables e below (T5.setTop (mkF m 254 #[.val (.int p0), .val (.int p1), .val (.int p2), .val (.int p3), .val (.int (own_first p0)), .val (.long (own_room p0)), .second, .val (.int (own_last p0 p1)), .val (.int (own_cap p3)), .val (.ref b2), .val (.long (own_u p2)), .second, .val (.int (p3 &&& (7 : Int32))), .unset, .unset, .unset, .unset] [])) _
                    refine XS.iload X5.here hx rfl (hb hby at_254) rfl ?_
                    show Steps p.tables e below (T5.setTop (mkF m 256 #[.val (.int p0), .val (.int p1), .val (.int p2), .val (.int p3), .val (.int (own_first p0)), .val (.long (own_room p0)), .second, .val (.int (own_last p0 p1)), .val (.int (own_cap p3)), .val (.ref b2), .val (.long (own_u p2)), .second, .val (.int (p3 &&& (7 : Int32))), .unset, .unset, .unset, .unset] [(.int (own_last p0 p1))])) _
                    refine X5.ldcInt hx hown (mvT hZ (hw _ (List.mem_of_getElem? (i := 0) rfl))) (g := (mkF m 256 #[.val (.int p0), .val (.int p1), .val (.int p2), .val (.int p3), .val (.int (own_first p0)), .val (.long (own_room p0)), .second, .val (.int (own_last p0 p1)), .val (.int (own_cap p3)), .val (.ref b2), .val (.long (own_u p2)), .second, .val (.int (p3 &&& (7 : Int32))), .unset, .unset, .unset, .unset] [(.int (own_last p0 p1))])) rfl (hb hby at_256) _ ?_
                    exact k)
                by_cases hc258 : (own_last p0 p1) < (2147483647 : Int32)
                · have k53 : ∀ t, Steps p.tables e below (T5.setTop (mkF m 281 #[.val (.int p0), .val (.int p1), .val (.int p2), .val (.int p3), .val (.int (own_first p0)), .val (.long (own_room p0)), .second, .val (.int (own_last p0 p1)), .val (.int (own_cap p3)), .val (.ref b2), .val (.long (own_u p2)), .second, .val (.int (p3 &&& (7 : Int32))), .val (.int ((own_last p0 p1) + (1 : Int32))), .val (.int (0 : Int32)), .unset, .unset] [(.int ((own_last p0 p1) + (1 : Int32))), (.ref b2)])) t → Steps p.tables e below (s₁.setTop (entryFrame m #[(.int p0), (.int p1), (.int p2), (.int p3)] maxLocals)) t := fun t k => k52 t (by
                      show Steps p.tables e below (T5.setTop (mkF m 258 #[.val (.int p0), .val (.int p1), .val (.int p2), .val (.int p3), .val (.int (own_first p0)), .val (.long (own_room p0)), .second, .val (.int (own_last p0 p1)), .val (.int (own_cap p3)), .val (.ref b2), .val (.long (own_u p2)), .second, .val (.int (p3 &&& (7 : Int32))), .unset, .unset, .unset, .unset] [(.int (2147483647 : Int32)), (.int (own_last p0 p1))])) _
                      refine XS.icmpNo X5.here hx rfl (hb hby at_258) rfl (tlt hc258).2.1 ?_
                      show Steps p.tables e below (T5.setTop (mkF m 261 #[.val (.int p0), .val (.int p1), .val (.int p2), .val (.int p3), .val (.int (own_first p0)), .val (.long (own_room p0)), .second, .val (.int (own_last p0 p1)), .val (.int (own_cap p3)), .val (.ref b2), .val (.long (own_u p2)), .second, .val (.int (p3 &&& (7 : Int32))), .unset, .unset, .unset, .unset] [])) _
                      refine XS.iload X5.here hx rfl (hb hby at_261) rfl ?_
                      show Steps p.tables e below (T5.setTop (mkF m 263 #[.val (.int p0), .val (.int p1), .val (.int p2), .val (.int p3), .val (.int (own_first p0)), .val (.long (own_room p0)), .second, .val (.int (own_last p0 p1)), .val (.int (own_cap p3)), .val (.ref b2), .val (.long (own_u p2)), .second, .val (.int (p3 &&& (7 : Int32))), .unset, .unset, .unset, .unset] [(.int (own_last p0 p1))])) _
                      refine XS.iconst X5.here hx rfl (hb hby at_263) ?_
                      show Steps p.tables e below (T5.setTop (mkF m 264 #[.val (.int p0), .val (.int p1), .val (.int p2), .val (.int p3), .val (.int (own_first p0)), .val (.long (own_room p0)), .second, .val (.int (own_last p0 p1)), .val (.int (own_cap p3)), .val (.ref b2), .val (.long (own_u p2)), .second, .val (.int (p3 &&& (7 : Int32))), .unset, .unset, .unset, .unset] [(.int (1 : Int32)), (.int (own_last p0 p1))])) _
                      refine XS.iadd X5.here hx rfl (hb hby at_264) rfl ?_
                      show Steps p.tables e below (T5.setTop (mkF m 265 #[.val (.int p0), .val (.int p1), .val (.int p2), .val (.int p3), .val (.int (own_first p0)), .val (.long (own_room p0)), .second, .val (.int (own_last p0 p1)), .val (.int (own_cap p3)), .val (.ref b2), .val (.long (own_u p2)), .second, .val (.int (p3 &&& (7 : Int32))), .unset, .unset, .unset, .unset] [(.int ((own_last p0 p1) + (1 : Int32)))])) _
                      refine XS.istore X5.here hx rfl (hb hby at_265) rfl (l' := #[.val (.int p0), .val (.int p1), .val (.int p2), .val (.int p3), .val (.int (own_first p0)), .val (.long (own_room p0)), .second, .val (.int (own_last p0 p1)), .val (.int (own_cap p3)), .val (.ref b2), .val (.long (own_u p2)), .second, .val (.int (p3 &&& (7 : Int32))), .val (.int ((own_last p0 p1) + (1 : Int32))), .unset, .unset, .unset]) rfl ?_
                      show Steps p.tables e below (T5.setTop (mkF m 267 #[.val (.int p0), .val (.int p1), .val (.int p2), .val (.int p3), .val (.int (own_first p0)), .val (.long (own_room p0)), .second, .val (.int (own_last p0 p1)), .val (.int (own_cap p3)), .val (.ref b2), .val (.long (own_u p2)), .second, .val (.int (p3 &&& (7 : Int32))), .val (.int ((own_last p0 p1) + (1 : Int32))), .unset, .unset, .unset] [])) _
                      refine XS.goto X5.here hx rfl (pc0 := 267) (pc' := 274) rfl (hb hby at_267) (by decide) (by decide) ?_
                      show Steps p.tables e below (T5.setTop (mkF m 274 #[.val (.int p0), .val (.int p1), .val (.int p2), .val (.int p3), .val (.int (own_first p0)), .val (.long (own_room p0)), .second, .val (.int (own_last p0 p1)), .val (.int (own_cap p3)), .val (.ref b2), .val (.long (own_u p2)), .second, .val (.int (p3 &&& (7 : Int32))), .val (.int ((own_last p0 p1) + (1 : Int32))), .unset, .unset, .unset] [])) _
                      refine XS.iconst X5.here hx rfl (hb hby at_274) ?_
                      show Steps p.tables e below (T5.setTop (mkF m 275 #[.val (.int p0), .val (.int p1), .val (.int p2), .val (.int p3), .val (.int (own_first p0)), .val (.long (own_room p0)), .second, .val (.int (own_last p0 p1)), .val (.int (own_cap p3)), .val (.ref b2), .val (.long (own_u p2)), .second, .val (.int (p3 &&& (7 : Int32))), .val (.int ((own_last p0 p1) + (1 : Int32))), .unset, .unset, .unset] [(.int (0 : Int32))])) _
                      refine XS.istore X5.here hx rfl (hb hby at_275) rfl (l' := #[.val (.int p0), .val (.int p1), .val (.int p2), .val (.int p3), .val (.int (own_first p0)), .val (.long (own_room p0)), .second, .val (.int (own_last p0 p1)), .val (.int (own_cap p3)), .val (.ref b2), .val (.long (own_u p2)), .second, .val (.int (p3 &&& (7 : Int32))), .val (.int ((own_last p0 p1) + (1 : Int32))), .val (.int (0 : Int32)), .unset, .unset]) rfl ?_
                      show Steps p.tables e below (T5.setTop (mkF m 277 #[.val (.int p0), .val (.int p1), .val (.int p2), .val (.int p3), .val (.int (own_first p0)), .val (.long (own_room p0)), .second, .val (.int (own_last p0 p1)), .val (.int (own_cap p3)), .val (.ref b2), .val (.long (own_u p2)), .second, .val (.int (p3 &&& (7 : Int32))), .val (.int ((own_last p0 p1) + (1 : Int32))), .val (.int (0 : Int32)), .unset, .unset] [])) _
                      refine XS.aload X5.here hx rfl (hb hby at_277) rfl rfl ?_
                      show Steps p.tables e below (T5.setTop (mkF m 279 #[.val (.int p0), .val (.int p1), .val (.int p2), .val (.int p3), .val (.int (own_first p0)), .val (.long (own_room p0)), .second, .val (.int (own_last p0 p1)), .val (.int (own_cap p3)), .val (.ref b2), .val (.long (own_u p2)), .second, .val (.int (p3 &&& (7 : Int32))), .val (.int ((own_last p0 p1) + (1 : Int32))), .val (.int (0 : Int32)), .unset, .unset] [(.ref b2)])) _
                      refine XS.iload X5.here hx rfl (hb hby at_279) rfl ?_
                      exact k)
                  obtain ⟨cq54, kcq54, q54a, q54b, q54c⟩ := isOf hZ rfl Ex5
                  obtain ⟨_, _, ⟨T54, L54, kq54, n54⟩, -, X54, ⟨Lc54, hQ54, l54, y54, z54⟩, st54⟩ := X5.virtualBack hx (y := (⟨"com/example/backpressure/backpressure/model/CapacityChange", "holdsIn", "(I)Z"⟩ : MethodName)) (z := (⟨"com/example/backpressure/backpressure/model/CapacityChange", "holdsIn", "(I)Z"⟩ : MethodName)) hown (mvT hZ (hw _ (List.mem_of_getElem? (i := 18) rfl))) (mvT hZ (hw _ (List.mem_of_getElem? (i := 19) rfl))) (notFace_of_selects (args := #[]) (mvT hZ (hw _ (List.mem_of_getElem? (i := 21) rfl)))) (mvT hZ (hw _ (List.mem_of_getElem? (i := 21) rfl))) (mvT hZ (hw _ (List.mem_of_getElem? (i := 20) rfl))) (by decide) (backOf (W := 0) (rm3 l Z a0 hw [] b2 ((own_last p0 p1) + (1 : Int32)) (own_first p0) (own_last p0 p1) T5.heap n0 Zs5 Fx5_0 Fx5_1) hZ (hw _ (List.mem_of_getElem? (i := 22) rfl)) (hw _ (List.mem_of_getElem? (i := 4) rfl)) (by decide) (by decide)) q54a q54c (g := (mkF m 281 #[.val (.int p0), .val (.int p1), .val (.int p2), .val (.int p3), .val (.int (own_first p0)), .val (.long (own_room p0)), .second, .val (.int (own_last p0 p1)), .val (.int (own_cap p3)), .val (.ref b2), .val (.long (own_u p2)), .second, .val (.int (p3 &&& (7 : Int32))), .val (.int ((own_last p0 p1) + (1 : Int32))), .val (.int (0 : Int32)), .unset, .unset] [(.int ((own_last p0 p1) + (1 : Int32))), (.ref b2)])) rfl (by rw [hml]; rfl) (Steps.refl _) (argsL := [(.int ((own_last p0 p1) + (1 : Int32)))]) (rest := []) (lenOf pd_1 rfl) rfl (by show 2 * 0 + _ ≤ _; exact Nat.le_of_eq rfl) (hb hby at_281) (fun _ _ => ⟨rfl, rfl, (by decide : 1 + 0 ≤ _), (by decide : 3 + 0 ≤ _)⟩)
                  dsimp only [Pt.U, Pt.locs, Pt.cells, Pt.slots] at X54 l54 y54 z54 st54 hQ54
                  subst l54 y54 z54
                  obtain ⟨rfl, N54q, e54⟩ := hQ54
                  have N54 := Fr.app N5 N54q
                  have k55 : ∀ t, Steps p.tables e below (T54.setTop (mkF m 284 #[.val (.int p0), .val (.int p1), .val (.int p2), .val (.int p3), .val (.int (own_first p0)), .val (.long (own_room p0)), .second, .val (.int (own_last p0 p1)), .val (.int (own_cap p3)), .val (.ref b2), .val (.long (own_u p2)), .second, .val (.int (p3 &&& (7 : Int32))), .val (.int ((own_last p0 p1) + (1 : Int32))), .val (.int (0 : Int32)), .unset, .unset] [(.int (own_bI ((own_first p0).toInt ≤ ((own_last p0 p1) + (1 : Int32)).toInt ∧ ((own_last p0 p1) + (1 : Int32)).toInt ≤ (own_last p0 p1).toInt)))])) t → Steps p.tables e below (s₁.setTop (entryFrame m #[(.int p0), (.int p1), (.int p2), (.int p3)] maxLocals)) t := fun t k => k53 t (st54.trans k)
                  have hc286 : (own_bI ((own_first p0).toInt ≤ ((own_last p0 p1) + (1 : Int32)).toInt ∧ ((own_last p0 p1) + (1 : Int32)).toInt ≤ (own_last p0 p1).toInt)) = (0 : Int32) := own_bI_f (by have r0 := own_first_r p0; have r1 := own_last_r p0 p1; have r2 := (own_last p0 p1).toInt_lt; simp only [Int32.lt_iff_toInt_lt, ← Int32.toInt_inj, Int32.reduceToInt] at hc258; have r3 := own_succ (own_last p0 p1) hc258; omega)
                  have k56 : ∀ t, Steps p.tables e below (T54.setTop (mkF m 294 #[.val (.int p0), .val (.int p1), .val (.int p2), .val (.int p3), .val (.int (own_first p0)), .val (.long (own_room p0)), .second, .val (.int (own_last p0 p1)), .val (.int (own_cap p3)), .val (.ref b2), .val (.long (own_u p2)), .second, .val (.int (p3 &&& (7 : Int32))), .val (.int ((own_last p0 p1) + (1 : Int32))), .val (.int (0 : Int32)), .unset, .unset] [(.int (1 : Int32))])) t → Steps p.tables e below (s₁.setTop (entryFrame m #[(.int p0), (.int p1), (.int p2), (.int p3)] maxLocals)) t := fun t k => k55 t (by
                      show Steps p.tables e below (T54.setTop (mkF m 284 #[.val (.int p0), .val (.int p1), .val (.int p2), .val (.int p3), .val (.int (own_first p0)), .val (.long (own_room p0)), .second, .val (.int (own_last p0 p1)), .val (.int (own_cap p3)), .val (.ref b2), .val (.long (own_u p2)), .second, .val (.int (p3 &&& (7 : Int32))), .val (.int ((own_last p0 p1) + (1 : Int32))), .val (.int (0 : Int32)), .unset, .unset] [(.int (own_bI ((own_first p0).toInt ≤ ((own_last p0 p1) + (1 : Int32)).toInt ∧ ((own_last p0 p1) + (1 : Int32)).toInt ≤ (own_last p0 p1).toInt)))])) _
                      refine XS.iload X54.here hx rfl (hb hby at_284) rfl ?_
                      show Steps p.tables e below (T54.setTop (mkF m 286 #[.val (.int p0), .val (.int p1), .val (.int p2), .val (.int p3), .val (.int (own_first p0)), .val (.long (own_room p0)), .second, .val (.int (own_last p0 p1)), .val (.int (own_cap p3)), .val (.ref b2), .val (.long (own_u p2)), .second, .val (.int (p3 &&& (7 : Int32))), .val (.int ((own_last p0 p1) + (1 : Int32))), .val (.int (0 : Int32)), .unset, .unset] [(.int (0 : Int32)), (.int (own_bI ((own_first p0).toInt ≤ ((own_last p0 p1) + (1 : Int32)).toInt ∧ ((own_last p0 p1) + (1 : Int32)).toInt ≤ (own_last p0 p1).toInt)))])) _
                      refine XS.icmpNo X54.here hx rfl (hb hby at_286) rfl (teq hc286).2 ?_
                      show Steps p.tables e below (T54.setTop (mkF m 289 #[.val (.int p0), .val (.int p1), .val (.int p2), .val (.int p3), .val (.int (own_first p0)), .val (.long (own_room p0)), .second, .val (.int (own_last p0 p1)), .val (.int (own_cap p3)), .val (.ref b2), .val (.long (own_u p2)), .second, .val (.int (p3 &&& (7 : Int32))), .val (.int ((own_last p0 p1) + (1 : Int32))), .val (.int (0 : Int32)), .unset, .unset] [])) _
                      refine XS.iconst X54.here hx rfl (hb hby at_289) ?_
                      show Steps p.tables e below (T54.setTop (mkF m 290 #[.val (.int p0), .val (.int p1), .val (.int p2), .val (.int p3), .val (.int (own_first p0)), .val (.long (own_room p0)), .second, .val (.int (own_last p0 p1)), .val (.int (own_cap p3)), .val (.ref b2), .val (.long (own_u p2)), .second, .val (.int (p3 &&& (7 : Int32))), .val (.int ((own_last p0 p1) + (1 : Int32))), .val (.int (0 : Int32)), .unset, .unset] [(.int (1 : Int32))])) _
                      refine XS.goto X54.here hx rfl (pc0 := 290) (pc' := 294) rfl (hb hby at_290) (by decide) (by decide) ?_
                      exact k)
                  obtain ⟨fs, hr, hrun, hended, hW, hsame⟩ := X54.leave (v := (some (.int (1 : Int32)))) (fun h => by rw [Bd.returns] at h; cases h)
                  refine ⟨_, _, k56 _ ?_, hrun, hended, _, _, rfl, ?_, ⟨_, rfl⟩, hW, hsame.mono (by decide) (by decide)⟩
                  · exact retN X54 hx (t := .boolean) Bd.returns (by simp) (hb hby at_294) hr
                  · show Q0 Z p0 p1 p2 p3 h0 n0 _ T54.heap _
                    rw [e54]
                    exact ⟨rfl, N54⟩
                · have k57 : ∀ t, Steps p.tables e below (T5.setTop (mkF m 281 #[.val (.int p0), .val (.int p1), .val (.int p2), .val (.int p3), .val (.int (own_first p0)), .val (.long (own_room p0)), .second, .val (.int (own_last p0 p1)), .val (.int (own_cap p3)), .val (.ref b2), .val (.long (own_u p2)), .second, .val (.int (p3 &&& (7 : Int32))), .val (.int (-2147483648 : Int32)), .val (.int (0 : Int32)), .unset, .unset] [(.int (-2147483648 : Int32)), (.ref b2)])) t → Steps p.tables e below (s₁.setTop (entryFrame m #[(.int p0), (.int p1), (.int p2), (.int p3)] maxLocals)) t := fun t k => k52 t (by
                      show Steps p.tables e below (T5.setTop (mkF m 258 #[.val (.int p0), .val (.int p1), .val (.int p2), .val (.int p3), .val (.int (own_first p0)), .val (.long (own_room p0)), .second, .val (.int (own_last p0 p1)), .val (.int (own_cap p3)), .val (.ref b2), .val (.long (own_u p2)), .second, .val (.int (p3 &&& (7 : Int32))), .unset, .unset, .unset, .unset] [(.int (2147483647 : Int32)), (.int (own_last p0 p1))])) _
                      refine XS.icmpYes X5.here hx rfl (pc0 := 258) (pc' := 270) rfl (hb hby at_258) rfl (flt hc258).2.1 (by decide) (by decide) ?_
                      show Steps p.tables e below (T5.setTop (mkF m 270 #[.val (.int p0), .val (.int p1), .val (.int p2), .val (.int p3), .val (.int (own_first p0)), .val (.long (own_room p0)), .second, .val (.int (own_last p0 p1)), .val (.int (own_cap p3)), .val (.ref b2), .val (.long (own_u p2)), .second, .val (.int (p3 &&& (7 : Int32))), .unset, .unset, .unset, .unset] [])) _
                      refine X5.ldcInt hx hown (mvT hZ (hw _ (List.mem_of_getElem? (i := 23) rfl))) (g := (mkF m 270 #[.val (.int p0), .val (.int p1), .val (.int p2), .val (.int p3), .val (.int (own_first p0)), .val (.long (own_room p0)), .second, .val (.int (own_last p0 p1)), .val (.int (own_cap p3)), .val (.ref b2), .val (.long (own_u p2)), .second, .val (.int (p3 &&& (7 : Int32))), .unset, .unset, .unset, .unset] [])) rfl (hb hby at_270) _ ?_
                      show Steps p.tables e below (T5.setTop (mkF m 272 #[.val (.int p0), .val (.int p1), .val (.int p2), .val (.int p3), .val (.int (own_first p0)), .val (.long (own_room p0)), .second, .val (.int (own_last p0 p1)), .val (.int (own_cap p3)), .val (.ref b2), .val (.long (own_u p2)), .second, .val (.int (p3 &&& (7 : Int32))), .unset, .unset, .unset, .unset] [(.int (-2147483648 : Int32))])) _
                      refine XS.istore X5.here hx rfl (hb hby at_272) rfl (l' := #[.val (.int p0), .val (.int p1), .val (.int p2), .val (.int p3), .val (.int (own_first p0)), .val (.long (own_room p0)), .second, .val (.int (own_last p0 p1)), .val (.int (own_cap p3)), .val (.ref b2), .val (.long (own_u p2)), .second, .val (.int (p3 &&& (7 : Int32))), .val (.int (-2147483648 : Int32)), .unset, .unset, .unset]) rfl ?_
                      show Steps p.tables e below (T5.setTop (mkF m 274 #[.val (.int p0), .val (.int p1), .val (.int p2), .val (.int p3), .val (.int (own_first p0)), .val (.long (own_room p0)), .second, .val (.int (own_last p0 p1)), .val (.int (own_cap p3)), .val (.ref b2), .val (.long (own_u p2)), .second, .val (.int (p3 &&& (7 : Int32))), .val (.int (-2147483648 : Int32)), .unset, .unset, .unset] [])) _
                      refine XS.iconst X5.here hx rfl (hb hby at_274) ?_
                      show Steps p.tables e below (T5.setTop (mkF m 275 #[.val (.int p0), .val (.int p1), .val (.int p2), .val (.int p3), .val (.int (own_first p0)), .val (.long (own_room p0)), .second, .val (.int (own_last p0 p1)), .val (.int (own_cap p3)), .val (.ref b2), .val (.long (own_u p2)), .second, .val (.int (p3 &&& (7 : Int32))), .val (.int (-2147483648 : Int32)), .unset, .unset, .unset] [(.int (0 : Int32))])) _
                      refine XS.istore X5.here hx rfl (hb hby at_275) rfl (l' := #[.val (.int p0), .val (.int p1), .val (.int p2), .val (.int p3), .val (.int (own_first p0)), .val (.long (own_room p0)), .second, .val (.int (own_last p0 p1)), .val (.int (own_cap p3)), .val (.ref b2), .val (.long (own_u p2)), .second, .val (.int (p3 &&& (7 : Int32))), .val (.int (-2147483648 : Int32)), .val (.int (0 : Int32)), .unset, .unset]) rfl ?_
                      show Steps p.tables e below (T5.setTop (mkF m 277 #[.val (.int p0), .val (.int p1), .val (.int p2), .val (.int p3), .val (.int (own_first p0)), .val (.long (own_room p0)), .second, .val (.int (own_last p0 p1)), .val (.int (own_cap p3)), .val (.ref b2), .val (.long (own_u p2)), .second, .val (.int (p3 &&& (7 : Int32))), .val (.int (-2147483648 : Int32)), .val (.int (0 : Int32)), .unset, .unset] [])) _
                      refine XS.aload X5.here hx rfl (hb hby at_277) rfl rfl ?_
                      show Steps p.tables e below (T5.setTop (mkF m 279 #[.val (.int p0), .val (.int p1), .val (.int p2), .val (.int p3), .val (.int (own_first p0)), .val (.long (own_room p0)), .second, .val (.int (own_last p0 p1)), .val (.int (own_cap p3)), .val (.ref b2), .val (.long (own_u p2)), .second, .val (.int (p3 &&& (7 : Int32))), .val (.int (-2147483648 : Int32)), .val (.int (0 : Int32)), .unset, .unset] [(.ref b2)])) _
                      refine XS.iload X5.here hx rfl (hb hby at_279) rfl ?_
                      exact k)
                  obtain ⟨cq58, kcq58, q58a, q58b, q58c⟩ := isOf hZ rfl Ex5
                  obtain ⟨_, _, ⟨T58, L58, kq58, n58⟩, -, X58, ⟨Lc58, hQ58, l58, y58, z58⟩, st58⟩ := X5.virtualBack hx (y := (⟨"com/example/backpressure/backpressure/model/CapacityChange", "holdsIn", "(I)Z"⟩ : MethodName)) (z := (⟨"com/example/backpressure/backpressure/model/CapacityChange", "holdsIn", "(I)Z"⟩ : MethodName)) hown (mvT hZ (hw _ (List.mem_of_getElem? (i := 18) rfl))) (mvT hZ (hw _ (List.mem_of_getElem? (i := 19) rfl))) (notFace_of_selects (args := #[]) (mvT hZ (hw _ (List.mem_of_getElem? (i := 21) rfl)))) (mvT hZ (hw _ (List.mem_of_getElem? (i := 21) rfl))) (mvT hZ (hw _ (List.mem_of_getElem? (i := 20) rfl))) (by decide) (backOf (W := 0) (rm3 l Z a0 hw [] b2 (-2147483648 : Int32) (own_first p0) (own_last p0 p1) T5.heap n0 Zs5 Fx5_0 Fx5_1) hZ (hw _ (List.mem_of_getElem? (i := 22) rfl)) (hw _ (List.mem_of_getElem? (i := 4) rfl)) (by decide) (by decide)) q58a q58c (g := (mkF m 281 #[.val (.int p0), .val (.int p1), .val (.int p2), .val (.int p3), .val (.int (own_first p0)), .val (.long (own_room p0)), .second, .val (.int (own_last p0 p1)), .val (.int (own_cap p3)), .val (.ref b2), .val (.long (own_u p2)), .second, .val (.int (p3 &&& (7 : Int32))), .val (.int (-2147483648 : Int32)), .val (.int (0 : Int32)), .unset, .unset] [(.int (-2147483648 : Int32)), (.ref b2)])) rfl (by rw [hml]; rfl) (Steps.refl _) (argsL := [(.int (-2147483648 : Int32))]) (rest := []) (lenOf pd_1 rfl) rfl (by show 2 * 0 + _ ≤ _; exact Nat.le_of_eq rfl) (hb hby at_281) (fun _ _ => ⟨rfl, rfl, (by decide : 1 + 0 ≤ _), (by decide : 3 + 0 ≤ _)⟩)
                  dsimp only [Pt.U, Pt.locs, Pt.cells, Pt.slots] at X58 l58 y58 z58 st58 hQ58
                  subst l58 y58 z58
                  obtain ⟨rfl, N58q, e58⟩ := hQ58
                  have N58 := Fr.app N5 N58q
                  have k59 : ∀ t, Steps p.tables e below (T58.setTop (mkF m 284 #[.val (.int p0), .val (.int p1), .val (.int p2), .val (.int p3), .val (.int (own_first p0)), .val (.long (own_room p0)), .second, .val (.int (own_last p0 p1)), .val (.int (own_cap p3)), .val (.ref b2), .val (.long (own_u p2)), .second, .val (.int (p3 &&& (7 : Int32))), .val (.int (-2147483648 : Int32)), .val (.int (0 : Int32)), .unset, .unset] [(.int (own_bI ((own_first p0).toInt ≤ (-2147483648 : Int32).toInt ∧ (-2147483648 : Int32).toInt ≤ (own_last p0 p1).toInt)))])) t → Steps p.tables e below (s₁.setTop (entryFrame m #[(.int p0), (.int p1), (.int p2), (.int p3)] maxLocals)) t := fun t k => k57 t (st58.trans k)
                  have hc286 : (own_bI ((own_first p0).toInt ≤ (-2147483648 : Int32).toInt ∧ (-2147483648 : Int32).toInt ≤ (own_last p0 p1).toInt)) = (0 : Int32) := own_bI_f (by have r0 := own_first_r p0; have r1 := own_last_r p0 p1; have r2 := (own_last p0 p1).toInt_lt; simp only [Int32.lt_iff_toInt_lt, ← Int32.toInt_inj, Int32.reduceToInt] at hc258; have r3 : (-2147483648 : Int32).toInt = -2147483648 := (by decide); omega)
                  have k60 : ∀ t, Steps p.tables e below (T58.setTop (mkF m 294 #[.val (.int p0), .val (.int p1), .val (.int p2), .val (.int p3), .val (.int (own_first p0)), .val (.long (own_room p0)), .second, .val (.int (own_last p0 p1)), .val (.int (own_cap p3)), .val (.ref b2), .val (.long (own_u p2)), .second, .val (.int (p3 &&& (7 : Int32))), .val (.int (-2147483648 : Int32)), .val (.int (0 : Int32)), .unset, .unset] [(.int (1 : Int32))])) t → Steps p.tables e below (s₁.setTop (entryFrame m #[(.int p0), (.int p1), (.int p2), (.int p3)] maxLocals)) t := fun t k => k59 t (by
                      show Steps p.tables e below (T58.setTop (mkF m 284 #[.val (.int p0), .val (.int p1), .val (.int p2), .val (.int p3), .val (.int (own_first p0)), .val (.long (own_room p0)), .second, .val (.int (own_last p0 p1)), .val (.int (own_cap p3)), .val (.ref b2), .val (.long (own_u p2)), .second, .val (.int (p3 &&& (7 : Int32))), .val (.int (-2147483648 : Int32)), .val (.int (0 : Int32)), .unset, .unset] [(.int (own_bI ((own_first p0).toInt ≤ (-2147483648 : Int32).toInt ∧ (-2147483648 : Int32).toInt ≤ (own_last p0 p1).toInt)))])) _
                      refine XS.iload X58.here hx rfl (hb hby at_284) rfl ?_
                      show Steps p.tables e below (T58.setTop (mkF m 286 #[.val (.int p0), .val (.int p1), .val (.int p2), .val (.int p3), .val (.int (own_first p0)), .val (.long (own_room p0)), .second, .val (.int (own_last p0 p1)), .val (.int (own_cap p3)), .val (.ref b2), .val (.long (own_u p2)), .second, .val (.int (p3 &&& (7 : Int32))), .val (.int (-2147483648 : Int32)), .val (.int (0 : Int32)), .unset, .unset] [(.int (0 : Int32)), (.int (own_bI ((own_first p0).toInt ≤ (-2147483648 : Int32).toInt ∧ (-2147483648 : Int32).toInt ≤ (own_last p0 p1).toInt)))])) _
                      refine XS.icmpNo X58.here hx rfl (hb hby at_286) rfl (teq hc286).2 ?_
                      show Steps p.tables e below (T58.setTop (mkF m 289 #[.val (.int p0), .val (.int p1), .val (.int p2), .val (.int p3), .val (.int (own_first p0)), .val (.long (own_room p0)), .second, .val (.int (own_last p0 p1)), .val (.int (own_cap p3)), .val (.ref b2), .val (.long (own_u p2)), .second, .val (.int (p3 &&& (7 : Int32))), .val (.int (-2147483648 : Int32)), .val (.int (0 : Int32)), .unset, .unset] [])) _
                      refine XS.iconst X58.here hx rfl (hb hby at_289) ?_
                      show Steps p.tables e below (T58.setTop (mkF m 290 #[.val (.int p0), .val (.int p1), .val (.int p2), .val (.int p3), .val (.int (own_first p0)), .val (.long (own_room p0)), .second, .val (.int (own_last p0 p1)), .val (.int (own_cap p3)), .val (.ref b2), .val (.long (own_u p2)), .second, .val (.int (p3 &&& (7 : Int32))), .val (.int (-2147483648 : Int32)), .val (.int (0 : Int32)), .unset, .unset] [(.int (1 : Int32))])) _
                      refine XS.goto X58.here hx rfl (pc0 := 290) (pc' := 294) rfl (hb hby at_290) (by decide) (by decide) ?_
                      exact k)
                  obtain ⟨fs, hr, hrun, hended, hW, hsame⟩ := X58.leave (v := (some (.int (1 : Int32)))) (fun h => by rw [Bd.returns] at h; cases h)
                  refine ⟨_, _, k60 _ ?_, hrun, hended, _, _, rfl, ?_, ⟨_, rfl⟩, hW, hsame.mono (by decide) (by decide)⟩
                  · exact retN X58 hx (t := .boolean) Bd.returns (by simp) (hb hby at_294) hr
                  · show Q0 Z p0 p1 p2 p3 h0 n0 _ T58.heap _
                    rw [e58]
                    exact ⟨rfl, N58⟩
set_option maxRecDepth 65536 in
set_option maxHeartbeats 40000000 in
theorem comes_1 {Post : Tables → Env → Array Value → State → Outcome → State → Prop} (hpost : ∀ tb e args s v u, (limb_1_1.after args s (.returned v) u = true ∧ limb_1_2.after args s (.returned v) u = true ∧ True) → FrameEnd s (.returned v) u (Jvm.fieldLocs frame_1_writes args s ++ Jvm.arrayLocs frame_1_arrays args s ++ Jvm.staticLocs frame_1_statics s) 16 128 → Post tb e args s (.returned v) u) :
    ArmFor flags0 classFile x code maxLocals ret World_1 tables_1 room_1 Calls_1 rest_1 Pre_1 Post := by
  intro l hfl _ _ p e ha hc hk s m args below hf hA hF happ hP
  obtain ⟨hcalls, hrest, hpre⟩ := hP
  obtain ⟨-, -, -, hnamed, -, -, -, hat⟩ := (Spec.applies_iff hf).mp happ
  obtain ⟨hg, hn⟩ := and_e (Cond.before_iff.mp (show (Jvm.Cond.and given_1 narrow_1).before args s = true from hpre))
  obtain ⟨hcount, hgs⟩ := and_e hg
  obtain ⟨w0, w1, w2, w3, rfl⟩ : ∃ w0 w1 w2 w3 : Value, args = #[w0, w1, w2, w3] := by
    have hs : args.size = 4 := by simpa [Cond.value, given_1] using hcount
    obtain ⟨L⟩ := args
    match L, hs with
    | [w0, w1, w2, w3], _ => exact ⟨w0, w1, w2, w3, rfl⟩
  have hw := fun d (hd : d ∈ tables_1) => atoms_spec (ws := Jvm.Cond.code x code maxLocals ret :: tables_1) hat d (List.mem_cons_of_mem _ hd)
  obtain ⟨hg0, hgr0⟩ := and_e hgs
  obtain ⟨i0, ei0⟩ := is_v hg0
  obtain rfl : w0 = (.int i0) := Option.some.inj ei0
  obtain ⟨hg1, hgr1⟩ := and_e hgr0
  obtain ⟨i1, ei1⟩ := is_v hg1
  obtain rfl : w1 = (.int i1) := Option.some.inj ei1
  obtain ⟨hg2, hgr2⟩ := and_e hgr1
  obtain ⟨i2, ei2⟩ := is_v hg2
  obtain rfl : w2 = (.int i2) := Option.some.inj ei2
  obtain ⟨i3, ei3⟩ := is_v hgr2
  obtain rfl : w3 = (.int i3) := Option.some.inj ei3
  obtain ⟨n, o, h1, h2, h3, _, L, rfl, ⟨rfl, N⟩, hq⟩ := rm0 l s _ hw tables_1 i0 i1 i2 i3 s.heap s.heap.size (Nat.le_refl _) p e ha hc hk s m _ below hf ((Spec.applies_iff_loose hf).mp happ).1 ⟨rfl, State.Warmed39.refl s, rfl⟩ trivial
  refine ⟨n, _, h1, h2, h3, hpost _ _ _ _ _ _ ⟨Cond.after_iff.mpr rfl, Cond.after_iff.mpr (eq_i res_at (Term.int_eval (1)) rfl), trivial⟩ ⟨hq.1, hq.2.1, (hq.2.2.sift fun y hy => Or.inr (N y hy)).mono (by decide) (by decide)⟩⟩
theorem main_1_1 : Claimed_1_1 := comes_1 fun _ _ _ _ _ _ h hF => ⟨h.1, hF⟩
theorem main_1_2 : Claimed_1_2 := comes_1 fun _ _ _ _ _ _ h hF => ⟨h.2.1, hF⟩
end Jvm.Pilot.@@N@@
namespace Jvm.Pilot.@@N@@
open Jvm Jvm.ClassFile Sem Op Lib Jvm.Free Jvm.Stand Jvm.Pilot.@@N@@.Jvm.D
/-! MADE BY PROGRAM (witnessworld.py) out of the Statement's table words and the real class files: 9 classes; the members and pool entries that the words name. The judged class is class 1, her method 1. -/
namespace start1
open Jvm.ClassFile
def u (s : String) : CpInfo := .utf8 (stringToUtf16 s)
/-- a pool by its gaps: so many unusable entries, then the entry; so many at the end -/
def gap : Nat → List CpInfo → List CpInfo
  | 0, r => r
  | n + 1, r => .unusable :: gap n r
def poolList (es : List (Nat × CpInfo)) (last : Nat) : List CpInfo := es.foldr (fun e r => gap e.1 (e.2 :: r)) (gap last [])
def pool (es : List (Nat × CpInfo)) (last : Nat) : Array CpInfo := ⟨poolList es last⟩
def fileOf (pool : Array CpInfo) (this : Nat) (attrs : Array Attribute := #[]) (ms : Array MethodInfo := #[]) (fl : Nat := 33) (sup : Nat := 0) (ifs : Array Nat := #[]) (fds : Array FieldInfo := #[]) : ClassFile where
  minorVersion := 0
  majorVersion := 65
  constantPool := pool
  accessFlags := fl
  thisClass := this
  superClass := sup
  interfaces := ifs
  fields := fds
  methods := ms
  attributes := attrs
def plain (name : String) (sup : Option ClassId) : Class where
  name := name
  kind := .ordinary
  loader := none
  accessFlags := 33
  super := sup
  interfaces := #[]
  cf := none
  fields := #[]
  methods := #[]
  instanceTypes := #[]
  staticTypes := #[]
  resolved := #[]
  callSites := []
  init := .initialized
  statics := none
  mirror := none

def pool0 : Array CpInfo := pool [(5, u "<init>"), (0, u "()V"), (1, .class_ 10), (1, u "java/lang/Object")] 113

def k0c0 : Code := { maxStack := 0, maxLocals := 1, code := object_method_1_code, exceptionTable := #[], attributes := #[] }
def k0m0 : Method := { name := "<init>", desc := "()V", sig := { parameters := [], returnType := none }, accessFlags := 1, code := some k0c0 }
/-- java/lang/Object -/
def k0 : Class := { plain "java/lang/Object" none with
  accessFlags := 33
  interfaces := #[]
  cf := some (fileOf pool0 8 #[] #[{ accessFlags := 1, nameIndex := 5, descriptorIndex := 6, attributes := #[] }] 33 0 #[] #[])
  fields := #[]
  methods := #[k0m0]
  instanceTypes := #[]
  staticTypes := #[]
  resolved := Array.replicate 124 none
  statics := none }

def pool1 : Array CpInfo := pool [(2, .class_ 4), (1, u "java/lang/Object"), (0, u "<init>"), (0, u "()V"), (0, .integer 2147483647), (2, .long 2147483647), (1, .class_ 13), (0, u "com/example/backpressure/backpressure/model/CapacityChange"), (0, .methodref 12 15), (0, .nameAndType 5 16), (0, u "(III)V"), (0, .long 18446744071562067968), (1, .integer 2147483648), (0, .methodref 12 21), (0, .nameAndType 22 23), (0, u "holdsIn"), (0, u "(I)Z"), (0, .class_ 25), (0, u "com/example/backpressure/backpressure/model/CapacityChangeHoldsInPinLaw"), (2, u "law"), (0, u "(IIII)Z")] 3

def k1m0 : Method := { name := "<init>", desc := "()V", sig := { parameters := [], returnType := none }, accessFlags := 1, code := none }
def k1c1 : Code := { maxStack := 6, maxLocals := 17, code := code, exceptionTable := #[], attributes := #[] }
def k1m1 : Method := { name := "law", desc := "(IIII)Z", sig := { parameters := [.int, .int, .int, .int], returnType := some .boolean }, accessFlags := 9, code := some k1c1 }
/-- com/example/backpressure/backpressure/model/CapacityChangeHoldsInPinLaw -/
def k1 : Class := { plain "com/example/backpressure/backpressure/model/CapacityChangeHoldsInPinLaw" (some 0) with
  accessFlags := 49
  interfaces := #[]
  cf := some (fileOf pool1 24 #[] #[{ accessFlags := 1, nameIndex := 5, descriptorIndex := 6, attributes := #[] }, { accessFlags := 9, nameIndex := 28, descriptorIndex := 29, attributes := #[] }] 49 2 #[] #[])
  fields := #[]
  methods := #[k1m0, k1m1]
  instanceTypes := #[]
  staticTypes := #[]
  resolved := Array.replicate 33 none
  statics := none }

def pool2 : Array CpInfo := pool [(1, .methodref 2 3), (0, .class_ 4), (0, .nameAndType 5 6), (0, u "java/lang/Object"), (0, u "<init>"), (0, u "()V"), (12, .fieldref 20 21), (0, .class_ 22), (0, .nameAndType 23 24), (0, u "com/example/backpressure/backpressure/model/CapacityChange"), (0, u "firstStep"), (0, u "I"), (0, .fieldref 20 26), (0, .nameAndType 27 24), (0, u "lastStep"), (0, .fieldref 20 29), (0, .nameAndType 30 24), (0, u "capacity"), (0, u "(III)V"), (7, u "holdsIn"), (0, u "(I)Z")] 19

def k2c0 : Code := { maxStack := 4, maxLocals := 4, code := prog_12_method_1_code, exceptionTable := #[], attributes := #[] }
def k2m0 : Method := { name := "<init>", desc := "(III)V", sig := { parameters := [.int, .int, .int], returnType := none }, accessFlags := 1, code := some k2c0 }
def k2c1 : Code := { maxStack := 2, maxLocals := 2, code := prog_12_method_5_code, exceptionTable := #[], attributes := #[] }
def k2m1 : Method := { name := "holdsIn", desc := "(I)Z", sig := { parameters := [.int], returnType := some .boolean }, accessFlags := 1, code := some k2c1 }
/-- com/example/backpressure/backpressure/model/CapacityChange -/
def k2 : Class := { plain "com/example/backpressure/backpressure/model/CapacityChange" (some 0) with
  accessFlags := 33
  interfaces := #[]
  cf := some (fileOf pool2 20 #[] #[{ accessFlags := 1, nameIndex := 5, descriptorIndex := 31, attributes := #[] }, { accessFlags := 1, nameIndex := 39, descriptorIndex := 40, attributes := #[] }] 33 2 #[] #[{ accessFlags := 18, nameIndex := 23, descriptorIndex := 24, attributes := #[] }, { accessFlags := 18, nameIndex := 27, descriptorIndex := 24, attributes := #[] }, { accessFlags := 18, nameIndex := 30, descriptorIndex := 24, attributes := #[] }])
  fields := #[{ name := "firstStep", type := .int, accessFlags := 18, slot := 0, constantValue := 0 }, { name := "lastStep", type := .int, accessFlags := 18, slot := 1, constantValue := 0 }, { name := "capacity", type := .int, accessFlags := 18, slot := 2, constantValue := 0 }]
  methods := #[k2m0, k2m1]
  instanceTypes := #[.int, .int, .int]
  staticTypes := #[]
  resolved := Array.replicate 60 none
  statics := none }

def pool3 : Array CpInfo := pool [(1, u "java/lang/Cloneable"), (0, .class_ 1), (0, u "java/lang/Object"), (0, .class_ 3)] 3

/-- java/lang/Cloneable -/
def k3 : Class := { plain "java/lang/Cloneable" (some 0) with
  accessFlags := 1537
  interfaces := #[]
  cf := some (fileOf pool3 2 #[] #[] 1537 4 #[] #[])
  fields := #[]
  methods := #[]
  instanceTypes := #[]
  staticTypes := #[]
  resolved := Array.replicate 8 none
  statics := none }

def pool4 : Array CpInfo := pool [(1, u "java/io/Serializable"), (0, .class_ 1), (0, u "java/lang/Object"), (0, .class_ 3)] 3

/-- java/io/Serializable -/
def k4 : Class := { plain "java/io/Serializable" (some 0) with
  accessFlags := 1537
  interfaces := #[]
  cf := some (fileOf pool4 2 #[] #[] 1537 4 #[] #[])
  fields := #[]
  methods := #[]
  instanceTypes := #[]
  staticTypes := #[]
  resolved := Array.replicate 8 none
  statics := none }

/-- the primitive byte -/
def k5 : Class := { plain "byte" none with kind := .primitive 'B', accessFlags := 0x411 }
/-- [B -/
def k6 : Class := { plain "[B" (some 0) with kind := .array 5 .byte, interfaces := #[3, 4], accessFlags := 1041 }

/-- the primitive int -/
def k7 : Class := { plain "int" none with kind := .primitive 'I', accessFlags := 0x411 }
/-- [I -/
def k8 : Class := { plain "[I" (some 0) with kind := .array 7 .int, interfaces := #[3, 4], accessFlags := 1041 }

def heap : Heap := #[]
def classes : Array Class := #[k0, k1, k2, k3, k4, k5, k6, k7, k8]
def interned : List (Array UInt16 × Addr) := []
def slotsUsed : Nat := 0
def theMethod : MethodId := ⟨1, 1⟩
def args0 : Array Value := #[.int 5, .int 300, .int 7, .int 5]
def aboutOver (below : List Frame) : State where
  vm := { classes := classes, interned := interned.toArray }
  heap := heap
  slotsUsed := slotsUsed
  threads := #[{ frames := .invoking theMethod args0 :: below }]
def below0 : List Frame := [.native { method := ⟨0, 0⟩, args := #[] }]
def about1 : State := aboutOver below0
def p0 : Program := .bare "" "" ""
def e0 : Env := launch0.env 0 0 0
theorem w_frames : about1.frames = Frame.invoking theMethod args0 :: below0 := rfl
set_option maxRecDepth 65536 in
theorem w_args : argsFit about1.vm theMethod args0 = true := by decide +kernel
set_option maxRecDepth 65536 in
theorem w_heap : heapFits about1 = true := by decide +kernel
set_option maxRecDepth 65536 in
theorem w_runnable : about1.curStatus? = some .runnable := by decide +kernel
set_option maxRecDepth 65536 in
theorem w_alone : about1.alone = true := by decide +kernel
set_option maxRecDepth 65536 in
theorem w_named : about1.methodNamed? x = some theMethod := by decide +kernel
set_option maxRecDepth 65536 in
theorem w_hears : about1.hears theMethod below0 = true := by decide +kernel
set_option maxRecDepth 65536 in
theorem w_ripe : about1.ripe theMethod args0 below0 = true := by decide +kernel
theorem w_running : about1.status = .running := rfl
set_option maxRecDepth 65536 in
theorem w_room : about1.hasRoom e0.platform room_1 = true :=
  launch0.hasRoom_least _ room_1 (by decide +kernel) (by decide +kernel) (by decide +kernel) (by decide +kernel) (by decide +kernel) (by decide +kernel)
theorem allAtoms_all (ts : List Jvm.Cond) (a : Array Jvm.Value) (st : Jvm.State) : (allAtoms ts).before a st = ts.all (fun c => c.before a st) := by
  induction ts with
  | nil => rfl
  | cons c t ih =>
    show (Jvm.Cond.and c (allAtoms t)).before a st = _
    rw [Jvm.Cond.before_and, ih, List.all_cons]
def words1 : List Jvm.Cond := Jvm.Cond.code x code maxLocals ret :: tables_1
/-- a 'code' word, met by the world's own term for the bytes: nothing is compared byte by byte -/
theorem code_word {y : MethodName} {bytes : ByteArray} {mx : Nat} {rt : Option FieldType} {a : Array Value} {s : State} {m : MethodId} {meth : Method} {c : Code} (h1 : s.methodNamed? y = some m) (h2 : s.vm.method? m = some meth) (h3 : meth.code = some c) (h4 : c.code = bytes)
    (h5 : (c.maxLocals == mx && c.exceptionTable.isEmpty && decide (c.maxStack ≤ mostOperands) && decide (meth.sig.returnType = rt) && !meth.locks && decide (parseMethodDescriptor y.desc = some meth.sig)) = true) : (Jvm.Cond.code y bytes mx rt).before a s = true := by
  simp only [Bool.and_eq_true, beq_iff_eq, Bool.not_eq_true', decide_eq_true_eq] at h5
  obtain ⟨⟨⟨⟨⟨g1, g2⟩, g3⟩, g4⟩, g5⟩, g6⟩ := h5
  simp [Cond.before, Cond.holds, Cond.value, h1, h2, h3, h4, g1, g2, g3, g4, g5, g6]
def isCode : Jvm.Cond → Bool
  | .code _ _ _ _ => true
  | _ => false
theorem all_split {L : List Jvm.Cond} {P : Jvm.Cond → Bool} (h1 : L.all (fun c => isCode c || P c) = true) (h2 : ∀ c ∈ L.filter isCode, P c = true) : L.all P = true := by
  refine List.all_eq_true.mpr fun c hc => ?_
  have h := List.all_eq_true.mp h1 c hc
  rcases Bool.eq_false_or_eq_true (isCode c) with hi | hi
  · exact h2 c (List.mem_filter.mpr ⟨hc, hi⟩)
  · simpa [hi] using h
set_option maxRecDepth 65536 in
theorem w_c0 : (Jvm.Cond.code x code maxLocals ret).before args0 about1 = true := code_word (m := ⟨1, 1⟩) (meth := k1m1) (c := k1c1) (by decide +kernel) rfl rfl rfl (by decide +kernel)
set_option maxRecDepth 65536 in
theorem w_c1 : (Jvm.Cond.code ({ cls := "com/example/backpressure/backpressure/model/CapacityChange", name := "<init>", desc := "(III)V" } : Jvm.MethodName) prog_12_method_1_code (4 : Nat) (Option.none : Option Jvm.ClassFile.FieldType)).before args0 about1 = true := code_word (m := ⟨2, 0⟩) (meth := k2m0) (c := k2c0) (by decide +kernel) rfl rfl rfl (by decide +kernel)
set_option maxRecDepth 65536 in
theorem w_c2 : (Jvm.Cond.code ({ cls := "java/lang/Object", name := "<init>", desc := "()V" } : Jvm.MethodName) object_method_1_code (1 : Nat) (Option.none : Option Jvm.ClassFile.FieldType)).before args0 about1 = true := code_word (m := ⟨0, 0⟩) (meth := k0m0) (c := k0c0) (by decide +kernel) rfl rfl rfl (by decide +kernel)
set_option maxRecDepth 65536 in
theorem w_c3 : (Jvm.Cond.code ({ cls := "com/example/backpressure/backpressure/model/CapacityChange", name := "holdsIn", desc := "(I)Z" } : Jvm.MethodName) prog_12_method_5_code (2 : Nat) (Option.some Jvm.ClassFile.FieldType.boolean)).before args0 about1 = true := code_word (m := ⟨2, 1⟩) (meth := k2m1) (c := k2c1) (by decide +kernel) rfl rfl rfl (by decide +kernel)
def codes1 : List Jvm.Cond := [Jvm.Cond.code x code maxLocals ret, Jvm.Cond.code ({ cls := "com/example/backpressure/backpressure/model/CapacityChange", name := "<init>", desc := "(III)V" } : Jvm.MethodName) prog_12_method_1_code (4 : Nat) (Option.none : Option Jvm.ClassFile.FieldType), Jvm.Cond.code ({ cls := "java/lang/Object", name := "<init>", desc := "()V" } : Jvm.MethodName) object_method_1_code (1 : Nat) (Option.none : Option Jvm.ClassFile.FieldType), Jvm.Cond.code ({ cls := "com/example/backpressure/backpressure/model/CapacityChange", name := "holdsIn", desc := "(I)Z" } : Jvm.MethodName) prog_12_method_5_code (2 : Nat) (Option.some Jvm.ClassFile.FieldType.boolean)]
set_option maxRecDepth 65536 in
theorem codes_eq : words1.filter isCode = codes1 := rfl
theorem w_codes : ∀ c ∈ words1.filter isCode, c.before args0 about1 = true := by
  rw [codes_eq]
  intro c hc
  simp only [codes1, List.mem_cons, List.not_mem_nil, or_false] at hc
  rcases hc with rfl | rfl | rfl | rfl
  · exact w_c0
  · exact w_c1
  · exact w_c2
  · exact w_c3
set_option maxRecDepth 65536 in
theorem w_t1 : (words1.take 24).all (fun c => isCode c || c.before args0 about1) = true := by decide +kernel
set_option maxRecDepth 65536 in
theorem w_t2 : (words1.drop 24).all (fun c => isCode c || c.before args0 about1) = true := by decide +kernel
theorem w_tables : (allAtoms (Jvm.Cond.code x code maxLocals ret :: tables_1)).before args0 about1 = true := by
  rw [allAtoms_all]
  show words1.all (fun c => c.before args0 about1) = true
  refine all_split ?_ w_codes
  rw [← List.take_append_drop 24 words1, List.all_append, w_t1, w_t2]
  rfl
set_option maxRecDepth 65536 in
theorem w_case : (Jvm.Cond.and given_1 narrow_1).before args0 about1 = true := by decide +kernel
theorem w_applies : (headSpec (Jvm.Cond.code x code maxLocals ret :: tables_1) room_1).applies x e0.platform about1 = true :=
  (Spec.applies_iff w_frames).mpr ⟨w_running, w_runnable, w_alone, w_named, w_hears, w_ripe, w_room, w_tables⟩
theorem atStart : AtStart classFile x code maxLocals ret World_1 tables_1 room_1 Calls_1 rest_1 Pre_1 launch0 p0 e0 about1 theMethod args0 below0 :=
  ⟨lists_1, trivial, launch0.admits_env _ _ _, launch0.least_env, fairChoices_fair.cas, fairChoices_fair.clock, w_frames, w_args, w_heap, w_applies, trivial, trivial, w_case⟩
end start1
theorem witness_1 : WitnessClaimed_1 := ⟨start1.p0, start1.e0, start1.about1, start1.theMethod, start1.args0, start1.below0, start1.atStart⟩
end Jvm.Pilot.@@N@@
