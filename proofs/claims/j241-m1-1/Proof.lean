import JvmDerived
import JvmDerived.Pilot.@@N@@Statement
import JvmDerived.Pilot.@@N@@Code
set_option linter.unusedVariables false
set_option linter.unusedSimpArgs false
@@BLOCK:NumsL.lean.txt@@
namespace Jvm.Pilot.@@N@@
open Jvm Jvm.ClassFile Sem Op Lib Jvm.Free Jvm.Stand Jvm.LawKit Jvm.RoadKit Bundle Jvm.Pilot.@@N@@.Jvm.D
theorem own_two_pow_le {m n : Nat} (h : m ≤ n) : (2 : Int) ^ m ≤ 2 ^ n := by
  have := Nat.pow_le_pow_right (n := 2) (by decide) h
  exact_mod_cast this
def own_minI (a b : Int32) : Int32 := if b < a then b else a
def own_maxI (a b : Int32) : Int32 := if a < b then b else a
def own_minL (a b : Int64) : Int64 := if (0 : Int32) < lcmpW a b then b else a
theorem own_minI_r (a b : Int32) : (own_minI a b).toInt = min a.toInt b.toInt := by
  unfold own_minI
  split <;> rename_i h <;> rw [Int32.lt_iff_toInt_lt] at h <;> omega
theorem own_maxI_r (a b : Int32) : (own_maxI a b).toInt = max a.toInt b.toInt := by
  unfold own_maxI
  split <;> rename_i h <;> rw [Int32.lt_iff_toInt_lt] at h <;> omega
theorem own_minL_r (a b : Int64) : (own_minL a b).toInt = min a.toInt b.toInt := by
  unfold own_minL
  split <;> rename_i h <;> rw [lcW, lc_gt, Int64.lt_iff_toInt_lt] at h <;> omega
def own_pw (a i : Int32) : Int := a.toInt * 2 ^ (i.toInt - 1).toNat
def own_exp (a m f : Int32) : Int64 := Int64.ofInt (min (own_pw a f) m.toInt)
theorem own_pw_pos (a i : Int32) (ha : 1 ≤ a.toInt) : 1 ≤ own_pw a i := by
  unfold own_pw
  have h : (1 : Int) ≤ 2 ^ (i.toInt - 1).toNat := own_two_pow_le (m := 0) (Nat.zero_le _)
  have := Int.mul_le_mul ha h (by decide) (by omega)
  omega
theorem own_exp_r (a m f : Int32) (ha : 1 ≤ a.toInt) (hm : 1 ≤ m.toInt) : (own_exp a m f).toInt = min (own_pw a f) m.toInt := by
  have h := own_pw_pos a f ha
  have := m.toInt_lt
  unfold own_exp
  rw [Int64.toInt_ofInt]
  exact Jvm.Kit.bmod64 (by omega) (by omega)
theorem own_succ (i f : Int32) (h : i.toInt < f.toInt) : (i + (1 : Int32)).toInt = i.toInt + 1 := by
  have := i.le_toInt
  have := f.toInt_lt
  exact Jvm.Kit.i32_add (by simp only [Int32.reduceToInt]; omega) (by simp only [Int32.reduceToInt]; omega)
theorem own_pw_succ (a i f : Int32) (h1 : 1 ≤ i.toInt) (h : i.toInt < f.toInt) : own_pw a (i + (1 : Int32)) = own_pw a i * 2 := by
  unfold own_pw
  rw [own_succ i f h, show (i.toInt + 1 - 1).toNat = (i.toInt - 1).toNat + 1 by omega, Int.pow_succ, Int.mul_assoc]
theorem own_pw_mono (a i f : Int32) (ha : 1 ≤ a.toInt) (h : i.toInt ≤ f.toInt) : own_pw a i ≤ own_pw a f := by
  unfold own_pw
  exact Int.mul_le_mul_of_nonneg_left (own_two_pow_le (by omega)) (by omega)
theorem own_lc {x y : Int64} (h : x = y) : lcmpW x y = 0 := by rw [lcW]; exact (lc_eq x y).mpr h
theorem own_fin {q : Int64} {a m f : Int32} (ha : 1 ≤ a.toInt) (hm : 1 ≤ m.toInt) (h : min q.toInt m.toInt = min (own_pw a f) m.toInt) : own_minL q m.toInt64 = own_exp a m f := by
  apply Int64.toInt_inj.mp
  rw [own_minL_r, Int32.toInt_toInt64, own_exp_r a m f ha hm, h]
def own_shl (a f : Int32) : Int64 := (a.toInt64 <<< ((f - (1 : Int32)) &&& 0x3f).toInt64)
theorem own_sh_all : ∀ n : Fin 31, ((((Int32.ofNat n.val) &&& 0x3f).toInt64).toBitVec.smod 64).toNat = n.val := by decide +kernel
theorem own_pred (f : Int32) (h : 1 ≤ f.toInt) : (f - (1 : Int32)).toInt = f.toInt - 1 := by
  have := f.toInt_lt
  exact Jvm.Kit.i32_sub (by simp only [Int32.reduceToInt]; omega) (by simp only [Int32.reduceToInt]; omega)
theorem own_shl_r (a f : Int32) (ha : 1 ≤ a.toInt) (hf : 1 ≤ f.toInt) (h31 : (f - (1 : Int32)) < (31 : Int32)) : (own_shl a f).toInt = own_pw a f := by
  have e := own_pred f hf
  rw [Int32.lt_iff_toInt_lt] at h31
  simp only [Int32.reduceToInt] at h31
  have ek : (f - (1 : Int32)) = Int32.ofNat (f.toInt - 1).toNat := by
    apply Int32.toInt_inj.mp
    rw [Int32.toInt_ofNat_small (by omega)]
    omega
  have hn := own_sh_all ⟨(f.toInt - 1).toNat, by omega⟩
  simp only [← ek] at hn
  have p := own_two_pow_le (m := (f.toInt - 1).toNat) (n := 30) (by omega)
  have p0 : (1 : Int) ≤ 2 ^ (f.toInt - 1).toNat := own_two_pow_le (m := 0) (by omega)
  have al := a.toInt_lt
  have b1 : a.toInt * 2 ^ (f.toInt - 1).toNat ≤ 2147483647 * 2 ^ 30 := Int.mul_le_mul (by omega) p (by omega) (by decide)
  have b0 : 1 * 1 ≤ a.toInt * 2 ^ (f.toInt - 1).toNat := Int.mul_le_mul ha p0 (by decide) (by omega)
  have s := Jvm.Kit.i64_shl a.toInt64 ((f - (1 : Int32)) &&& 0x3f).toInt64 hn (by rw [Int32.toInt_toInt64]; omega) (by rw [Int32.toInt_toInt64]; omega)
  unfold own_shl own_pw
  rw [s, Int32.toInt_toInt64]
theorem own_big (a m f : Int32) (ha : 1 ≤ a.toInt) (hm : 1 ≤ m.toInt) (hf : 1 ≤ f.toInt) (h31 : ¬ ((f - (1 : Int32)) < (31 : Int32))) : m.toInt64 = own_exp a m f := by
  have e := own_pred f hf
  rw [Int32.lt_iff_toInt_lt] at h31
  simp only [Int32.reduceToInt] at h31
  have p := own_two_pow_le (m := 31) (n := (f.toInt - 1).toNat) (by omega)
  have b0 : 1 * 2 ^ 31 ≤ a.toInt * 2 ^ (f.toInt - 1).toNat := Int.mul_le_mul ha p (by decide) (by omega)
  have ml := m.toInt_lt
  apply Int64.toInt_inj.mp
  rw [Int32.toInt_toInt64, own_exp_r a m f ha hm]
  unfold own_pw
  omega
theorem d1_0 : decode jdk_29_method_69_code 0 = .ok (.iload_n 0, 1) := by decide +kernel
theorem d1_1 : decode jdk_29_method_69_code 1 = .ok (.iload_n 1, 1) := by decide +kernel
theorem d1_2 : decode jdk_29_method_69_code 2 = .ok (.if_icmp .gt 7, 3) := by decide +kernel
theorem d1_5 : decode jdk_29_method_69_code 5 = .ok (.iload_n 0, 1) := by decide +kernel
theorem d1_6 : decode jdk_29_method_69_code 6 = .ok (.goto 4, 3) := by decide +kernel
theorem d1_9 : decode jdk_29_method_69_code 9 = .ok (.iload_n 1, 1) := by decide +kernel
theorem d1_10 : decode jdk_29_method_69_code 10 = .ok (.ireturn, 1) := by decide +kernel
theorem ef_1 (m : MethodId) (p0 : Int32) (p1 : Int32) : entryFrame m #[(.int p0), (.int p1)] 2 = mkF m 0 #[.val (.int p0), .val (.int p1)] [] := by first | (simp [entryFrame, mkF, argsToLocals, Value.category]; done) | rfl
def Q1 (Z : State) (p0 : Int32) (p1 : Int32) (h0 : Heap) (n0 : Nat) (v : Option Value) (h : Heap) (L : List Loc) : Prop := v = some (.int (own_minI p0 p1)) ∧ Fr n0 L ∧ h = h0
set_option maxRecDepth 65536 in
set_option maxHeartbeats 40000000 in
theorem rm1 (l : Launch) (Z : State) (a0 : Array Value) (hw : ∀ d ∈ tables_1, d.before a0 Z = true) (ws : List Jvm.Cond) (p0 : Int32) (p1 : Int32) (h0 : Heap) (n0 : Nat) (Z0 : n0 ≤ h0.size) :
    MetFree l (⟨"java/lang/Math", "min", "(II)I"⟩ : MethodName) (head1 (Jvm.Cond.code (⟨"java/lang/Math", "min", "(II)I"⟩ : MethodName) jdk_29_method_69_code 2 (some .int) :: ws) ({ frames := 0, cells := 0, slots := 0, locals := 0 } : Room)) (fun a U => a = #[(.int p0), (.int p1)] ∧ Z.Warmed39 U.vm ∧ U.heap = h0) (fun _ _ _ _ _ => True) (fun _ U o U' => ∃ v L, o = .returned v ∧ Q1 Z p0 p1 h0 n0 v U'.heap L ∧ FrameEnd U o U' L ({ frames := 0, cells := 0, slots := 0, locals := 0 } : Room).cells ({ frames := 0, cells := 0, slots := 0, locals := 0 } : Room).slots) := by
  refine MetFree.of_bodySF (Jvm.Free.JP.mathPlain rfl (by decide +kernel)) hisR ?_
  intro p e s m args below meth c s₁ Bd hml0 hP hK
  obtain ⟨rfl, hZ, hh⟩ := hP
  have hx := Bd.exec
  have hby := Bd.bytes
  have hml : c.maxLocals = 2 := hml0
  have hown : s.vm.findClass "java/lang/Math" = some m.cls := findClass_of_methodNamed Bd.named
  have hnm := (name_of_methodNamed Bd.named Bd.method).1
  have X0 : Stand p l e ({ frames := 0, cells := 0, slots := 0, locals := 0 } : Room) s m #[(.int p0), (.int p1)] below meth c s₁ [] 0 0 := Stand.of_body Bd
  have e0 : s₁.heap = h0 := by rw [← hh, Bd.state]; rfl
  have N0 := Fr.nil n0
  have k0 : ∀ t, Steps p.tables e below (s₁.setTop (mkF m 0 #[.val (.int p0), .val (.int p1)] [])) t → Steps p.tables e below (s₁.setTop (entryFrame m #[(.int p0), (.int p1)] 2)) t := fun t k => castTop (ef_1 m p0 p1) k
  have k1 : ∀ t, Steps p.tables e below (s₁.setTop (mkF m 2 #[.val (.int p0), .val (.int p1)] [(.int p1), (.int p0)])) t → Steps p.tables e below (s₁.setTop (entryFrame m #[(.int p0), (.int p1)] 2)) t := fun t k => k0 t (by
      show Steps p.tables e below (s₁.setTop (mkF m 0 #[.val (.int p0), .val (.int p1)] [])) _
      refine XS.iloadN X0.here hx rfl (hb hby d1_0) rfl ?_
      show Steps p.tables e below (s₁.setTop (mkF m 1 #[.val (.int p0), .val (.int p1)] [(.int p0)])) _
      refine XS.iloadN X0.here hx rfl (hb hby d1_1) rfl ?_
      exact k)
  by_cases hc2 : p1 < p0
  · have k2 : ∀ t, Steps p.tables e below (s₁.setTop (mkF m 10 #[.val (.int p0), .val (.int p1)] [(.int p1)])) t → Steps p.tables e below (s₁.setTop (entryFrame m #[(.int p0), (.int p1)] 2)) t := fun t k => k1 t (by
        show Steps p.tables e below (s₁.setTop (mkF m 2 #[.val (.int p0), .val (.int p1)] [(.int p1), (.int p0)])) _
        refine XS.icmpYes X0.here hx rfl (pc0 := 2) (pc' := 9) rfl (hb hby d1_2) rfl (tlt hc2).2.2.1 (by decide) (by decide) ?_
        show Steps p.tables e below (s₁.setTop (mkF m 9 #[.val (.int p0), .val (.int p1)] [])) _
        refine XS.iloadN X0.here hx rfl (hb hby d1_9) rfl ?_
        exact k)
    obtain ⟨fs, hr, hrun, hended, hW, hsame⟩ := X0.leave (v := (some (.int p1))) (fun h => by rw [Bd.returns] at h; cases h)
    refine ⟨_, _, k2 _ ?_, hrun, hended, _, _, rfl, ?_, ⟨_, rfl⟩, hW, hsame.mono (by decide) (by decide)⟩
    · exact retOut X0 hx Bd.returns rfl (Or.inl ⟨rfl, Or.inl rfl, _, rfl⟩) (hb hby d1_10) hr
    · show Q1 Z p0 p1 h0 n0 _ s₁.heap _
      rw [e0]
      exact ⟨congrArg (fun z => some (Value.int z)) (by unfold own_minI; rw [if_pos hc2]), N0, rfl⟩
  · have k3 : ∀ t, Steps p.tables e below (s₁.setTop (mkF m 10 #[.val (.int p0), .val (.int p1)] [(.int p0)])) t → Steps p.tables e below (s₁.setTop (entryFrame m #[(.int p0), (.int p1)] 2)) t := fun t k => k1 t (by
        show Steps p.tables e below (s₁.setTop (mkF m 2 #[.val (.int p0), .val (.int p1)] [(.int p1), (.int p0)])) _
        refine XS.icmpNo X0.here hx rfl (hb hby d1_2) rfl (flt hc2).2.2.1 ?_
        show Steps p.tables e below (s₁.setTop (mkF m 5 #[.val (.int p0), .val (.int p1)] [])) _
        refine XS.iloadN X0.here hx rfl (hb hby d1_5) rfl ?_
        show Steps p.tables e below (s₁.setTop (mkF m 6 #[.val (.int p0), .val (.int p1)] [(.int p0)])) _
        refine XS.goto X0.here hx rfl (pc0 := 6) (pc' := 10) rfl (hb hby d1_6) (by decide) (by decide) ?_
        exact k)
    obtain ⟨fs, hr, hrun, hended, hW, hsame⟩ := X0.leave (v := (some (.int p0))) (fun h => by rw [Bd.returns] at h; cases h)
    refine ⟨_, _, k3 _ ?_, hrun, hended, _, _, rfl, ?_, ⟨_, rfl⟩, hW, hsame.mono (by decide) (by decide)⟩
    · exact retOut X0 hx Bd.returns rfl (Or.inl ⟨rfl, Or.inl rfl, _, rfl⟩) (hb hby d1_10) hr
    · show Q1 Z p0 p1 h0 n0 _ s₁.heap _
      rw [e0]
      exact ⟨congrArg (fun z => some (Value.int z)) (by unfold own_minI; rw [if_neg hc2]), N0, rfl⟩
theorem d2_0 : decode jdk_29_method_65_code 0 = .ok (.iload_n 0, 1) := by decide +kernel
theorem d2_1 : decode jdk_29_method_65_code 1 = .ok (.iload_n 1, 1) := by decide +kernel
theorem d2_2 : decode jdk_29_method_65_code 2 = .ok (.if_icmp .lt 7, 3) := by decide +kernel
theorem d2_5 : decode jdk_29_method_65_code 5 = .ok (.iload_n 0, 1) := by decide +kernel
theorem d2_6 : decode jdk_29_method_65_code 6 = .ok (.goto 4, 3) := by decide +kernel
theorem d2_9 : decode jdk_29_method_65_code 9 = .ok (.iload_n 1, 1) := by decide +kernel
theorem d2_10 : decode jdk_29_method_65_code 10 = .ok (.ireturn, 1) := by decide +kernel
theorem ef_2 (m : MethodId) (p0 : Int32) (p1 : Int32) : entryFrame m #[(.int p0), (.int p1)] 2 = mkF m 0 #[.val (.int p0), .val (.int p1)] [] := by first | (simp [entryFrame, mkF, argsToLocals, Value.category]; done) | rfl
def Q2 (Z : State) (p0 : Int32) (p1 : Int32) (h0 : Heap) (n0 : Nat) (v : Option Value) (h : Heap) (L : List Loc) : Prop := v = some (.int (own_maxI p0 p1)) ∧ Fr n0 L ∧ h = h0
set_option maxRecDepth 65536 in
set_option maxHeartbeats 40000000 in
theorem rm2 (l : Launch) (Z : State) (a0 : Array Value) (hw : ∀ d ∈ tables_1, d.before a0 Z = true) (ws : List Jvm.Cond) (p0 : Int32) (p1 : Int32) (h0 : Heap) (n0 : Nat) (Z0 : n0 ≤ h0.size) :
    MetFree l (⟨"java/lang/Math", "max", "(II)I"⟩ : MethodName) (head1 (Jvm.Cond.code (⟨"java/lang/Math", "max", "(II)I"⟩ : MethodName) jdk_29_method_65_code 2 (some .int) :: ws) ({ frames := 0, cells := 0, slots := 0, locals := 0 } : Room)) (fun a U => a = #[(.int p0), (.int p1)] ∧ Z.Warmed39 U.vm ∧ U.heap = h0) (fun _ _ _ _ _ => True) (fun _ U o U' => ∃ v L, o = .returned v ∧ Q2 Z p0 p1 h0 n0 v U'.heap L ∧ FrameEnd U o U' L ({ frames := 0, cells := 0, slots := 0, locals := 0 } : Room).cells ({ frames := 0, cells := 0, slots := 0, locals := 0 } : Room).slots) := by
  refine MetFree.of_bodySF (Jvm.Free.JP.mathPlain rfl (by decide +kernel)) hisR ?_
  intro p e s m args below meth c s₁ Bd hml0 hP hK
  obtain ⟨rfl, hZ, hh⟩ := hP
  have hx := Bd.exec
  have hby := Bd.bytes
  have hml : c.maxLocals = 2 := hml0
  have hown : s.vm.findClass "java/lang/Math" = some m.cls := findClass_of_methodNamed Bd.named
  have hnm := (name_of_methodNamed Bd.named Bd.method).1
  have X0 : Stand p l e ({ frames := 0, cells := 0, slots := 0, locals := 0 } : Room) s m #[(.int p0), (.int p1)] below meth c s₁ [] 0 0 := Stand.of_body Bd
  have e0 : s₁.heap = h0 := by rw [← hh, Bd.state]; rfl
  have N0 := Fr.nil n0
  have k0 : ∀ t, Steps p.tables e below (s₁.setTop (mkF m 0 #[.val (.int p0), .val (.int p1)] [])) t → Steps p.tables e below (s₁.setTop (entryFrame m #[(.int p0), (.int p1)] 2)) t := fun t k => castTop (ef_2 m p0 p1) k
  have k1 : ∀ t, Steps p.tables e below (s₁.setTop (mkF m 2 #[.val (.int p0), .val (.int p1)] [(.int p1), (.int p0)])) t → Steps p.tables e below (s₁.setTop (entryFrame m #[(.int p0), (.int p1)] 2)) t := fun t k => k0 t (by
      show Steps p.tables e below (s₁.setTop (mkF m 0 #[.val (.int p0), .val (.int p1)] [])) _
      refine XS.iloadN X0.here hx rfl (hb hby d2_0) rfl ?_
      show Steps p.tables e below (s₁.setTop (mkF m 1 #[.val (.int p0), .val (.int p1)] [(.int p0)])) _
      refine XS.iloadN X0.here hx rfl (hb hby d2_1) rfl ?_
      exact k)
  by_cases hc2 : p0 < p1
  · have k2 : ∀ t, Steps p.tables e below (s₁.setTop (mkF m 10 #[.val (.int p0), .val (.int p1)] [(.int p1)])) t → Steps p.tables e below (s₁.setTop (entryFrame m #[(.int p0), (.int p1)] 2)) t := fun t k => k1 t (by
        show Steps p.tables e below (s₁.setTop (mkF m 2 #[.val (.int p0), .val (.int p1)] [(.int p1), (.int p0)])) _
        refine XS.icmpYes X0.here hx rfl (pc0 := 2) (pc' := 9) rfl (hb hby d2_2) rfl (tlt hc2).1 (by decide) (by decide) ?_
        show Steps p.tables e below (s₁.setTop (mkF m 9 #[.val (.int p0), .val (.int p1)] [])) _
        refine XS.iloadN X0.here hx rfl (hb hby d2_9) rfl ?_
        exact k)
    obtain ⟨fs, hr, hrun, hended, hW, hsame⟩ := X0.leave (v := (some (.int p1))) (fun h => by rw [Bd.returns] at h; cases h)
    refine ⟨_, _, k2 _ ?_, hrun, hended, _, _, rfl, ?_, ⟨_, rfl⟩, hW, hsame.mono (by decide) (by decide)⟩
    · exact retOut X0 hx Bd.returns rfl (Or.inl ⟨rfl, Or.inl rfl, _, rfl⟩) (hb hby d2_10) hr
    · show Q2 Z p0 p1 h0 n0 _ s₁.heap _
      rw [e0]
      exact ⟨congrArg (fun z => some (Value.int z)) (by unfold own_maxI; rw [if_pos hc2]), N0, rfl⟩
  · have k3 : ∀ t, Steps p.tables e below (s₁.setTop (mkF m 10 #[.val (.int p0), .val (.int p1)] [(.int p0)])) t → Steps p.tables e below (s₁.setTop (entryFrame m #[(.int p0), (.int p1)] 2)) t := fun t k => k1 t (by
        show Steps p.tables e below (s₁.setTop (mkF m 2 #[.val (.int p0), .val (.int p1)] [(.int p1), (.int p0)])) _
        refine XS.icmpNo X0.here hx rfl (hb hby d2_2) rfl (flt hc2).1 ?_
        show Steps p.tables e below (s₁.setTop (mkF m 5 #[.val (.int p0), .val (.int p1)] [])) _
        refine XS.iloadN X0.here hx rfl (hb hby d2_5) rfl ?_
        show Steps p.tables e below (s₁.setTop (mkF m 6 #[.val (.int p0), .val (.int p1)] [(.int p0)])) _
        refine XS.goto X0.here hx rfl (pc0 := 6) (pc' := 10) rfl (hb hby d2_6) (by decide) (by decide) ?_
        exact k)
    obtain ⟨fs, hr, hrun, hended, hW, hsame⟩ := X0.leave (v := (some (.int p0))) (fun h => by rw [Bd.returns] at h; cases h)
    refine ⟨_, _, k3 _ ?_, hrun, hended, _, _, rfl, ?_, ⟨_, rfl⟩, hW, hsame.mono (by decide) (by decide)⟩
    · exact retOut X0 hx Bd.returns rfl (Or.inl ⟨rfl, Or.inl rfl, _, rfl⟩) (hb hby d2_10) hr
    · show Q2 Z p0 p1 h0 n0 _ s₁.heap _
      rw [e0]
      exact ⟨congrArg (fun z => some (Value.int z)) (by unfold own_maxI; rw [if_neg hc2]), N0, rfl⟩
theorem d6_0 : decode jdk_29_method_70_code 0 = .ok (.lload_n 0, 1) := by decide +kernel
theorem d6_1 : decode jdk_29_method_70_code 1 = .ok (.lload_n 2, 1) := by decide +kernel
theorem d6_2 : decode jdk_29_method_70_code 2 = .ok (.lcmp, 1) := by decide +kernel
theorem d6_3 : decode jdk_29_method_70_code 3 = .ok (.ifCond .gt 7, 3) := by decide +kernel
theorem d6_6 : decode jdk_29_method_70_code 6 = .ok (.lload_n 0, 1) := by decide +kernel
theorem d6_7 : decode jdk_29_method_70_code 7 = .ok (.goto 4, 3) := by decide +kernel
theorem d6_10 : decode jdk_29_method_70_code 10 = .ok (.lload_n 2, 1) := by decide +kernel
theorem d6_11 : decode jdk_29_method_70_code 11 = .ok (.lreturn, 1) := by decide +kernel
theorem ef_6 (m : MethodId) (q0 : Int64) (q1 : Int64) : entryFrame m #[(.long q0), (.long q1)] 4 = mkF m 0 #[.val (.long q0), .second, .val (.long q1), .second] [] := by first | (simp [entryFrame, mkF, argsToLocals, Value.category]; done) | rfl
def Q6 (Z : State) (q0 : Int64) (q1 : Int64) (h0 : Heap) (n0 : Nat) (v : Option Value) (h : Heap) (L : List Loc) : Prop := v = some (.long (own_minL q0 q1)) ∧ Fr n0 L ∧ h = h0
set_option maxRecDepth 65536 in
set_option maxHeartbeats 40000000 in
theorem rm6 (l : Launch) (Z : State) (a0 : Array Value) (hw : ∀ d ∈ tables_1, d.before a0 Z = true) (ws : List Jvm.Cond) (q0 : Int64) (q1 : Int64) (h0 : Heap) (n0 : Nat) (Z0 : n0 ≤ h0.size) :
    MetFree l (⟨"java/lang/Math", "min", "(JJ)J"⟩ : MethodName) (head1 (Jvm.Cond.code (⟨"java/lang/Math", "min", "(JJ)J"⟩ : MethodName) jdk_29_method_70_code 4 (some .long) :: ws) ({ frames := 0, cells := 0, slots := 0, locals := 0 } : Room)) (fun a U => a = #[(.long q0), (.long q1)] ∧ Z.Warmed39 U.vm ∧ U.heap = h0) (fun _ _ _ _ _ => True) (fun _ U o U' => ∃ v L, o = .returned v ∧ Q6 Z q0 q1 h0 n0 v U'.heap L ∧ FrameEnd U o U' L ({ frames := 0, cells := 0, slots := 0, locals := 0 } : Room).cells ({ frames := 0, cells := 0, slots := 0, locals := 0 } : Room).slots) := by
  refine MetFree.of_bodySF (Jvm.Free.JP.mathPlain rfl (by decide +kernel)) hisR ?_
  intro p e s m args below meth c s₁ Bd hml0 hP hK
  obtain ⟨rfl, hZ, hh⟩ := hP
  have hx := Bd.exec
  have hby := Bd.bytes
  have hml : c.maxLocals = 4 := hml0
  have hown : s.vm.findClass "java/lang/Math" = some m.cls := findClass_of_methodNamed Bd.named
  have hnm := (name_of_methodNamed Bd.named Bd.method).1
  have X0 : Stand p l e ({ frames := 0, cells := 0, slots := 0, locals := 0 } : Room) s m #[(.long q0), (.long q1)] below meth c s₁ [] 0 0 := Stand.of_body Bd
  have e0 : s₁.heap = h0 := by rw [← hh, Bd.state]; rfl
  have N0 := Fr.nil n0
  have k0 : ∀ t, Steps p.tables e below (s₁.setTop (mkF m 0 #[.val (.long q0), .second, .val (.long q1), .second] [])) t → Steps p.tables e below (s₁.setTop (entryFrame m #[(.long q0), (.long q1)] 4)) t := fun t k => castTop (ef_6 m q0 q1) k
  have k1 : ∀ t, Steps p.tables e below (s₁.setTop (mkF m 3 #[.val (.long q0), .second, .val (.long q1), .second] [(.int (lcmpW q0 q1))])) t → Steps p.tables e below (s₁.setTop (entryFrame m #[(.long q0), (.long q1)] 4)) t := fun t k => k0 t (by
      show Steps p.tables e below (s₁.setTop (mkF m 0 #[.val (.long q0), .second, .val (.long q1), .second] [])) _
      refine XS.lloadN X0.here hx rfl (hb hby d6_0) rfl ?_
      show Steps p.tables e below (s₁.setTop (mkF m 1 #[.val (.long q0), .second, .val (.long q1), .second] [(.long q0)])) _
      refine XS.lloadN X0.here hx rfl (hb hby d6_1) rfl ?_
      show Steps p.tables e below (s₁.setTop (mkF m 2 #[.val (.long q0), .second, .val (.long q1), .second] [(.long q1), (.long q0)])) _
      refine XS.lcmp X0.here hx rfl (hb hby d6_2) rfl ?_
      exact k)
  by_cases hc3 : (0 : Int32) < (lcmpW q0 q1)
  · have k2 : ∀ t, Steps p.tables e below (s₁.setTop (mkF m 11 #[.val (.long q0), .second, .val (.long q1), .second] [(.long q1)])) t → Steps p.tables e below (s₁.setTop (entryFrame m #[(.long q0), (.long q1)] 4)) t := fun t k => k1 t (by
        show Steps p.tables e below (s₁.setTop (mkF m 3 #[.val (.long q0), .second, .val (.long q1), .second] [(.int (lcmpW q0 q1))])) _
        refine XS.ifYes X0.here hx rfl (pc0 := 3) (pc' := 10) rfl (hb hby d6_3) rfl ((if0 _ _).trans (tlt hc3).2.2.1) (by decide) (by decide) ?_
        show Steps p.tables e below (s₁.setTop (mkF m 10 #[.val (.long q0), .second, .val (.long q1), .second] [])) _
        refine XS.lloadN X0.here hx rfl (hb hby d6_10) rfl ?_
        exact k)
    obtain ⟨fs, hr, hrun, hended, hW, hsame⟩ := X0.leave (v := (some (.long q1))) (fun h => by rw [Bd.returns] at h; cases h)
    refine ⟨_, _, k2 _ ?_, hrun, hended, _, _, rfl, ?_, ⟨_, rfl⟩, hW, hsame.mono (by decide) (by decide)⟩
    · exact retOut X0 hx Bd.returns rfl (Or.inr (Or.inl ⟨rfl, rfl, _, rfl⟩)) (hb hby d6_11) hr
    · show Q6 Z q0 q1 h0 n0 _ s₁.heap _
      rw [e0]
      exact ⟨congrArg (fun z => some (Value.long z)) (by unfold own_minL; rw [if_pos hc3]), N0, rfl⟩
  · have k3 : ∀ t, Steps p.tables e below (s₁.setTop (mkF m 11 #[.val (.long q0), .second, .val (.long q1), .second] [(.long q0)])) t → Steps p.tables e below (s₁.setTop (entryFrame m #[(.long q0), (.long q1)] 4)) t := fun t k => k1 t (by
        show Steps p.tables e below (s₁.setTop (mkF m 3 #[.val (.long q0), .second, .val (.long q1), .second] [(.int (lcmpW q0 q1))])) _
        refine XS.ifNo X0.here hx rfl (hb hby d6_3) rfl ((if0 _ _).trans (flt hc3).2.2.1) ?_
        show Steps p.tables e below (s₁.setTop (mkF m 6 #[.val (.long q0), .second, .val (.long q1), .second] [])) _
        refine XS.lloadN X0.here hx rfl (hb hby d6_6) rfl ?_
        show Steps p.tables e below (s₁.setTop (mkF m 7 #[.val (.long q0), .second, .val (.long q1), .second] [(.long q0)])) _
        refine XS.goto X0.here hx rfl (pc0 := 7) (pc' := 11) rfl (hb hby d6_7) (by decide) (by decide) ?_
        exact k)
    obtain ⟨fs, hr, hrun, hended, hW, hsame⟩ := X0.leave (v := (some (.long q0))) (fun h => by rw [Bd.returns] at h; cases h)
    refine ⟨_, _, k3 _ ?_, hrun, hended, _, _, rfl, ?_, ⟨_, rfl⟩, hW, hsame.mono (by decide) (by decide)⟩
    · exact retOut X0 hx Bd.returns rfl (Or.inr (Or.inl ⟨rfl, rfl, _, rfl⟩)) (hb hby d6_11) hr
    · show Q6 Z q0 q1 h0 n0 _ s₁.heap _
      rw [e0]
      exact ⟨congrArg (fun z => some (Value.long z)) (by unfold own_minL; rw [if_neg hc3]), N0, rfl⟩
theorem d3_0 : decode prog_6_method_1_code 0 = .ok (.aload_n 0, 1) := by decide +kernel
theorem d3_1 : decode prog_6_method_1_code 1 = .ok (.invokespecial 1, 3) := by decide +kernel
theorem d3_4 : decode prog_6_method_1_code 4 = .ok (.iload_n 1, 1) := by decide +kernel
theorem d3_5 : decode prog_6_method_1_code 5 = .ok (.ifCond .le 12, 3) := by decide +kernel
theorem d3_8 : decode prog_6_method_1_code 8 = .ok (.iload_n 2, 1) := by decide +kernel
theorem d3_9 : decode prog_6_method_1_code 9 = .ok (.ifCond .le 8, 3) := by decide +kernel
theorem d3_12 : decode prog_6_method_1_code 12 = .ok (.iload 4, 2) := by decide +kernel
theorem d3_14 : decode prog_6_method_1_code 14 = .ok (.ifCond .gt 13, 3) := by decide +kernel
theorem d3_17 : decode prog_6_method_1_code 17 = .ok (.new 7, 3) := by decide +kernel
theorem d3_20 : decode prog_6_method_1_code 20 = .ok (.dup, 1) := by decide +kernel
theorem d3_21 : decode prog_6_method_1_code 21 = .ok (.ldc 9, 2) := by decide +kernel
theorem d3_23 : decode prog_6_method_1_code 23 = .ok (.invokespecial 11, 3) := by decide +kernel
theorem d3_26 : decode prog_6_method_1_code 26 = .ok (.athrow, 1) := by decide +kernel
theorem d3_27 : decode prog_6_method_1_code 27 = .ok (.iload_n 3, 1) := by decide +kernel
theorem d3_28 : decode prog_6_method_1_code 28 = .ok (.iload_n 2, 1) := by decide +kernel
theorem d3_29 : decode prog_6_method_1_code 29 = .ok (.if_icmp .ge 13, 3) := by decide +kernel
theorem d3_32 : decode prog_6_method_1_code 32 = .ok (.new 7, 3) := by decide +kernel
theorem d3_35 : decode prog_6_method_1_code 35 = .ok (.dup, 1) := by decide +kernel
theorem d3_36 : decode prog_6_method_1_code 36 = .ok (.ldc 14, 2) := by decide +kernel
theorem d3_38 : decode prog_6_method_1_code 38 = .ok (.invokespecial 11, 3) := by decide +kernel
theorem d3_41 : decode prog_6_method_1_code 41 = .ok (.athrow, 1) := by decide +kernel
theorem d3_42 : decode prog_6_method_1_code 42 = .ok (.aload_n 0, 1) := by decide +kernel
theorem d3_43 : decode prog_6_method_1_code 43 = .ok (.iload_n 1, 1) := by decide +kernel
theorem d3_44 : decode prog_6_method_1_code 44 = .ok (.putfield 16, 3) := by decide +kernel
theorem d3_47 : decode prog_6_method_1_code 47 = .ok (.aload_n 0, 1) := by decide +kernel
theorem d3_48 : decode prog_6_method_1_code 48 = .ok (.iload_n 2, 1) := by decide +kernel
theorem d3_49 : decode prog_6_method_1_code 49 = .ok (.putfield 22, 3) := by decide +kernel
theorem d3_52 : decode prog_6_method_1_code 52 = .ok (.aload_n 0, 1) := by decide +kernel
theorem d3_53 : decode prog_6_method_1_code 53 = .ok (.iload_n 3, 1) := by decide +kernel
theorem d3_54 : decode prog_6_method_1_code 54 = .ok (.putfield 25, 3) := by decide +kernel
theorem d3_57 : decode prog_6_method_1_code 57 = .ok (.aload_n 0, 1) := by decide +kernel
theorem d3_58 : decode prog_6_method_1_code 58 = .ok (.iload 4, 2) := by decide +kernel
theorem d3_60 : decode prog_6_method_1_code 60 = .ok (.putfield 28, 3) := by decide +kernel
theorem d3_63 : decode prog_6_method_1_code 63 = .ok (.return_, 1) := by decide +kernel
theorem ef_3 (m : MethodId) (r0 : Addr) (p1 : Int32) (p2 : Int32) (p3 : Int32) (p4 : Int32) : entryFrame m #[(.ref r0), (.int p1), (.int p2), (.int p3), (.int p4)] 5 = mkF m 0 #[.val (.ref r0), .val (.int p1), .val (.int p2), .val (.int p3), .val (.int p4)] [] := by first | (simp [entryFrame, mkF, argsToLocals, Value.category]; done) | rfl
theorem pn_0 : plainName "com/example/mediawarden/mediawarden/config/CallbackSettings" = true := by first | (simp [plainName, overriddenIn]; done) | decide +kernel
def Q3 (Z : State) (r0 : Addr) (p1 : Int32) (p2 : Int32) (p3 : Int32) (p4 : Int32) (h0 : Heap) (n0 : Nat) (v : Option Value) (h : Heap) (L : List Loc) : Prop := v = none ∧ Fr n0 L ∧ Keep h0 h [r0] ∧ Exa Z h r0 "com/example/mediawarden/mediawarden/config/CallbackSettings" ∧ Fld Z h r0 "com/example/mediawarden/mediawarden/config/CallbackSettings" "timeoutMs" "I" (.int p1) ∧ Fld Z h r0 "com/example/mediawarden/mediawarden/config/CallbackSettings" "initialDelayMs" "I" (.int p2) ∧ Fld Z h r0 "com/example/mediawarden/mediawarden/config/CallbackSettings" "maxDelayMs" "I" (.int p3) ∧ Fld Z h r0 "com/example/mediawarden/mediawarden/config/CallbackSettings" "maxAttempts" "I" (.int p4)
set_option maxRecDepth 65536 in
set_option maxHeartbeats 40000000 in
theorem rm3 (l : Launch) (Z : State) (a0 : Array Value) (hw : ∀ d ∈ tables_1, d.before a0 Z = true) (ws : List Jvm.Cond) (r0 : Addr) (p1 : Int32) (p2 : Int32) (p3 : Int32) (p4 : Int32) (h0 : Heap) (n0 : Nat) (Z0 : n0 ≤ h0.size) (F_timeoutMs_r0 : Fld Z h0 r0 "com/example/mediawarden/mediawarden/config/CallbackSettings" "timeoutMs" "I" (.int (0 : Int32))) (F_initialDelayMs_r0 : Fld Z h0 r0 "com/example/mediawarden/mediawarden/config/CallbackSettings" "initialDelayMs" "I" (.int (0 : Int32))) (F_maxDelayMs_r0 : Fld Z h0 r0 "com/example/mediawarden/mediawarden/config/CallbackSettings" "maxDelayMs" "I" (.int (0 : Int32))) (F_maxAttempts_r0 : Fld Z h0 r0 "com/example/mediawarden/mediawarden/config/CallbackSettings" "maxAttempts" "I" (.int (0 : Int32))) (E_r0 : Exa Z h0 r0 "com/example/mediawarden/mediawarden/config/CallbackSettings") (g_r0 : n0 ≤ r0) (hp1 : (0 : Int32) < p1) (hp2 : (0 : Int32) < p2) (hp4 : (0 : Int32) < p4) (hp3 : ¬ (p3 < p2)) :
    MetFree l (⟨"com/example/mediawarden/mediawarden/config/CallbackSettings", "<init>", "(IIII)V"⟩ : MethodName) (head1 (Jvm.Cond.code (⟨"com/example/mediawarden/mediawarden/config/CallbackSettings", "<init>", "(IIII)V"⟩ : MethodName) prog_6_method_1_code 5 none :: ws) ({ frames := 1, cells := 0, slots := 0, locals := 12 } : Room)) (fun a U => a = #[(.ref r0), (.int p1), (.int p2), (.int p3), (.int p4)] ∧ Z.Warmed39 U.vm ∧ U.heap = h0) (fun _ _ _ _ _ => True) (fun _ U o U' => ∃ v L, o = .returned v ∧ Q3 Z r0 p1 p2 p3 p4 h0 n0 v U'.heap L ∧ FrameEnd U o U' L ({ frames := 1, cells := 0, slots := 0, locals := 12 } : Room).cells ({ frames := 1, cells := 0, slots := 0, locals := 12 } : Room).slots) := by
  refine MetFree.of_bodySF (plainFor_of_name pn_0) hisR ?_
  intro p e s m args below meth c s₁ Bd hml0 hP hK
  obtain ⟨rfl, hZ, hh⟩ := hP
  have hx := Bd.exec
  have hby := Bd.bytes
  have hml : c.maxLocals = 5 := hml0
  have hown : s.vm.findClass "com/example/mediawarden/mediawarden/config/CallbackSettings" = some m.cls := findClass_of_methodNamed Bd.named
  have hnm := (name_of_methodNamed Bd.named Bd.method).1
  have X0 : Stand p l e ({ frames := 1, cells := 0, slots := 0, locals := 12 } : Room) s m #[(.ref r0), (.int p1), (.int p2), (.int p3), (.int p4)] below meth c s₁ [] 0 0 := Stand.of_body Bd
  have e0 : s₁.heap = h0 := by rw [← hh, Bd.state]; rfl
  have N0 := Fr.nil n0
  have k0 : ∀ t, Steps p.tables e below (s₁.setTop (mkF m 0 #[.val (.ref r0), .val (.int p1), .val (.int p2), .val (.int p3), .val (.int p4)] [])) t → Steps p.tables e below (s₁.setTop (entryFrame m #[(.ref r0), (.int p1), (.int p2), (.int p3), (.int p4)] 5)) t := fun t k => castTop (ef_3 m r0 p1 p2 p3 p4) k
  have k1 : ∀ t, Steps p.tables e below (s₁.setTop (mkF m 1 #[.val (.ref r0), .val (.int p1), .val (.int p2), .val (.int p3), .val (.int p4)] [(.ref r0)])) t → Steps p.tables e below (s₁.setTop (entryFrame m #[(.ref r0), (.int p1), (.int p2), (.int p3), (.int p4)] 5)) t := fun t k => k0 t (by
      show Steps p.tables e below (s₁.setTop (mkF m 0 #[.val (.ref r0), .val (.int p1), .val (.int p2), .val (.int p3), .val (.int p4)] [])) _
      refine XS.aloadN X0.here hx rfl (hb hby d3_0) rfl rfl ?_
      exact k)
  obtain ⟨T2, X2, e2, st2⟩ := initO X0 hx hZ hown (hw _ (List.mem_of_getElem? (i := 14) rfl)) (hw _ (List.mem_of_getElem? (i := 15) rfl)) (hw _ (List.mem_of_getElem? (i := 16) rfl)) e0 (g := (mkF m 1 #[.val (.ref r0), .val (.int p1), .val (.int p2), .val (.int p3), .val (.int p4)] [(.ref r0)])) rfl (by rw [hml]; rfl) rfl (hb hby d3_1) (by decide) (W := 0) (by show 2 * 0 + _ ≤ _; exact Nat.le_of_eq rfl) (by decide)
  have k3 : ∀ t, Steps p.tables e below (T2.setTop (mkF m 4 #[.val (.ref r0), .val (.int p1), .val (.int p2), .val (.int p3), .val (.int p4)] [])) t → Steps p.tables e below (s₁.setTop (entryFrame m #[(.ref r0), (.int p1), (.int p2), (.int p3), (.int p4)] 5)) t := fun t k => k1 t (st2 _ k)
  have hc5 : (0 : Int32) < p1 := hp1
  have hc9 : (0 : Int32) < p2 := hp2
  have hc14 : (0 : Int32) < p4 := hp4
  have hc29 : ¬ (p3 < p2) := hp3
  have k4 : ∀ t, Steps p.tables e below (T2.setTop (mkF m 44 #[.val (.ref r0), .val (.int p1), .val (.int p2), .val (.int p3), .val (.int p4)] [(.int p1), (.ref r0)])) t → Steps p.tables e below (s₁.setTop (entryFrame m #[(.ref r0), (.int p1), (.int p2), (.int p3), (.int p4)] 5)) t := fun t k => k3 t (by
      show Steps p.tables e below (T2.setTop (mkF m 4 #[.val (.ref r0), .val (.int p1), .val (.int p2), .val (.int p3), .val (.int p4)] [])) _
      refine XS.iloadN X2.here hx rfl (hb hby d3_4) rfl ?_
      show Steps p.tables e below (T2.setTop (mkF m 5 #[.val (.ref r0), .val (.int p1), .val (.int p2), .val (.int p3), .val (.int p4)] [(.int p1)])) _
      refine XS.ifNo X2.here hx rfl (hb hby d3_5) rfl ((if0 _ _).trans (tlt hc5).2.2.2) ?_
      show Steps p.tables e below (T2.setTop (mkF m 8 #[.val (.ref r0), .val (.int p1), .val (.int p2), .val (.int p3), .val (.int p4)] [])) _
      refine XS.iloadN X2.here hx rfl (hb hby d3_8) rfl ?_
      show Steps p.tables e below (T2.setTop (mkF m 9 #[.val (.ref r0), .val (.int p1), .val (.int p2), .val (.int p3), .val (.int p4)] [(.int p2)])) _
      refine XS.ifNo X2.here hx rfl (hb hby d3_9) rfl ((if0 _ _).trans (tlt hc9).2.2.2) ?_
      show Steps p.tables e below (T2.setTop (mkF m 12 #[.val (.ref r0), .val (.int p1), .val (.int p2), .val (.int p3), .val (.int p4)] [])) _
      refine XS.iload X2.here hx rfl (hb hby d3_12) rfl ?_
      show Steps p.tables e below (T2.setTop (mkF m 14 #[.val (.ref r0), .val (.int p1), .val (.int p2), .val (.int p3), .val (.int p4)] [(.int p4)])) _
      refine XS.ifYes X2.here hx rfl (pc0 := 14) (pc' := 27) rfl (hb hby d3_14) rfl ((if0 _ _).trans (tlt hc14).2.2.1) (by decide) (by decide) ?_
      show Steps p.tables e below (T2.setTop (mkF m 27 #[.val (.ref r0), .val (.int p1), .val (.int p2), .val (.int p3), .val (.int p4)] [])) _
      refine XS.iloadN X2.here hx rfl (hb hby d3_27) rfl ?_
      show Steps p.tables e below (T2.setTop (mkF m 28 #[.val (.ref r0), .val (.int p1), .val (.int p2), .val (.int p3), .val (.int p4)] [(.int p3)])) _
      refine XS.iloadN X2.here hx rfl (hb hby d3_28) rfl ?_
      show Steps p.tables e below (T2.setTop (mkF m 29 #[.val (.ref r0), .val (.int p1), .val (.int p2), .val (.int p3), .val (.int p4)] [(.int p2), (.int p3)])) _
      refine XS.icmpYes X2.here hx rfl (pc0 := 29) (pc' := 42) rfl (hb hby d3_29) rfl (flt hc29).2.1 (by decide) (by decide) ?_
      show Steps p.tables e below (T2.setTop (mkF m 42 #[.val (.ref r0), .val (.int p1), .val (.int p2), .val (.int p3), .val (.int p4)] [])) _
      refine XS.aloadN X2.here hx rfl (hb hby d3_42) rfl rfl ?_
      show Steps p.tables e below (T2.setTop (mkF m 43 #[.val (.ref r0), .val (.int p1), .val (.int p2), .val (.int p3), .val (.int p4)] [(.ref r0)])) _
      refine XS.iloadN X2.here hx rfl (hb hby d3_43) rfl ?_
      exact k)
  obtain ⟨T5, h5, X5, e5, W5, st5⟩ := putF X2 hx hZ hown (host := "") (Or.inl (hw _ (List.mem_of_getElem? (i := 17) rfl))) Via.refl e2 F_timeoutMs_r0 E_r0 (Or.inr ⟨(hw _ (List.mem_of_getElem? (i := 18) rfl)), rfl, hnm⟩) (hw _ (List.mem_of_getElem? (i := 9) rfl)) (ty := .int) (by decide) rfl rfl (g := (mkF m 44 #[.val (.ref r0), .val (.int p1), .val (.int p2), .val (.int p3), .val (.int p4)] [(.int p1), (.ref r0)])) rfl rfl (hb hby d3_44)
  have fc6 := (F_initialDelayMs_r0.other W5 (Or.inr (slot_ne (Or.inr (hw _ (List.mem_of_getElem? (i := 20) rfl))) (Or.inr (hw _ (List.mem_of_getElem? (i := 18) rfl))) (by decide) (t := .int) (t' := .int) (by decide) (by decide))))
  have fc7 := (F_maxDelayMs_r0.other W5 (Or.inr (slot_ne (Or.inr (hw _ (List.mem_of_getElem? (i := 22) rfl))) (Or.inr (hw _ (List.mem_of_getElem? (i := 18) rfl))) (by decide) (t := .int) (t' := .int) (by decide) (by decide))))
  have fc8 := (F_maxAttempts_r0.other W5 (Or.inr (slot_ne (Or.inr (hw _ (List.mem_of_getElem? (i := 24) rfl))) (Or.inr (hw _ (List.mem_of_getElem? (i := 18) rfl))) (by decide) (t := .int) (t' := .int) (by decide) (by decide))))
  have N5 := Fr.snoc X5 N0 g_r0
  have Zs5 : n0 ≤ h5.size := Nat.le_trans Z0 (Keep.of_wr W5).1
  have k9 : ∀ t, Steps p.tables e below (T5.setTop (mkF m 47 #[.val (.ref r0), .val (.int p1), .val (.int p2), .val (.int p3), .val (.int p4)] [])) t → Steps p.tables e below (s₁.setTop (entryFrame m #[(.ref r0), (.int p1), (.int p2), (.int p3), (.int p4)] 5)) t := fun t k => k4 t (st5 _ k)
  have k10 : ∀ t, Steps p.tables e below (T5.setTop (mkF m 49 #[.val (.ref r0), .val (.int p1), .val (.int p2), .val (.int p3), .val (.int p4)] [(.int p2), (.ref r0)])) t → Steps p.tables e below (s₁.setTop (entryFrame m #[(.ref r0), (.int p1), (.int p2), (.int p3), (.int p4)] 5)) t := fun t k => k9 t (by
      show Steps p.tables e below (T5.setTop (mkF m 47 #[.val (.ref r0), .val (.int p1), .val (.int p2), .val (.int p3), .val (.int p4)] [])) _
      refine XS.aloadN X5.here hx rfl (hb hby d3_47) rfl rfl ?_
      show Steps p.tables e below (T5.setTop (mkF m 48 #[.val (.ref r0), .val (.int p1), .val (.int p2), .val (.int p3), .val (.int p4)] [(.ref r0)])) _
      refine XS.iloadN X5.here hx rfl (hb hby d3_48) rfl ?_
      exact k)
  obtain ⟨T11, h11, X11, e11, W11, st11⟩ := putF X5 hx hZ hown (host := "") (Or.inl (hw _ (List.mem_of_getElem? (i := 19) rfl))) Via.refl e5 fc6 (E_r0.wr W5) (Or.inr ⟨(hw _ (List.mem_of_getElem? (i := 20) rfl)), rfl, hnm⟩) (hw _ (List.mem_of_getElem? (i := 9) rfl)) (ty := .int) (by decide) rfl rfl (g := (mkF m 49 #[.val (.ref r0), .val (.int p1), .val (.int p2), .val (.int p3), .val (.int p4)] [(.int p2), (.ref r0)])) rfl rfl (hb hby d3_49)
  have fc12 := ((F_timeoutMs_r0.same W5).other W11 (Or.inr (slot_ne (Or.inr (hw _ (List.mem_of_getElem? (i := 18) rfl))) (Or.inr (hw _ (List.mem_of_getElem? (i := 20) rfl))) (by decide) (t := .int) (t' := .int) (by decide) (by decide))))
  have fc13 := (fc7.other W11 (Or.inr (slot_ne (Or.inr (hw _ (List.mem_of_getElem? (i := 22) rfl))) (Or.inr (hw _ (List.mem_of_getElem? (i := 20) rfl))) (by decide) (t := .int) (t' := .int) (by decide) (by decide))))
  have fc14 := (fc8.other W11 (Or.inr (slot_ne (Or.inr (hw _ (List.mem_of_getElem? (i := 24) rfl))) (Or.inr (hw _ (List.mem_of_getElem? (i := 20) rfl))) (by decide) (t := .int) (t' := .int) (by decide) (by decide))))
  have N11 := Fr.snoc X11 N5 g_r0
  have Zs11 : n0 ≤ h11.size := Nat.le_trans Zs5 (Keep.of_wr W11).1
  have k15 : ∀ t, Steps p.tables e below (T11.setTop (mkF m 52 #[.val (.ref r0), .val (.int p1), .val (.int p2), .val (.int p3), .val (.int p4)] [])) t → Steps p.tables e below (s₁.setTop (entryFrame m #[(.ref r0), (.int p1), (.int p2), (.int p3), (.int p4)] 5)) t := fun t k => k10 t (st11 _ k)
  have k16 : ∀ t, Steps p.tables e below (T11.setTop (mkF m 54 #[.val (.ref r0), .val (.int p1), .val (.int p2), .val (.int p3), .val (.int p4)] [(.int p3), (.ref r0)])) t → Steps p.tables e below (s₁.setTop (entryFrame m #[(.ref r0), (.int p1), (.int p2), (.int p3), (.int p4)] 5)) t := fun t k => k15 t (by
      show Steps p.tables e below (T11.setTop (mkF m 52 #[.val (.ref r0), .val (.int p1), .val (.int p2), .val (.int p3), .val (.int p4)] [])) _
      refine XS.aloadN X11.here hx rfl (hb hby d3_52) rfl rfl ?_
      show Steps p.tables e below (T11.setTop (mkF m 53 #[.val (.ref r0), .val (.int p1), .val (.int p2), .val (.int p3), .val (.int p4)] [(.ref r0)])) _
      refine XS.iloadN X11.here hx rfl (hb hby d3_53) rfl ?_
      exact k)
  obtain ⟨T17, h17, X17, e17, W17, st17⟩ := putF X11 hx hZ hown (host := "") (Or.inl (hw _ (List.mem_of_getElem? (i := 21) rfl))) Via.refl e11 fc13 ((E_r0.wr W5).wr W11) (Or.inr ⟨(hw _ (List.mem_of_getElem? (i := 22) rfl)), rfl, hnm⟩) (hw _ (List.mem_of_getElem? (i := 9) rfl)) (ty := .int) (by decide) rfl rfl (g := (mkF m 54 #[.val (.ref r0), .val (.int p1), .val (.int p2), .val (.int p3), .val (.int p4)] [(.int p3), (.ref r0)])) rfl rfl (hb hby d3_54)
  have fc18 := (fc12.other W17 (Or.inr (slot_ne (Or.inr (hw _ (List.mem_of_getElem? (i := 18) rfl))) (Or.inr (hw _ (List.mem_of_getElem? (i := 22) rfl))) (by decide) (t := .int) (t' := .int) (by decide) (by decide))))
  have fc19 := ((fc6.same W11).other W17 (Or.inr (slot_ne (Or.inr (hw _ (List.mem_of_getElem? (i := 20) rfl))) (Or.inr (hw _ (List.mem_of_getElem? (i := 22) rfl))) (by decide) (t := .int) (t' := .int) (by decide) (by decide))))
  have fc20 := (fc14.other W17 (Or.inr (slot_ne (Or.inr (hw _ (List.mem_of_getElem? (i := 24) rfl))) (Or.inr (hw _ (List.mem_of_getElem? (i := 22) rfl))) (by decide) (t := .int) (t' := .int) (by decide) (by decide))))
  have N17 := Fr.snoc X17 N11 g_r0
  have Zs17 : n0 ≤ h17.size := Nat.le_trans Zs11 (Keep.of_wr W17).1
  have k21 : ∀ t, Steps p.tables e below (T17.setTop (mkF m 57 #[.val (.ref r0), .val (.int p1), .val (.int p2), .val (.int p3), .val (.int p4)] [])) t → Steps p.tables e below (s₁.setTop (entryFrame m #[(.ref r0), (.int p1), (.int p2), (.int p3), (.int p4)] 5)) t := fun t k => k16 t (st17 _ k)
  have k22 : ∀ t, Steps p.tables e below (T17.setTop (mkF m 60 #[.val (.ref r0), .val (.int p1), .val (.int p2), .val (.int p3), .val (.int p4)] [(.int p4), (.ref r0)])) t → Steps p.tables e below (s₁.setTop (entryFrame m #[(.ref r0), (.int p1), (.int p2), (.int p3), (.int p4)] 5)) t := fun t k => k21 t (by
      show Steps p.tables e below (T17.setTop (mkF m 57 #[.val (.ref r0), .val (.int p1), .val (.int p2), .val (.int p3), .val (.int p4)] [])) _
      refine XS.aloadN X17.here hx rfl (hb hby d3_57) rfl rfl ?_
      show Steps p.tables e below (T17.setTop (mkF m 58 #[.val (.ref r0), .val (.int p1), .val (.int p2), .val (.int p3), .val (.int p4)] [(.ref r0)])) _
      refine XS.iload X17.here hx rfl (hb hby d3_58) rfl ?_
      exact k)
  obtain ⟨T23, h23, X23, e23, W23, st23⟩ := putF X17 hx hZ hown (host := "") (Or.inl (hw _ (List.mem_of_getElem? (i := 23) rfl))) Via.refl e17 fc20 (((E_r0.wr W5).wr W11).wr W17) (Or.inr ⟨(hw _ (List.mem_of_getElem? (i := 24) rfl)), rfl, hnm⟩) (hw _ (List.mem_of_getElem? (i := 9) rfl)) (ty := .int) (by decide) rfl rfl (g := (mkF m 60 #[.val (.ref r0), .val (.int p1), .val (.int p2), .val (.int p3), .val (.int p4)] [(.int p4), (.ref r0)])) rfl rfl (hb hby d3_60)
  have fc24 := (fc18.other W23 (Or.inr (slot_ne (Or.inr (hw _ (List.mem_of_getElem? (i := 18) rfl))) (Or.inr (hw _ (List.mem_of_getElem? (i := 24) rfl))) (by decide) (t := .int) (t' := .int) (by decide) (by decide))))
  have fc25 := (fc19.other W23 (Or.inr (slot_ne (Or.inr (hw _ (List.mem_of_getElem? (i := 20) rfl))) (Or.inr (hw _ (List.mem_of_getElem? (i := 24) rfl))) (by decide) (t := .int) (t' := .int) (by decide) (by decide))))
  have fc26 := ((fc13.same W17).other W23 (Or.inr (slot_ne (Or.inr (hw _ (List.mem_of_getElem? (i := 22) rfl))) (Or.inr (hw _ (List.mem_of_getElem? (i := 24) rfl))) (by decide) (t := .int) (t' := .int) (by decide) (by decide))))
  have N23 := Fr.snoc X23 N17 g_r0
  have Zs23 : n0 ≤ h23.size := Nat.le_trans Zs17 (Keep.of_wr W23).1
  have k27 : ∀ t, Steps p.tables e below (T23.setTop (mkF m 63 #[.val (.ref r0), .val (.int p1), .val (.int p2), .val (.int p3), .val (.int p4)] [])) t → Steps p.tables e below (s₁.setTop (entryFrame m #[(.ref r0), (.int p1), (.int p2), (.int p3), (.int p4)] 5)) t := fun t k => k22 t (st23 _ k)
  obtain ⟨fs, hr, hrun, hended, hW, hsame⟩ := X23.leave (v := none) (fun _ => rfl)
  refine ⟨_, _, k27 _ ?_, hrun, hended, _, _, rfl, ?_, ⟨_, rfl⟩, hW, hsame.mono (by decide) (by decide)⟩
  · exact X23.returnOut hx Bd.returns (hb hby d3_63) hr
  · show Q3 Z r0 p1 p2 p3 p4 h0 n0 _ T23.heap _
    rw [e23]
    exact ⟨rfl, N23, (((((Keep.refl h0 [r0]).wr W5 (Or.inl (List.mem_of_getElem? (i := 0) rfl))).wr W11 (Or.inl (List.mem_of_getElem? (i := 0) rfl))).wr W17 (Or.inl (List.mem_of_getElem? (i := 0) rfl))).wr W23 (Or.inl (List.mem_of_getElem? (i := 0) rfl))), ((((E_r0.wr W5).wr W11).wr W17).wr W23), fc24, fc25, fc26, (fc20.same W23)⟩
theorem d5_0 : decode prog_6_method_4_code 0 = .ok (.aload_n 0, 1) := by decide +kernel
theorem d5_1 : decode prog_6_method_4_code 1 = .ok (.getfield 22, 3) := by decide +kernel
theorem d5_4 : decode prog_6_method_4_code 4 = .ok (.i2l, 1) := by decide +kernel
theorem d5_5 : decode prog_6_method_4_code 5 = .ok (.lstore_n 2, 1) := by decide +kernel
theorem d5_6 : decode prog_6_method_4_code 6 = .ok (.iconst 1, 1) := by decide +kernel
theorem d5_7 : decode prog_6_method_4_code 7 = .ok (.istore 4, 2) := by decide +kernel
theorem d5_9 : decode prog_6_method_4_code 9 = .ok (.iload 4, 2) := by decide +kernel
theorem d5_11 : decode prog_6_method_4_code 11 = .ok (.iload_n 1, 1) := by decide +kernel
theorem d5_12 : decode prog_6_method_4_code 12 = .ok (.if_icmp .ge 25, 3) := by decide +kernel
theorem d5_15 : decode prog_6_method_4_code 15 = .ok (.lload_n 2, 1) := by decide +kernel
theorem d5_16 : decode prog_6_method_4_code 16 = .ok (.aload_n 0, 1) := by decide +kernel
theorem d5_17 : decode prog_6_method_4_code 17 = .ok (.getfield 25, 3) := by decide +kernel
theorem d5_20 : decode prog_6_method_4_code 20 = .ok (.i2l, 1) := by decide +kernel
theorem d5_21 : decode prog_6_method_4_code 21 = .ok (.lcmp, 1) := by decide +kernel
theorem d5_22 : decode prog_6_method_4_code 22 = .ok (.ifCond .ge 15, 3) := by decide +kernel
theorem d5_25 : decode prog_6_method_4_code 25 = .ok (.lload_n 2, 1) := by decide +kernel
theorem d5_26 : decode prog_6_method_4_code 26 = .ok (.ldc2_w 31, 3) := by decide +kernel
theorem d5_29 : decode prog_6_method_4_code 29 = .ok (.lmul, 1) := by decide +kernel
theorem d5_30 : decode prog_6_method_4_code 30 = .ok (.lstore_n 2, 1) := by decide +kernel
theorem d5_31 : decode prog_6_method_4_code 31 = .ok (.iinc 4 1, 3) := by decide +kernel
theorem d5_34 : decode prog_6_method_4_code 34 = .ok (.goto (-25), 3) := by decide +kernel
theorem d5_37 : decode prog_6_method_4_code 37 = .ok (.lload_n 2, 1) := by decide +kernel
theorem d5_38 : decode prog_6_method_4_code 38 = .ok (.aload_n 0, 1) := by decide +kernel
theorem d5_39 : decode prog_6_method_4_code 39 = .ok (.getfield 25, 3) := by decide +kernel
theorem d5_42 : decode prog_6_method_4_code 42 = .ok (.i2l, 1) := by decide +kernel
theorem d5_43 : decode prog_6_method_4_code 43 = .ok (.invokestatic 33, 3) := by decide +kernel
theorem d5_46 : decode prog_6_method_4_code 46 = .ok (.lreturn, 1) := by decide +kernel
theorem ef_5 (m : MethodId) (r0 : Addr) (p1 : Int32) : entryFrame m #[(.ref r0), (.int p1)] 5 = mkF m 0 #[.val (.ref r0), .val (.int p1), .unset, .unset, .unset] [] := by first | (simp [entryFrame, mkF, argsToLocals, Value.category]; done) | rfl
theorem pd_0 : parseMethodDescriptor "(JJ)J" = some ⟨[.long, .long], some .long⟩ := by decide +kernel
def Q5 (Z : State) (r0 : Addr) (p1 : Int32) (a : Int32) (mm : Int32) (h0 : Heap) (n0 : Nat) (v : Option Value) (h : Heap) (L : List Loc) : Prop := v = some (.long (own_exp a mm p1)) ∧ Fr n0 L ∧ h = h0
set_option maxRecDepth 65536 in
set_option maxHeartbeats 40000000 in
theorem rm5 (l : Launch) (Z : State) (a0 : Array Value) (hw : ∀ d ∈ tables_1, d.before a0 Z = true) (ws : List Jvm.Cond) (r0 : Addr) (p1 : Int32) (a : Int32) (mm : Int32) (h0 : Heap) (n0 : Nat) (Z0 : n0 ≤ h0.size) (F_initialDelayMs_r0 : Fld Z h0 r0 "com/example/mediawarden/mediawarden/config/CallbackSettings" "initialDelayMs" "I" (.int a)) (F_maxDelayMs_r0 : Fld Z h0 r0 "com/example/mediawarden/mediawarden/config/CallbackSettings" "maxDelayMs" "I" (.int mm)) (ha : 1 ≤ a.toInt) (ham : a.toInt ≤ mm.toInt) (hf : 1 ≤ p1.toInt) :
    MetFree l (⟨"com/example/mediawarden/mediawarden/config/CallbackSettings", "delayAfter", "(I)J"⟩ : MethodName) (head1 (Jvm.Cond.code (⟨"com/example/mediawarden/mediawarden/config/CallbackSettings", "delayAfter", "(I)J"⟩ : MethodName) prog_6_method_4_code 5 (some .long) :: ws) ({ frames := 1, cells := 0, slots := 0, locals := 15 } : Room)) (fun a U => a = #[(.ref r0), (.int p1)] ∧ Z.Warmed39 U.vm ∧ U.heap = h0) (fun _ _ _ _ _ => True) (fun _ U o U' => ∃ v L, o = .returned v ∧ Q5 Z r0 p1 a mm h0 n0 v U'.heap L ∧ FrameEnd U o U' L ({ frames := 1, cells := 0, slots := 0, locals := 15 } : Room).cells ({ frames := 1, cells := 0, slots := 0, locals := 15 } : Room).slots) := by
  refine MetFree.of_bodySF (plainFor_of_name pn_0) hisR ?_
  intro p e s m args below meth c s₁ Bd hml0 hP hK
  obtain ⟨rfl, hZ, hh⟩ := hP
  have hx := Bd.exec
  have hby := Bd.bytes
  have hml : c.maxLocals = 5 := hml0
  have hown : s.vm.findClass "com/example/mediawarden/mediawarden/config/CallbackSettings" = some m.cls := findClass_of_methodNamed Bd.named
  have hnm := (name_of_methodNamed Bd.named Bd.method).1
  have X0 : Stand p l e ({ frames := 1, cells := 0, slots := 0, locals := 15 } : Room) s m #[(.ref r0), (.int p1)] below meth c s₁ [] 0 0 := Stand.of_body Bd
  have e0 : s₁.heap = h0 := by rw [← hh, Bd.state]; rfl
  have N0 := Fr.nil n0
  have k0 : ∀ t, Steps p.tables e below (s₁.setTop (mkF m 0 #[.val (.ref r0), .val (.int p1), .unset, .unset, .unset] [])) t → Steps p.tables e below (s₁.setTop (entryFrame m #[(.ref r0), (.int p1)] 5)) t := fun t k => castTop (ef_5 m r0 p1) k
  have k1 : ∀ t, Steps p.tables e below (s₁.setTop (mkF m 1 #[.val (.ref r0), .val (.int p1), .unset, .unset, .unset] [(.ref r0)])) t → Steps p.tables e below (s₁.setTop (entryFrame m #[(.ref r0), (.int p1)] 5)) t := fun t k => k0 t (by
      show Steps p.tables e below (s₁.setTop (mkF m 0 #[.val (.ref r0), .val (.int p1), .unset, .unset, .unset] [])) _
      refine XS.aloadN X0.here hx rfl (hb hby d5_0) rfl rfl ?_
      exact k)
  obtain ⟨T2, X2, e2, st2⟩ := getF X0 hx hZ hown (host := "") (Or.inl (hw _ (List.mem_of_getElem? (i := 19) rfl))) Via.refl e0 F_initialDelayMs_r0 (g := (mkF m 1 #[.val (.ref r0), .val (.int p1), .unset, .unset, .unset] [(.ref r0)])) rfl rfl (hb hby d5_1)
  have k3 : ∀ t, Steps p.tables e below (T2.setTop (mkF m 4 #[.val (.ref r0), .val (.int p1), .unset, .unset, .unset] [(.int a)])) t → Steps p.tables e below (s₁.setTop (entryFrame m #[(.ref r0), (.int p1)] 5)) t := fun t k => k1 t (st2 _ k)
  have k4 : ∀ t, Steps p.tables e below (T2.setTop (mkF m 9 #[.val (.ref r0), .val (.int p1), .val (.long (a.toInt64)), .second, .val (.int (1 : Int32))] [])) t → Steps p.tables e below (s₁.setTop (entryFrame m #[(.ref r0), (.int p1)] 5)) t := fun t k => k3 t (by
      show Steps p.tables e below (T2.setTop (mkF m 4 #[.val (.ref r0), .val (.int p1), .unset, .unset, .unset] [(.int a)])) _
      refine XS.i2l X2.here hx rfl (hb hby d5_4) rfl ?_
      show Steps p.tables e below (T2.setTop (mkF m 5 #[.val (.ref r0), .val (.int p1), .unset, .unset, .unset] [(.long (a.toInt64))])) _
      refine XS.lstoreN X2.here hx rfl (hb hby d5_5) rfl (l' := #[.val (.ref r0), .val (.int p1), .val (.long (a.toInt64)), .second, .unset]) rfl ?_
      show Steps p.tables e below (T2.setTop (mkF m 6 #[.val (.ref r0), .val (.int p1), .val (.long (a.toInt64)), .second, .unset] [])) _
      refine XS.iconst X2.here hx rfl (hb hby d5_6) ?_
      show Steps p.tables e below (T2.setTop (mkF m 7 #[.val (.ref r0), .val (.int p1), .val (.long (a.toInt64)), .second, .unset] [(.int (1 : Int32))])) _
      refine XS.istore X2.here hx rfl (hb hby d5_7) rfl (l' := #[.val (.ref r0), .val (.int p1), .val (.long (a.toInt64)), .second, .val (.int (1 : Int32))]) rfl ?_
      exact k)
  have loop : ∀ (n : Nat) (T : State) (q : Int64) (i : Int32), Stand p l e ({ frames := 1, cells := 0, slots := 0, locals := 15 } : Room) s m #[(.ref r0), (.int p1)] below meth c T [] 0 0 → T.heap = h0 → (p1.toInt - i.toInt).toNat = n → 1 ≤ i.toInt → i.toInt ≤ p1.toInt → q.toInt = own_pw a i → q.toInt ≤ 2 * mm.toInt →
      ∃ (T' : State) (q' : Int64) (i' : Int32), Stand p l e ({ frames := 1, cells := 0, slots := 0, locals := 15 } : Room) s m #[(.ref r0), (.int p1)] below meth c T' [] 0 0 ∧ T'.heap = h0 ∧ min q'.toInt mm.toInt = min (own_pw a p1) mm.toInt ∧ ∀ t, Steps p.tables e below (T'.setTop (mkF m 37 #[.val (.ref r0), .val (.int p1), .val (.long q'), .second, .val (.int i')] [])) t → Steps p.tables e below (T.setTop (mkF m 9 #[.val (.ref r0), .val (.int p1), .val (.long q), .second, .val (.int i)] [])) t := by
    intro n
    induction n using Nat.strongRecOn with
    | _ n ih =>
    intro T q i X0 e0 hn h1 hi hq hb2
    have k0 : ∀ t, Steps p.tables e below (T.setTop (mkF m 9 #[.val (.ref r0), .val (.int p1), .val (.long q), .second, .val (.int i)] [])) t → Steps p.tables e below (T.setTop (mkF m 9 #[.val (.ref r0), .val (.int p1), .val (.long q), .second, .val (.int i)] [])) t := fun t k => k
    have ml := mm.toInt_lt
    have k5 : ∀ t, Steps p.tables e below (T.setTop (mkF m 12 #[.val (.ref r0), .val (.int p1), .val (.long q), .second, .val (.int i)] [(.int p1), (.int i)])) t → Steps p.tables e below (T.setTop (mkF m 9 #[.val (.ref r0), .val (.int p1), .val (.long q), .second, .val (.int i)] [])) t := fun t k => k0 t (by
        show Steps p.tables e below (T.setTop (mkF m 9 #[.val (.ref r0), .val (.int p1), .val (.long q), .second, .val (.int i)] [])) _
        refine XS.iload X0.here hx rfl (hb hby d5_9) rfl ?_
        show Steps p.tables e below (T.setTop (mkF m 11 #[.val (.ref r0), .val (.int p1), .val (.long q), .second, .val (.int i)] [(.int i)])) _
        refine XS.iloadN X0.here hx rfl (hb hby d5_11) rfl ?_
        exact k)
    by_cases hc12 : i < p1
    · have k6 : ∀ t, Steps p.tables e below (T.setTop (mkF m 17 #[.val (.ref r0), .val (.int p1), .val (.long q), .second, .val (.int i)] [(.ref r0), (.long q)])) t → Steps p.tables e below (T.setTop (mkF m 9 #[.val (.ref r0), .val (.int p1), .val (.long q), .second, .val (.int i)] [])) t := fun t k => k5 t (by
          show Steps p.tables e below (T.setTop (mkF m 12 #[.val (.ref r0), .val (.int p1), .val (.long q), .second, .val (.int i)] [(.int p1), (.int i)])) _
          refine XS.icmpNo X0.here hx rfl (hb hby d5_12) rfl (tlt hc12).2.1 ?_
          show Steps p.tables e below (T.setTop (mkF m 15 #[.val (.ref r0), .val (.int p1), .val (.long q), .second, .val (.int i)] [])) _
          refine XS.lloadN X0.here hx rfl (hb hby d5_15) rfl ?_
          show Steps p.tables e below (T.setTop (mkF m 16 #[.val (.ref r0), .val (.int p1), .val (.long q), .second, .val (.int i)] [(.long q)])) _
          refine XS.aloadN X0.here hx rfl (hb hby d5_16) rfl rfl ?_
          exact k)
      obtain ⟨T7, X7, e7, st7⟩ := getF X0 hx hZ hown (host := "") (Or.inl (hw _ (List.mem_of_getElem? (i := 21) rfl))) Via.refl e0 F_maxDelayMs_r0 (g := (mkF m 17 #[.val (.ref r0), .val (.int p1), .val (.long q), .second, .val (.int i)] [(.ref r0), (.long q)])) rfl rfl (hb hby d5_17)
      have k8 : ∀ t, Steps p.tables e below (T7.setTop (mkF m 20 #[.val (.ref r0), .val (.int p1), .val (.long q), .second, .val (.int i)] [(.int mm), (.long q)])) t → Steps p.tables e below (T.setTop (mkF m 9 #[.val (.ref r0), .val (.int p1), .val (.long q), .second, .val (.int i)] [])) t := fun t k => k6 t (st7 _ k)
      have k9 : ∀ t, Steps p.tables e below (T7.setTop (mkF m 22 #[.val (.ref r0), .val (.int p1), .val (.long q), .second, .val (.int i)] [(.int (lcmpW q (mm.toInt64)))])) t → Steps p.tables e below (T.setTop (mkF m 9 #[.val (.ref r0), .val (.int p1), .val (.long q), .second, .val (.int i)] [])) t := fun t k => k8 t (by
          show Steps p.tables e below (T7.setTop (mkF m 20 #[.val (.ref r0), .val (.int p1), .val (.long q), .second, .val (.int i)] [(.int mm), (.long q)])) _
          refine XS.i2l X7.here hx rfl (hb hby d5_20) rfl ?_
          show Steps p.tables e below (T7.setTop (mkF m 21 #[.val (.ref r0), .val (.int p1), .val (.long q), .second, .val (.int i)] [(.long (mm.toInt64)), (.long q)])) _
          refine XS.lcmp X7.here hx rfl (hb hby d5_21) rfl ?_
          exact k)
      by_cases hc22 : (lcmpW q (mm.toInt64)) < (0 : Int32)
      · have k10 : ∀ t, Steps p.tables e below (T7.setTop (mkF m 9 #[.val (.ref r0), .val (.int p1), .val (.long (q * (2 : Int64))), .second, .val (.int (i + (1 : Int32)))] [])) t → Steps p.tables e below (T.setTop (mkF m 9 #[.val (.ref r0), .val (.int p1), .val (.long q), .second, .val (.int i)] [])) t := fun t k => k9 t (by
            show Steps p.tables e below (T7.setTop (mkF m 22 #[.val (.ref r0), .val (.int p1), .val (.long q), .second, .val (.int i)] [(.int (lcmpW q (mm.toInt64)))])) _
            refine XS.ifNo X7.here hx rfl (hb hby d5_22) rfl ((if0 _ _).trans (tlt hc22).2.1) ?_
            show Steps p.tables e below (T7.setTop (mkF m 25 #[.val (.ref r0), .val (.int p1), .val (.long q), .second, .val (.int i)] [])) _
            refine XS.lloadN X7.here hx rfl (hb hby d5_25) rfl ?_
            show Steps p.tables e below (T7.setTop (mkF m 26 #[.val (.ref r0), .val (.int p1), .val (.long q), .second, .val (.int i)] [(.long q)])) _
            refine X7.ldc2Long hx hown (mvT hZ (hw _ (List.mem_of_getElem? (i := 30) rfl))) (g := (mkF m 26 #[.val (.ref r0), .val (.int p1), .val (.long q), .second, .val (.int i)] [(.long q)])) rfl (hb hby d5_26) _ ?_
            show Steps p.tables e below (T7.setTop (mkF m 29 #[.val (.ref r0), .val (.int p1), .val (.long q), .second, .val (.int i)] [(.long (2 : Int64)), (.long q)])) _
            refine XS.lmul X7.here hx rfl (hb hby d5_29) rfl ?_
            show Steps p.tables e below (T7.setTop (mkF m 30 #[.val (.ref r0), .val (.int p1), .val (.long q), .second, .val (.int i)] [(.long (q * (2 : Int64)))])) _
            refine XS.lstoreN X7.here hx rfl (hb hby d5_30) rfl (l' := #[.val (.ref r0), .val (.int p1), .val (.long (q * (2 : Int64))), .second, .val (.int i)]) rfl ?_
            show Steps p.tables e below (T7.setTop (mkF m 31 #[.val (.ref r0), .val (.int p1), .val (.long (q * (2 : Int64))), .second, .val (.int i)] [])) _
            refine XS.iinc X7.here hx rfl (hb hby d5_31) rfl (l' := #[.val (.ref r0), .val (.int p1), .val (.long (q * (2 : Int64))), .second, .val (.int (i + (1 : Int32)))]) rfl ?_
            show Steps p.tables e below (T7.setTop (mkF m 34 #[.val (.ref r0), .val (.int p1), .val (.long (q * (2 : Int64))), .second, .val (.int (i + (1 : Int32)))] [])) _
            refine XS.goto X7.here hx rfl (pc0 := 34) (pc' := 9) rfl (hb hby d5_34) (by decide) (by decide) ?_
            exact k)
        rw [Int32.lt_iff_toInt_lt] at hc12
        rw [lcW, lc_lt, Int64.lt_iff_toInt_lt, Int32.toInt_toInt64] at hc22
        have hq0 := own_pw_pos a i ha
        have es := own_succ i p1 hc12
        have em : (q * (2 : Int64)).toInt = q.toInt * 2 := Jvm.Kit.i64_mul (by rw [show (2 : Int64).toInt = 2 by decide]; omega) (by rw [show (2 : Int64).toInt = 2 by decide]; omega)
        obtain ⟨T', q', i', X', e', hm', kk⟩ := ih _ (by omega : (p1.toInt - (i + (1 : Int32)).toInt).toNat < n) T7 (q * (2 : Int64)) (i + (1 : Int32)) X7 e7 rfl (by omega) (by omega) (by rw [em, hq, own_pw_succ a i p1 h1 hc12]) (by omega)
        exact ⟨T', q', i', X', e', hm', fun t k => k10 t (kk t k)⟩
      · have k11 : ∀ t, Steps p.tables e below (T7.setTop (mkF m 37 #[.val (.ref r0), .val (.int p1), .val (.long q), .second, .val (.int i)] [])) t → Steps p.tables e below (T.setTop (mkF m 9 #[.val (.ref r0), .val (.int p1), .val (.long q), .second, .val (.int i)] [])) t := fun t k => k9 t (by
            show Steps p.tables e below (T7.setTop (mkF m 22 #[.val (.ref r0), .val (.int p1), .val (.long q), .second, .val (.int i)] [(.int (lcmpW q (mm.toInt64)))])) _
            refine XS.ifYes X7.here hx rfl (pc0 := 22) (pc' := 37) rfl (hb hby d5_22) rfl ((if0 _ _).trans (flt hc22).2.1) (by decide) (by decide) ?_
            exact k)
        rw [lcW, lc_lt, Int64.lt_iff_toInt_lt, Int32.toInt_toInt64] at hc22
        have mo := own_pw_mono a i p1 ha hi
        exact ⟨T7, q, i, X7, e7, (by omega), k11⟩
    · have k12 : ∀ t, Steps p.tables e below (T.setTop (mkF m 37 #[.val (.ref r0), .val (.int p1), .val (.long q), .second, .val (.int i)] [])) t → Steps p.tables e below (T.setTop (mkF m 9 #[.val (.ref r0), .val (.int p1), .val (.long q), .second, .val (.int i)] [])) t := fun t k => k5 t (by
          show Steps p.tables e below (T.setTop (mkF m 12 #[.val (.ref r0), .val (.int p1), .val (.long q), .second, .val (.int i)] [(.int p1), (.int i)])) _
          refine XS.icmpYes X0.here hx rfl (pc0 := 12) (pc' := 37) rfl (hb hby d5_12) rfl (flt hc12).2.1 (by decide) (by decide) ?_
          exact k)
      rw [Int32.lt_iff_toInt_lt] at hc12
      have ei : i = p1 := Int32.toInt_inj.mp (by omega)
      exact ⟨T, q, i, X0, e0, (by rw [hq, ei]), k12⟩
  have hpa : own_pw a (1 : Int32) = a.toInt := by unfold own_pw; rw [show ((1 : Int32).toInt - 1).toNat = 0 by decide, Int.pow_zero, Int.mul_one]
  obtain ⟨T9, q9, i9, X9, e9, hm9, kk9⟩ := loop _ T2 (a.toInt64) (1 : Int32) X2 e2 rfl (by decide) hf (by rw [Int32.toInt_toInt64, hpa]) (by rw [Int32.toInt_toInt64]; omega)
  have k13 : ∀ t, Steps p.tables e below (T9.setTop (mkF m 37 #[.val (.ref r0), .val (.int p1), .val (.long q9), .second, .val (.int i9)] [])) t → Steps p.tables e below (s₁.setTop (entryFrame m #[(.ref r0), (.int p1)] 5)) t := fun t k => k4 t (kk9 t k)
  have k14 : ∀ t, Steps p.tables e below (T9.setTop (mkF m 39 #[.val (.ref r0), .val (.int p1), .val (.long q9), .second, .val (.int i9)] [(.ref r0), (.long q9)])) t → Steps p.tables e below (s₁.setTop (entryFrame m #[(.ref r0), (.int p1)] 5)) t := fun t k => k13 t (by
      show Steps p.tables e below (T9.setTop (mkF m 37 #[.val (.ref r0), .val (.int p1), .val (.long q9), .second, .val (.int i9)] [])) _
      refine XS.lloadN X9.here hx rfl (hb hby d5_37) rfl ?_
      show Steps p.tables e below (T9.setTop (mkF m 38 #[.val (.ref r0), .val (.int p1), .val (.long q9), .second, .val (.int i9)] [(.long q9)])) _
      refine XS.aloadN X9.here hx rfl (hb hby d5_38) rfl rfl ?_
      exact k)
  obtain ⟨T15, X15, e15, st15⟩ := getF X9 hx hZ hown (host := "") (Or.inl (hw _ (List.mem_of_getElem? (i := 21) rfl))) Via.refl e9 F_maxDelayMs_r0 (g := (mkF m 39 #[.val (.ref r0), .val (.int p1), .val (.long q9), .second, .val (.int i9)] [(.ref r0), (.long q9)])) rfl rfl (hb hby d5_39)
  have k16 : ∀ t, Steps p.tables e below (T15.setTop (mkF m 42 #[.val (.ref r0), .val (.int p1), .val (.long q9), .second, .val (.int i9)] [(.int mm), (.long q9)])) t → Steps p.tables e below (s₁.setTop (entryFrame m #[(.ref r0), (.int p1)] 5)) t := fun t k => k14 t (st15 _ k)
  have k17 : ∀ t, Steps p.tables e below (T15.setTop (mkF m 43 #[.val (.ref r0), .val (.int p1), .val (.long q9), .second, .val (.int i9)] [(.long (mm.toInt64)), (.long q9)])) t → Steps p.tables e below (s₁.setTop (entryFrame m #[(.ref r0), (.int p1)] 5)) t := fun t k => k16 t (by
      show Steps p.tables e below (T15.setTop (mkF m 42 #[.val (.ref r0), .val (.int p1), .val (.long q9), .second, .val (.int i9)] [(.int mm), (.long q9)])) _
      refine XS.i2l X15.here hx rfl (hb hby d5_42) rfl ?_
      exact k)
  obtain ⟨_, _, ⟨T18, L18, kq18, n18⟩, -, X18, ⟨Lc18, hQ18, l18, y18, z18⟩, st18⟩ := Jvm.LawKit.callS X15 hx (y := (⟨"java/lang/Math", "min", "(JJ)J"⟩ : MethodName)) hown (mvT hZ (hw _ (List.mem_of_getElem? (i := 31) rfl))) (mvT hZ (hw _ (List.mem_of_getElem? (i := 32) rfl))) (mvT hZ (hw _ (List.mem_of_getElem? (i := 3) rfl))) (mvT hZ (hw _ (List.mem_of_getElem? (i := 33) rfl))) (by decide) (backOf (W := 0) (rm6 l Z a0 hw [] q9 (mm.toInt64) h0 n0 Z0) hZ (hw _ (List.mem_of_getElem? (i := 33) rfl)) (hw _ (List.mem_of_getElem? (i := 3) rfl)) (by decide) (by decide)) (g := (mkF m 43 #[.val (.ref r0), .val (.int p1), .val (.long q9), .second, .val (.int i9)] [(.long (mm.toInt64)), (.long q9)])) rfl (by rw [hml]; rfl) (argsL := [(.long q9), (.long (mm.toInt64))]) (rest := []) (lenOf pd_0 rfl) rfl (by show 2 * 0 + _ ≤ _; exact Nat.le_of_eq rfl) (hb hby d5_43) (fun _ _ => ⟨rfl, e15, (by decide : 0 + 0 ≤ _), (by decide : 0 + 0 ≤ _)⟩)
  dsimp only [Pt.U, Pt.locs, Pt.cells, Pt.slots] at X18 l18 y18 z18 st18 hQ18
  subst l18 y18 z18
  obtain ⟨rfl, N18q, e18⟩ := hQ18
  have N18 := Fr.app N0 N18q
  have k19 : ∀ t, Steps p.tables e below (T18.setTop (mkF m 46 #[.val (.ref r0), .val (.int p1), .val (.long q9), .second, .val (.int i9)] [(.long (own_minL q9 (mm.toInt64)))])) t → Steps p.tables e below (s₁.setTop (entryFrame m #[(.ref r0), (.int p1)] 5)) t := fun t k => k17 t (st18 _ k)
  obtain ⟨fs, hr, hrun, hended, hW, hsame⟩ := X18.leave (v := (some (.long (own_minL q9 (mm.toInt64))))) (fun h => by rw [Bd.returns] at h; cases h)
  refine ⟨_, _, k19 _ ?_, hrun, hended, _, _, rfl, ?_, ⟨_, rfl⟩, hW, hsame.mono (by decide) (by decide)⟩
  · exact retOut X18 hx Bd.returns rfl (Or.inr (Or.inl ⟨rfl, rfl, _, rfl⟩)) (hb hby d5_46) hr
  · show Q5 Z r0 p1 a mm h0 n0 _ T18.heap _
    rw [e18]
    exact ⟨congrArg (fun z => some (Value.long z)) (own_fin ha (by omega) hm9), N18, rfl⟩
theorem d7_0 : decode method_3_code 0 = .ok (.iload_n 2, 1) := by decide +kernel
theorem d7_1 : decode method_3_code 1 = .ok (.iconst 1, 1) := by decide +kernel
theorem d7_2 : decode method_3_code 2 = .ok (.isub, 1) := by decide +kernel
theorem d7_3 : decode method_3_code 3 = .ok (.istore_n 3, 1) := by decide +kernel
theorem d7_4 : decode method_3_code 4 = .ok (.iload_n 3, 1) := by decide +kernel
theorem d7_5 : decode method_3_code 5 = .ok (.bipush 31, 2) := by decide +kernel
theorem d7_7 : decode method_3_code 7 = .ok (.if_icmp .lt 6, 3) := by decide +kernel
theorem d7_10 : decode method_3_code 10 = .ok (.iload_n 1, 1) := by decide +kernel
theorem d7_11 : decode method_3_code 11 = .ok (.i2l, 1) := by decide +kernel
theorem d7_12 : decode method_3_code 12 = .ok (.lreturn, 1) := by decide +kernel
theorem d7_13 : decode method_3_code 13 = .ok (.iload_n 0, 1) := by decide +kernel
theorem d7_14 : decode method_3_code 14 = .ok (.i2l, 1) := by decide +kernel
theorem d7_15 : decode method_3_code 15 = .ok (.iload_n 3, 1) := by decide +kernel
theorem d7_16 : decode method_3_code 16 = .ok (.lshl, 1) := by decide +kernel
theorem d7_17 : decode method_3_code 17 = .ok (.lstore 4, 2) := by decide +kernel
theorem d7_19 : decode method_3_code 19 = .ok (.lload 4, 2) := by decide +kernel
theorem d7_21 : decode method_3_code 21 = .ok (.iload_n 1, 1) := by decide +kernel
theorem d7_22 : decode method_3_code 22 = .ok (.i2l, 1) := by decide +kernel
theorem d7_23 : decode method_3_code 23 = .ok (.invokestatic 32, 3) := by decide +kernel
theorem d7_26 : decode method_3_code 26 = .ok (.lreturn, 1) := by decide +kernel
theorem ef_7 (m : MethodId) (p0 : Int32) (p1 : Int32) (p2 : Int32) : entryFrame m #[(.int p0), (.int p1), (.int p2)] 6 = mkF m 0 #[.val (.int p0), .val (.int p1), .val (.int p2), .unset, .unset, .unset] [] := by first | (simp [entryFrame, mkF, argsToLocals, Value.category]; done) | rfl
theorem pn_1 : plainName "com/example/mediawarden/mediawarden/config/CallbackSettingsDelayAfterPinLaw" = true := by first | (simp [plainName, overriddenIn]; done) | decide +kernel
def Q7 (Z : State) (p0 : Int32) (p1 : Int32) (p2 : Int32) (h0 : Heap) (n0 : Nat) (v : Option Value) (h : Heap) (L : List Loc) : Prop := v = some (.long (own_exp p0 p1 p2)) ∧ Fr n0 L ∧ h = h0
set_option maxRecDepth 65536 in
set_option maxHeartbeats 40000000 in
theorem rm7 (l : Launch) (Z : State) (a0 : Array Value) (hw : ∀ d ∈ tables_1, d.before a0 Z = true) (ws : List Jvm.Cond) (p0 : Int32) (p1 : Int32) (p2 : Int32) (h0 : Heap) (n0 : Nat) (Z0 : n0 ≤ h0.size) (ha : 1 ≤ p0.toInt) (ham : p0.toInt ≤ p1.toInt) (hf : 1 ≤ p2.toInt) :
    MetFree l (⟨"com/example/mediawarden/mediawarden/config/CallbackSettingsDelayAfterPinLaw", "expected", "(III)J"⟩ : MethodName) (head1 (Jvm.Cond.code (⟨"com/example/mediawarden/mediawarden/config/CallbackSettingsDelayAfterPinLaw", "expected", "(III)J"⟩ : MethodName) method_3_code 6 (some .long) :: ws) ({ frames := 1, cells := 0, slots := 0, locals := 15 } : Room)) (fun a U => a = #[(.int p0), (.int p1), (.int p2)] ∧ Z.Warmed39 U.vm ∧ U.heap = h0) (fun _ _ _ _ _ => True) (fun _ U o U' => ∃ v L, o = .returned v ∧ Q7 Z p0 p1 p2 h0 n0 v U'.heap L ∧ FrameEnd U o U' L ({ frames := 1, cells := 0, slots := 0, locals := 15 } : Room).cells ({ frames := 1, cells := 0, slots := 0, locals := 15 } : Room).slots) := by
  refine MetFree.of_bodySF (plainFor_of_name pn_1) hisR ?_
  intro p e s m args below meth c s₁ Bd hml0 hP hK
  obtain ⟨rfl, hZ, hh⟩ := hP
  have hx := Bd.exec
  have hby := Bd.bytes
  have hml : c.maxLocals = 6 := hml0
  have hown : s.vm.findClass "com/example/mediawarden/mediawarden/config/CallbackSettingsDelayAfterPinLaw" = some m.cls := findClass_of_methodNamed Bd.named
  have hnm := (name_of_methodNamed Bd.named Bd.method).1
  have X0 : Stand p l e ({ frames := 1, cells := 0, slots := 0, locals := 15 } : Room) s m #[(.int p0), (.int p1), (.int p2)] below meth c s₁ [] 0 0 := Stand.of_body Bd
  have e0 : s₁.heap = h0 := by rw [← hh, Bd.state]; rfl
  have N0 := Fr.nil n0
  have k0 : ∀ t, Steps p.tables e below (s₁.setTop (mkF m 0 #[.val (.int p0), .val (.int p1), .val (.int p2), .unset, .unset, .unset] [])) t → Steps p.tables e below (s₁.setTop (entryFrame m #[(.int p0), (.int p1), (.int p2)] 6)) t := fun t k => castTop (ef_7 m p0 p1 p2) k
  have k1 : ∀ t, Steps p.tables e below (s₁.setTop (mkF m 7 #[.val (.int p0), .val (.int p1), .val (.int p2), .val (.int (p2 - (1 : Int32))), .unset, .unset] [(.int (31 : Int32)), (.int (p2 - (1 : Int32)))])) t → Steps p.tables e below (s₁.setTop (entryFrame m #[(.int p0), (.int p1), (.int p2)] 6)) t := fun t k => k0 t (by
      show Steps p.tables e below (s₁.setTop (mkF m 0 #[.val (.int p0), .val (.int p1), .val (.int p2), .unset, .unset, .unset] [])) _
      refine XS.iloadN X0.here hx rfl (hb hby d7_0) rfl ?_
      show Steps p.tables e below (s₁.setTop (mkF m 1 #[.val (.int p0), .val (.int p1), .val (.int p2), .unset, .unset, .unset] [(.int p2)])) _
      refine XS.iconst X0.here hx rfl (hb hby d7_1) ?_
      show Steps p.tables e below (s₁.setTop (mkF m 2 #[.val (.int p0), .val (.int p1), .val (.int p2), .unset, .unset, .unset] [(.int (1 : Int32)), (.int p2)])) _
      refine XS.isub X0.here hx rfl (hb hby d7_2) rfl ?_
      show Steps p.tables e below (s₁.setTop (mkF m 3 #[.val (.int p0), .val (.int p1), .val (.int p2), .unset, .unset, .unset] [(.int (p2 - (1 : Int32)))])) _
      refine XS.istoreN X0.here hx rfl (hb hby d7_3) rfl (l' := #[.val (.int p0), .val (.int p1), .val (.int p2), .val (.int (p2 - (1 : Int32))), .unset, .unset]) rfl ?_
      show Steps p.tables e below (s₁.setTop (mkF m 4 #[.val (.int p0), .val (.int p1), .val (.int p2), .val (.int (p2 - (1 : Int32))), .unset, .unset] [])) _
      refine XS.iloadN X0.here hx rfl (hb hby d7_4) rfl ?_
      show Steps p.tables e below (s₁.setTop (mkF m 5 #[.val (.int p0), .val (.int p1), .val (.int p2), .val (.int (p2 - (1 : Int32))), .unset, .unset] [(.int (p2 - (1 : Int32)))])) _
      refine XS.bipush X0.here hx rfl (hb hby d7_5) ?_
      exact k)
  by_cases hc7 : (p2 - (1 : Int32)) < (31 : Int32)
  · have k2 : ∀ t, Steps p.tables e below (s₁.setTop (mkF m 23 #[.val (.int p0), .val (.int p1), .val (.int p2), .val (.int (p2 - (1 : Int32))), .val (.long (own_shl p0 p2)), .second] [(.long (p1.toInt64)), (.long (own_shl p0 p2))])) t → Steps p.tables e below (s₁.setTop (entryFrame m #[(.int p0), (.int p1), (.int p2)] 6)) t := fun t k => k1 t (by
        show Steps p.tables e below (s₁.setTop (mkF m 7 #[.val (.int p0), .val (.int p1), .val (.int p2), .val (.int (p2 - (1 : Int32))), .unset, .unset] [(.int (31 : Int32)), (.int (p2 - (1 : Int32)))])) _
        refine XS.icmpYes X0.here hx rfl (pc0 := 7) (pc' := 13) rfl (hb hby d7_7) rfl (tlt hc7).1 (by decide) (by decide) ?_
        show Steps p.tables e below (s₁.setTop (mkF m 13 #[.val (.int p0), .val (.int p1), .val (.int p2), .val (.int (p2 - (1 : Int32))), .unset, .unset] [])) _
        refine XS.iloadN X0.here hx rfl (hb hby d7_13) rfl ?_
        show Steps p.tables e below (s₁.setTop (mkF m 14 #[.val (.int p0), .val (.int p1), .val (.int p2), .val (.int (p2 - (1 : Int32))), .unset, .unset] [(.int p0)])) _
        refine XS.i2l X0.here hx rfl (hb hby d7_14) rfl ?_
        show Steps p.tables e below (s₁.setTop (mkF m 15 #[.val (.int p0), .val (.int p1), .val (.int p2), .val (.int (p2 - (1 : Int32))), .unset, .unset] [(.long (p0.toInt64))])) _
        refine XS.iloadN X0.here hx rfl (hb hby d7_15) rfl ?_
        show Steps p.tables e below (s₁.setTop (mkF m 16 #[.val (.int p0), .val (.int p1), .val (.int p2), .val (.int (p2 - (1 : Int32))), .unset, .unset] [(.int (p2 - (1 : Int32))), (.long (p0.toInt64))])) _
        refine XS.lshl X0.here hx rfl (hb hby d7_16) rfl ?_
        show Steps p.tables e below (s₁.setTop (mkF m 17 #[.val (.int p0), .val (.int p1), .val (.int p2), .val (.int (p2 - (1 : Int32))), .unset, .unset] [(.long (own_shl p0 p2))])) _
        refine XS.lstore X0.here hx rfl (hb hby d7_17) rfl (l' := #[.val (.int p0), .val (.int p1), .val (.int p2), .val (.int (p2 - (1 : Int32))), .val (.long (own_shl p0 p2)), .second]) rfl ?_
        show Steps p.tables e below (s₁.setTop (mkF m 19 #[.val (.int p0), .val (.int p1), .val (.int p2), .val (.int (p2 - (1 : Int32))), .val (.long (own_shl p0 p2)), .second] [])) _
        refine XS.lload X0.here hx rfl (hb hby d7_19) rfl ?_
        show Steps p.tables e below (s₁.setTop (mkF m 21 #[.val (.int p0), .val (.int p1), .val (.int p2), .val (.int (p2 - (1 : Int32))), .val (.long (own_shl p0 p2)), .second] [(.long (own_shl p0 p2))])) _
        refine XS.iloadN X0.here hx rfl (hb hby d7_21) rfl ?_
        show Steps p.tables e below (s₁.setTop (mkF m 22 #[.val (.int p0), .val (.int p1), .val (.int p2), .val (.int (p2 - (1 : Int32))), .val (.long (own_shl p0 p2)), .second] [(.int p1), (.long (own_shl p0 p2))])) _
        refine XS.i2l X0.here hx rfl (hb hby d7_22) rfl ?_
        exact k)
    obtain ⟨_, _, ⟨T3, L3, kq3, n3⟩, -, X3, ⟨Lc3, hQ3, l3, y3, z3⟩, st3⟩ := Jvm.LawKit.callS X0 hx (y := (⟨"java/lang/Math", "min", "(JJ)J"⟩ : MethodName)) hown (mvT hZ (hw _ (List.mem_of_getElem? (i := 38) rfl))) (mvT hZ (hw _ (List.mem_of_getElem? (i := 32) rfl))) (mvT hZ (hw _ (List.mem_of_getElem? (i := 3) rfl))) (mvT hZ (hw _ (List.mem_of_getElem? (i := 33) rfl))) (by decide) (backOf (W := 0) (rm6 l Z a0 hw [] (own_shl p0 p2) (p1.toInt64) h0 n0 Z0) hZ (hw _ (List.mem_of_getElem? (i := 33) rfl)) (hw _ (List.mem_of_getElem? (i := 3) rfl)) (by decide) (by decide)) (g := (mkF m 23 #[.val (.int p0), .val (.int p1), .val (.int p2), .val (.int (p2 - (1 : Int32))), .val (.long (own_shl p0 p2)), .second] [(.long (p1.toInt64)), (.long (own_shl p0 p2))])) rfl (by rw [hml]; rfl) (argsL := [(.long (own_shl p0 p2)), (.long (p1.toInt64))]) (rest := []) (lenOf pd_0 rfl) rfl (by show 2 * 0 + _ ≤ _; exact Nat.le_of_eq rfl) (hb hby d7_23) (fun _ _ => ⟨rfl, e0, (by decide : 0 + 0 ≤ _), (by decide : 0 + 0 ≤ _)⟩)
    dsimp only [Pt.U, Pt.locs, Pt.cells, Pt.slots] at X3 l3 y3 z3 st3 hQ3
    subst l3 y3 z3
    obtain ⟨rfl, N3q, e3⟩ := hQ3
    have N3 := Fr.app N0 N3q
    have k4 : ∀ t, Steps p.tables e below (T3.setTop (mkF m 26 #[.val (.int p0), .val (.int p1), .val (.int p2), .val (.int (p2 - (1 : Int32))), .val (.long (own_shl p0 p2)), .second] [(.long (own_minL (own_shl p0 p2) (p1.toInt64)))])) t → Steps p.tables e below (s₁.setTop (entryFrame m #[(.int p0), (.int p1), (.int p2)] 6)) t := fun t k => k2 t (st3 _ k)
    obtain ⟨fs, hr, hrun, hended, hW, hsame⟩ := X3.leave (v := (some (.long (own_minL (own_shl p0 p2) (p1.toInt64))))) (fun h => by rw [Bd.returns] at h; cases h)
    refine ⟨_, _, k4 _ ?_, hrun, hended, _, _, rfl, ?_, ⟨_, rfl⟩, hW, hsame.mono (by decide) (by decide)⟩
    · exact retOut X3 hx Bd.returns rfl (Or.inr (Or.inl ⟨rfl, rfl, _, rfl⟩)) (hb hby d7_26) hr
    · show Q7 Z p0 p1 p2 h0 n0 _ T3.heap _
      rw [e3]
      exact ⟨congrArg (fun z => some (Value.long z)) (own_fin ha (by omega) (by rw [own_shl_r p0 p2 ha hf hc7])), N3, rfl⟩
  · have k5 : ∀ t, Steps p.tables e below (s₁.setTop (mkF m 12 #[.val (.int p0), .val (.int p1), .val (.int p2), .val (.int (p2 - (1 : Int32))), .unset, .unset] [(.long (p1.toInt64))])) t → Steps p.tables e below (s₁.setTop (entryFrame m #[(.int p0), (.int p1), (.int p2)] 6)) t := fun t k => k1 t (by
        show Steps p.tables e below (s₁.setTop (mkF m 7 #[.val (.int p0), .val (.int p1), .val (.int p2), .val (.int (p2 - (1 : Int32))), .unset, .unset] [(.int (31 : Int32)), (.int (p2 - (1 : Int32)))])) _
        refine XS.icmpNo X0.here hx rfl (hb hby d7_7) rfl (flt hc7).1 ?_
        show Steps p.tables e below (s₁.setTop (mkF m 10 #[.val (.int p0), .val (.int p1), .val (.int p2), .val (.int (p2 - (1 : Int32))), .unset, .unset] [])) _
        refine XS.iloadN X0.here hx rfl (hb hby d7_10) rfl ?_
        show Steps p.tables e below (s₁.setTop (mkF m 11 #[.val (.int p0), .val (.int p1), .val (.int p2), .val (.int (p2 - (1 : Int32))), .unset, .unset] [(.int p1)])) _
        refine XS.i2l X0.here hx rfl (hb hby d7_11) rfl ?_
        exact k)
    obtain ⟨fs, hr, hrun, hended, hW, hsame⟩ := X0.leave (v := (some (.long (p1.toInt64)))) (fun h => by rw [Bd.returns] at h; cases h)
    refine ⟨_, _, k5 _ ?_, hrun, hended, _, _, rfl, ?_, ⟨_, rfl⟩, hW, hsame.mono (by decide) (by decide)⟩
    · exact retOut X0 hx Bd.returns rfl (Or.inr (Or.inl ⟨rfl, rfl, _, rfl⟩)) (hb hby d7_12) hr
    · show Q7 Z p0 p1 p2 h0 n0 _ s₁.heap _
      rw [e0]
      exact ⟨congrArg (fun z => some (Value.long z)) (own_big p0 p1 p2 ha (by omega) hf hc7), N0, rfl⟩
def own_init (x y : Int32) : Int32 := own_maxI (1 : Int32) (own_minI (x &&& (2147483647 : Int32)) (y &&& (2147483647 : Int32)))
def own_maxd (x y : Int32) : Int32 := own_maxI (own_init x y) (own_maxI (x &&& (2147483647 : Int32)) (y &&& (2147483647 : Int32)))
theorem own_init_r (x y : Int32) : 1 ≤ (own_init x y).toInt := by
  unfold own_init
  rw [own_maxI_r]
  simp only [Int32.reduceToInt]
  omega
theorem own_maxd_r (x y : Int32) : (own_init x y).toInt ≤ (own_maxd x y).toInt := by
  unfold own_maxd
  rw [own_maxI_r]
  omega
theorem own_one (x : Int32) : 1 ≤ (own_maxI (1 : Int32) x).toInt := by
  rw [own_maxI_r]
  simp only [Int32.reduceToInt]
  omega
theorem own_pos {x : Int32} (h : 1 ≤ x.toInt) : (0 : Int32) < x := by
  rw [Int32.lt_iff_toInt_lt]
  simp only [Int32.reduceToInt]
  omega
theorem own_f1 (x : Int32) : 1 ≤ ((1 : Int32) + (x &&& (63 : Int32))).toInt := by
  have e : (x &&& (63 : Int32)).toInt = x.toInt % 2 ^ 6 := Jvm.Kit.i32_mask x 63 (k := 6) (by decide) (by decide)
  rw [Jvm.Kit.i32_add (by simp only [Int32.reduceToInt]; omega) (by simp only [Int32.reduceToInt]; omega)]
  simp only [Int32.reduceToInt]
  omega
theorem ef_0 (m : MethodId) (p0 : Int32) (p1 : Int32) (p2 : Int32) (p3 : Int32) (p4 : Int32) : entryFrame m #[(.int p0), (.int p1), (.int p2), (.int p3), (.int p4)] maxLocals = mkF m 0 #[.val (.int p0), .val (.int p1), .val (.int p2), .val (.int p3), .val (.int p4), .unset, .unset, .unset, .unset, .unset, .unset, .unset, .unset, .unset, .unset] [] := by first | (simp [entryFrame, mkF, argsToLocals, Value.category, maxLocals]; done) | rfl
theorem pd_1 : parseMethodDescriptor "(II)I" = some ⟨[.int, .int], some .int⟩ := by decide +kernel
theorem pd_2 : parseMethodDescriptor "(IIII)V" = some ⟨[.int, .int, .int, .int], none⟩ := by decide +kernel
theorem pd_3 : parseMethodDescriptor "(I)J" = some ⟨[.int], some .long⟩ := by decide +kernel
theorem pd_4 : parseMethodDescriptor "(III)J" = some ⟨[.int, .int, .int], some .long⟩ := by decide +kernel
def Q0 (Z : State) (p0 : Int32) (p1 : Int32) (p2 : Int32) (p3 : Int32) (p4 : Int32) (h0 : Heap) (n0 : Nat) (v : Option Value) (h : Heap) (L : List Loc) : Prop := v = some (.int (1 : Int32)) ∧ Fr n0 L
set_option maxRecDepth 65536 in
set_option maxHeartbeats 40000000 in
theorem rm0 (l : Launch) (Z : State) (a0 : Array Value) (hw : ∀ d ∈ tables_1, d.before a0 Z = true) (ws : List Jvm.Cond) (p0 : Int32) (p1 : Int32) (p2 : Int32) (p3 : Int32) (p4 : Int32) (h0 : Heap) (n0 : Nat) (Z0 : n0 ≤ h0.size) :
    MetFree l x (head1 (Jvm.Cond.code x code maxLocals ret :: ws) room_1) (fun a U => a = #[(.int p0), (.int p1), (.int p2), (.int p3), (.int p4)] ∧ Z.Warmed39 U.vm ∧ U.heap = h0) (fun _ _ _ _ _ => True) (fun _ U o U' => ∃ v L, o = .returned v ∧ Q0 Z p0 p1 p2 p3 p4 h0 n0 v U'.heap L ∧ FrameEnd U o U' L 1 4) := by
  refine MetFree.of_bodySF (plainFor_of_name pn_1) hisR ?_
  intro p e s m args below meth c s₁ Bd hml0 hP hK
  obtain ⟨rfl, hZ, hh⟩ := hP
  have hx := Bd.exec
  have hby := Bd.bytes
  have hml : c.maxLocals = 15 := hml0
  have hown : s.vm.findClass "com/example/mediawarden/mediawarden/config/CallbackSettingsDelayAfterPinLaw" = some m.cls := findClass_of_methodNamed Bd.named
  have hnm := (name_of_methodNamed Bd.named Bd.method).1
  have X0 : Stand p l e room_1 s m #[(.int p0), (.int p1), (.int p2), (.int p3), (.int p4)] below meth c s₁ [] 0 0 := Stand.of_body Bd
  have e0 : s₁.heap = h0 := by rw [← hh, Bd.state]; rfl
  have N0 := Fr.nil n0
  have k0 : ∀ t, Steps p.tables e below (s₁.setTop (mkF m 0 #[.val (.int p0), .val (.int p1), .val (.int p2), .val (.int p3), .val (.int p4), .unset, .unset, .unset, .unset, .unset, .unset, .unset, .unset, .unset, .unset] [])) t → Steps p.tables e below (s₁.setTop (entryFrame m #[(.int p0), (.int p1), (.int p2), (.int p3), (.int p4)] maxLocals)) t := fun t k => castTop (ef_0 m p0 p1 p2 p3 p4) k
  have hi1 := own_init_r p0 p1
  have him := own_maxd_r p0 p1
  have hq1 := own_pos (own_one (p3 &&& (2147483647 : Int32)))
  have hq2 := own_pos hi1
  have hq4 := own_pos (own_one (p4 &&& (2147483647 : Int32)))
  have hq3 : ¬ (own_maxd p0 p1 < own_init p0 p1) := by rw [Int32.lt_iff_toInt_lt]; omega
  have hf1 := own_f1 p2
  have k1 : ∀ t, Steps p.tables e below (s₁.setTop (mkF m 17 #[.val (.int p0), .val (.int p1), .val (.int p2), .val (.int p3), .val (.int p4), .val (.int (p0 &&& (2147483647 : Int32))), .val (.int (p1 &&& (2147483647 : Int32))), .unset, .unset, .unset, .unset, .unset, .unset, .unset, .unset] [(.int (p1 &&& (2147483647 : Int32))), (.int (p0 &&& (2147483647 : Int32))), (.int (1 : Int32))])) t → Steps p.tables e below (s₁.setTop (entryFrame m #[(.int p0), (.int p1), (.int p2), (.int p3), (.int p4)] maxLocals)) t := fun t k => k0 t (by
      show Steps p.tables e below (s₁.setTop (mkF m 0 #[.val (.int p0), .val (.int p1), .val (.int p2), .val (.int p3), .val (.int p4), .unset, .unset, .unset, .unset, .unset, .unset, .unset, .unset, .unset, .unset] [])) _
      refine XS.iloadN X0.here hx rfl (hb hby at_0) rfl ?_
      show Steps p.tables e below (s₁.setTop (mkF m 1 #[.val (.int p0), .val (.int p1), .val (.int p2), .val (.int p3), .val (.int p4), .unset, .unset, .unset, .unset, .unset, .unset, .unset, .unset, .unset, .unset] [(.int p0)])) _
      refine X0.ldcInt hx hown (mvT hZ (hw _ (List.mem_of_getElem? (i := 0) rfl))) (g := (mkF m 1 #[.val (.int p0), .val (.int p1), .val (.int p2), .val (.int p3), .val (.int p4), .unset, .unset, .unset, .unset, .unset, .unset, .unset, .unset, .unset, .unset] [(.int p0)])) rfl (hb hby at_1) _ ?_
      show Steps p.tables e below (s₁.setTop (mkF m 3 #[.val (.int p0), .val (.int p1), .val (.int p2), .val (.int p3), .val (.int p4), .unset, .unset, .unset, .unset, .unset, .unset, .unset, .unset, .unset, .unset] [(.int (2147483647 : Int32)), (.int p0)])) _
      refine XS.iand X0.here hx rfl (hb hby at_3) rfl ?_
      show Steps p.tables e below (s₁.setTop (mkF m 4 #[.val (.int p0), .val (.int p1), .val (.int p2), .val (.int p3), .val (.int p4), .unset, .unset, .unset, .unset, .unset, .unset, .unset, .unset, .unset, .unset] [(.int (p0 &&& (2147483647 : Int32)))])) _
      refine XS.istore X0.here hx rfl (hb hby at_4) rfl (l' := #[.val (.int p0), .val (.int p1), .val (.int p2), .val (.int p3), .val (.int p4), .val (.int (p0 &&& (2147483647 : Int32))), .unset, .unset, .unset, .unset, .unset, .unset, .unset, .unset, .unset]) rfl ?_
      show Steps p.tables e below (s₁.setTop (mkF m 6 #[.val (.int p0), .val (.int p1), .val (.int p2), .val (.int p3), .val (.int p4), .val (.int (p0 &&& (2147483647 : Int32))), .unset, .unset, .unset, .unset, .unset, .unset, .unset, .unset, .unset] [])) _
      refine XS.iloadN X0.here hx rfl (hb hby at_6) rfl ?_
      show Steps p.tables e below (s₁.setTop (mkF m 7 #[.val (.int p0), .val (.int p1), .val (.int p2), .val (.int p3), .val (.int p4), .val (.int (p0 &&& (2147483647 : Int32))), .unset, .unset, .unset, .unset, .unset, .unset, .unset, .unset, .unset] [(.int p1)])) _
      refine X0.ldcInt hx hown (mvT hZ (hw _ (List.mem_of_getElem? (i := 0) rfl))) (g := (mkF m 7 #[.val (.int p0), .val (.int p1), .val (.int p2), .val (.int p3), .val (.int p4), .val (.int (p0 &&& (2147483647 : Int32))), .unset, .unset, .unset, .unset, .unset, .unset, .unset, .unset, .unset] [(.int p1)])) rfl (hb hby at_7) _ ?_
      show Steps p.tables e below (s₁.setTop (mkF m 9 #[.val (.int p0), .val (.int p1), .val (.int p2), .val (.int p3), .val (.int p4), .val (.int (p0 &&& (2147483647 : Int32))), .unset, .unset, .unset, .unset, .unset, .unset, .unset, .unset, .unset] [(.int (2147483647 : Int32)), (.int p1)])) _
      refine XS.iand X0.here hx rfl (hb hby at_9) rfl ?_
      show Steps p.tables e below (s₁.setTop (mkF m 10 #[.val (.int p0), .val (.int p1), .val (.int p2), .val (.int p3), .val (.int p4), .val (.int (p0 &&& (2147483647 : Int32))), .unset, .unset, .unset, .unset, .unset, .unset, .unset, .unset, .unset] [(.int (p1 &&& (2147483647 : Int32)))])) _
      refine XS.istore X0.here hx rfl (hb hby at_10) rfl (l' := #[.val (.int p0), .val (.int p1), .val (.int p2), .val (.int p3), .val (.int p4), .val (.int (p0 &&& (2147483647 : Int32))), .val (.int (p1 &&& (2147483647 : Int32))), .unset, .unset, .unset, .unset, .unset, .unset, .unset, .unset]) rfl ?_
      show Steps p.tables e below (s₁.setTop (mkF m 12 #[.val (.int p0), .val (.int p1), .val (.int p2), .val (.int p3), .val (.int p4), .val (.int (p0 &&& (2147483647 : Int32))), .val (.int (p1 &&& (2147483647 : Int32))), .unset, .unset, .unset, .unset, .unset, .unset, .unset, .unset] [])) _
      refine XS.iconst X0.here hx rfl (hb hby at_12) ?_
      show Steps p.tables e below (s₁.setTop (mkF m 13 #[.val (.int p0), .val (.int p1), .val (.int p2), .val (.int p3), .val (.int p4), .val (.int (p0 &&& (2147483647 : Int32))), .val (.int (p1 &&& (2147483647 : Int32))), .unset, .unset, .unset, .unset, .unset, .unset, .unset, .unset] [(.int (1 : Int32))])) _
      refine XS.iload X0.here hx rfl (hb hby at_13) rfl ?_
      show Steps p.tables e below (s₁.setTop (mkF m 15 #[.val (.int p0), .val (.int p1), .val (.int p2), .val (.int p3), .val (.int p4), .val (.int (p0 &&& (2147483647 : Int32))), .val (.int (p1 &&& (2147483647 : Int32))), .unset, .unset, .unset, .unset, .unset, .unset, .unset, .unset] [(.int (p0 &&& (2147483647 : Int32))), (.int (1 : Int32))])) _
      refine XS.iload X0.here hx rfl (hb hby at_15) rfl ?_
      exact k)
  obtain ⟨_, _, ⟨T2, L2, kq2, n2⟩, -, X2, ⟨Lc2, hQ2, l2, y2, z2⟩, st2⟩ := Jvm.LawKit.callS X0 hx (y := (⟨"java/lang/Math", "min", "(II)I"⟩ : MethodName)) hown (mvT hZ (hw _ (List.mem_of_getElem? (i := 1) rfl))) (mvT hZ (hw _ (List.mem_of_getElem? (i := 2) rfl))) (mvT hZ (hw _ (List.mem_of_getElem? (i := 3) rfl))) (mvT hZ (hw _ (List.mem_of_getElem? (i := 4) rfl))) (by decide) (backOf (W := 1) (rm1 l Z a0 hw [] (p0 &&& (2147483647 : Int32)) (p1 &&& (2147483647 : Int32)) h0 n0 Z0) hZ (hw _ (List.mem_of_getElem? (i := 4) rfl)) (hw _ (List.mem_of_getElem? (i := 3) rfl)) (by decide) (by decide)) (g := (mkF m 17 #[.val (.int p0), .val (.int p1), .val (.int p2), .val (.int p3), .val (.int p4), .val (.int (p0 &&& (2147483647 : Int32))), .val (.int (p1 &&& (2147483647 : Int32))), .unset, .unset, .unset, .unset, .unset, .unset, .unset, .unset] [(.int (p1 &&& (2147483647 : Int32))), (.int (p0 &&& (2147483647 : Int32))), (.int (1 : Int32))])) rfl (by rw [hml]; rfl) (argsL := [(.int (p0 &&& (2147483647 : Int32))), (.int (p1 &&& (2147483647 : Int32)))]) (rest := [(.int (1 : Int32))]) (lenOf pd_1 rfl) rfl (by show 2 * 0 + _ ≤ _; exact Nat.le_of_eq rfl) (hb hby at_17) (fun _ _ => ⟨rfl, e0, (by decide : 0 + 0 ≤ _), (by decide : 0 + 0 ≤ _)⟩)
  dsimp only [Pt.U, Pt.locs, Pt.cells, Pt.slots] at X2 l2 y2 z2 st2 hQ2
  subst l2 y2 z2
  obtain ⟨rfl, N2q, e2⟩ := hQ2
  have N2 := Fr.app N0 N2q
  have k3 : ∀ t, Steps p.tables e below (T2.setTop (mkF m 20 #[.val (.int p0), .val (.int p1), .val (.int p2), .val (.int p3), .val (.int p4), .val (.int (p0 &&& (2147483647 : Int32))), .val (.int (p1 &&& (2147483647 : Int32))), .unset, .unset, .unset, .unset, .unset, .unset, .unset, .unset] [(.int (own_minI (p0 &&& (2147483647 : Int32)) (p1 &&& (2147483647 : Int32)))), (.int (1 : Int32))])) t → Steps p.tables e below (s₁.setTop (entryFrame m #[(.int p0), (.int p1), (.int p2), (.int p3), (.int p4)] maxLocals)) t := fun t k => k1 t (st2 _ k)
  obtain ⟨_, _, ⟨T4, L4, kq4, n4⟩, -, X4, ⟨Lc4, hQ4, l4, y4, z4⟩, st4⟩ := Jvm.LawKit.callS X2 hx (y := (⟨"java/lang/Math", "max", "(II)I"⟩ : MethodName)) hown (mvT hZ (hw _ (List.mem_of_getElem? (i := 5) rfl))) (mvT hZ (hw _ (List.mem_of_getElem? (i := 6) rfl))) (mvT hZ (hw _ (List.mem_of_getElem? (i := 3) rfl))) (mvT hZ (hw _ (List.mem_of_getElem? (i := 7) rfl))) (by decide) (backOf (W := 0) (rm2 l Z a0 hw [] (1 : Int32) (own_minI (p0 &&& (2147483647 : Int32)) (p1 &&& (2147483647 : Int32))) h0 n0 Z0) hZ (hw _ (List.mem_of_getElem? (i := 7) rfl)) (hw _ (List.mem_of_getElem? (i := 3) rfl)) (by decide) (by decide)) (g := (mkF m 20 #[.val (.int p0), .val (.int p1), .val (.int p2), .val (.int p3), .val (.int p4), .val (.int (p0 &&& (2147483647 : Int32))), .val (.int (p1 &&& (2147483647 : Int32))), .unset, .unset, .unset, .unset, .unset, .unset, .unset, .unset] [(.int (own_minI (p0 &&& (2147483647 : Int32)) (p1 &&& (2147483647 : Int32)))), (.int (1 : Int32))])) rfl (by rw [hml]; rfl) (argsL := [(.int (1 : Int32)), (.int (own_minI (p0 &&& (2147483647 : Int32)) (p1 &&& (2147483647 : Int32))))]) (rest := []) (lenOf pd_1 rfl) rfl (by show 2 * 0 + _ ≤ _; exact Nat.le_of_eq rfl) (hb hby at_20) (fun _ _ => ⟨rfl, e2, (by decide : 0 + 0 ≤ _), (by decide : 0 + 0 ≤ _)⟩)
  dsimp only [Pt.U, Pt.locs, Pt.cells, Pt.slots] at X4 l4 y4 z4 st4 hQ4
  subst l4 y4 z4
  obtain ⟨rfl, N4q, e4⟩ := hQ4
  have N4 := Fr.app N2 N4q
  have k5 : ∀ t, Steps p.tables e below (T4.setTop (mkF m 23 #[.val (.int p0), .val (.int p1), .val (.int p2), .val (.int p3), .val (.int p4), .val (.int (p0 &&& (2147483647 : Int32))), .val (.int (p1 &&& (2147483647 : Int32))), .unset, .unset, .unset, .unset, .unset, .unset, .unset, .unset] [(.int (own_init p0 p1))])) t → Steps p.tables e below (s₁.setTop (entryFrame m #[(.int p0), (.int p1), (.int p2), (.int p3), (.int p4)] maxLocals)) t := fun t k => k3 t (st4 _ k)
  have k6 : ∀ t, Steps p.tables e below (T4.setTop (mkF m 31 #[.val (.int p0), .val (.int p1), .val (.int p2), .val (.int p3), .val (.int p4), .val (.int (p0 &&& (2147483647 : Int32))), .val (.int (p1 &&& (2147483647 : Int32))), .val (.int (own_init p0 p1)), .unset, .unset, .unset, .unset, .unset, .unset, .unset] [(.int (p1 &&& (2147483647 : Int32))), (.int (p0 &&& (2147483647 : Int32))), (.int (own_init p0 p1))])) t → Steps p.tables e below (s₁.setTop (entryFrame m #[(.int p0), (.int p1), (.int p2), (.int p3), (.int p4)] maxLocals)) t := fun t k => k5 t (by
      show Steps p.tables e below (T4.setTop (mkF m 23 #[.val (.int p0), .val (.int p1), .val (.int p2), .val (.int p3), .val (.int p4), .val (.int (p0 &&& (2147483647 : Int32))), .val (.int (p1 &&& (2147483647 : Int32))), .unset, .unset, .unset, .unset, .unset, .unset, .unset, .unset] [(.int (own_init p0 p1))])) _
      refine XS.istore X4.here hx rfl (hb hby at_23) rfl (l' := #[.val (.int p0), .val (.int p1), .val (.int p2), .val (.int p3), .val (.int p4), .val (.int (p0 &&& (2147483647 : Int32))), .val (.int (p1 &&& (2147483647 : Int32))), .val (.int (own_init p0 p1)), .unset, .unset, .unset, .unset, .unset, .unset, .unset]) rfl ?_
      show Steps p.tables e below (T4.setTop (mkF m 25 #[.val (.int p0), .val (.int p1), .val (.int p2), .val (.int p3), .val (.int p4), .val (.int (p0 &&& (2147483647 : Int32))), .val (.int (p1 &&& (2147483647 : Int32))), .val (.int (own_init p0 p1)), .unset, .unset, .unset, .unset, .unset, .unset, .unset] [])) _
      refine XS.iload X4.here hx rfl (hb hby at_25) rfl ?_
      show Steps p.tables e below (T4.setTop (mkF m 27 #[.val (.int p0), .val (.int p1), .val (.int p2), .val (.int p3), .val (.int p4), .val (.int (p0 &&& (2147483647 : Int32))), .val (.int (p1 &&& (2147483647 : Int32))), .val (.int (own_init p0 p1)), .unset, .unset, .unset, .unset, .unset, .unset, .unset] [(.int (own_init p0 p1))])) _
      refine XS.iload X4.here hx rfl (hb hby at_27) rfl ?_
      show Steps p.tables e below (T4.setTop (mkF m 29 #[.val (.int p0), .val (.int p1), .val (.int p2), .val (.int p3), .val (.int p4), .val (.int (p0 &&& (2147483647 : Int32))), .val (.int (p1 &&& (2147483647 : Int32))), .val (.int (own_init p0 p1)), .unset, .unset, .unset, .unset, .unset, .unset, .unset] [(.int (p0 &&& (2147483647 : Int32))), (.int (own_init p0 p1))])) _
      refine XS.iload X4.here hx rfl (hb hby at_29) rfl ?_
      exact k)
  obtain ⟨_, _, ⟨T7, L7, kq7, n7⟩, -, X7, ⟨Lc7, hQ7, l7, y7, z7⟩, st7⟩ := Jvm.LawKit.callS X4 hx (y := (⟨"java/lang/Math", "max", "(II)I"⟩ : MethodName)) hown (mvT hZ (hw _ (List.mem_of_getElem? (i := 5) rfl))) (mvT hZ (hw _ (List.mem_of_getElem? (i := 6) rfl))) (mvT hZ (hw _ (List.mem_of_getElem? (i := 3) rfl))) (mvT hZ (hw _ (List.mem_of_getElem? (i := 7) rfl))) (by decide) (backOf (W := 1) (rm2 l Z a0 hw [] (p0 &&& (2147483647 : Int32)) (p1 &&& (2147483647 : Int32)) h0 n0 Z0) hZ (hw _ (List.mem_of_getElem? (i := 7) rfl)) (hw _ (List.mem_of_getElem? (i := 3) rfl)) (by decide) (by decide)) (g := (mkF m 31 #[.val (.int p0), .val (.int p1), .val (.int p2), .val (.int p3), .val (.int p4), .val (.int (p0 &&& (2147483647 : Int32))), .val (.int (p1 &&& (2147483647 : Int32))), .val (.int (own_init p0 p1)), .unset, .unset, .unset, .unset, .unset, .unset, .unset] [(.int (p1 &&& (2147483647 : Int32))), (.int (p0 &&& (2147483647 : Int32))), (.int (own_init p0 p1))])) rfl (by rw [hml]; rfl) (argsL := [(.int (p0 &&& (2147483647 : Int32))), (.int (p1 &&& (2147483647 : Int32)))]) (rest := [(.int (own_init p0 p1))]) (lenOf pd_1 rfl) rfl (by show 2 * 0 + _ ≤ _; exact Nat.le_of_eq rfl) (hb hby at_31) (fun _ _ => ⟨rfl, e4, (by decide : 0 + 0 ≤ _), (by decide : 0 + 0 ≤ _)⟩)
  dsimp only [Pt.U, Pt.locs, Pt.cells, Pt.slots] at X7 l7 y7 z7 st7 hQ7
  subst l7 y7 z7
  obtain ⟨rfl, N7q, e7⟩ := hQ7
  have N7 := Fr.app N4 N7q
  have k8 : ∀ t, Steps p.tables e below (T7.setTop (mkF m 34 #[.val (.int p0), .val (.int p1), .val (.int p2), .val (.int p3), .val (.int p4), .val (.int (p0 &&& (2147483647 : Int32))), .val (.int (p1 &&& (2147483647 : Int32))), .val (.int (own_init p0 p1)), .unset, .unset, .unset, .unset, .unset, .unset, .unset] [(.int (own_maxI (p0 &&& (2147483647 : Int32)) (p1 &&& (2147483647 : Int32)))), (.int (own_init p0 p1))])) t → Steps p.tables e below (s₁.setTop (entryFrame m #[(.int p0), (.int p1), (.int p2), (.int p3), (.int p4)] maxLocals)) t := fun t k => k6 t (st7 _ k)
  obtain ⟨_, _, ⟨T9, L9, kq9, n9⟩, -, X9, ⟨Lc9, hQ9, l9, y9, z9⟩, st9⟩ := Jvm.LawKit.callS X7 hx (y := (⟨"java/lang/Math", "max", "(II)I"⟩ : MethodName)) hown (mvT hZ (hw _ (List.mem_of_getElem? (i := 5) rfl))) (mvT hZ (hw _ (List.mem_of_getElem? (i := 6) rfl))) (mvT hZ (hw _ (List.mem_of_getElem? (i := 3) rfl))) (mvT hZ (hw _ (List.mem_of_getElem? (i := 7) rfl))) (by decide) (backOf (W := 0) (rm2 l Z a0 hw [] (own_init p0 p1) (own_maxI (p0 &&& (2147483647 : Int32)) (p1 &&& (2147483647 : Int32))) h0 n0 Z0) hZ (hw _ (List.mem_of_getElem? (i := 7) rfl)) (hw _ (List.mem_of_getElem? (i := 3) rfl)) (by decide) (by decide)) (g := (mkF m 34 #[.val (.int p0), .val (.int p1), .val (.int p2), .val (.int p3), .val (.int p4), .val (.int (p0 &&& (2147483647 : Int32))), .val (.int (p1 &&& (2147483647 : Int32))), .val (.int (own_init p0 p1)), .unset, .unset, .unset, .unset, .unset, .unset, .unset] [(.int (own_maxI (p0 &&& (2147483647 : Int32)) (p1 &&& (2147483647 : Int32)))), (.int (own_init p0 p1))])) rfl (by rw [hml]; rfl) (argsL := [(.int (own_init p0 p1)), (.int (own_maxI (p0 &&& (2147483647 : Int32)) (p1 &&& (2147483647 : Int32))))]) (rest := []) (lenOf pd_1 rfl) rfl (by show 2 * 0 + _ ≤ _; exact Nat.le_of_eq rfl) (hb hby at_34) (fun _ _ => ⟨rfl, e7, (by decide : 0 + 0 ≤ _), (by decide : 0 + 0 ≤ _)⟩)
  dsimp only [Pt.U, Pt.locs, Pt.cells, Pt.slots] at X9 l9 y9 z9 st9 hQ9
  subst l9 y9 z9
  obtain ⟨rfl, N9q, e9⟩ := hQ9
  have N9 := Fr.app N7 N9q
  have k10 : ∀ t, Steps p.tables e below (T9.setTop (mkF m 37 #[.val (.int p0), .val (.int p1), .val (.int p2), .val (.int p3), .val (.int p4), .val (.int (p0 &&& (2147483647 : Int32))), .val (.int (p1 &&& (2147483647 : Int32))), .val (.int (own_init p0 p1)), .unset, .unset, .unset, .unset, .unset, .unset, .unset] [(.int (own_maxd p0 p1))])) t → Steps p.tables e below (s₁.setTop (entryFrame m #[(.int p0), (.int p1), (.int p2), (.int p3), (.int p4)] maxLocals)) t := fun t k => k8 t (st9 _ k)
  have k11 : ∀ t, Steps p.tables e below (T9.setTop (mkF m 44 #[.val (.int p0), .val (.int p1), .val (.int p2), .val (.int p3), .val (.int p4), .val (.int (p0 &&& (2147483647 : Int32))), .val (.int (p1 &&& (2147483647 : Int32))), .val (.int (own_init p0 p1)), .val (.int (own_maxd p0 p1)), .unset, .unset, .unset, .unset, .unset, .unset] [(.int (p3 &&& (2147483647 : Int32))), (.int (1 : Int32))])) t → Steps p.tables e below (s₁.setTop (entryFrame m #[(.int p0), (.int p1), (.int p2), (.int p3), (.int p4)] maxLocals)) t := fun t k => k10 t (by
      show Steps p.tables e below (T9.setTop (mkF m 37 #[.val (.int p0), .val (.int p1), .val (.int p2), .val (.int p3), .val (.int p4), .val (.int (p0 &&& (2147483647 : Int32))), .val (.int (p1 &&& (2147483647 : Int32))), .val (.int (own_init p0 p1)), .unset, .unset, .unset, .unset, .unset, .unset, .unset] [(.int (own_maxd p0 p1))])) _
      refine XS.istore X9.here hx rfl (hb hby at_37) rfl (l' := #[.val (.int p0), .val (.int p1), .val (.int p2), .val (.int p3), .val (.int p4), .val (.int (p0 &&& (2147483647 : Int32))), .val (.int (p1 &&& (2147483647 : Int32))), .val (.int (own_init p0 p1)), .val (.int (own_maxd p0 p1)), .unset, .unset, .unset, .unset, .unset, .unset]) rfl ?_
      show Steps p.tables e below (T9.setTop (mkF m 39 #[.val (.int p0), .val (.int p1), .val (.int p2), .val (.int p3), .val (.int p4), .val (.int (p0 &&& (2147483647 : Int32))), .val (.int (p1 &&& (2147483647 : Int32))), .val (.int (own_init p0 p1)), .val (.int (own_maxd p0 p1)), .unset, .unset, .unset, .unset, .unset, .unset] [])) _
      refine XS.iconst X9.here hx rfl (hb hby at_39) ?_
      show Steps p.tables e below (T9.setTop (mkF m 40 #[.val (.int p0), .val (.int p1), .val (.int p2), .val (.int p3), .val (.int p4), .val (.int (p0 &&& (2147483647 : Int32))), .val (.int (p1 &&& (2147483647 : Int32))), .val (.int (own_init p0 p1)), .val (.int (own_maxd p0 p1)), .unset, .unset, .unset, .unset, .unset, .unset] [(.int (1 : Int32))])) _
      refine XS.iloadN X9.here hx rfl (hb hby at_40) rfl ?_
      show Steps p.tables e below (T9.setTop (mkF m 41 #[.val (.int p0), .val (.int p1), .val (.int p2), .val (.int p3), .val (.int p4), .val (.int (p0 &&& (2147483647 : Int32))), .val (.int (p1 &&& (2147483647 : Int32))), .val (.int (own_init p0 p1)), .val (.int (own_maxd p0 p1)), .unset, .unset, .unset, .unset, .unset, .unset] [(.int p3), (.int (1 : Int32))])) _
      refine X9.ldcInt hx hown (mvT hZ (hw _ (List.mem_of_getElem? (i := 0) rfl))) (g := (mkF m 41 #[.val (.int p0), .val (.int p1), .val (.int p2), .val (.int p3), .val (.int p4), .val (.int (p0 &&& (2147483647 : Int32))), .val (.int (p1 &&& (2147483647 : Int32))), .val (.int (own_init p0 p1)), .val (.int (own_maxd p0 p1)), .unset, .unset, .unset, .unset, .unset, .unset] [(.int p3), (.int (1 : Int32))])) rfl (hb hby at_41) _ ?_
      show Steps p.tables e below (T9.setTop (mkF m 43 #[.val (.int p0), .val (.int p1), .val (.int p2), .val (.int p3), .val (.int p4), .val (.int (p0 &&& (2147483647 : Int32))), .val (.int (p1 &&& (2147483647 : Int32))), .val (.int (own_init p0 p1)), .val (.int (own_maxd p0 p1)), .unset, .unset, .unset, .unset, .unset, .unset] [(.int (2147483647 : Int32)), (.int p3), (.int (1 : Int32))])) _
      refine XS.iand X9.here hx rfl (hb hby at_43) rfl ?_
      exact k)
  obtain ⟨_, _, ⟨T12, L12, kq12, n12⟩, -, X12, ⟨Lc12, hQ12, l12, y12, z12⟩, st12⟩ := Jvm.LawKit.callS X9 hx (y := (⟨"java/lang/Math", "max", "(II)I"⟩ : MethodName)) hown (mvT hZ (hw _ (List.mem_of_getElem? (i := 5) rfl))) (mvT hZ (hw _ (List.mem_of_getElem? (i := 6) rfl))) (mvT hZ (hw _ (List.mem_of_getElem? (i := 3) rfl))) (mvT hZ (hw _ (List.mem_of_getElem? (i := 7) rfl))) (by decide) (backOf (W := 0) (rm2 l Z a0 hw [] (1 : Int32) (p3 &&& (2147483647 : Int32)) h0 n0 Z0) hZ (hw _ (List.mem_of_getElem? (i := 7) rfl)) (hw _ (List.mem_of_getElem? (i := 3) rfl)) (by decide) (by decide)) (g := (mkF m 44 #[.val (.int p0), .val (.int p1), .val (.int p2), .val (.int p3), .val (.int p4), .val (.int (p0 &&& (2147483647 : Int32))), .val (.int (p1 &&& (2147483647 : Int32))), .val (.int (own_init p0 p1)), .val (.int (own_maxd p0 p1)), .unset, .unset, .unset, .unset, .unset, .unset] [(.int (p3 &&& (2147483647 : Int32))), (.int (1 : Int32))])) rfl (by rw [hml]; rfl) (argsL := [(.int (1 : Int32)), (.int (p3 &&& (2147483647 : Int32)))]) (rest := []) (lenOf pd_1 rfl) rfl (by show 2 * 0 + _ ≤ _; exact Nat.le_of_eq rfl) (hb hby at_44) (fun _ _ => ⟨rfl, e9, (by decide : 0 + 0 ≤ _), (by decide : 0 + 0 ≤ _)⟩)
  dsimp only [Pt.U, Pt.locs, Pt.cells, Pt.slots] at X12 l12 y12 z12 st12 hQ12
  subst l12 y12 z12
  obtain ⟨rfl, N12q, e12⟩ := hQ12
  have N12 := Fr.app N9 N12q
  have k13 : ∀ t, Steps p.tables e below (T12.setTop (mkF m 47 #[.val (.int p0), .val (.int p1), .val (.int p2), .val (.int p3), .val (.int p4), .val (.int (p0 &&& (2147483647 : Int32))), .val (.int (p1 &&& (2147483647 : Int32))), .val (.int (own_init p0 p1)), .val (.int (own_maxd p0 p1)), .unset, .unset, .unset, .unset, .unset, .unset] [(.int (own_maxI (1 : Int32) (p3 &&& (2147483647 : Int32))))])) t → Steps p.tables e below (s₁.setTop (entryFrame m #[(.int p0), (.int p1), (.int p2), (.int p3), (.int p4)] maxLocals)) t := fun t k => k11 t (st12 _ k)
  have k14 : ∀ t, Steps p.tables e below (T12.setTop (mkF m 55 #[.val (.int p0), .val (.int p1), .val (.int p2), .val (.int p3), .val (.int p4), .val (.int (p0 &&& (2147483647 : Int32))), .val (.int (p1 &&& (2147483647 : Int32))), .val (.int (own_init p0 p1)), .val (.int (own_maxd p0 p1)), .val (.int (own_maxI (1 : Int32) (p3 &&& (2147483647 : Int32)))), .unset, .unset, .unset, .unset, .unset] [(.int (p4 &&& (2147483647 : Int32))), (.int (1 : Int32))])) t → Steps p.tables e below (s₁.setTop (entryFrame m #[(.int p0), (.int p1), (.int p2), (.int p3), (.int p4)] maxLocals)) t := fun t k => k13 t (by
      show Steps p.tables e below (T12.setTop (mkF m 47 #[.val (.int p0), .val (.int p1), .val (.int p2), .val (.int p3), .val (.int p4), .val (.int (p0 &&& (2147483647 : Int32))), .val (.int (p1 &&& (2147483647 : Int32))), .val (.int (own_init p0 p1)), .val (.int (own_maxd p0 p1)), .unset, .unset, .unset, .unset, .unset, .unset] [(.int (own_maxI (1 : Int32) (p3 &&& (2147483647 : Int32))))])) _
      refine XS.istore X12.here hx rfl (hb hby at_47) rfl (l' := #[.val (.int p0), .val (.int p1), .val (.int p2), .val (.int p3), .val (.int p4), .val (.int (p0 &&& (2147483647 : Int32))), .val (.int (p1 &&& (2147483647 : Int32))), .val (.int (own_init p0 p1)), .val (.int (own_maxd p0 p1)), .val (.int (own_maxI (1 : Int32) (p3 &&& (2147483647 : Int32)))), .unset, .unset, .unset, .unset, .unset]) rfl ?_
      show Steps p.tables e below (T12.setTop (mkF m 49 #[.val (.int p0), .val (.int p1), .val (.int p2), .val (.int p3), .val (.int p4), .val (.int (p0 &&& (2147483647 : Int32))), .val (.int (p1 &&& (2147483647 : Int32))), .val (.int (own_init p0 p1)), .val (.int (own_maxd p0 p1)), .val (.int (own_maxI (1 : Int32) (p3 &&& (2147483647 : Int32)))), .unset, .unset, .unset, .unset, .unset] [])) _
      refine XS.iconst X12.here hx rfl (hb hby at_49) ?_
      show Steps p.tables e below (T12.setTop (mkF m 50 #[.val (.int p0), .val (.int p1), .val (.int p2), .val (.int p3), .val (.int p4), .val (.int (p0 &&& (2147483647 : Int32))), .val (.int (p1 &&& (2147483647 : Int32))), .val (.int (own_init p0 p1)), .val (.int (own_maxd p0 p1)), .val (.int (own_maxI (1 : Int32) (p3 &&& (2147483647 : Int32)))), .unset, .unset, .unset, .unset, .unset] [(.int (1 : Int32))])) _
      refine XS.iload X12.here hx rfl (hb hby at_50) rfl ?_
      show Steps p.tables e below (T12.setTop (mkF m 52 #[.val (.int p0), .val (.int p1), .val (.int p2), .val (.int p3), .val (.int p4), .val (.int (p0 &&& (2147483647 : Int32))), .val (.int (p1 &&& (2147483647 : Int32))), .val (.int (own_init p0 p1)), .val (.int (own_maxd p0 p1)), .val (.int (own_maxI (1 : Int32) (p3 &&& (2147483647 : Int32)))), .unset, .unset, .unset, .unset, .unset] [(.int p4), (.int (1 : Int32))])) _
      refine X12.ldcInt hx hown (mvT hZ (hw _ (List.mem_of_getElem? (i := 0) rfl))) (g := (mkF m 52 #[.val (.int p0), .val (.int p1), .val (.int p2), .val (.int p3), .val (.int p4), .val (.int (p0 &&& (2147483647 : Int32))), .val (.int (p1 &&& (2147483647 : Int32))), .val (.int (own_init p0 p1)), .val (.int (own_maxd p0 p1)), .val (.int (own_maxI (1 : Int32) (p3 &&& (2147483647 : Int32)))), .unset, .unset, .unset, .unset, .unset] [(.int p4), (.int (1 : Int32))])) rfl (hb hby at_52) _ ?_
      show Steps p.tables e below (T12.setTop (mkF m 54 #[.val (.int p0), .val (.int p1), .val (.int p2), .val (.int p3), .val (.int p4), .val (.int (p0 &&& (2147483647 : Int32))), .val (.int (p1 &&& (2147483647 : Int32))), .val (.int (own_init p0 p1)), .val (.int (own_maxd p0 p1)), .val (.int (own_maxI (1 : Int32) (p3 &&& (2147483647 : Int32)))), .unset, .unset, .unset, .unset, .unset] [(.int (2147483647 : Int32)), (.int p4), (.int (1 : Int32))])) _
      refine XS.iand X12.here hx rfl (hb hby at_54) rfl ?_
      exact k)
  obtain ⟨_, _, ⟨T15, L15, kq15, n15⟩, -, X15, ⟨Lc15, hQ15, l15, y15, z15⟩, st15⟩ := Jvm.LawKit.callS X12 hx (y := (⟨"java/lang/Math", "max", "(II)I"⟩ : MethodName)) hown (mvT hZ (hw _ (List.mem_of_getElem? (i := 5) rfl))) (mvT hZ (hw _ (List.mem_of_getElem? (i := 6) rfl))) (mvT hZ (hw _ (List.mem_of_getElem? (i := 3) rfl))) (mvT hZ (hw _ (List.mem_of_getElem? (i := 7) rfl))) (by decide) (backOf (W := 0) (rm2 l Z a0 hw [] (1 : Int32) (p4 &&& (2147483647 : Int32)) h0 n0 Z0) hZ (hw _ (List.mem_of_getElem? (i := 7) rfl)) (hw _ (List.mem_of_getElem? (i := 3) rfl)) (by decide) (by decide)) (g := (mkF m 55 #[.val (.int p0), .val (.int p1), .val (.int p2), .val (.int p3), .val (.int p4), .val (.int (p0 &&& (2147483647 : Int32))), .val (.int (p1 &&& (2147483647 : Int32))), .val (.int (own_init p0 p1)), .val (.int (own_maxd p0 p1)), .val (.int (own_maxI (1 : Int32) (p3 &&& (2147483647 : Int32)))), .unset, .unset, .unset, .unset, .unset] [(.int (p4 &&& (2147483647 : Int32))), (.int (1 : Int32))])) rfl (by rw [hml]; rfl) (argsL := [(.int (1 : Int32)), (.int (p4 &&& (2147483647 : Int32)))]) (rest := []) (lenOf pd_1 rfl) rfl (by show 2 * 0 + _ ≤ _; exact Nat.le_of_eq rfl) (hb hby at_55) (fun _ _ => ⟨rfl, e12, (by decide : 0 + 0 ≤ _), (by decide : 0 + 0 ≤ _)⟩)
  dsimp only [Pt.U, Pt.locs, Pt.cells, Pt.slots] at X15 l15 y15 z15 st15 hQ15
  subst l15 y15 z15
  obtain ⟨rfl, N15q, e15⟩ := hQ15
  have N15 := Fr.app N12 N15q
  have k16 : ∀ t, Steps p.tables e below (T15.setTop (mkF m 58 #[.val (.int p0), .val (.int p1), .val (.int p2), .val (.int p3), .val (.int p4), .val (.int (p0 &&& (2147483647 : Int32))), .val (.int (p1 &&& (2147483647 : Int32))), .val (.int (own_init p0 p1)), .val (.int (own_maxd p0 p1)), .val (.int (own_maxI (1 : Int32) (p3 &&& (2147483647 : Int32)))), .unset, .unset, .unset, .unset, .unset] [(.int (own_maxI (1 : Int32) (p4 &&& (2147483647 : Int32))))])) t → Steps p.tables e below (s₁.setTop (entryFrame m #[(.int p0), (.int p1), (.int p2), (.int p3), (.int p4)] maxLocals)) t := fun t k => k14 t (st15 _ k)
  have k17 : ∀ t, Steps p.tables e below (T15.setTop (mkF m 62 #[.val (.int p0), .val (.int p1), .val (.int p2), .val (.int p3), .val (.int p4), .val (.int (p0 &&& (2147483647 : Int32))), .val (.int (p1 &&& (2147483647 : Int32))), .val (.int (own_init p0 p1)), .val (.int (own_maxd p0 p1)), .val (.int (own_maxI (1 : Int32) (p3 &&& (2147483647 : Int32)))), .val (.int (own_maxI (1 : Int32) (p4 &&& (2147483647 : Int32)))), .unset, .unset, .unset, .unset] [(.int (1 : Int32)), (.int p2)])) t → Steps p.tables e below (s₁.setTop (entryFrame m #[(.int p0), (.int p1), (.int p2), (.int p3), (.int p4)] maxLocals)) t := fun t k => k16 t (by
      show Steps p.tables e below (T15.setTop (mkF m 58 #[.val (.int p0), .val (.int p1), .val (.int p2), .val (.int p3), .val (.int p4), .val (.int (p0 &&& (2147483647 : Int32))), .val (.int (p1 &&& (2147483647 : Int32))), .val (.int (own_init p0 p1)), .val (.int (own_maxd p0 p1)), .val (.int (own_maxI (1 : Int32) (p3 &&& (2147483647 : Int32)))), .unset, .unset, .unset, .unset, .unset] [(.int (own_maxI (1 : Int32) (p4 &&& (2147483647 : Int32))))])) _
      refine XS.istore X15.here hx rfl (hb hby at_58) rfl (l' := #[.val (.int p0), .val (.int p1), .val (.int p2), .val (.int p3), .val (.int p4), .val (.int (p0 &&& (2147483647 : Int32))), .val (.int (p1 &&& (2147483647 : Int32))), .val (.int (own_init p0 p1)), .val (.int (own_maxd p0 p1)), .val (.int (own_maxI (1 : Int32) (p3 &&& (2147483647 : Int32)))), .val (.int (own_maxI (1 : Int32) (p4 &&& (2147483647 : Int32)))), .unset, .unset, .unset, .unset]) rfl ?_
      show Steps p.tables e below (T15.setTop (mkF m 60 #[.val (.int p0), .val (.int p1), .val (.int p2), .val (.int p3), .val (.int p4), .val (.int (p0 &&& (2147483647 : Int32))), .val (.int (p1 &&& (2147483647 : Int32))), .val (.int (own_init p0 p1)), .val (.int (own_maxd p0 p1)), .val (.int (own_maxI (1 : Int32) (p3 &&& (2147483647 : Int32)))), .val (.int (own_maxI (1 : Int32) (p4 &&& (2147483647 : Int32)))), .unset, .unset, .unset, .unset] [])) _
      refine XS.iloadN X15.here hx rfl (hb hby at_60) rfl ?_
      show Steps p.tables e below (T15.setTop (mkF m 61 #[.val (.int p0), .val (.int p1), .val (.int p2), .val (.int p3), .val (.int p4), .val (.int (p0 &&& (2147483647 : Int32))), .val (.int (p1 &&& (2147483647 : Int32))), .val (.int (own_init p0 p1)), .val (.int (own_maxd p0 p1)), .val (.int (own_maxI (1 : Int32) (p3 &&& (2147483647 : Int32)))), .val (.int (own_maxI (1 : Int32) (p4 &&& (2147483647 : Int32)))), .unset, .unset, .unset, .unset] [(.int p2)])) _
      refine XS.iconst X15.here hx rfl (hb hby at_61) ?_
      exact k)
  by_cases hc62 : p2 < (1 : Int32)
  · have k18 : ∀ t, Steps p.tables e below (T15.setTop (mkF m 77 #[.val (.int p0), .val (.int p1), .val (.int p2), .val (.int p3), .val (.int p4), .val (.int (p0 &&& (2147483647 : Int32))), .val (.int (p1 &&& (2147483647 : Int32))), .val (.int (own_init p0 p1)), .val (.int (own_maxd p0 p1)), .val (.int (own_maxI (1 : Int32) (p3 &&& (2147483647 : Int32)))), .val (.int (own_maxI (1 : Int32) (p4 &&& (2147483647 : Int32)))), .val (.int ((1 : Int32) + (p2 &&& (63 : Int32)))), .unset, .unset, .unset] [])) t → Steps p.tables e below (s₁.setTop (entryFrame m #[(.int p0), (.int p1), (.int p2), (.int p3), (.int p4)] maxLocals)) t := fun t k => k17 t (by
        show Steps p.tables e below (T15.setTop (mkF m 62 #[.val (.int p0), .val (.int p1), .val (.int p2), .val (.int p3), .val (.int p4), .val (.int (p0 &&& (2147483647 : Int32))), .val (.int (p1 &&& (2147483647 : Int32))), .val (.int (own_init p0 p1)), .val (.int (own_maxd p0 p1)), .val (.int (own_maxI (1 : Int32) (p3 &&& (2147483647 : Int32)))), .val (.int (own_maxI (1 : Int32) (p4 &&& (2147483647 : Int32)))), .unset, .unset, .unset, .unset] [(.int (1 : Int32)), (.int p2)])) _
        refine XS.icmpNo X15.here hx rfl (hb hby at_62) rfl (tlt hc62).2.1 ?_
        show Steps p.tables e below (T15.setTop (mkF m 65 #[.val (.int p0), .val (.int p1), .val (.int p2), .val (.int p3), .val (.int p4), .val (.int (p0 &&& (2147483647 : Int32))), .val (.int (p1 &&& (2147483647 : Int32))), .val (.int (own_init p0 p1)), .val (.int (own_maxd p0 p1)), .val (.int (own_maxI (1 : Int32) (p3 &&& (2147483647 : Int32)))), .val (.int (own_maxI (1 : Int32) (p4 &&& (2147483647 : Int32)))), .unset, .unset, .unset, .unset] [])) _
        refine XS.iconst X15.here hx rfl (hb hby at_65) ?_
        show Steps p.tables e below (T15.setTop (mkF m 66 #[.val (.int p0), .val (.int p1), .val (.int p2), .val (.int p3), .val (.int p4), .val (.int (p0 &&& (2147483647 : Int32))), .val (.int (p1 &&& (2147483647 : Int32))), .val (.int (own_init p0 p1)), .val (.int (own_maxd p0 p1)), .val (.int (own_maxI (1 : Int32) (p3 &&& (2147483647 : Int32)))), .val (.int (own_maxI (1 : Int32) (p4 &&& (2147483647 : Int32)))), .unset, .unset, .unset, .unset] [(.int (1 : Int32))])) _
        refine XS.iloadN X15.here hx rfl (hb hby at_66) rfl ?_
        show Steps p.tables e below (T15.setTop (mkF m 67 #[.val (.int p0), .val (.int p1), .val (.int p2), .val (.int p3), .val (.int p4), .val (.int (p0 &&& (2147483647 : Int32))), .val (.int (p1 &&& (2147483647 : Int32))), .val (.int (own_init p0 p1)), .val (.int (own_maxd p0 p1)), .val (.int (own_maxI (1 : Int32) (p3 &&& (2147483647 : Int32)))), .val (.int (own_maxI (1 : Int32) (p4 &&& (2147483647 : Int32)))), .unset, .unset, .unset, .unset] [(.int p2), (.int (1 : Int32))])) _
        refine XS.bipush X15.here hx rfl (hb hby at_67) ?_
        show Steps p.tables e below (T15.setTop (mkF m 69 #[.val (.int p0), .val (.int p1), .val (.int p2), .val (.int p3), .val (.int p4), .val (.int (p0 &&& (2147483647 : Int32))), .val (.int (p1 &&& (2147483647 : Int32))), .val (.int (own_init p0 p1)), .val (.int (own_maxd p0 p1)), .val (.int (own_maxI (1 : Int32) (p3 &&& (2147483647 : Int32)))), .val (.int (own_maxI (1 : Int32) (p4 &&& (2147483647 : Int32)))), .unset, .unset, .unset, .unset] [(.int (63 : Int32)), (.int p2), (.int (1 : Int32))])) _
        refine XS.iand X15.here hx rfl (hb hby at_69) rfl ?_
        show Steps p.tables e below (T15.setTop (mkF m 70 #[.val (.int p0), .val (.int p1), .val (.int p2), .val (.int p3), .val (.int p4), .val (.int (p0 &&& (2147483647 : Int32))), .val (.int (p1 &&& (2147483647 : Int32))), .val (.int (own_init p0 p1)), .val (.int (own_maxd p0 p1)), .val (.int (own_maxI (1 : Int32) (p3 &&& (2147483647 : Int32)))), .val (.int (own_maxI (1 : Int32) (p4 &&& (2147483647 : Int32)))), .unset, .unset, .unset, .unset] [(.int (p2 &&& (63 : Int32))), (.int (1 : Int32))])) _
        refine XS.iadd X15.here hx rfl (hb hby at_70) rfl ?_
        show Steps p.tables e below (T15.setTop (mkF m 71 #[.val (.int p0), .val (.int p1), .val (.int p2), .val (.int p3), .val (.int p4), .val (.int (p0 &&& (2147483647 : Int32))), .val (.int (p1 &&& (2147483647 : Int32))), .val (.int (own_init p0 p1)), .val (.int (own_maxd p0 p1)), .val (.int (own_maxI (1 : Int32) (p3 &&& (2147483647 : Int32)))), .val (.int (own_maxI (1 : Int32) (p4 &&& (2147483647 : Int32)))), .unset, .unset, .unset, .unset] [(.int ((1 : Int32) + (p2 &&& (63 : Int32))))])) _
        refine XS.goto X15.here hx rfl (pc0 := 71) (pc' := 75) rfl (hb hby at_71) (by decide) (by decide) ?_
        show Steps p.tables e below (T15.setTop (mkF m 75 #[.val (.int p0), .val (.int p1), .val (.int p2), .val (.int p3), .val (.int p4), .val (.int (p0 &&& (2147483647 : Int32))), .val (.int (p1 &&& (2147483647 : Int32))), .val (.int (own_init p0 p1)), .val (.int (own_maxd p0 p1)), .val (.int (own_maxI (1 : Int32) (p3 &&& (2147483647 : Int32)))), .val (.int (own_maxI (1 : Int32) (p4 &&& (2147483647 : Int32)))), .unset, .unset, .unset, .unset] [(.int ((1 : Int32) + (p2 &&& (63 : Int32))))])) _
        refine XS.istore X15.here hx rfl (hb hby at_75) rfl (l' := #[.val (.int p0), .val (.int p1), .val (.int p2), .val (.int p3), .val (.int p4), .val (.int (p0 &&& (2147483647 : Int32))), .val (.int (p1 &&& (2147483647 : Int32))), .val (.int (own_init p0 p1)), .val (.int (own_maxd p0 p1)), .val (.int (own_maxI (1 : Int32) (p3 &&& (2147483647 : Int32)))), .val (.int (own_maxI (1 : Int32) (p4 &&& (2147483647 : Int32)))), .val (.int ((1 : Int32) + (p2 &&& (63 : Int32)))), .unset, .unset, .unset]) rfl ?_
        exact k)
    obtain ⟨T19, h19, X19, e19, E19, A19, D19, -, st19⟩ := newO X15 hx hZ hown (hw _ (List.mem_of_getElem? (i := 8) rfl)) (hw _ (List.mem_of_getElem? (i := 9) rfl)) (hw _ (List.mem_of_getElem? (i := 10) rfl)) e15 (g := (mkF m 77 #[.val (.int p0), .val (.int p1), .val (.int p2), .val (.int p3), .val (.int p4), .val (.int (p0 &&& (2147483647 : Int32))), .val (.int (p1 &&& (2147483647 : Int32))), .val (.int (own_init p0 p1)), .val (.int (own_maxd p0 p1)), .val (.int (own_maxI (1 : Int32) (p3 &&& (2147483647 : Int32)))), .val (.int (own_maxI (1 : Int32) (p4 &&& (2147483647 : Int32)))), .val (.int ((1 : Int32) + (p2 &&& (63 : Int32)))), .unset, .unset, .unset] [])) rfl (hb hby at_77) (by decide) (by decide)
    obtain ⟨b19, g19⟩ : ∃ z, z = h0.size := ⟨_, rfl⟩
    rw [← g19] at A19 D19 st19
    have F_timeoutMs_b19 : Fld Z h19 b19 "com/example/mediawarden/mediawarden/config/CallbackSettings" "timeoutMs" "I" (.int (0 : Int32)) := D19 (Or.inr (hw _ (List.mem_of_getElem? (i := 18) rfl))) (ty := .int) (by decide)
    have F_initialDelayMs_b19 : Fld Z h19 b19 "com/example/mediawarden/mediawarden/config/CallbackSettings" "initialDelayMs" "I" (.int (0 : Int32)) := D19 (Or.inr (hw _ (List.mem_of_getElem? (i := 20) rfl))) (ty := .int) (by decide)
    have F_maxDelayMs_b19 : Fld Z h19 b19 "com/example/mediawarden/mediawarden/config/CallbackSettings" "maxDelayMs" "I" (.int (0 : Int32)) := D19 (Or.inr (hw _ (List.mem_of_getElem? (i := 22) rfl))) (ty := .int) (by decide)
    have F_maxAttempts_b19 : Fld Z h19 b19 "com/example/mediawarden/mediawarden/config/CallbackSettings" "maxAttempts" "I" (.int (0 : Int32)) := D19 (Or.inr (hw _ (List.mem_of_getElem? (i := 24) rfl))) (ty := .int) (by decide)
    have g_b19 : n0 ≤ b19 := Nat.le_trans Z0 (Nat.le_of_eq g19.symm)
    have Zs19 : n0 ≤ h19.size := Nat.le_trans Z0 E19.1
    have k20 : ∀ t, Steps p.tables e below (T19.setTop (mkF m 80 #[.val (.int p0), .val (.int p1), .val (.int p2), .val (.int p3), .val (.int p4), .val (.int (p0 &&& (2147483647 : Int32))), .val (.int (p1 &&& (2147483647 : Int32))), .val (.int (own_init p0 p1)), .val (.int (own_maxd p0 p1)), .val (.int (own_maxI (1 : Int32) (p3 &&& (2147483647 : Int32)))), .val (.int (own_maxI (1 : Int32) (p4 &&& (2147483647 : Int32)))), .val (.int ((1 : Int32) + (p2 &&& (63 : Int32)))), .unset, .unset, .unset] [(.ref b19)])) t → Steps p.tables e below (s₁.setTop (entryFrame m #[(.int p0), (.int p1), (.int p2), (.int p3), (.int p4)] maxLocals)) t := fun t k => k18 t (st19 _ k)
    have k21 : ∀ t, Steps p.tables e below (T19.setTop (mkF m 89 #[.val (.int p0), .val (.int p1), .val (.int p2), .val (.int p3), .val (.int p4), .val (.int (p0 &&& (2147483647 : Int32))), .val (.int (p1 &&& (2147483647 : Int32))), .val (.int (own_init p0 p1)), .val (.int (own_maxd p0 p1)), .val (.int (own_maxI (1 : Int32) (p3 &&& (2147483647 : Int32)))), .val (.int (own_maxI (1 : Int32) (p4 &&& (2147483647 : Int32)))), .val (.int ((1 : Int32) + (p2 &&& (63 : Int32)))), .unset, .unset, .unset] [(.int (own_maxI (1 : Int32) (p4 &&& (2147483647 : Int32)))), (.int (own_maxd p0 p1)), (.int (own_init p0 p1)), (.int (own_maxI (1 : Int32) (p3 &&& (2147483647 : Int32)))), (.ref b19), (.ref b19)])) t → Steps p.tables e below (s₁.setTop (entryFrame m #[(.int p0), (.int p1), (.int p2), (.int p3), (.int p4)] maxLocals)) t := fun t k => k20 t (by
        show Steps p.tables e below (T19.setTop (mkF m 80 #[.val (.int p0), .val (.int p1), .val (.int p2), .val (.int p3), .val (.int p4), .val (.int (p0 &&& (2147483647 : Int32))), .val (.int (p1 &&& (2147483647 : Int32))), .val (.int (own_init p0 p1)), .val (.int (own_maxd p0 p1)), .val (.int (own_maxI (1 : Int32) (p3 &&& (2147483647 : Int32)))), .val (.int (own_maxI (1 : Int32) (p4 &&& (2147483647 : Int32)))), .val (.int ((1 : Int32) + (p2 &&& (63 : Int32)))), .unset, .unset, .unset] [(.ref b19)])) _
        refine XS.dup X19.here hx rfl (hb hby at_80) rfl rfl ?_
        show Steps p.tables e below (T19.setTop (mkF m 81 #[.val (.int p0), .val (.int p1), .val (.int p2), .val (.int p3), .val (.int p4), .val (.int (p0 &&& (2147483647 : Int32))), .val (.int (p1 &&& (2147483647 : Int32))), .val (.int (own_init p0 p1)), .val (.int (own_maxd p0 p1)), .val (.int (own_maxI (1 : Int32) (p3 &&& (2147483647 : Int32)))), .val (.int (own_maxI (1 : Int32) (p4 &&& (2147483647 : Int32)))), .val (.int ((1 : Int32) + (p2 &&& (63 : Int32)))), .unset, .unset, .unset] [(.ref b19), (.ref b19)])) _
        refine XS.iload X19.here hx rfl (hb hby at_81) rfl ?_
        show Steps p.tables e below (T19.setTop (mkF m 83 #[.val (.int p0), .val (.int p1), .val (.int p2), .val (.int p3), .val (.int p4), .val (.int (p0 &&& (2147483647 : Int32))), .val (.int (p1 &&& (2147483647 : Int32))), .val (.int (own_init p0 p1)), .val (.int (own_maxd p0 p1)), .val (.int (own_maxI (1 : Int32) (p3 &&& (2147483647 : Int32)))), .val (.int (own_maxI (1 : Int32) (p4 &&& (2147483647 : Int32)))), .val (.int ((1 : Int32) + (p2 &&& (63 : Int32)))), .unset, .unset, .unset] [(.int (own_maxI (1 : Int32) (p3 &&& (2147483647 : Int32)))), (.ref b19), (.ref b19)])) _
        refine XS.iload X19.here hx rfl (hb hby at_83) rfl ?_
        show Steps p.tables e below (T19.setTop (mkF m 85 #[.val (.int p0), .val (.int p1), .val (.int p2), .val (.int p3), .val (.int p4), .val (.int (p0 &&& (2147483647 : Int32))), .val (.int (p1 &&& (2147483647 : Int32))), .val (.int (own_init p0 p1)), .val (.int (own_maxd p0 p1)), .val (.int (own_maxI (1 : Int32) (p3 &&& (2147483647 : Int32)))), .val (.int (own_maxI (1 : Int32) (p4 &&& (2147483647 : Int32)))), .val (.int ((1 : Int32) + (p2 &&& (63 : Int32)))), .unset, .unset, .unset] [(.int (own_init p0 p1)), (.int (own_maxI (1 : Int32) (p3 &&& (2147483647 : Int32)))), (.ref b19), (.ref b19)])) _
        refine XS.iload X19.here hx rfl (hb hby at_85) rfl ?_
        show Steps p.tables e below (T19.setTop (mkF m 87 #[.val (.int p0), .val (.int p1), .val (.int p2), .val (.int p3), .val (.int p4), .val (.int (p0 &&& (2147483647 : Int32))), .val (.int (p1 &&& (2147483647 : Int32))), .val (.int (own_init p0 p1)), .val (.int (own_maxd p0 p1)), .val (.int (own_maxI (1 : Int32) (p3 &&& (2147483647 : Int32)))), .val (.int (own_maxI (1 : Int32) (p4 &&& (2147483647 : Int32)))), .val (.int ((1 : Int32) + (p2 &&& (63 : Int32)))), .unset, .unset, .unset] [(.int (own_maxd p0 p1)), (.int (own_init p0 p1)), (.int (own_maxI (1 : Int32) (p3 &&& (2147483647 : Int32)))), (.ref b19), (.ref b19)])) _
        refine XS.iload X19.here hx rfl (hb hby at_87) rfl ?_
        exact k)
    obtain ⟨_, _, ⟨T22, L22, kq22, n22⟩, -, X22, ⟨Lc22, hQ22, l22, y22, z22⟩, st22⟩ := X19.specialBack hx (y := (⟨"com/example/mediawarden/mediawarden/config/CallbackSettings", "<init>", "(IIII)V"⟩ : MethodName)) rfl hown (mvT hZ (hw _ (List.mem_of_getElem? (i := 11) rfl))) (mvT hZ (hw _ (List.mem_of_getElem? (i := 12) rfl))) (mvT hZ (hw _ (List.mem_of_getElem? (i := 13) rfl))) (by decide) (backOf (W := 1) (rm3 l Z a0 hw [] b19 (own_maxI (1 : Int32) (p3 &&& (2147483647 : Int32))) (own_init p0 p1) (own_maxd p0 p1) (own_maxI (1 : Int32) (p4 &&& (2147483647 : Int32))) h19 n0 Zs19 F_timeoutMs_b19 F_initialDelayMs_b19 F_maxDelayMs_b19 F_maxAttempts_b19 A19 g_b19 hq1 hq2 hq4 hq3) hZ (hw _ (List.mem_of_getElem? (i := 13) rfl)) (hw _ (List.mem_of_getElem? (i := 10) rfl)) (by decide) (by decide)) (g := (mkF m 89 #[.val (.int p0), .val (.int p1), .val (.int p2), .val (.int p3), .val (.int p4), .val (.int (p0 &&& (2147483647 : Int32))), .val (.int (p1 &&& (2147483647 : Int32))), .val (.int (own_init p0 p1)), .val (.int (own_maxd p0 p1)), .val (.int (own_maxI (1 : Int32) (p3 &&& (2147483647 : Int32)))), .val (.int (own_maxI (1 : Int32) (p4 &&& (2147483647 : Int32)))), .val (.int ((1 : Int32) + (p2 &&& (63 : Int32)))), .unset, .unset, .unset] [(.int (own_maxI (1 : Int32) (p4 &&& (2147483647 : Int32)))), (.int (own_maxd p0 p1)), (.int (own_init p0 p1)), (.int (own_maxI (1 : Int32) (p3 &&& (2147483647 : Int32)))), (.ref b19), (.ref b19)])) rfl (by rw [hml]; rfl) (Steps.refl _) (a := b19) (argsL := [(.int (own_maxI (1 : Int32) (p3 &&& (2147483647 : Int32)))), (.int (own_init p0 p1)), (.int (own_maxd p0 p1)), (.int (own_maxI (1 : Int32) (p4 &&& (2147483647 : Int32))))]) (rest := [(.ref b19)]) (lenOf pd_2 rfl) rfl (by show 2 * 0 + _ ≤ _; exact Nat.le_of_eq rfl) (hb hby at_89) (fun _ _ => ⟨rfl, e19, (by decide : 1 + 0 ≤ _), (by decide : 4 + 0 ≤ _)⟩)
    dsimp only [Pt.U, Pt.locs, Pt.cells, Pt.slots] at X22 l22 y22 z22 st22 hQ22
    subst l22 y22 z22
    obtain ⟨rfl, N22q, K22, Ex22, Fx22_0, Fx22_1, Fx22_2, Fx22_3⟩ := hQ22
    have N22 := Fr.app N15 N22q
    have Zs22 : n0 ≤ T22.heap.size := Nat.le_trans Zs19 K22.1
    have k23 : ∀ t, Steps p.tables e below (T22.setTop (mkF m 92 #[.val (.int p0), .val (.int p1), .val (.int p2), .val (.int p3), .val (.int p4), .val (.int (p0 &&& (2147483647 : Int32))), .val (.int (p1 &&& (2147483647 : Int32))), .val (.int (own_init p0 p1)), .val (.int (own_maxd p0 p1)), .val (.int (own_maxI (1 : Int32) (p3 &&& (2147483647 : Int32)))), .val (.int (own_maxI (1 : Int32) (p4 &&& (2147483647 : Int32)))), .val (.int ((1 : Int32) + (p2 &&& (63 : Int32)))), .unset, .unset, .unset] [(.ref b19)])) t → Steps p.tables e below (s₁.setTop (entryFrame m #[(.int p0), (.int p1), (.int p2), (.int p3), (.int p4)] maxLocals)) t := fun t k => k21 t (st22.trans k)
    have k24 : ∀ t, Steps p.tables e below (T22.setTop (mkF m 98 #[.val (.int p0), .val (.int p1), .val (.int p2), .val (.int p3), .val (.int p4), .val (.int (p0 &&& (2147483647 : Int32))), .val (.int (p1 &&& (2147483647 : Int32))), .val (.int (own_init p0 p1)), .val (.int (own_maxd p0 p1)), .val (.int (own_maxI (1 : Int32) (p3 &&& (2147483647 : Int32)))), .val (.int (own_maxI (1 : Int32) (p4 &&& (2147483647 : Int32)))), .val (.int ((1 : Int32) + (p2 &&& (63 : Int32)))), .val (.ref b19), .unset, .unset] [(.int ((1 : Int32) + (p2 &&& (63 : Int32)))), (.ref b19)])) t → Steps p.tables e below (s₁.setTop (entryFrame m #[(.int p0), (.int p1), (.int p2), (.int p3), (.int p4)] maxLocals)) t := fun t k => k23 t (by
        show Steps p.tables e below (T22.setTop (mkF m 92 #[.val (.int p0), .val (.int p1), .val (.int p2), .val (.int p3), .val (.int p4), .val (.int (p0 &&& (2147483647 : Int32))), .val (.int (p1 &&& (2147483647 : Int32))), .val (.int (own_init p0 p1)), .val (.int (own_maxd p0 p1)), .val (.int (own_maxI (1 : Int32) (p3 &&& (2147483647 : Int32)))), .val (.int (own_maxI (1 : Int32) (p4 &&& (2147483647 : Int32)))), .val (.int ((1 : Int32) + (p2 &&& (63 : Int32)))), .unset, .unset, .unset] [(.ref b19)])) _
        refine XS.astore X22.here hx rfl (hb hby at_92) rfl rfl (l' := #[.val (.int p0), .val (.int p1), .val (.int p2), .val (.int p3), .val (.int p4), .val (.int (p0 &&& (2147483647 : Int32))), .val (.int (p1 &&& (2147483647 : Int32))), .val (.int (own_init p0 p1)), .val (.int (own_maxd p0 p1)), .val (.int (own_maxI (1 : Int32) (p3 &&& (2147483647 : Int32)))), .val (.int (own_maxI (1 : Int32) (p4 &&& (2147483647 : Int32)))), .val (.int ((1 : Int32) + (p2 &&& (63 : Int32)))), .val (.ref b19), .unset, .unset]) rfl ?_
        show Steps p.tables e below (T22.setTop (mkF m 94 #[.val (.int p0), .val (.int p1), .val (.int p2), .val (.int p3), .val (.int p4), .val (.int (p0 &&& (2147483647 : Int32))), .val (.int (p1 &&& (2147483647 : Int32))), .val (.int (own_init p0 p1)), .val (.int (own_maxd p0 p1)), .val (.int (own_maxI (1 : Int32) (p3 &&& (2147483647 : Int32)))), .val (.int (own_maxI (1 : Int32) (p4 &&& (2147483647 : Int32)))), .val (.int ((1 : Int32) + (p2 &&& (63 : Int32)))), .val (.ref b19), .unset, .unset] [])) _
        refine XS.aload X22.here hx rfl (hb hby at_94) rfl rfl ?_
        show Steps p.tables e below (T22.setTop (mkF m 96 #[.val (.int p0), .val (.int p1), .val (.int p2), .val (.int p3), .val (.int p4), .val (.int (p0 &&& (2147483647 : Int32))), .val (.int (p1 &&& (2147483647 : Int32))), .val (.int (own_init p0 p1)), .val (.int (own_maxd p0 p1)), .val (.int (own_maxI (1 : Int32) (p3 &&& (2147483647 : Int32)))), .val (.int (own_maxI (1 : Int32) (p4 &&& (2147483647 : Int32)))), .val (.int ((1 : Int32) + (p2 &&& (63 : Int32)))), .val (.ref b19), .unset, .unset] [(.ref b19)])) _
        refine XS.iload X22.here hx rfl (hb hby at_96) rfl ?_
        exact k)
    obtain ⟨cq25, kcq25, q25a, q25b, q25c⟩ := isOf hZ rfl Ex22
    obtain ⟨_, _, ⟨T25, L25, kq25, n25⟩, -, X25, ⟨Lc25, hQ25, l25, y25, z25⟩, st25⟩ := X22.virtualBack hx (y := (⟨"com/example/mediawarden/mediawarden/config/CallbackSettings", "delayAfter", "(I)J"⟩ : MethodName)) (z := (⟨"com/example/mediawarden/mediawarden/config/CallbackSettings", "delayAfter", "(I)J"⟩ : MethodName)) hown (mvT hZ (hw _ (List.mem_of_getElem? (i := 25) rfl))) (mvT hZ (hw _ (List.mem_of_getElem? (i := 26) rfl))) (notFace_of_selects (args := #[]) (mvT hZ (hw _ (List.mem_of_getElem? (i := 28) rfl)))) (mvT hZ (hw _ (List.mem_of_getElem? (i := 28) rfl))) (mvT hZ (hw _ (List.mem_of_getElem? (i := 27) rfl))) (by decide) (backOf (W := 0) (rm5 l Z a0 hw [] b19 ((1 : Int32) + (p2 &&& (63 : Int32))) (own_init p0 p1) (own_maxd p0 p1) T22.heap n0 Zs22 Fx22_1 Fx22_2 hi1 him hf1) hZ (hw _ (List.mem_of_getElem? (i := 29) rfl)) (hw _ (List.mem_of_getElem? (i := 10) rfl)) (by decide) (by decide)) q25a q25c (g := (mkF m 98 #[.val (.int p0), .val (.int p1), .val (.int p2), .val (.int p3), .val (.int p4), .val (.int (p0 &&& (2147483647 : Int32))), .val (.int (p1 &&& (2147483647 : Int32))), .val (.int (own_init p0 p1)), .val (.int (own_maxd p0 p1)), .val (.int (own_maxI (1 : Int32) (p3 &&& (2147483647 : Int32)))), .val (.int (own_maxI (1 : Int32) (p4 &&& (2147483647 : Int32)))), .val (.int ((1 : Int32) + (p2 &&& (63 : Int32)))), .val (.ref b19), .unset, .unset] [(.int ((1 : Int32) + (p2 &&& (63 : Int32)))), (.ref b19)])) rfl (by rw [hml]; rfl) (Steps.refl _) (argsL := [(.int ((1 : Int32) + (p2 &&& (63 : Int32))))]) (rest := []) (lenOf pd_3 rfl) rfl (by show 2 * 0 + _ ≤ _; exact Nat.le_of_eq rfl) (hb hby at_98) (fun _ _ => ⟨rfl, rfl, (by decide : 1 + 0 ≤ _), (by decide : 4 + 0 ≤ _)⟩)
    dsimp only [Pt.U, Pt.locs, Pt.cells, Pt.slots] at X25 l25 y25 z25 st25 hQ25
    subst l25 y25 z25
    obtain ⟨rfl, N25q, e25⟩ := hQ25
    have N25 := Fr.app N22 N25q
    have k26 : ∀ t, Steps p.tables e below (T25.setTop (mkF m 101 #[.val (.int p0), .val (.int p1), .val (.int p2), .val (.int p3), .val (.int p4), .val (.int (p0 &&& (2147483647 : Int32))), .val (.int (p1 &&& (2147483647 : Int32))), .val (.int (own_init p0 p1)), .val (.int (own_maxd p0 p1)), .val (.int (own_maxI (1 : Int32) (p3 &&& (2147483647 : Int32)))), .val (.int (own_maxI (1 : Int32) (p4 &&& (2147483647 : Int32)))), .val (.int ((1 : Int32) + (p2 &&& (63 : Int32)))), .val (.ref b19), .unset, .unset] [(.long (own_exp (own_init p0 p1) (own_maxd p0 p1) ((1 : Int32) + (p2 &&& (63 : Int32)))))])) t → Steps p.tables e below (s₁.setTop (entryFrame m #[(.int p0), (.int p1), (.int p2), (.int p3), (.int p4)] maxLocals)) t := fun t k => k24 t (st25.trans k)
    have k27 : ∀ t, Steps p.tables e below (T25.setTop (mkF m 111 #[.val (.int p0), .val (.int p1), .val (.int p2), .val (.int p3), .val (.int p4), .val (.int (p0 &&& (2147483647 : Int32))), .val (.int (p1 &&& (2147483647 : Int32))), .val (.int (own_init p0 p1)), .val (.int (own_maxd p0 p1)), .val (.int (own_maxI (1 : Int32) (p3 &&& (2147483647 : Int32)))), .val (.int (own_maxI (1 : Int32) (p4 &&& (2147483647 : Int32)))), .val (.int ((1 : Int32) + (p2 &&& (63 : Int32)))), .val (.ref b19), .val (.long (own_exp (own_init p0 p1) (own_maxd p0 p1) ((1 : Int32) + (p2 &&& (63 : Int32))))), .second] [(.int ((1 : Int32) + (p2 &&& (63 : Int32)))), (.int (own_maxd p0 p1)), (.int (own_init p0 p1)), (.long (own_exp (own_init p0 p1) (own_maxd p0 p1) ((1 : Int32) + (p2 &&& (63 : Int32)))))])) t → Steps p.tables e below (s₁.setTop (entryFrame m #[(.int p0), (.int p1), (.int p2), (.int p3), (.int p4)] maxLocals)) t := fun t k => k26 t (by
        show Steps p.tables e below (T25.setTop (mkF m 101 #[.val (.int p0), .val (.int p1), .val (.int p2), .val (.int p3), .val (.int p4), .val (.int (p0 &&& (2147483647 : Int32))), .val (.int (p1 &&& (2147483647 : Int32))), .val (.int (own_init p0 p1)), .val (.int (own_maxd p0 p1)), .val (.int (own_maxI (1 : Int32) (p3 &&& (2147483647 : Int32)))), .val (.int (own_maxI (1 : Int32) (p4 &&& (2147483647 : Int32)))), .val (.int ((1 : Int32) + (p2 &&& (63 : Int32)))), .val (.ref b19), .unset, .unset] [(.long (own_exp (own_init p0 p1) (own_maxd p0 p1) ((1 : Int32) + (p2 &&& (63 : Int32)))))])) _
        refine XS.lstore X25.here hx rfl (hb hby at_101) rfl (l' := #[.val (.int p0), .val (.int p1), .val (.int p2), .val (.int p3), .val (.int p4), .val (.int (p0 &&& (2147483647 : Int32))), .val (.int (p1 &&& (2147483647 : Int32))), .val (.int (own_init p0 p1)), .val (.int (own_maxd p0 p1)), .val (.int (own_maxI (1 : Int32) (p3 &&& (2147483647 : Int32)))), .val (.int (own_maxI (1 : Int32) (p4 &&& (2147483647 : Int32)))), .val (.int ((1 : Int32) + (p2 &&& (63 : Int32)))), .val (.ref b19), .val (.long (own_exp (own_init p0 p1) (own_maxd p0 p1) ((1 : Int32) + (p2 &&& (63 : Int32))))), .second]) rfl ?_
        show Steps p.tables e below (T25.setTop (mkF m 103 #[.val (.int p0), .val (.int p1), .val (.int p2), .val (.int p3), .val (.int p4), .val (.int (p0 &&& (2147483647 : Int32))), .val (.int (p1 &&& (2147483647 : Int32))), .val (.int (own_init p0 p1)), .val (.int (own_maxd p0 p1)), .val (.int (own_maxI (1 : Int32) (p3 &&& (2147483647 : Int32)))), .val (.int (own_maxI (1 : Int32) (p4 &&& (2147483647 : Int32)))), .val (.int ((1 : Int32) + (p2 &&& (63 : Int32)))), .val (.ref b19), .val (.long (own_exp (own_init p0 p1) (own_maxd p0 p1) ((1 : Int32) + (p2 &&& (63 : Int32))))), .second] [])) _
        refine XS.lload X25.here hx rfl (hb hby at_103) rfl ?_
        show Steps p.tables e below (T25.setTop (mkF m 105 #[.val (.int p0), .val (.int p1), .val (.int p2), .val (.int p3), .val (.int p4), .val (.int (p0 &&& (2147483647 : Int32))), .val (.int (p1 &&& (2147483647 : Int32))), .val (.int (own_init p0 p1)), .val (.int (own_maxd p0 p1)), .val (.int (own_maxI (1 : Int32) (p3 &&& (2147483647 : Int32)))), .val (.int (own_maxI (1 : Int32) (p4 &&& (2147483647 : Int32)))), .val (.int ((1 : Int32) + (p2 &&& (63 : Int32)))), .val (.ref b19), .val (.long (own_exp (own_init p0 p1) (own_maxd p0 p1) ((1 : Int32) + (p2 &&& (63 : Int32))))), .second] [(.long (own_exp (own_init p0 p1) (own_maxd p0 p1) ((1 : Int32) + (p2 &&& (63 : Int32)))))])) _
        refine XS.iload X25.here hx rfl (hb hby at_105) rfl ?_
        show Steps p.tables e below (T25.setTop (mkF m 107 #[.val (.int p0), .val (.int p1), .val (.int p2), .val (.int p3), .val (.int p4), .val (.int (p0 &&& (2147483647 : Int32))), .val (.int (p1 &&& (2147483647 : Int32))), .val (.int (own_init p0 p1)), .val (.int (own_maxd p0 p1)), .val (.int (own_maxI (1 : Int32) (p3 &&& (2147483647 : Int32)))), .val (.int (own_maxI (1 : Int32) (p4 &&& (2147483647 : Int32)))), .val (.int ((1 : Int32) + (p2 &&& (63 : Int32)))), .val (.ref b19), .val (.long (own_exp (own_init p0 p1) (own_maxd p0 p1) ((1 : Int32) + (p2 &&& (63 : Int32))))), .second] [(.int (own_init p0 p1)), (.long (own_exp (own_init p0 p1) (own_maxd p0 p1) ((1 : Int32) + (p2 &&& (63 : Int32)))))])) _
        refine XS.iload X25.here hx rfl (hb hby at_107) rfl ?_
        show Steps p.tables e below (T25.setTop (mkF m 109 #[.val (.int p0), .val (.int p1), .val (.int p2), .val (.int p3), .val (.int p4), .val (.int (p0 &&& (2147483647 : Int32))), .val (.int (p1 &&& (2147483647 : Int32))), .val (.int (own_init p0 p1)), .val (.int (own_maxd p0 p1)), .val (.int (own_maxI (1 : Int32) (p3 &&& (2147483647 : Int32)))), .val (.int (own_maxI (1 : Int32) (p4 &&& (2147483647 : Int32)))), .val (.int ((1 : Int32) + (p2 &&& (63 : Int32)))), .val (.ref b19), .val (.long (own_exp (own_init p0 p1) (own_maxd p0 p1) ((1 : Int32) + (p2 &&& (63 : Int32))))), .second] [(.int (own_maxd p0 p1)), (.int (own_init p0 p1)), (.long (own_exp (own_init p0 p1) (own_maxd p0 p1) ((1 : Int32) + (p2 &&& (63 : Int32)))))])) _
        refine XS.iload X25.here hx rfl (hb hby at_109) rfl ?_
        exact k)
    obtain ⟨_, _, ⟨T28, L28, kq28, n28⟩, -, X28, ⟨Lc28, hQ28, l28, y28, z28⟩, st28⟩ := Jvm.LawKit.callS X25 hx (y := (⟨"com/example/mediawarden/mediawarden/config/CallbackSettingsDelayAfterPinLaw", "expected", "(III)J"⟩ : MethodName)) hown (mvT hZ (hw _ (List.mem_of_getElem? (i := 34) rfl))) (mvT hZ (hw _ (List.mem_of_getElem? (i := 35) rfl))) (mvT hZ (hw _ (List.mem_of_getElem? (i := 36) rfl))) (mvT hZ (hw _ (List.mem_of_getElem? (i := 37) rfl))) (by decide) (backOf (W := 2) (rm7 l Z a0 hw [] (own_init p0 p1) (own_maxd p0 p1) ((1 : Int32) + (p2 &&& (63 : Int32))) T22.heap n0 Zs22 hi1 him hf1) hZ (hw _ (List.mem_of_getElem? (i := 37) rfl)) (hw _ (List.mem_of_getElem? (i := 36) rfl)) (by decide) (by decide)) (g := (mkF m 111 #[.val (.int p0), .val (.int p1), .val (.int p2), .val (.int p3), .val (.int p4), .val (.int (p0 &&& (2147483647 : Int32))), .val (.int (p1 &&& (2147483647 : Int32))), .val (.int (own_init p0 p1)), .val (.int (own_maxd p0 p1)), .val (.int (own_maxI (1 : Int32) (p3 &&& (2147483647 : Int32)))), .val (.int (own_maxI (1 : Int32) (p4 &&& (2147483647 : Int32)))), .val (.int ((1 : Int32) + (p2 &&& (63 : Int32)))), .val (.ref b19), .val (.long (own_exp (own_init p0 p1) (own_maxd p0 p1) ((1 : Int32) + (p2 &&& (63 : Int32))))), .second] [(.int ((1 : Int32) + (p2 &&& (63 : Int32)))), (.int (own_maxd p0 p1)), (.int (own_init p0 p1)), (.long (own_exp (own_init p0 p1) (own_maxd p0 p1) ((1 : Int32) + (p2 &&& (63 : Int32)))))])) rfl (by rw [hml]; rfl) (argsL := [(.int (own_init p0 p1)), (.int (own_maxd p0 p1)), (.int ((1 : Int32) + (p2 &&& (63 : Int32))))]) (rest := [(.long (own_exp (own_init p0 p1) (own_maxd p0 p1) ((1 : Int32) + (p2 &&& (63 : Int32)))))]) (lenOf pd_4 rfl) rfl (by show 2 * 0 + _ ≤ _; exact Nat.le_of_eq rfl) (hb hby at_111) (fun _ _ => ⟨rfl, e25, (by decide : 1 + 0 ≤ _), (by decide : 4 + 0 ≤ _)⟩)
    dsimp only [Pt.U, Pt.locs, Pt.cells, Pt.slots] at X28 l28 y28 z28 st28 hQ28
    subst l28 y28 z28
    obtain ⟨rfl, N28q, e28⟩ := hQ28
    have N28 := Fr.app N25 N28q
    have k29 : ∀ t, Steps p.tables e below (T28.setTop (mkF m 114 #[.val (.int p0), .val (.int p1), .val (.int p2), .val (.int p3), .val (.int p4), .val (.int (p0 &&& (2147483647 : Int32))), .val (.int (p1 &&& (2147483647 : Int32))), .val (.int (own_init p0 p1)), .val (.int (own_maxd p0 p1)), .val (.int (own_maxI (1 : Int32) (p3 &&& (2147483647 : Int32)))), .val (.int (own_maxI (1 : Int32) (p4 &&& (2147483647 : Int32)))), .val (.int ((1 : Int32) + (p2 &&& (63 : Int32)))), .val (.ref b19), .val (.long (own_exp (own_init p0 p1) (own_maxd p0 p1) ((1 : Int32) + (p2 &&& (63 : Int32))))), .second] [(.long (own_exp (own_init p0 p1) (own_maxd p0 p1) ((1 : Int32) + (p2 &&& (63 : Int32))))), (.long (own_exp (own_init p0 p1) (own_maxd p0 p1) ((1 : Int32) + (p2 &&& (63 : Int32)))))])) t → Steps p.tables e below (s₁.setTop (entryFrame m #[(.int p0), (.int p1), (.int p2), (.int p3), (.int p4)] maxLocals)) t := fun t k => k27 t (st28 _ k)
    have hc115 : (lcmpW (own_exp (own_init p0 p1) (own_maxd p0 p1) ((1 : Int32) + (p2 &&& (63 : Int32)))) (own_exp (own_init p0 p1) (own_maxd p0 p1) ((1 : Int32) + (p2 &&& (63 : Int32))))) = (0 : Int32) := own_lc rfl
    have k30 : ∀ t, Steps p.tables e below (T28.setTop (mkF m 123 #[.val (.int p0), .val (.int p1), .val (.int p2), .val (.int p3), .val (.int p4), .val (.int (p0 &&& (2147483647 : Int32))), .val (.int (p1 &&& (2147483647 : Int32))), .val (.int (own_init p0 p1)), .val (.int (own_maxd p0 p1)), .val (.int (own_maxI (1 : Int32) (p3 &&& (2147483647 : Int32)))), .val (.int (own_maxI (1 : Int32) (p4 &&& (2147483647 : Int32)))), .val (.int ((1 : Int32) + (p2 &&& (63 : Int32)))), .val (.ref b19), .val (.long (own_exp (own_init p0 p1) (own_maxd p0 p1) ((1 : Int32) + (p2 &&& (63 : Int32))))), .second] [(.int (1 : Int32))])) t → Steps p.tables e below (s₁.setTop (entryFrame m #[(.int p0), (.int p1), (.int p2), (.int p3), (.int p4)] maxLocals)) t := fun t k => k29 t (by
        show Steps p.tables e below (T28.setTop (mkF m 114 #[.val (.int p0), .val (.int p1), .val (.int p2), .val (.int p3), .val (.int p4), .val (.int (p0 &&& (2147483647 : Int32))), .val (.int (p1 &&& (2147483647 : Int32))), .val (.int (own_init p0 p1)), .val (.int (own_maxd p0 p1)), .val (.int (own_maxI (1 : Int32) (p3 &&& (2147483647 : Int32)))), .val (.int (own_maxI (1 : Int32) (p4 &&& (2147483647 : Int32)))), .val (.int ((1 : Int32) + (p2 &&& (63 : Int32)))), .val (.ref b19), .val (.long (own_exp (own_init p0 p1) (own_maxd p0 p1) ((1 : Int32) + (p2 &&& (63 : Int32))))), .second] [(.long (own_exp (own_init p0 p1) (own_maxd p0 p1) ((1 : Int32) + (p2 &&& (63 : Int32))))), (.long (own_exp (own_init p0 p1) (own_maxd p0 p1) ((1 : Int32) + (p2 &&& (63 : Int32)))))])) _
        refine XS.lcmp X28.here hx rfl (hb hby at_114) rfl ?_
        show Steps p.tables e below (T28.setTop (mkF m 115 #[.val (.int p0), .val (.int p1), .val (.int p2), .val (.int p3), .val (.int p4), .val (.int (p0 &&& (2147483647 : Int32))), .val (.int (p1 &&& (2147483647 : Int32))), .val (.int (own_init p0 p1)), .val (.int (own_maxd p0 p1)), .val (.int (own_maxI (1 : Int32) (p3 &&& (2147483647 : Int32)))), .val (.int (own_maxI (1 : Int32) (p4 &&& (2147483647 : Int32)))), .val (.int ((1 : Int32) + (p2 &&& (63 : Int32)))), .val (.ref b19), .val (.long (own_exp (own_init p0 p1) (own_maxd p0 p1) ((1 : Int32) + (p2 &&& (63 : Int32))))), .second] [(.int (lcmpW (own_exp (own_init p0 p1) (own_maxd p0 p1) ((1 : Int32) + (p2 &&& (63 : Int32)))) (own_exp (own_init p0 p1) (own_maxd p0 p1) ((1 : Int32) + (p2 &&& (63 : Int32))))))])) _
        refine XS.ifNo X28.here hx rfl (hb hby at_115) rfl ((if0 _ _).trans (teq hc115).2) ?_
        show Steps p.tables e below (T28.setTop (mkF m 118 #[.val (.int p0), .val (.int p1), .val (.int p2), .val (.int p3), .val (.int p4), .val (.int (p0 &&& (2147483647 : Int32))), .val (.int (p1 &&& (2147483647 : Int32))), .val (.int (own_init p0 p1)), .val (.int (own_maxd p0 p1)), .val (.int (own_maxI (1 : Int32) (p3 &&& (2147483647 : Int32)))), .val (.int (own_maxI (1 : Int32) (p4 &&& (2147483647 : Int32)))), .val (.int ((1 : Int32) + (p2 &&& (63 : Int32)))), .val (.ref b19), .val (.long (own_exp (own_init p0 p1) (own_maxd p0 p1) ((1 : Int32) + (p2 &&& (63 : Int32))))), .second] [])) _
        refine XS.iconst X28.here hx rfl (hb hby at_118) ?_
        show Steps p.tables e below (T28.setTop (mkF m 119 #[.val (.int p0), .val (.int p1), .val (.int p2), .val (.int p3), .val (.int p4), .val (.int (p0 &&& (2147483647 : Int32))), .val (.int (p1 &&& (2147483647 : Int32))), .val (.int (own_init p0 p1)), .val (.int (own_maxd p0 p1)), .val (.int (own_maxI (1 : Int32) (p3 &&& (2147483647 : Int32)))), .val (.int (own_maxI (1 : Int32) (p4 &&& (2147483647 : Int32)))), .val (.int ((1 : Int32) + (p2 &&& (63 : Int32)))), .val (.ref b19), .val (.long (own_exp (own_init p0 p1) (own_maxd p0 p1) ((1 : Int32) + (p2 &&& (63 : Int32))))), .second] [(.int (1 : Int32))])) _
        refine XS.goto X28.here hx rfl (pc0 := 119) (pc' := 123) rfl (hb hby at_119) (by decide) (by decide) ?_
        exact k)
    obtain ⟨fs, hr, hrun, hended, hW, hsame⟩ := X28.leave (v := (some (.int (1 : Int32)))) (fun h => by rw [Bd.returns] at h; cases h)
    refine ⟨_, _, k30 _ ?_, hrun, hended, _, _, rfl, ?_, ⟨_, rfl⟩, hW, hsame.mono (by decide) (by decide)⟩
    · exact retN X28 hx (t := .boolean) Bd.returns (by simp) (hb hby at_123) hr
    · show Q0 Z p0 p1 p2 p3 p4 h0 n0 _ T28.heap _
      rw [e28]
      exact ⟨rfl, N28⟩
  · have hf2 : 1 ≤ p2.toInt := by rw [Int32.lt_iff_toInt_lt] at hc62; simp only [Int32.reduceToInt] at hc62; omega
    have k31 : ∀ t, Steps p.tables e below (T15.setTop (mkF m 77 #[.val (.int p0), .val (.int p1), .val (.int p2), .val (.int p3), .val (.int p4), .val (.int (p0 &&& (2147483647 : Int32))), .val (.int (p1 &&& (2147483647 : Int32))), .val (.int (own_init p0 p1)), .val (.int (own_maxd p0 p1)), .val (.int (own_maxI (1 : Int32) (p3 &&& (2147483647 : Int32)))), .val (.int (own_maxI (1 : Int32) (p4 &&& (2147483647 : Int32)))), .val (.int p2), .unset, .unset, .unset] [])) t → Steps p.tables e below (s₁.setTop (entryFrame m #[(.int p0), (.int p1), (.int p2), (.int p3), (.int p4)] maxLocals)) t := fun t k => k17 t (by
        show Steps p.tables e below (T15.setTop (mkF m 62 #[.val (.int p0), .val (.int p1), .val (.int p2), .val (.int p3), .val (.int p4), .val (.int (p0 &&& (2147483647 : Int32))), .val (.int (p1 &&& (2147483647 : Int32))), .val (.int (own_init p0 p1)), .val (.int (own_maxd p0 p1)), .val (.int (own_maxI (1 : Int32) (p3 &&& (2147483647 : Int32)))), .val (.int (own_maxI (1 : Int32) (p4 &&& (2147483647 : Int32)))), .unset, .unset, .unset, .unset] [(.int (1 : Int32)), (.int p2)])) _
        refine XS.icmpYes X15.here hx rfl (pc0 := 62) (pc' := 74) rfl (hb hby at_62) rfl (flt hc62).2.1 (by decide) (by decide) ?_
        show Steps p.tables e below (T15.setTop (mkF m 74 #[.val (.int p0), .val (.int p1), .val (.int p2), .val (.int p3), .val (.int p4), .val (.int (p0 &&& (2147483647 : Int32))), .val (.int (p1 &&& (2147483647 : Int32))), .val (.int (own_init p0 p1)), .val (.int (own_maxd p0 p1)), .val (.int (own_maxI (1 : Int32) (p3 &&& (2147483647 : Int32)))), .val (.int (own_maxI (1 : Int32) (p4 &&& (2147483647 : Int32)))), .unset, .unset, .unset, .unset] [])) _
        refine XS.iloadN X15.here hx rfl (hb hby at_74) rfl ?_
        show Steps p.tables e below (T15.setTop (mkF m 75 #[.val (.int p0), .val (.int p1), .val (.int p2), .val (.int p3), .val (.int p4), .val (.int (p0 &&& (2147483647 : Int32))), .val (.int (p1 &&& (2147483647 : Int32))), .val (.int (own_init p0 p1)), .val (.int (own_maxd p0 p1)), .val (.int (own_maxI (1 : Int32) (p3 &&& (2147483647 : Int32)))), .val (.int (own_maxI (1 : Int32) (p4 &&& (2147483647 : Int32)))), .unset, .unset, .unset, .unset] [(.int p2)])) _
        refine XS.istore X15.here hx rfl (hb hby at_75) rfl (l' := #[.val (.int p0), .val (.int p1), .val (.int p2), .val (.int p3), .val (.int p4), .val (.int (p0 &&& (2147483647 : Int32))), .val (.int (p1 &&& (2147483647 : Int32))), .val (.int (own_init p0 p1)), .val (.int (own_maxd p0 p1)), .val (.int (own_maxI (1 : Int32) (p3 &&& (2147483647 : Int32)))), .val (.int (own_maxI (1 : Int32) (p4 &&& (2147483647 : Int32)))), .val (.int p2), .unset, .unset, .unset]) rfl ?_
        exact k)
    obtain ⟨T32, h32, X32, e32, E32, A32, D32, -, st32⟩ := newO X15 hx hZ hown (hw _ (List.mem_of_getElem? (i := 8) rfl)) (hw _ (List.mem_of_getElem? (i := 9) rfl)) (hw _ (List.mem_of_getElem? (i := 10) rfl)) e15 (g := (mkF m 77 #[.val (.int p0), .val (.int p1), .val (.int p2), .val (.int p3), .val (.int p4), .val (.int (p0 &&& (2147483647 : Int32))), .val (.int (p1 &&& (2147483647 : Int32))), .val (.int (own_init p0 p1)), .val (.int (own_maxd p0 p1)), .val (.int (own_maxI (1 : Int32) (p3 &&& (2147483647 : Int32)))), .val (.int (own_maxI (1 : Int32) (p4 &&& (2147483647 : Int32)))), .val (.int p2), .unset, .unset, .unset] [])) rfl (hb hby at_77) (by decide) (by decide)
    obtain ⟨b32, g32⟩ : ∃ z, z = h0.size := ⟨_, rfl⟩
    rw [← g32] at A32 D32 st32
    have F_timeoutMs_b32 : Fld Z h32 b32 "com/example/mediawarden/mediawarden/config/CallbackSettings" "timeoutMs" "I" (.int (0 : Int32)) := D32 (Or.inr (hw _ (List.mem_of_getElem? (i := 18) rfl))) (ty := .int) (by decide)
    have F_initialDelayMs_b32 : Fld Z h32 b32 "com/example/mediawarden/mediawarden/config/CallbackSettings" "initialDelayMs" "I" (.int (0 : Int32)) := D32 (Or.inr (hw _ (List.mem_of_getElem? (i := 20) rfl))) (ty := .int) (by decide)
    have F_maxDelayMs_b32 : Fld Z h32 b32 "com/example/mediawarden/mediawarden/config/CallbackSettings" "maxDelayMs" "I" (.int (0 : Int32)) := D32 (Or.inr (hw _ (List.mem_of_getElem? (i := 22) rfl))) (ty := .int) (by decide)
    have F_maxAttempts_b32 : Fld Z h32 b32 "com/example/mediawarden/mediawarden/config/CallbackSettings" "maxAttempts" "I" (.int (0 : Int32)) := D32 (Or.inr (hw _ (List.mem_of_getElem? (i := 24) rfl))) (ty := .int) (by decide)
    have g_b32 : n0 ≤ b32 := Nat.le_trans Z0 (Nat.le_of_eq g32.symm)
    have Zs32 : n0 ≤ h32.size := Nat.le_trans Z0 E32.1
    have k33 : ∀ t, Steps p.tables e below (T32.setTop (mkF m 80 #[.val (.int p0), .val (.int p1), .val (.int p2), .val (.int p3), .val (.int p4), .val (.int (p0 &&& (2147483647 : Int32))), .val (.int (p1 &&& (2147483647 : Int32))), .val (.int (own_init p0 p1)), .val (.int (own_maxd p0 p1)), .val (.int (own_maxI (1 : Int32) (p3 &&& (2147483647 : Int32)))), .val (.int (own_maxI (1 : Int32) (p4 &&& (2147483647 : Int32)))), .val (.int p2), .unset, .unset, .unset] [(.ref b32)])) t → Steps p.tables e below (s₁.setTop (entryFrame m #[(.int p0), (.int p1), (.int p2), (.int p3), (.int p4)] maxLocals)) t := fun t k => k31 t (st32 _ k)
    have k34 : ∀ t, Steps p.tables e below (T32.setTop (mkF m 89 #[.val (.int p0), .val (.int p1), .val (.int p2), .val (.int p3), .val (.int p4), .val (.int (p0 &&& (2147483647 : Int32))), .val (.int (p1 &&& (2147483647 : Int32))), .val (.int (own_init p0 p1)), .val (.int (own_maxd p0 p1)), .val (.int (own_maxI (1 : Int32) (p3 &&& (2147483647 : Int32)))), .val (.int (own_maxI (1 : Int32) (p4 &&& (2147483647 : Int32)))), .val (.int p2), .unset, .unset, .unset] [(.int (own_maxI (1 : Int32) (p4 &&& (2147483647 : Int32)))), (.int (own_maxd p0 p1)), (.int (own_init p0 p1)), (.int (own_maxI (1 : Int32) (p3 &&& (2147483647 : Int32)))), (.ref b32), (.ref b32)])) t → Steps p.tables e below (s₁.setTop (entryFrame m #[(.int p0), (.int p1), (.int p2), (.int p3), (.int p4)] maxLocals)) t := fun t k => k33 t (by
        show Steps p.tables e below (T32.setTop (mkF m 80 #[.val (.int p0), .val (.int p1), .val (.int p2), .val (.int p3), .val (.int p4), .val (.int (p0 &&& (2147483647 : Int32))), .val (.int (p1 &&& (2147483647 : Int32))), .val (.int (own_init p0 p1)), .val (.int (own_maxd p0 p1)), .val (.int (own_maxI (1 : Int32) (p3 &&& (2147483647 : Int32)))), .val (.int (own_maxI (1 : Int32) (p4 &&& (2147483647 : Int32)))), .val (.int p2), .unset, .unset, .unset] [(.ref b32)])) _
        refine XS.dup X32.here hx rfl (hb hby at_80) rfl rfl ?_
        show Steps p.tables e below (T32.setTop (mkF m 81 #[.val (.int p0), .val (.int p1), .val (.int p2), .val (.int p3), .val (.int p4), .val (.int (p0 &&& (2147483647 : Int32))), .val (.int (p1 &&& (2147483647 : Int32))), .val (.int (own_init p0 p1)), .val (.int (own_maxd p0 p1)), .val (.int (own_maxI (1 : Int32) (p3 &&& (2147483647 : Int32)))), .val (.int (own_maxI (1 : Int32) (p4 &&& (2147483647 : Int32)))), .val (.int p2), .unset, .unset, .unset] [(.ref b32), (.ref b32)])) _
        refine XS.iload X32.here hx rfl (hb hby at_81) rfl ?_
        show Steps p.tables e below (T32.setTop (mkF m 83 #[.val (.int p0), .val (.int p1), .val (.int p2), .val (.int p3), .val (.int p4), .val (.int (p0 &&& (2147483647 : Int32))), .val (.int (p1 &&& (2147483647 : Int32))), .val (.int (own_init p0 p1)), .val (.int (own_maxd p0 p1)), .val (.int (own_maxI (1 : Int32) (p3 &&& (2147483647 : Int32)))), .val (.int (own_maxI (1 : Int32) (p4 &&& (2147483647 : Int32)))), .val (.int p2), .unset, .unset, .unset] [(.int (own_maxI (1 : Int32) (p3 &&& (2147483647 : Int32)))), (.ref b32), (.ref b32)])) _
        refine XS.iload X32.here hx rfl (hb hby at_83) rfl ?_
        show Steps p.tables e below (T32.setTop (mkF m 85 #[.val (.int p0), .val (.int p1), .val (.int p2), .val (.int p3), .val (.int p4), .val (.int (p0 &&& (2147483647 : Int32))), .val (.int (p1 &&& (2147483647 : Int32))), .val (.int (own_init p0 p1)), .val (.int (own_maxd p0 p1)), .val (.int (own_maxI (1 : Int32) (p3 &&& (2147483647 : Int32)))), .val (.int (own_maxI (1 : Int32) (p4 &&& (2147483647 : Int32)))), .val (.int p2), .unset, .unset, .unset] [(.int (own_init p0 p1)), (.int (own_maxI (1 : Int32) (p3 &&& (2147483647 : Int32)))), (.ref b32), (.ref b32)])) _
        refine XS.iload X32.here hx rfl (hb hby at_85) rfl ?_
        show Steps p.tables e below (T32.setTop (mkF m 87 #[.val (.int p0), .val (.int p1), .val (.int p2), .val (.int p3), .val (.int p4), .val (.int (p0 &&& (2147483647 : Int32))), .val (.int (p1 &&& (2147483647 : Int32))), .val (.int (own_init p0 p1)), .val (.int (own_maxd p0 p1)), .val (.int (own_maxI (1 : Int32) (p3 &&& (2147483647 : Int32)))), .val (.int (own_maxI (1 : Int32) (p4 &&& (2147483647 : Int32)))), .val (.int p2), .unset, .unset, .unset] [(.int (own_maxd p0 p1)), (.int (own_init p0 p1)), (.int (own_maxI (1 : Int32) (p3 &&& (2147483647 : Int32)))), (.ref b32), (.ref b32)])) _
        refine XS.iload X32.here hx rfl (hb hby at_87) rfl ?_
        exact k)
    obtain ⟨_, _, ⟨T35, L35, kq35, n35⟩, -, X35, ⟨Lc35, hQ35, l35, y35, z35⟩, st35⟩ := X32.specialBack hx (y := (⟨"com/example/mediawarden/mediawarden/config/CallbackSettings", "<init>", "(IIII)V"⟩ : MethodName)) rfl hown (mvT hZ (hw _ (List.mem_of_getElem? (i := 11) rfl))) (mvT hZ (hw _ (List.mem_of_getElem? (i := 12) rfl))) (mvT hZ (hw _ (List.mem_of_getElem? (i := 13) rfl))) (by decide) (backOf (W := 1) (rm3 l Z a0 hw [] b32 (own_maxI (1 : Int32) (p3 &&& (2147483647 : Int32))) (own_init p0 p1) (own_maxd p0 p1) (own_maxI (1 : Int32) (p4 &&& (2147483647 : Int32))) h32 n0 Zs32 F_timeoutMs_b32 F_initialDelayMs_b32 F_maxDelayMs_b32 F_maxAttempts_b32 A32 g_b32 hq1 hq2 hq4 hq3) hZ (hw _ (List.mem_of_getElem? (i := 13) rfl)) (hw _ (List.mem_of_getElem? (i := 10) rfl)) (by decide) (by decide)) (g := (mkF m 89 #[.val (.int p0), .val (.int p1), .val (.int p2), .val (.int p3), .val (.int p4), .val (.int (p0 &&& (2147483647 : Int32))), .val (.int (p1 &&& (2147483647 : Int32))), .val (.int (own_init p0 p1)), .val (.int (own_maxd p0 p1)), .val (.int (own_maxI (1 : Int32) (p3 &&& (2147483647 : Int32)))), .val (.int (own_maxI (1 : Int32) (p4 &&& (2147483647 : Int32)))), .val (.int p2), .unset, .unset, .unset] [(.int (own_maxI (1 : Int32) (p4 &&& (2147483647 : Int32)))), (.int (own_maxd p0 p1)), (.int (own_init p0 p1)), (.int (own_maxI (1 : Int32) (p3 &&& (2147483647 : Int32)))), (.ref b32), (.ref b32)])) rfl (by rw [hml]; rfl) (Steps.refl _) (a := b32) (argsL := [(.int (own_maxI (1 : Int32) (p3 &&& (2147483647 : Int32)))), (.int (own_init p0 p1)), (.int (own_maxd p0 p1)), (.int (own_maxI (1 : Int32) (p4 &&& (2147483647 : Int32))))]) (rest := [(.ref b32)]) (lenOf pd_2 rfl) rfl (by show 2 * 0 + _ ≤ _; exact Nat.le_of_eq rfl) (hb hby at_89) (fun _ _ => ⟨rfl, e32, (by decide : 1 + 0 ≤ _), (by decide : 4 + 0 ≤ _)⟩)
    dsimp only [Pt.U, Pt.locs, Pt.cells, Pt.slots] at X35 l35 y35 z35 st35 hQ35
    subst l35 y35 z35
    obtain ⟨rfl, N35q, K35, Ex35, Fx35_0, Fx35_1, Fx35_2, Fx35_3⟩ := hQ35
    have N35 := Fr.app N15 N35q
    have Zs35 : n0 ≤ T35.heap.size := Nat.le_trans Zs32 K35.1
    have k36 : ∀ t, Steps p.tables e below (T35.setTop (mkF m 92 #[.val (.int p0), .val (.int p1), .val (.int p2), .val (.int p3), .val (.int p4), .val (.int (p0 &&& (2147483647 : Int32))), .val (.int (p1 &&& (2147483647 : Int32))), .val (.int (own_init p0 p1)), .val (.int (own_maxd p0 p1)), .val (.int (own_maxI (1 : Int32) (p3 &&& (2147483647 : Int32)))), .val (.int (own_maxI (1 : Int32) (p4 &&& (2147483647 : Int32)))), .val (.int p2), .unset, .unset, .unset] [(.ref b32)])) t → Steps p.tables e below (s₁.setTop (entryFrame m #[(.int p0), (.int p1), (.int p2), (.int p3), (.int p4)] maxLocals)) t := fun t k => k34 t (st35.trans k)
    have k37 : ∀ t, Steps p.tables e below (T35.setTop (mkF m 98 #[.val (.int p0), .val (.int p1), .val (.int p2), .val (.int p3), .val (.int p4), .val (.int (p0 &&& (2147483647 : Int32))), .val (.int (p1 &&& (2147483647 : Int32))), .val (.int (own_init p0 p1)), .val (.int (own_maxd p0 p1)), .val (.int (own_maxI (1 : Int32) (p3 &&& (2147483647 : Int32)))), .val (.int (own_maxI (1 : Int32) (p4 &&& (2147483647 : Int32)))), .val (.int p2), .val (.ref b32), .unset, .unset] [(.int p2), (.ref b32)])) t → Steps p.tables e below (s₁.setTop (entryFrame m #[(.int p0), (.int p1), (.int p2), (.int p3), (.int p4)] maxLocals)) t := fun t k => k36 t (by
        show Steps p.tables e below (T35.setTop (mkF m 92 #[.val (.int p0), .val (.int p1), .val (.int p2), .val (.int p3), .val (.int p4), .val (.int (p0 &&& (2147483647 : Int32))), .val (.int (p1 &&& (2147483647 : Int32))), .val (.int (own_init p0 p1)), .val (.int (own_maxd p0 p1)), .val (.int (own_maxI (1 : Int32) (p3 &&& (2147483647 : Int32)))), .val (.int (own_maxI (1 : Int32) (p4 &&& (2147483647 : Int32)))), .val (.int p2), .unset, .unset, .unset] [(.ref b32)])) _
        refine XS.astore X35.here hx rfl (hb hby at_92) rfl rfl (l' := #[.val (.int p0), .val (.int p1), .val (.int p2), .val (.int p3), .val (.int p4), .val (.int (p0 &&& (2147483647 : Int32))), .val (.int (p1 &&& (2147483647 : Int32))), .val (.int (own_init p0 p1)), .val (.int (own_maxd p0 p1)), .val (.int (own_maxI (1 : Int32) (p3 &&& (2147483647 : Int32)))), .val (.int (own_maxI (1 : Int32) (p4 &&& (2147483647 : Int32)))), .val (.int p2), .val (.ref b32), .unset, .unset]) rfl ?_
        show Steps p.tables e below (T35.setTop (mkF m 94 #[.val (.int p0), .val (.int p1), .val (.int p2), .val (.int p3), .val (.int p4), .val (.int (p0 &&& (2147483647 : Int32))), .val (.int (p1 &&& (2147483647 : Int32))), .val (.int (own_init p0 p1)), .val (.int (own_maxd p0 p1)), .val (.int (own_maxI (1 : Int32) (p3 &&& (2147483647 : Int32)))), .val (.int (own_maxI (1 : Int32) (p4 &&& (2147483647 : Int32)))), .val (.int p2), .val (.ref b32), .unset, .unset] [])) _
        refine XS.aload X35.here hx rfl (hb hby at_94) rfl rfl ?_
        show Steps p.tables e below (T35.setTop (mkF m 96 #[.val (.int p0), .val (.int p1), .val (.int p2), .val (.int p3), .val (.int p4), .val (.int (p0 &&& (2147483647 : Int32))), .val (.int (p1 &&& (2147483647 : Int32))), .val (.int (own_init p0 p1)), .val (.int (own_maxd p0 p1)), .val (.int (own_maxI (1 : Int32) (p3 &&& (2147483647 : Int32)))), .val (.int (own_maxI (1 : Int32) (p4 &&& (2147483647 : Int32)))), .val (.int p2), .val (.ref b32), .unset, .unset] [(.ref b32)])) _
        refine XS.iload X35.here hx rfl (hb hby at_96) rfl ?_
        exact k)
    obtain ⟨cq38, kcq38, q38a, q38b, q38c⟩ := isOf hZ rfl Ex35
    obtain ⟨_, _, ⟨T38, L38, kq38, n38⟩, -, X38, ⟨Lc38, hQ38, l38, y38, z38⟩, st38⟩ := X35.virtualBack hx (y := (⟨"com/example/mediawarden/mediawarden/config/CallbackSettings", "delayAfter", "(I)J"⟩ : MethodName)) (z := (⟨"com/example/mediawarden/mediawarden/config/CallbackSettings", "delayAfter", "(I)J"⟩ : MethodName)) hown (mvT hZ (hw _ (List.mem_of_getElem? (i := 25) rfl))) (mvT hZ (hw _ (List.mem_of_getElem? (i := 26) rfl))) (notFace_of_selects (args := #[]) (mvT hZ (hw _ (List.mem_of_getElem? (i := 28) rfl)))) (mvT hZ (hw _ (List.mem_of_getElem? (i := 28) rfl))) (mvT hZ (hw _ (List.mem_of_getElem? (i := 27) rfl))) (by decide) (backOf (W := 0) (rm5 l Z a0 hw [] b32 p2 (own_init p0 p1) (own_maxd p0 p1) T35.heap n0 Zs35 Fx35_1 Fx35_2 hi1 him hf2) hZ (hw _ (List.mem_of_getElem? (i := 29) rfl)) (hw _ (List.mem_of_getElem? (i := 10) rfl)) (by decide) (by decide)) q38a q38c (g := (mkF m 98 #[.val (.int p0), .val (.int p1), .val (.int p2), .val (.int p3), .val (.int p4), .val (.int (p0 &&& (2147483647 : Int32))), .val (.int (p1 &&& (2147483647 : Int32))), .val (.int (own_init p0 p1)), .val (.int (own_maxd p0 p1)), .val (.int (own_maxI (1 : Int32) (p3 &&& (2147483647 : Int32)))), .val (.int (own_maxI (1 : Int32) (p4 &&& (2147483647 : Int32)))), .val (.int p2), .val (.ref b32), .unset, .unset] [(.int p2), (.ref b32)])) rfl (by rw [hml]; rfl) (Steps.refl _) (argsL := [(.int p2)]) (rest := []) (lenOf pd_3 rfl) rfl (by show 2 * 0 + _ ≤ _; exact Nat.le_of_eq rfl) (hb hby at_98) (fun _ _ => ⟨rfl, rfl, (by decide : 1 + 0 ≤ _), (by decide : 4 + 0 ≤ _)⟩)
    dsimp only [Pt.U, Pt.locs, Pt.cells, Pt.slots] at X38 l38 y38 z38 st38 hQ38
    subst l38 y38 z38
    obtain ⟨rfl, N38q, e38⟩ := hQ38
    have N38 := Fr.app N35 N38q
    have k39 : ∀ t, Steps p.tables e below (T38.setTop (mkF m 101 #[.val (.int p0), .val (.int p1), .val (.int p2), .val (.int p3), .val (.int p4), .val (.int (p0 &&& (2147483647 : Int32))), .val (.int (p1 &&& (2147483647 : Int32))), .val (.int (own_init p0 p1)), .val (.int (own_maxd p0 p1)), .val (.int (own_maxI (1 : Int32) (p3 &&& (2147483647 : Int32)))), .val (.int (own_maxI (1 : Int32) (p4 &&& (2147483647 : Int32)))), .val (.int p2), .val (.ref b32), .unset, .unset] [(.long (own_exp (own_init p0 p1) (own_maxd p0 p1) p2))])) t → Steps p.tables e below (s₁.setTop (entryFrame m #[(.int p0), (.int p1), (.int p2), (.int p3), (.int p4)] maxLocals)) t := fun t k => k37 t (st38.trans k)
    have k40 : ∀ t, Steps p.tables e below (T38.setTop (mkF m 111 #[.val (.int p0), .val (.int p1), .val (.int p2), .val (.int p3), .val (.int p4), .val (.int (p0 &&& (2147483647 : Int32))), .val (.int (p1 &&& (2147483647 : Int32))), .val (.int (own_init p0 p1)), .val (.int (own_maxd p0 p1)), .val (.int (own_maxI (1 : Int32) (p3 &&& (2147483647 : Int32)))), .val (.int (own_maxI (1 : Int32) (p4 &&& (2147483647 : Int32)))), .val (.int p2), .val (.ref b32), .val (.long (own_exp (own_init p0 p1) (own_maxd p0 p1) p2)), .second] [(.int p2), (.int (own_maxd p0 p1)), (.int (own_init p0 p1)), (.long (own_exp (own_init p0 p1) (own_maxd p0 p1) p2))])) t → Steps p.tables e below (s₁.setTop (entryFrame m #[(.int p0), (.int p1), (.int p2), (.int p3), (.int p4)] maxLocals)) t := fun t k => k39 t (by
        show Steps p.tables e below (T38.setTop (mkF m 101 #[.val (.int p0), .val (.int p1), .val (.int p2), .val (.int p3), .val (.int p4), .val (.int (p0 &&& (2147483647 : Int32))), .val (.int (p1 &&& (2147483647 : Int32))), .val (.int (own_init p0 p1)), .val (.int (own_maxd p0 p1)), .val (.int (own_maxI (1 : Int32) (p3 &&& (2147483647 : Int32)))), .val (.int (own_maxI (1 : Int32) (p4 &&& (2147483647 : Int32)))), .val (.int p2), .val (.ref b32), .unset, .unset] [(.long (own_exp (own_init p0 p1) (own_maxd p0 p1) p2))])) _
        refine XS.lstore X38.here hx rfl (hb hby at_101) rfl (l' := #[.val (.int p0), .val (.int p1), .val (.int p2), .val (.int p3), .val (.int p4), .val (.int (p0 &&& (2147483647 : Int32))), .val (.int (p1 &&& (2147483647 : Int32))), .val (.int (own_init p0 p1)), .val (.int (own_maxd p0 p1)), .val (.int (own_maxI (1 : Int32) (p3 &&& (2147483647 : Int32)))), .val (.int (own_maxI (1 : Int32) (p4 &&& (2147483647 : Int32)))), .val (.int p2), .val (.ref b32), .val (.long (own_exp (own_init p0 p1) (own_maxd p0 p1) p2)), .second]) rfl ?_
        show Steps p.tables e below (T38.setTop (mkF m 103 #[.val (.int p0), .val (.int p1), .val (.int p2), .val (.int p3), .val (.int p4), .val (.int (p0 &&& (2147483647 : Int32))), .val (.int (p1 &&& (2147483647 : Int32))), .val (.int (own_init p0 p1)), .val (.int (own_maxd p0 p1)), .val (.int (own_maxI (1 : Int32) (p3 &&& (2147483647 : Int32)))), .val (.int (own_maxI (1 : Int32) (p4 &&& (2147483647 : Int32)))), .val (.int p2), .val (.ref b32), .val (.long (own_exp (own_init p0 p1) (own_maxd p0 p1) p2)), .second] [])) _
        refine XS.lload X38.here hx rfl (hb hby at_103) rfl ?_
        show Steps p.tables e below (T38.setTop (mkF m 105 #[.val (.int p0), .val (.int p1), .val (.int p2), .val (.int p3), .val (.int p4), .val (.int (p0 &&& (2147483647 : Int32))), .val (.int (p1 &&& (2147483647 : Int32))), .val (.int (own_init p0 p1)), .val (.int (own_maxd p0 p1)), .val (.int (own_maxI (1 : Int32) (p3 &&& (2147483647 : Int32)))), .val (.int (own_maxI (1 : Int32) (p4 &&& (2147483647 : Int32)))), .val (.int p2), .val (.ref b32), .val (.long (own_exp (own_init p0 p1) (own_maxd p0 p1) p2)), .second] [(.long (own_exp (own_init p0 p1) (own_maxd p0 p1) p2))])) _
        refine XS.iload X38.here hx rfl (hb hby at_105) rfl ?_
        show Steps p.tables e below (T38.setTop (mkF m 107 #[.val (.int p0), .val (.int p1), .val (.int p2), .val (.int p3), .val (.int p4), .val (.int (p0 &&& (2147483647 : Int32))), .val (.int (p1 &&& (2147483647 : Int32))), .val (.int (own_init p0 p1)), .val (.int (own_maxd p0 p1)), .val (.int (own_maxI (1 : Int32) (p3 &&& (2147483647 : Int32)))), .val (.int (own_maxI (1 : Int32) (p4 &&& (2147483647 : Int32)))), .val (.int p2), .val (.ref b32), .val (.long (own_exp (own_init p0 p1) (own_maxd p0 p1) p2)), .second] [(.int (own_init p0 p1)), (.long (own_exp (own_init p0 p1) (own_maxd p0 p1) p2))])) _
        refine XS.iload X38.here hx rfl (hb hby at_107) rfl ?_
        show Steps p.tables e below (T38.setTop (mkF m 109 #[.val (.int p0), .val (.int p1), .val (.int p2), .val (.int p3), .val (.int p4), .val (.int (p0 &&& (2147483647 : Int32))), .val (.int (p1 &&& (2147483647 : Int32))), .val (.int (own_init p0 p1)), .val (.int (own_maxd p0 p1)), .val (.int (own_maxI (1 : Int32) (p3 &&& (2147483647 : Int32)))), .val (.int (own_maxI (1 : Int32) (p4 &&& (2147483647 : Int32)))), .val (.int p2), .val (.ref b32), .val (.long (own_exp (own_init p0 p1) (own_maxd p0 p1) p2)), .second] [(.int (own_maxd p0 p1)), (.int (own_init p0 p1)), (.long (own_exp (own_init p0 p1) (own_maxd p0 p1) p2))])) _
        refine XS.iload X38.here hx rfl (hb hby at_109) rfl ?_
        exact k)
    obtain ⟨_, _, ⟨T41, L41, kq41, n41⟩, -, X41, ⟨Lc41, hQ41, l41, y41, z41⟩, st41⟩ := Jvm.LawKit.callS X38 hx (y := (⟨"com/example/mediawarden/mediawarden/config/CallbackSettingsDelayAfterPinLaw", "expected", "(III)J"⟩ : MethodName)) hown (mvT hZ (hw _ (List.mem_of_getElem? (i := 34) rfl))) (mvT hZ (hw _ (List.mem_of_getElem? (i := 35) rfl))) (mvT hZ (hw _ (List.mem_of_getElem? (i := 36) rfl))) (mvT hZ (hw _ (List.mem_of_getElem? (i := 37) rfl))) (by decide) (backOf (W := 2) (rm7 l Z a0 hw [] (own_init p0 p1) (own_maxd p0 p1) p2 T35.heap n0 Zs35 hi1 him hf2) hZ (hw _ (List.mem_of_getElem? (i := 37) rfl)) (hw _ (List.mem_of_getElem? (i := 36) rfl)) (by decide) (by decide)) (g := (mkF m 111 #[.val (.int p0), .val (.int p1), .val (.int p2), .val (.int p3), .val (.int p4), .val (.int (p0 &&& (2147483647 : Int32))), .val (.int (p1 &&& (2147483647 : Int32))), .val (.int (own_init p0 p1)), .val (.int (own_maxd p0 p1)), .val (.int (own_maxI (1 : Int32) (p3 &&& (2147483647 : Int32)))), .val (.int (own_maxI (1 : Int32) (p4 &&& (2147483647 : Int32)))), .val (.int p2), .val (.ref b32), .val (.long (own_exp (own_init p0 p1) (own_maxd p0 p1) p2)), .second] [(.int p2), (.int (own_maxd p0 p1)), (.int (own_init p0 p1)), (.long (own_exp (own_init p0 p1) (own_maxd p0 p1) p2))])) rfl (by rw [hml]; rfl) (argsL := [(.int (own_init p0 p1)), (.int (own_maxd p0 p1)), (.int p2)]) (rest := [(.long (own_exp (own_init p0 p1) (own_maxd p0 p1) p2))]) (lenOf pd_4 rfl) rfl (by show 2 * 0 + _ ≤ _; exact Nat.le_of_eq rfl) (hb hby at_111) (fun _ _ => ⟨rfl, e38, (by decide : 1 + 0 ≤ _), (by decide : 4 + 0 ≤ _)⟩)
    dsimp only [Pt.U, Pt.locs, Pt.cells, Pt.slots] at X41 l41 y41 z41 st41 hQ41
    subst l41 y41 z41
    obtain ⟨rfl, N41q, e41⟩ := hQ41
    have N41 := Fr.app N38 N41q
    have k42 : ∀ t, Steps p.tables e below (T41.setTop (mkF m 114 #[.val (.int p0), .val (.int p1), .val (.int p2), .val (.int p3), .val (.int p4), .val (.int (p0 &&& (2147483647 : Int32))), .val (.int (p1 &&& (2147483647 : Int32))), .val (.int (own_init p0 p1)), .val (.int (own_maxd p0 p1)), .val (.int (own_maxI (1 : Int32) (p3 &&& (2147483647 : Int32)))), .val (.int (own_maxI (1 : Int32) (p4 &&& (2147483647 : Int32)))), .val (.int p2), .val (.ref b32), .val (.long (own_exp (own_init p0 p1) (own_maxd p0 p1) p2)), .second] [(.long (own_exp (own_init p0 p1) (own_maxd p0 p1) p2)), (.long (own_exp (own_init p0 p1) (own_maxd p0 p1) p2))])) t → Steps p.tables e below (s₁.setTop (entryFrame m #[(.int p0), (.int p1), (.int p2), (.int p3), (.int p4)] maxLocals)) t := fun t k => k40 t (st41 _ k)
    have hc115 : (lcmpW (own_exp (own_init p0 p1) (own_maxd p0 p1) p2) (own_exp (own_init p0 p1) (own_maxd p0 p1) p2)) = (0 : Int32) := own_lc rfl
    have k43 : ∀ t, Steps p.tables e below (T41.setTop (mkF m 123 #[.val (.int p0), .val (.int p1), .val (.int p2), .val (.int p3), .val (.int p4), .val (.int (p0 &&& (2147483647 : Int32))), .val (.int (p1 &&& (2147483647 : Int32))), .val (.int (own_init p0 p1)), .val (.int (own_maxd p0 p1)), .val (.int (own_maxI (1 : Int32) (p3 &&& (2147483647 : Int32)))), .val (.int (own_maxI (1 : Int32) (p4 &&& (2147483647 : Int32)))), .val (.int p2), .val (.ref b32), .val (.long (own_exp (own_init p0 p1) (own_maxd p0 p1) p2)), .second] [(.int (1 : Int32))])) t → Steps p.tables e below (s₁.setTop (entryFrame m #[(.int p0), (.int p1), (.int p2), (.int p3), (.int p4)] maxLocals)) t := fun t k => k42 t (by
        show Steps p.tables e below (T41.setTop (mkF m 114 #[.val (.int p0), .val (.int p1), .val (.int p2), .val (.int p3), .val (.int p4), .val (.int (p0 &&& (2147483647 : Int32))), .val (.int (p1 &&& (2147483647 : Int32))), .val (.int (own_init p0 p1)), .val (.int (own_maxd p0 p1)), .val (.int (own_maxI (1 : Int32) (p3 &&& (2147483647 : Int32)))), .val (.int (own_maxI (1 : Int32) (p4 &&& (2147483647 : Int32)))), .val (.int p2), .val (.ref b32), .val (.long (own_exp (own_init p0 p1) (own_maxd p0 p1) p2)), .second] [(.long (own_exp (own_init p0 p1) (own_maxd p0 p1) p2)), (.long (own_exp (own_init p0 p1) (own_maxd p0 p1) p2))])) _
        refine XS.lcmp X41.here hx rfl (hb hby at_114) rfl ?_
        show Steps p.tables e below (T41.setTop (mkF m 115 #[.val (.int p0), .val (.int p1), .val (.int p2), .val (.int p3), .val (.int p4), .val (.int (p0 &&& (2147483647 : Int32))), .val (.int (p1 &&& (2147483647 : Int32))), .val (.int (own_init p0 p1)), .val (.int (own_maxd p0 p1)), .val (.int (own_maxI (1 : Int32) (p3 &&& (2147483647 : Int32)))), .val (.int (own_maxI (1 : Int32) (p4 &&& (2147483647 : Int32)))), .val (.int p2), .val (.ref b32), .val (.long (own_exp (own_init p0 p1) (own_maxd p0 p1) p2)), .second] [(.int (lcmpW (own_exp (own_init p0 p1) (own_maxd p0 p1) p2) (own_exp (own_init p0 p1) (own_maxd p0 p1) p2)))])) _
        refine XS.ifNo X41.here hx rfl (hb hby at_115) rfl ((if0 _ _).trans (teq hc115).2) ?_
        show Steps p.tables e below (T41.setTop (mkF m 118 #[.val (.int p0), .val (.int p1), .val (.int p2), .val (.int p3), .val (.int p4), .val (.int (p0 &&& (2147483647 : Int32))), .val (.int (p1 &&& (2147483647 : Int32))), .val (.int (own_init p0 p1)), .val (.int (own_maxd p0 p1)), .val (.int (own_maxI (1 : Int32) (p3 &&& (2147483647 : Int32)))), .val (.int (own_maxI (1 : Int32) (p4 &&& (2147483647 : Int32)))), .val (.int p2), .val (.ref b32), .val (.long (own_exp (own_init p0 p1) (own_maxd p0 p1) p2)), .second] [])) _
        refine XS.iconst X41.here hx rfl (hb hby at_118) ?_
        show Steps p.tables e below (T41.setTop (mkF m 119 #[.val (.int p0), .val (.int p1), .val (.int p2), .val (.int p3), .val (.int p4), .val (.int (p0 &&& (2147483647 : Int32))), .val (.int (p1 &&& (2147483647 : Int32))), .val (.int (own_init p0 p1)), .val (.int (own_maxd p0 p1)), .val (.int (own_maxI (1 : Int32) (p3 &&& (2147483647 : Int32)))), .val (.int (own_maxI (1 : Int32) (p4 &&& (2147483647 : Int32)))), .val (.int p2), .val (.ref b32), .val (.long (own_exp (own_init p0 p1) (own_maxd p0 p1) p2)), .second] [(.int (1 : Int32))])) _
        refine XS.goto X41.here hx rfl (pc0 := 119) (pc' := 123) rfl (hb hby at_119) (by decide) (by decide) ?_
        exact k)
    obtain ⟨fs, hr, hrun, hended, hW, hsame⟩ := X41.leave (v := (some (.int (1 : Int32)))) (fun h => by rw [Bd.returns] at h; cases h)
    refine ⟨_, _, k43 _ ?_, hrun, hended, _, _, rfl, ?_, ⟨_, rfl⟩, hW, hsame.mono (by decide) (by decide)⟩
    · exact retN X41 hx (t := .boolean) Bd.returns (by simp) (hb hby at_123) hr
    · show Q0 Z p0 p1 p2 p3 p4 h0 n0 _ T41.heap _
      rw [e41]
      exact ⟨rfl, N41⟩
set_option maxRecDepth 65536 in
set_option maxHeartbeats 40000000 in
theorem comes_1 {Post : Tables → Env → Array Value → State → Outcome → State → Prop} (hpost : ∀ tb e args s v u, (limb_1_1.after args s (.returned v) u = true ∧ limb_1_2.after args s (.returned v) u = true ∧ True) → FrameEnd s (.returned v) u (Jvm.fieldLocs frame_1_writes args s ++ Jvm.arrayLocs frame_1_arrays args s ++ Jvm.staticLocs frame_1_statics s) 16 128 → Post tb e args s (.returned v) u) :
    ArmFor flags0 classFile x code maxLocals ret World_1 tables_1 room_1 Calls_1 rest_1 Pre_1 Post := by
  intro l hfl _ _ p e ha hc hk s m args below hf hA hF happ hP
  obtain ⟨hcalls, hrest, hpre⟩ := hP
  obtain ⟨-, -, -, hnamed, -, -, -, hat⟩ := (Spec.applies_iff hf).mp happ
  obtain ⟨hg, hn⟩ := and_e (Cond.before_iff.mp (show (Jvm.Cond.and given_1 narrow_1).before args s = true from hpre))
  obtain ⟨hcount, hgs⟩ := and_e hg
  obtain ⟨w0, w1, w2, w3, w4, rfl⟩ : ∃ w0 w1 w2 w3 w4 : Value, args = #[w0, w1, w2, w3, w4] := by
    have hs : args.size = 5 := by simpa [Cond.value, given_1] using hcount
    obtain ⟨L⟩ := args
    match L, hs with
    | [w0, w1, w2, w3, w4], _ => exact ⟨w0, w1, w2, w3, w4, rfl⟩
  have hw := fun d (hd : d ∈ tables_1) => atoms_spec (ws := Jvm.Cond.code x code maxLocals ret :: tables_1) hat d (List.mem_cons_of_mem _ hd)
  obtain ⟨hg0, hgr0⟩ := and_e hgs
  obtain ⟨i0, ei0⟩ := is_v hg0
  obtain rfl : w0 = (.int i0) := Option.some.inj ei0
  obtain ⟨hg1, hgr1⟩ := and_e hgr0
  obtain ⟨i1, ei1⟩ := is_v hg1
  obtain rfl : w1 = (.int i1) := Option.some.inj ei1
  obtain ⟨hg2, hgr2⟩ := and_e hgr1
  obtain ⟨i2, ei2⟩ := is_v hg2
  obtain rfl : w2 = (.int i2) := Option.some.inj ei2
  obtain ⟨hg3, hgr3⟩ := and_e hgr2
  obtain ⟨i3, ei3⟩ := is_v hg3
  obtain rfl : w3 = (.int i3) := Option.some.inj ei3
  obtain ⟨i4, ei4⟩ := is_v hgr3
  obtain rfl : w4 = (.int i4) := Option.some.inj ei4
  obtain ⟨n, o, h1, h2, h3, _, L, rfl, ⟨rfl, N⟩, hq⟩ := rm0 l s _ hw tables_1 i0 i1 i2 i3 i4 s.heap s.heap.size (Nat.le_refl _) p e ha hc hk s m _ below hf ((Spec.applies_iff_loose hf).mp happ).1 ⟨rfl, State.Warmed39.refl s, rfl⟩ trivial
  refine ⟨n, _, h1, h2, h3, hpost _ _ _ _ _ _ ⟨Cond.after_iff.mpr rfl, Cond.after_iff.mpr (eq_i res_at (Term.int_eval (1)) rfl), trivial⟩ ⟨hq.1, hq.2.1, (hq.2.2.sift fun y hy => Or.inr (N y hy)).mono (by decide) (by decide)⟩⟩
theorem main_1_1 : Claimed_1_1 := comes_1 fun _ _ _ _ _ _ h hF => ⟨h.1, hF⟩
theorem main_1_2 : Claimed_1_2 := comes_1 fun _ _ _ _ _ _ h hF => ⟨h.2.1, hF⟩
end Jvm.Pilot.@@N@@
namespace Jvm.Pilot.@@N@@
open Jvm Jvm.ClassFile Sem Op Lib Jvm.Free Jvm.Stand Jvm.Pilot.@@N@@.Jvm.D
/-! MADE BY PROGRAM (witnessworld.py) out of the Statement's table words and the real class files: 10 classes; the members and pool entries that the words name. The judged class is class 1, her method 1. -/
namespace start1
open Jvm.ClassFile
def u (s : String) : CpInfo := .utf8 (stringToUtf16 s)
/-- a pool by its gaps: so many unusable entries, then the entry; so many at the end -/
def gap : Nat → List CpInfo → List CpInfo
  | 0, r => r
  | n + 1, r => .unusable :: gap n r
def poolList (es : List (Nat × CpInfo)) (last : Nat) : List CpInfo := es.foldr (fun e r => gap e.1 (e.2 :: r)) (gap last [])
def pool (es : List (Nat × CpInfo)) (last : Nat) : Array CpInfo := ⟨poolList es last⟩
def fileOf (pool : Array CpInfo) (this : Nat) (attrs : Array Attribute := #[]) (ms : Array MethodInfo := #[]) (fl : Nat := 33) (sup : Nat := 0) (ifs : Array Nat := #[]) (fds : Array FieldInfo := #[]) : ClassFile where
  minorVersion := 0
  majorVersion := 65
  constantPool := pool
  accessFlags := fl
  thisClass := this
  superClass := sup
  interfaces := ifs
  fields := fds
  methods := ms
  attributes := attrs
def plain (name : String) (sup : Option ClassId) : Class where
  name := name
  kind := .ordinary
  loader := none
  accessFlags := 33
  super := sup
  interfaces := #[]
  cf := none
  fields := #[]
  methods := #[]
  instanceTypes := #[]
  staticTypes := #[]
  resolved := #[]
  callSites := []
  init := .initialized
  statics := none
  mirror := none

def pool0 : Array CpInfo := pool [(5, u "<init>"), (0, u "()V"), (1, .class_ 10), (1, u "java/lang/Object")] 113

def k0c0 : Code := { maxStack := 0, maxLocals := 1, code := object_method_1_code, exceptionTable := #[], attributes := #[] }
def k0m0 : Method := { name := "<init>", desc := "()V", sig := { parameters := [], returnType := none }, accessFlags := 1, code := some k0c0 }
/-- java/lang/Object -/
def k0 : Class := { plain "java/lang/Object" none with
  accessFlags := 33
  interfaces := #[]
  cf := some (fileOf pool0 8 #[] #[{ accessFlags := 1, nameIndex := 5, descriptorIndex := 6, attributes := #[] }] 33 0 #[] #[])
  fields := #[]
  methods := #[k0m0]
  instanceTypes := #[]
  staticTypes := #[]
  resolved := Array.replicate 124 none
  statics := none }

def pool1 : Array CpInfo := pool [(2, .class_ 4), (1, u "java/lang/Object"), (0, u "<init>"), (0, u "()V"), (0, .integer 2147483647), (0, .methodref 9 10), (0, .class_ 11), (0, .nameAndType 12 13), (0, u "java/lang/Math"), (0, u "min"), (0, u "(II)I"), (0, .methodref 9 15), (0, .nameAndType 16 13), (0, u "max"), (0, .class_ 18), (0, u "com/example/mediawarden/mediawarden/config/CallbackSettings"), (0, .methodref 17 20), (0, .nameAndType 5 21), (0, u "(IIII)V"), (0, .methodref 17 23), (0, .nameAndType 24 25), (0, u "delayAfter"), (0, u "(I)J"), (0, .methodref 27 28), (0, .class_ 29), (0, .nameAndType 30 31), (0, u "com/example/mediawarden/mediawarden/config/CallbackSettingsDelayAfterPinLaw"), (0, u "expected"), (0, u "(III)J"), (0, .methodref 9 33), (0, .nameAndType 12 34), (0, u "(JJ)J"), (2, u "law"), (0, u "(IIIII)Z")] 3

def k1m0 : Method := { name := "<init>", desc := "()V", sig := { parameters := [], returnType := none }, accessFlags := 1, code := none }
def k1c1 : Code := { maxStack := 6, maxLocals := 15, code := code, exceptionTable := #[], attributes := #[] }
def k1m1 : Method := { name := "law", desc := "(IIIII)Z", sig := { parameters := [.int, .int, .int, .int, .int], returnType := some .boolean }, accessFlags := 9, code := some k1c1 }
def k1c2 : Code := { maxStack := 4, maxLocals := 6, code := method_3_code, exceptionTable := #[], attributes := #[] }
def k1m2 : Method := { name := "expected", desc := "(III)J", sig := { parameters := [.int, .int, .int], returnType := some .long }, accessFlags := 10, code := some k1c2 }
/-- com/example/mediawarden/mediawarden/config/CallbackSettingsDelayAfterPinLaw -/
def k1 : Class := { plain "com/example/mediawarden/mediawarden/config/CallbackSettingsDelayAfterPinLaw" (some 0) with
  accessFlags := 49
  interfaces := #[]
  cf := some (fileOf pool1 27 #[] #[{ accessFlags := 1, nameIndex := 5, descriptorIndex := 6, attributes := #[] }, { accessFlags := 9, nameIndex := 37, descriptorIndex := 38, attributes := #[] }, { accessFlags := 10, nameIndex := 30, descriptorIndex := 31, attributes := #[] }] 49 2 #[] #[])
  fields := #[]
  methods := #[k1m0, k1m1, k1m2]
  instanceTypes := #[]
  staticTypes := #[]
  resolved := Array.replicate 42 none
  statics := none }

def pool2 : Array CpInfo := pool [(1, .class_ 2), (0, u "java/lang/Math"), (1, .class_ 6), (1, u "java/lang/Object"), (0, u "<init>"), (0, u "()V"), (89, .class_ 100), (1, u "java/lang/Math$RandomNumberGeneratorHolder"), (20, u "(JJ)J"), (50, u "negativeZeroFloatBits"), (0, u "J"), (2, u "negativeZeroDoubleBits"), (21, u "max"), (2, u "min"), (43, u "$assertionsDisabled"), (0, u "Z"), (88, u "(II)I"), (2, u "twoToTheDoubleScaleDown"), (0, u "D"), (4, u "twoToTheDoubleScaleUp"), (9, u "E"), (3, u "PI"), (2, u "TAU"), (2, u "DEGREES_TO_RADIANS"), (0, u "RADIANS_TO_DEGREES")] 94

def k2m0 : Method := { name := "<init>", desc := "()V", sig := { parameters := [], returnType := none }, accessFlags := 2, code := none }
def k2c1 : Code := { maxStack := 2, maxLocals := 2, code := jdk_29_method_65_code, exceptionTable := #[], attributes := #[] }
def k2m1 : Method := { name := "max", desc := "(II)I", sig := { parameters := [.int, .int], returnType := some .int }, accessFlags := 9, code := some k2c1 }
def k2c2 : Code := { maxStack := 2, maxLocals := 2, code := jdk_29_method_69_code, exceptionTable := #[], attributes := #[] }
def k2m2 : Method := { name := "min", desc := "(II)I", sig := { parameters := [.int, .int], returnType := some .int }, accessFlags := 9, code := some k2c2 }
def k2c3 : Code := { maxStack := 4, maxLocals := 4, code := jdk_29_method_70_code, exceptionTable := #[], attributes := #[] }
def k2m3 : Method := { name := "min", desc := "(JJ)J", sig := { parameters := [.long, .long], returnType := some .long }, accessFlags := 9, code := some k2c3 }
/-- java/lang/Math -/
def k2 : Class := { plain "java/lang/Math" (some 0) with
  accessFlags := 49
  interfaces := #[]
  cf := some (fileOf pool2 1 #[.nestMembers #[98]] #[{ accessFlags := 2, nameIndex := 7, descriptorIndex := 8, attributes := #[] }, { accessFlags := 9, nameIndex := 198, descriptorIndex := 335, attributes := #[] }, { accessFlags := 9, nameIndex := 201, descriptorIndex := 335, attributes := #[] }, { accessFlags := 9, nameIndex := 201, descriptorIndex := 121, attributes := #[] }] 49 4 #[] #[{ accessFlags := 25, nameIndex := 354, descriptorIndex := 339, attributes := #[] }, { accessFlags := 25, nameIndex := 358, descriptorIndex := 339, attributes := #[] }, { accessFlags := 25, nameIndex := 361, descriptorIndex := 339, attributes := #[] }, { accessFlags := 26, nameIndex := 364, descriptorIndex := 339, attributes := #[] }, { accessFlags := 26, nameIndex := 365, descriptorIndex := 339, attributes := #[] }, { accessFlags := 26, nameIndex := 172, descriptorIndex := 173, attributes := #[] }, { accessFlags := 26, nameIndex := 176, descriptorIndex := 173, attributes := #[] }, { accessFlags := 8, nameIndex := 344, descriptorIndex := 339, attributes := #[] }, { accessFlags := 8, nameIndex := 338, descriptorIndex := 339, attributes := #[] }, { accessFlags := 4120, nameIndex := 245, descriptorIndex := 246, attributes := #[] }])
  fields := #[{ name := "E", type := .double, accessFlags := 25, slot := 0, constantValue := 0 }, { name := "PI", type := .double, accessFlags := 25, slot := 1, constantValue := 0 }, { name := "TAU", type := .double, accessFlags := 25, slot := 2, constantValue := 0 }, { name := "DEGREES_TO_RADIANS", type := .double, accessFlags := 26, slot := 3, constantValue := 0 }, { name := "RADIANS_TO_DEGREES", type := .double, accessFlags := 26, slot := 4, constantValue := 0 }, { name := "negativeZeroFloatBits", type := .long, accessFlags := 26, slot := 5, constantValue := 0 }, { name := "negativeZeroDoubleBits", type := .long, accessFlags := 26, slot := 6, constantValue := 0 }, { name := "twoToTheDoubleScaleUp", type := .double, accessFlags := 8, slot := 7, constantValue := 0 }, { name := "twoToTheDoubleScaleDown", type := .double, accessFlags := 8, slot := 8, constantValue := 0 }, { name := "$assertionsDisabled", type := .boolean, accessFlags := 4120, slot := 9, constantValue := 0 }]
  methods := #[k2m0, k2m1, k2m2, k2m3]
  instanceTypes := #[]
  staticTypes := #[.double, .double, .double, .double, .double, .long, .long, .double, .double, .boolean]
  resolved := Array.replicate 460 none
  statics := none }

def pool3 : Array CpInfo := pool [(1, .methodref 2 3), (0, .class_ 4), (0, .nameAndType 5 6), (0, u "java/lang/Object"), (0, u "<init>"), (0, u "()V"), (9, .fieldref 17 18), (0, .class_ 19), (0, .nameAndType 20 21), (0, u "com/example/mediawarden/mediawarden/config/CallbackSettings"), (0, u "timeoutMs"), (0, u "I"), (0, .fieldref 17 23), (0, .nameAndType 24 21), (0, u "initialDelayMs"), (0, .fieldref 17 26), (0, .nameAndType 27 21), (0, u "maxDelayMs"), (0, .fieldref 17 29), (0, .nameAndType 30 21), (0, u "maxAttempts"), (0, .long 2), (1, .methodref 34 35), (0, .class_ 36), (0, .nameAndType 37 38), (0, u "java/lang/Math"), (0, u "min"), (0, u "(JJ)J"), (0, u "(IIII)V"), (4, u "delayAfter"), (0, u "(I)J")] 2

def k3c0 : Code := { maxStack := 3, maxLocals := 5, code := prog_6_method_1_code, exceptionTable := #[], attributes := #[] }
def k3m0 : Method := { name := "<init>", desc := "(IIII)V", sig := { parameters := [.int, .int, .int, .int], returnType := none }, accessFlags := 1, code := some k3c0 }
def k3c1 : Code := { maxStack := 4, maxLocals := 5, code := prog_6_method_4_code, exceptionTable := #[], attributes := #[] }
def k3m1 : Method := { name := "delayAfter", desc := "(I)J", sig := { parameters := [.int], returnType := some .long }, accessFlags := 1, code := some k3c1 }
/-- com/example/mediawarden/mediawarden/config/CallbackSettings -/
def k3 : Class := { plain "com/example/mediawarden/mediawarden/config/CallbackSettings" (some 0) with
  accessFlags := 33
  interfaces := #[]
  cf := some (fileOf pool3 17 #[] #[{ accessFlags := 1, nameIndex := 5, descriptorIndex := 39, attributes := #[] }, { accessFlags := 1, nameIndex := 44, descriptorIndex := 45, attributes := #[] }] 33 2 #[] #[{ accessFlags := 18, nameIndex := 20, descriptorIndex := 21, attributes := #[] }, { accessFlags := 18, nameIndex := 24, descriptorIndex := 21, attributes := #[] }, { accessFlags := 18, nameIndex := 27, descriptorIndex := 21, attributes := #[] }, { accessFlags := 18, nameIndex := 30, descriptorIndex := 21, attributes := #[] }])
  fields := #[{ name := "timeoutMs", type := .int, accessFlags := 18, slot := 0, constantValue := 0 }, { name := "initialDelayMs", type := .int, accessFlags := 18, slot := 1, constantValue := 0 }, { name := "maxDelayMs", type := .int, accessFlags := 18, slot := 2, constantValue := 0 }, { name := "maxAttempts", type := .int, accessFlags := 18, slot := 3, constantValue := 0 }]
  methods := #[k3m0, k3m1]
  instanceTypes := #[.int, .int, .int, .int]
  staticTypes := #[]
  resolved := Array.replicate 48 none
  statics := none }

def pool4 : Array CpInfo := pool [(1, u "java/lang/Cloneable"), (0, .class_ 1), (0, u "java/lang/Object"), (0, .class_ 3)] 3

/-- java/lang/Cloneable -/
def k4 : Class := { plain "java/lang/Cloneable" (some 0) with
  accessFlags := 1537
  interfaces := #[]
  cf := some (fileOf pool4 2 #[] #[] 1537 4 #[] #[])
  fields := #[]
  methods := #[]
  instanceTypes := #[]
  staticTypes := #[]
  resolved := Array.replicate 8 none
  statics := none }

def pool5 : Array CpInfo := pool [(1, u "java/io/Serializable"), (0, .class_ 1), (0, u "java/lang/Object"), (0, .class_ 3)] 3

/-- java/io/Serializable -/
def k5 : Class := { plain "java/io/Serializable" (some 0) with
  accessFlags := 1537
  interfaces := #[]
  cf := some (fileOf pool5 2 #[] #[] 1537 4 #[] #[])
  fields := #[]
  methods := #[]
  instanceTypes := #[]
  staticTypes := #[]
  resolved := Array.replicate 8 none
  statics := none }

/-- the primitive byte -/
def k6 : Class := { plain "byte" none with kind := .primitive 'B', accessFlags := 0x411 }
/-- [B -/
def k7 : Class := { plain "[B" (some 0) with kind := .array 6 .byte, interfaces := #[4, 5], accessFlags := 1041 }

/-- the primitive int -/
def k8 : Class := { plain "int" none with kind := .primitive 'I', accessFlags := 0x411 }
/-- [I -/
def k9 : Class := { plain "[I" (some 0) with kind := .array 8 .int, interfaces := #[4, 5], accessFlags := 1041 }

def heap : Heap := #[]
def classes : Array Class := #[k0, k1, k2, k3, k4, k5, k6, k7, k8, k9]
def interned : List (Array UInt16 × Addr) := []
def slotsUsed : Nat := 0
def theMethod : MethodId := ⟨1, 1⟩
def args0 : Array Value := #[.int 5, .int 300, .int 7, .int 5, .int 3]
def aboutOver (below : List Frame) : State where
  vm := { classes := classes, interned := interned.toArray }
  heap := heap
  slotsUsed := slotsUsed
  threads := #[{ frames := .invoking theMethod args0 :: below }]
def below0 : List Frame := [.native { method := ⟨0, 0⟩, args := #[] }]
def about1 : State := aboutOver below0
def p0 : Program := .bare "" "" ""
def e0 : Env := launch0.env 0 0 0
theorem w_frames : about1.frames = Frame.invoking theMethod args0 :: below0 := rfl
set_option maxRecDepth 65536 in
theorem w_args : argsFit about1.vm theMethod args0 = true := by decide +kernel
set_option maxRecDepth 65536 in
theorem w_heap : heapFits about1 = true := by decide +kernel
set_option maxRecDepth 65536 in
theorem w_runnable : about1.curStatus? = some .runnable := by decide +kernel
set_option maxRecDepth 65536 in
theorem w_alone : about1.alone = true := by decide +kernel
set_option maxRecDepth 65536 in
theorem w_named : about1.methodNamed? x = some theMethod := by decide +kernel
set_option maxRecDepth 65536 in
theorem w_hears : about1.hears theMethod below0 = true := by decide +kernel
set_option maxRecDepth 65536 in
theorem w_ripe : about1.ripe theMethod args0 below0 = true := by decide +kernel
theorem w_running : about1.status = .running := rfl
set_option maxRecDepth 65536 in
theorem w_room : about1.hasRoom e0.platform room_1 = true :=
  launch0.hasRoom_least _ room_1 (by decide +kernel) (by decide +kernel) (by decide +kernel) (by decide +kernel) (by decide +kernel) (by decide +kernel)
theorem allAtoms_all (ts : List Jvm.Cond) (a : Array Jvm.Value) (st : Jvm.State) : (allAtoms ts).before a st = ts.all (fun c => c.before a st) := by
  induction ts with
  | nil => rfl
  | cons c t ih =>
    show (Jvm.Cond.and c (allAtoms t)).before a st = _
    rw [Jvm.Cond.before_and, ih, List.all_cons]
def words1 : List Jvm.Cond := Jvm.Cond.code x code maxLocals ret :: tables_1
/-- a 'code' word, met by the world's own term for the bytes: nothing is compared byte by byte -/
theorem code_word {y : MethodName} {bytes : ByteArray} {mx : Nat} {rt : Option FieldType} {a : Array Value} {s : State} {m : MethodId} {meth : Method} {c : Code} (h1 : s.methodNamed? y = some m) (h2 : s.vm.method? m = some meth) (h3 : meth.code = some c) (h4 : c.code = bytes)
    (h5 : (c.maxLocals == mx && c.exceptionTable.isEmpty && decide (c.maxStack ≤ mostOperands) && decide (meth.sig.returnType = rt) && !meth.locks && decide (parseMethodDescriptor y.desc = some meth.sig)) = true) : (Jvm.Cond.code y bytes mx rt).before a s = true := by
  simp only [Bool.and_eq_true, beq_iff_eq, Bool.not_eq_true', decide_eq_true_eq] at h5
  obtain ⟨⟨⟨⟨⟨g1, g2⟩, g3⟩, g4⟩, g5⟩, g6⟩ := h5
  simp [Cond.before, Cond.holds, Cond.value, h1, h2, h3, h4, g1, g2, g3, g4, g5, g6]
def isCode : Jvm.Cond → Bool
  | .code _ _ _ _ => true
  | _ => false
theorem all_split {L : List Jvm.Cond} {P : Jvm.Cond → Bool} (h1 : L.all (fun c => isCode c || P c) = true) (h2 : ∀ c ∈ L.filter isCode, P c = true) : L.all P = true := by
  refine List.all_eq_true.mpr fun c hc => ?_
  have h := List.all_eq_true.mp h1 c hc
  rcases Bool.eq_false_or_eq_true (isCode c) with hi | hi
  · exact h2 c (List.mem_filter.mpr ⟨hc, hi⟩)
  · simpa [hi] using h
set_option maxRecDepth 65536 in
theorem w_c0 : (Jvm.Cond.code x code maxLocals ret).before args0 about1 = true := code_word (m := ⟨1, 1⟩) (meth := k1m1) (c := k1c1) (by decide +kernel) rfl rfl rfl (by decide +kernel)
set_option maxRecDepth 65536 in
theorem w_c1 : (Jvm.Cond.code ({ cls := "java/lang/Math", name := "min", desc := "(II)I" } : Jvm.MethodName) jdk_29_method_69_code (2 : Nat) (Option.some Jvm.ClassFile.FieldType.int)).before args0 about1 = true := code_word (m := ⟨2, 2⟩) (meth := k2m2) (c := k2c2) (by decide +kernel) rfl rfl rfl (by decide +kernel)
set_option maxRecDepth 65536 in
theorem w_c2 : (Jvm.Cond.code ({ cls := "java/lang/Math", name := "max", desc := "(II)I" } : Jvm.MethodName) jdk_29_method_65_code (2 : Nat) (Option.some Jvm.ClassFile.FieldType.int)).before args0 about1 = true := code_word (m := ⟨2, 1⟩) (meth := k2m1) (c := k2c1) (by decide +kernel) rfl rfl rfl (by decide +kernel)
set_option maxRecDepth 65536 in
theorem w_c3 : (Jvm.Cond.code ({ cls := "com/example/mediawarden/mediawarden/config/CallbackSettings", name := "<init>", desc := "(IIII)V" } : Jvm.MethodName) prog_6_method_1_code (5 : Nat) (Option.none : Option Jvm.ClassFile.FieldType)).before args0 about1 = true := code_word (m := ⟨3, 0⟩) (meth := k3m0) (c := k3c0) (by decide +kernel) rfl rfl rfl (by decide +kernel)
set_option maxRecDepth 65536 in
theorem w_c4 : (Jvm.Cond.code ({ cls := "java/lang/Object", name := "<init>", desc := "()V" } : Jvm.MethodName) object_method_1_code (1 : Nat) (Option.none : Option Jvm.ClassFile.FieldType)).before args0 about1 = true := code_word (m := ⟨0, 0⟩) (meth := k0m0) (c := k0c0) (by decide +kernel) rfl rfl rfl (by decide +kernel)
set_option maxRecDepth 65536 in
theorem w_c5 : (Jvm.Cond.code ({ cls := "com/example/mediawarden/mediawarden/config/CallbackSettings", name := "delayAfter", desc := "(I)J" } : Jvm.MethodName) prog_6_method_4_code (5 : Nat) (Option.some Jvm.ClassFile.FieldType.long)).before args0 about1 = true := code_word (m := ⟨3, 1⟩) (meth := k3m1) (c := k3c1) (by decide +kernel) rfl rfl rfl (by decide +kernel)
set_option maxRecDepth 65536 in
theorem w_c6 : (Jvm.Cond.code ({ cls := "java/lang/Math", name := "min", desc := "(JJ)J" } : Jvm.MethodName) jdk_29_method_70_code (4 : Nat) (Option.some Jvm.ClassFile.FieldType.long)).before args0 about1 = true := code_word (m := ⟨2, 3⟩) (meth := k2m3) (c := k2c3) (by decide +kernel) rfl rfl rfl (by decide +kernel)
set_option maxRecDepth 65536 in
theorem w_c7 : (Jvm.Cond.code ({ cls := "com/example/mediawarden/mediawarden/config/CallbackSettingsDelayAfterPinLaw", name := "expected", desc := "(III)J" } : Jvm.MethodName) method_3_code (6 : Nat) (Option.some Jvm.ClassFile.FieldType.long)).before args0 about1 = true := code_word (m := ⟨1, 2⟩) (meth := k1m2) (c := k1c2) (by decide +kernel) rfl rfl rfl (by decide +kernel)
def codes1 : List Jvm.Cond := [Jvm.Cond.code x code maxLocals ret, Jvm.Cond.code ({ cls := "java/lang/Math", name := "min", desc := "(II)I" } : Jvm.MethodName) jdk_29_method_69_code (2 : Nat) (Option.some Jvm.ClassFile.FieldType.int), Jvm.Cond.code ({ cls := "java/lang/Math", name := "max", desc := "(II)I" } : Jvm.MethodName) jdk_29_method_65_code (2 : Nat) (Option.some Jvm.ClassFile.FieldType.int), Jvm.Cond.code ({ cls := "com/example/mediawarden/mediawarden/config/CallbackSettings", name := "<init>", desc := "(IIII)V" } : Jvm.MethodName) prog_6_method_1_code (5 : Nat) (Option.none : Option Jvm.ClassFile.FieldType), Jvm.Cond.code ({ cls := "java/lang/Object", name := "<init>", desc := "()V" } : Jvm.MethodName) object_method_1_code (1 : Nat) (Option.none : Option Jvm.ClassFile.FieldType), Jvm.Cond.code ({ cls := "com/example/mediawarden/mediawarden/config/CallbackSettings", name := "delayAfter", desc := "(I)J" } : Jvm.MethodName) prog_6_method_4_code (5 : Nat) (Option.some Jvm.ClassFile.FieldType.long), Jvm.Cond.code ({ cls := "java/lang/Math", name := "min", desc := "(JJ)J" } : Jvm.MethodName) jdk_29_method_70_code (4 : Nat) (Option.some Jvm.ClassFile.FieldType.long), Jvm.Cond.code ({ cls := "com/example/mediawarden/mediawarden/config/CallbackSettingsDelayAfterPinLaw", name := "expected", desc := "(III)J" } : Jvm.MethodName) method_3_code (6 : Nat) (Option.some Jvm.ClassFile.FieldType.long)]
set_option maxRecDepth 65536 in
theorem codes_eq : words1.filter isCode = codes1 := rfl
theorem w_codes : ∀ c ∈ words1.filter isCode, c.before args0 about1 = true := by
  rw [codes_eq]
  intro c hc
  simp only [codes1, List.mem_cons, List.not_mem_nil, or_false] at hc
  rcases hc with rfl | rfl | rfl | rfl | rfl | rfl | rfl | rfl
  · exact w_c0
  · exact w_c1
  · exact w_c2
  · exact w_c3
  · exact w_c4
  · exact w_c5
  · exact w_c6
  · exact w_c7
set_option maxRecDepth 65536 in
theorem w_t1 : (words1.take 24).all (fun c => isCode c || c.before args0 about1) = true := by decide +kernel
set_option maxRecDepth 65536 in
theorem w_t2 : (words1.drop 24).all (fun c => isCode c || c.before args0 about1) = true := by decide +kernel
theorem w_tables : (allAtoms (Jvm.Cond.code x code maxLocals ret :: tables_1)).before args0 about1 = true := by
  rw [allAtoms_all]
  show words1.all (fun c => c.before args0 about1) = true
  refine all_split ?_ w_codes
  rw [← List.take_append_drop 24 words1, List.all_append, w_t1, w_t2]
  rfl
set_option maxRecDepth 65536 in
theorem w_case : (Jvm.Cond.and given_1 narrow_1).before args0 about1 = true := by decide +kernel
theorem w_applies : (headSpec (Jvm.Cond.code x code maxLocals ret :: tables_1) room_1).applies x e0.platform about1 = true :=
  (Spec.applies_iff w_frames).mpr ⟨w_running, w_runnable, w_alone, w_named, w_hears, w_ripe, w_room, w_tables⟩
theorem atStart : AtStart classFile x code maxLocals ret World_1 tables_1 room_1 Calls_1 rest_1 Pre_1 launch0 p0 e0 about1 theMethod args0 below0 :=
  ⟨lists_1, trivial, launch0.admits_env _ _ _, launch0.least_env, fairChoices_fair.cas, fairChoices_fair.clock, w_frames, w_args, w_heap, w_applies, trivial, trivial, w_case⟩
end start1
theorem witness_1 : WitnessClaimed_1 := ⟨start1.p0, start1.e0, start1.about1, start1.theMethod, start1.args0, start1.below0, start1.atStart⟩
end Jvm.Pilot.@@N@@
