import JvmDerived
import JvmDerived.Pilot.@@N@@Statement
import JvmDerived.Pilot.@@N@@Code
set_option linter.unusedVariables false
set_option linter.unusedSimpArgs false
@@BLOCK:NumsL.lean.txt@@
namespace Jvm.Pilot.@@N@@
open Jvm Jvm.ClassFile Sem Op Lib Jvm.Free Jvm.Stand Jvm.LawKit Jvm.RoadKit Bundle Jvm.Pilot.@@N@@.Jvm.D
open Jvm.FP Jvm.Free.Fl
theorem own_b53 {z : Int64} (h0 : 0 ≤ z.toInt) (h1 : z.toInt < 2147483648) : B53 z := ⟨by omega, by omega⟩
theorem own_nn {z : Int64} (h0 : 0 ≤ z.toInt) : ¬ z < 0 := by rw [Int64.lt_iff_toInt_lt]; simp only [Int64.toInt_zero]; omega
theorem own_zero53 : B53 (0 : Int64) := ⟨by decide, by decide⟩
theorem own_max {z : Int64} (h0 : 0 ≤ z.toInt) : ¬ ((0 : Int32) < cmpValue (FP.dcmp (FP.l2d z) (9218868437227405311 : UInt64)) .l) := by
  have h := (le_max_iff (l2d_fin z).noNaN).mpr (l2d_fin z)
  rw [abs_w (own_nn h0)] at h
  have h' : relLe (FP.dcmp (FP.l2d z) (9218868437227405311 : UInt64)) = true := h
  rcases relLe_iff.mp h' with q | q <;> rw [q] <;> decide
theorem own_lneg {z : Int64} (h0 : 0 ≤ z.toInt) : ¬ (lcmpW z (0 : Int64) < (0 : Int32)) := by rw [lcW, lc_lt]; exact own_nn h0
theorem own_zn : FP.Core.dzeroNeg = (9223372036854775808 : UInt64) := rfl
theorem own_prod {a v : Int64} (a0 : 0 ≤ a.toInt) (a1 : a.toInt < 1048576) (v0 : -2147483648 ≤ v.toInt) (v1 : v.toInt < 2147483648) : -(1048575 * 2147483648) ≤ a.toInt * v.toInt ∧ a.toInt * v.toInt ≤ 1048575 * 2147483648 := by
  have hm : (a.toInt * v.toInt).natAbs ≤ 1048575 * 2147483648 := by
    rw [Int.natAbs_mul]
    exact Nat.mul_le_mul (by omega) (by omega)
  omega
theorem own_mul {a v : Int64} (a0 : 0 ≤ a.toInt) (a1 : a.toInt < 1048576) (v0 : -2147483648 ≤ v.toInt) (v1 : v.toInt < 2147483648) : (a * v).toInt = a.toInt * v.toInt := by
  have := own_prod a0 a1 v0 v1
  exact Jvm.Kit.i64_mul (by omega) (by omega)
theorem own_sum {a v b : Int64} (a0 : 0 ≤ a.toInt) (a1 : a.toInt < 1048576) (v0 : -2147483648 ≤ v.toInt) (v1 : v.toInt < 2147483648) (b0 : 0 ≤ b.toInt) (b1 : b.toInt < 2147483648) :
    FP.dadd (FP.dmul (FP.l2d a) (FP.l2d v)) (FP.l2d b) = FP.l2d (a * v + b) := by
  have ha : B53 a := ⟨by omega, by omega⟩
  have hv : B53 v := ⟨by omega, by omega⟩
  have hb : B53 b := ⟨by omega, by omega⟩
  have hp := own_prod a0 a1 v0 v1
  have he := own_mul a0 a1 v0 v1
  have hav : B53 (a * v) := ⟨by omega, by omega⟩
  by_cases h : a = 0 ∨ v = 0
  · have hz : a * v = 0 := by
      apply Int64.toInt_inj.mp
      rw [he]
      rcases h with rfl | rfl
      · simp
      · simp
    rw [dmul_z ha hv h, hz, Int64.zero_add]
    split
    · have q : FP.dadd (FP.l2d b) FP.Core.dzeroNeg = FP.l2d b := FP.Core.dadd_zeroNeg (by
        have := (noNaN64_no.mp (l2d_fin b).noNaN)
        intro q
        have r := (FP.Core.dIsNaN_iff _).mpr q
        rw [this] at r; cases r)
      rw [own_zn] at q
      exact (FP.Core.dadd_comm _ _).trans q
    · rw [dadd_w own_zero53 hb, Int64.zero_add]
  · rw [dmul_w ha hv (fun q => h (Or.inl q)) (fun q => h (Or.inr q)) (by omega) (by omega), dadd_w hav hb]
theorem own_nan1 (a v : Int64) : NoNaN64 (FP.dmul (FP.l2d a) (FP.l2d v)) := dmul_out (l2d_fin a) (l2d_fin v)
def own_a (x : Int32) : Int32 := x &&& (1048575 : Int32)
def own_b (x : Int32) : Int32 := x &&& (2147483647 : Int32)
theorem own_a_r (x : Int32) : 0 ≤ (own_a x).toInt64.toInt ∧ (own_a x).toInt64.toInt < 1048576 := by
  have e : (own_a x).toInt = x.toInt % 2 ^ 20 := Jvm.Kit.i32_mask x 1048575 (k := 20) (by decide) (by decide)
  rw [Int32.toInt_toInt64]
  omega
theorem own_b_r (x : Int32) : 0 ≤ (own_b x).toInt64.toInt ∧ (own_b x).toInt64.toInt < 2147483648 := by
  have e : (own_b x).toInt = x.toInt % 2 ^ 31 := Jvm.Kit.i32_mask x 2147483647 (k := 31) (by decide) (by decide)
  rw [Int32.toInt_toInt64]
  omega
theorem own_v_r (x : Int32) : -2147483648 ≤ x.toInt64.toInt ∧ x.toInt64.toInt < 2147483648 := by
  have a := x.toInt_lt
  have b := x.le_toInt
  rw [Int32.toInt_toInt64]
  omega
theorem d4_0 : decode jdk_117_method_7_code 0 = .ok (.dload_n 0, 1) := by decide +kernel
theorem d4_1 : decode jdk_117_method_7_code 1 = .ok (.invokestatic 38, 3) := by decide +kernel
theorem d4_4 : decode jdk_117_method_7_code 4 = .ok (.ldc2_w 111, 3) := by decide +kernel
theorem d4_7 : decode jdk_117_method_7_code 7 = .ok (.dcmp .l, 1) := by decide +kernel
theorem d4_8 : decode jdk_117_method_7_code 8 = .ok (.ifCond .le 7, 3) := by decide +kernel
theorem d4_11 : decode jdk_117_method_7_code 11 = .ok (.iconst 1, 1) := by decide +kernel
theorem d4_12 : decode jdk_117_method_7_code 12 = .ok (.goto 4, 3) := by decide +kernel
theorem d4_15 : decode jdk_117_method_7_code 15 = .ok (.iconst 0, 1) := by decide +kernel
theorem d4_16 : decode jdk_117_method_7_code 16 = .ok (.ireturn, 1) := by decide +kernel
theorem ef_4 (m : MethodId) (x0 : UInt64) : entryFrame m #[(.double x0)] 2 = mkF m 0 #[.val (.double x0), .second] [] := by first | (simp [entryFrame, mkF, argsToLocals, Value.category]; done) | rfl
theorem pn_0 : plainName "java/lang/Double" = true := by first | (simp [plainName, overriddenIn]; done) | decide +kernel
theorem pd_0 : parseMethodDescriptor "(D)D" = some ⟨[.double], some .double⟩ := by decide +kernel
def Q4 (Z : State) (z : Int64) (h0 : Heap) (n0 : Nat) (v : Option Value) (h : Heap) (L : List Loc) : Prop := v = some (.int (0 : Int32)) ∧ Fr n0 L ∧ h = h0
set_option maxRecDepth 65536 in
set_option maxHeartbeats 40000000 in
theorem rm4 (l : Launch) (Z : State) (a0 : Array Value) (hw : ∀ d ∈ tables_1, d.before a0 Z = true) (ws : List Jvm.Cond) (z : Int64) (h0 : Heap) (n0 : Nat) (Z0 : n0 ≤ h0.size) (h0z : 0 ≤ z.toInt) (h1z : z.toInt < 2147483648) :
    MetFree l (⟨"java/lang/Double", "isInfinite", "(D)Z"⟩ : MethodName) (head1 (Jvm.Cond.code (⟨"java/lang/Double", "isInfinite", "(D)Z"⟩ : MethodName) jdk_117_method_7_code 2 (some .boolean) :: ws) ({ frames := 1, cells := 0, slots := 0, locals := 13 } : Room)) (fun a U => a = #[(.double (FP.l2d z))] ∧ Z.Warmed39 U.vm ∧ U.heap = h0) (fun _ _ _ _ _ => True) (fun _ U o U' => ∃ v L, o = .returned v ∧ Q4 Z z h0 n0 v U'.heap L ∧ FrameEnd U o U' L ({ frames := 1, cells := 0, slots := 0, locals := 13 } : Room).cells ({ frames := 1, cells := 0, slots := 0, locals := 13 } : Room).slots) := by
  refine MetFree.of_bodySF (plainFor_of_name pn_0) hisR ?_
  intro p e s m args below meth c s₁ Bd hml0 hP hK
  obtain ⟨rfl, hZ, hh⟩ := hP
  have hx := Bd.exec
  have hby := Bd.bytes
  have hml : c.maxLocals = 2 := hml0
  have hown : s.vm.findClass "java/lang/Double" = some m.cls := findClass_of_methodNamed Bd.named
  have hnm := (name_of_methodNamed Bd.named Bd.method).1
  have X0 : Stand p l e ({ frames := 1, cells := 0, slots := 0, locals := 13 } : Room) s m #[(.double (FP.l2d z))] below meth c s₁ [] 0 0 := Stand.of_body Bd
  have e0 : s₁.heap = h0 := by rw [← hh, Bd.state]; rfl
  have N0 := Fr.nil n0
  have k0 : ∀ t, Steps p.tables e below (s₁.setTop (mkF m 0 #[.val (.double (FP.l2d z)), .second] [])) t → Steps p.tables e below (s₁.setTop (entryFrame m #[(.double (FP.l2d z))] 2)) t := fun t k => castTop (ef_4 m (FP.l2d z)) k
  have k1 : ∀ t, Steps p.tables e below (s₁.setTop (mkF m 1 #[.val (.double (FP.l2d z)), .second] [(.double (FP.l2d z))])) t → Steps p.tables e below (s₁.setTop (entryFrame m #[(.double (FP.l2d z))] 2)) t := fun t k => k0 t (by
      show Steps p.tables e below (s₁.setTop (mkF m 0 #[.val (.double (FP.l2d z)), .second] [])) _
      refine XS.dloadN X0.here hx rfl (hb hby d4_0) rfl ?_
      exact k)
  obtain ⟨T2, X2, e2, st2⟩ := natS X0 hx hZ hown (hw _ (List.mem_of_getElem? (i := 27) rfl)) (hw _ (List.mem_of_getElem? (i := 28) rfl)) (hw _ (List.mem_of_getElem? (i := 29) rfl)) (hw _ (List.mem_of_getElem? (i := 30) rfl)) (by decide) e0 (W := 0) (val := .double (FP.l2d z &&& 0x7fffffffffffffff)) (F := fun a' => a' = #[.double (FP.l2d z)] ∧ NoNaN64 (FP.l2d z)) (fun hc => Jvm.Free.Fl.Abs.absD_pays (FP.l2d z) hc (by decide) (by decide)) (g := (mkF m 1 #[.val (.double (FP.l2d z)), .second] [(.double (FP.l2d z))])) rfl (by rw [hml]; rfl) (argsL := [(.double (FP.l2d z))]) (rest := []) (lenOf pd_0 rfl) rfl (by show 2 * 0 + _ ≤ _; exact Nat.le_of_eq rfl) (hb hby d4_1) (by decide) (by decide) ⟨rfl, (l2d_fin z).noNaN⟩ (congrArg Value.double (abs_w (own_nn h0z)))
  have k3 : ∀ t, Steps p.tables e below (T2.setTop (mkF m 4 #[.val (.double (FP.l2d z)), .second] [(.double (FP.l2d z))])) t → Steps p.tables e below (s₁.setTop (entryFrame m #[(.double (FP.l2d z))] 2)) t := fun t k => k1 t (st2 _ k)
  have hc8 : ¬ ((0 : Int32) < (cmpValue (FP.dcmp (FP.l2d z) (9218868437227405311 : UInt64)) .l)) := own_max h0z
  have k4 : ∀ t, Steps p.tables e below (T2.setTop (mkF m 16 #[.val (.double (FP.l2d z)), .second] [(.int (0 : Int32))])) t → Steps p.tables e below (s₁.setTop (entryFrame m #[(.double (FP.l2d z))] 2)) t := fun t k => k3 t (by
      show Steps p.tables e below (T2.setTop (mkF m 4 #[.val (.double (FP.l2d z)), .second] [(.double (FP.l2d z))])) _
      refine X2.ldc2DoubleC hx hown (mvT hZ (hw _ (List.mem_of_getElem? (i := 31) rfl))) (g := (mkF m 4 #[.val (.double (FP.l2d z)), .second] [(.double (FP.l2d z))])) rfl (hb hby d4_4) _ ?_
      show Steps p.tables e below (T2.setTop (mkF m 7 #[.val (.double (FP.l2d z)), .second] [(.double (9218868437227405311 : UInt64)), (.double (FP.l2d z))])) _
      refine XS.dcmpS X2.here hx rfl (hb hby d4_7) rfl rfl ?_
      show Steps p.tables e below (T2.setTop (mkF m 8 #[.val (.double (FP.l2d z)), .second] [(.int (cmpValue (FP.dcmp (FP.l2d z) (9218868437227405311 : UInt64)) .l))])) _
      refine XS.ifYes X2.here hx rfl (pc0 := 8) (pc' := 15) rfl (hb hby d4_8) rfl ((if0 _ _).trans (flt hc8).2.2.2) (by decide) (by decide) ?_
      show Steps p.tables e below (T2.setTop (mkF m 15 #[.val (.double (FP.l2d z)), .second] [])) _
      refine XS.iconst X2.here hx rfl (hb hby d4_15) ?_
      exact k)
  obtain ⟨fs, hr, hrun, hended, hW, hsame⟩ := X2.leave (v := (some (.int (0 : Int32)))) (fun h => by rw [Bd.returns] at h; cases h)
  refine ⟨_, _, k4 _ ?_, hrun, hended, _, _, rfl, ?_, ⟨_, rfl⟩, hW, hsame.mono (by decide) (by decide)⟩
  · exact retN X2 hx (t := .boolean) Bd.returns (by simp) (hb hby d4_16) hr
  · show Q4 Z z h0 n0 _ T2.heap _
    rw [e2]
    exact ⟨rfl, N0, rfl⟩
theorem d3_0 : decode prog_26_method_2_code 0 = .ok (.dload_n 0, 1) := by decide +kernel
theorem d3_1 : decode prog_26_method_2_code 1 = .ok (.dconst 0, 1) := by decide +kernel
theorem d3_2 : decode prog_26_method_2_code 2 = .ok (.dcmp .l, 1) := by decide +kernel
theorem d3_3 : decode prog_26_method_2_code 3 = .ok (.ifCond .lt 10, 3) := by decide +kernel
theorem d3_6 : decode prog_26_method_2_code 6 = .ok (.dload_n 0, 1) := by decide +kernel
theorem d3_7 : decode prog_26_method_2_code 7 = .ok (.invokestatic 7, 3) := by decide +kernel
theorem d3_10 : decode prog_26_method_2_code 10 = .ok (.ifCond .eq 18, 3) := by decide +kernel
theorem d3_13 : decode prog_26_method_2_code 13 = .ok (.new 13, 3) := by decide +kernel
theorem d3_16 : decode prog_26_method_2_code 16 = .ok (.dup, 1) := by decide +kernel
theorem d3_17 : decode prog_26_method_2_code 17 = .ok (.aload_n 2, 1) := by decide +kernel
theorem d3_18 : decode prog_26_method_2_code 18 = .ok (.dload_n 0, 1) := by decide +kernel
theorem d3_24 : decode prog_26_method_2_code 24 = .ok (.invokespecial 19, 3) := by decide +kernel
theorem d3_27 : decode prog_26_method_2_code 27 = .ok (.athrow, 1) := by decide +kernel
theorem d3_28 : decode prog_26_method_2_code 28 = .ok (.dload_n 0, 1) := by decide +kernel
theorem d3_29 : decode prog_26_method_2_code 29 = .ok (.dreturn, 1) := by decide +kernel
theorem ef_3 (m : MethodId) (x0 : UInt64) (x1 : Addr) : entryFrame m #[(.double x0), (.ref x1)] 3 = mkF m 0 #[.val (.double x0), .second, .val (.ref x1)] [] := by first | (simp [entryFrame, mkF, argsToLocals, Value.category]; done) | rfl
theorem pn_1 : plainName "com/example/backpressure/backpressure/model/NonNegative" = true := by first | (simp [plainName, overriddenIn]; done) | decide +kernel
theorem pd_1 : parseMethodDescriptor "(D)Z" = some ⟨[.double], some .boolean⟩ := by decide +kernel
def Q3 (Z : State) (r1 : Addr) (z : Int64) (h0 : Heap) (n0 : Nat) (v : Option Value) (h : Heap) (L : List Loc) : Prop := v = some (.double (FP.l2d z)) ∧ Fr n0 L ∧ h = h0
set_option maxRecDepth 65536 in
set_option maxHeartbeats 40000000 in
theorem rm3 (l : Launch) (Z : State) (a0 : Array Value) (hw : ∀ d ∈ tables_1, d.before a0 Z = true) (ws : List Jvm.Cond) (r1 : Addr) (z : Int64) (h0 : Heap) (n0 : Nat) (Z0 : n0 ≤ h0.size) (h0z : 0 ≤ z.toInt) (h1z : z.toInt < 2147483648) :
    MetFree l (⟨"com/example/backpressure/backpressure/model/NonNegative", "require", "(DLjava/lang/String;)D"⟩ : MethodName) (head1 (Jvm.Cond.code (⟨"com/example/backpressure/backpressure/model/NonNegative", "require", "(DLjava/lang/String;)D"⟩ : MethodName) prog_26_method_2_code 3 (some .double) :: ws) ({ frames := 2, cells := 0, slots := 0, locals := 26 } : Room)) (fun a U => a = #[(.double (FP.l2d z)), (.ref r1)] ∧ Z.Warmed39 U.vm ∧ U.heap = h0) (fun _ _ _ _ _ => True) (fun _ U o U' => ∃ v L, o = .returned v ∧ Q3 Z r1 z h0 n0 v U'.heap L ∧ FrameEnd U o U' L ({ frames := 2, cells := 0, slots := 0, locals := 26 } : Room).cells ({ frames := 2, cells := 0, slots := 0, locals := 26 } : Room).slots) := by
  refine MetFree.of_bodySF (plainFor_of_name pn_1) hisR ?_
  intro p e s m args below meth c s₁ Bd hml0 hP hK
  obtain ⟨rfl, hZ, hh⟩ := hP
  have hx := Bd.exec
  have hby := Bd.bytes
  have hml : c.maxLocals = 3 := hml0
  have hown : s.vm.findClass "com/example/backpressure/backpressure/model/NonNegative" = some m.cls := findClass_of_methodNamed Bd.named
  have hnm := (name_of_methodNamed Bd.named Bd.method).1
  have X0 : Stand p l e ({ frames := 2, cells := 0, slots := 0, locals := 26 } : Room) s m #[(.double (FP.l2d z)), (.ref r1)] below meth c s₁ [] 0 0 := Stand.of_body Bd
  have e0 : s₁.heap = h0 := by rw [← hh, Bd.state]; rfl
  have N0 := Fr.nil n0
  have k0 : ∀ t, Steps p.tables e below (s₁.setTop (mkF m 0 #[.val (.double (FP.l2d z)), .second, .val (.ref r1)] [])) t → Steps p.tables e below (s₁.setTop (entryFrame m #[(.double (FP.l2d z)), (.ref r1)] 3)) t := fun t k => castTop (ef_3 m (FP.l2d z) r1) k
  have hc3 : ¬ ((lcmpW z (0 : Int64)) < (0 : Int32)) := own_lneg h0z
  have k1 : ∀ t, Steps p.tables e below (s₁.setTop (mkF m 7 #[.val (.double (FP.l2d z)), .second, .val (.ref r1)] [(.double (FP.l2d z))])) t → Steps p.tables e below (s₁.setTop (entryFrame m #[(.double (FP.l2d z)), (.ref r1)] 3)) t := fun t k => k0 t (by
      show Steps p.tables e below (s₁.setTop (mkF m 0 #[.val (.double (FP.l2d z)), .second, .val (.ref r1)] [])) _
      refine XS.dloadN X0.here hx rfl (hb hby d3_0) rfl ?_
      show Steps p.tables e below (s₁.setTop (mkF m 1 #[.val (.double (FP.l2d z)), .second, .val (.ref r1)] [(.double (FP.l2d z))])) _
      refine XS.dconst0 (v := FP.l2d (0 : Int64)) X0.here hx rfl (hb hby d3_1) (by first | (rw [l2d_zero]; rfl) | decide +kernel) ?_
      show Steps p.tables e below (s₁.setTop (mkF m 2 #[.val (.double (FP.l2d z)), .second, .val (.ref r1)] [(.double (FP.l2d (0 : Int64))), (.double (FP.l2d z))])) _
      refine XS.dcmpS X0.here hx rfl (hb hby d3_2) rfl (dcmpV_w (own_b53 h0z h1z) own_zero53 .l) ?_
      show Steps p.tables e below (s₁.setTop (mkF m 3 #[.val (.double (FP.l2d z)), .second, .val (.ref r1)] [(.int (lcmpW z (0 : Int64)))])) _
      refine XS.ifNo X0.here hx rfl (hb hby d3_3) rfl ((if0 _ _).trans (flt hc3).1) ?_
      show Steps p.tables e below (s₁.setTop (mkF m 6 #[.val (.double (FP.l2d z)), .second, .val (.ref r1)] [])) _
      refine XS.dloadN X0.here hx rfl (hb hby d3_6) rfl ?_
      exact k)
  obtain ⟨_, _, ⟨T2, L2, kq2, n2⟩, -, X2, ⟨Lc2, hQ2, l2, y2, z2⟩, st2⟩ := Jvm.LawKit.callS X0 hx (y := (⟨"java/lang/Double", "isInfinite", "(D)Z"⟩ : MethodName)) hown (mvT hZ (hw _ (List.mem_of_getElem? (i := 23) rfl))) (mvT hZ (hw _ (List.mem_of_getElem? (i := 24) rfl))) (mvT hZ (hw _ (List.mem_of_getElem? (i := 25) rfl))) (mvT hZ (hw _ (List.mem_of_getElem? (i := 26) rfl))) (by decide) (backOf (W := 0) (rm4 l Z a0 hw [] z h0 n0 Z0 h0z h1z) hZ (hw _ (List.mem_of_getElem? (i := 26) rfl)) (hw _ (List.mem_of_getElem? (i := 25) rfl)) (by decide) (by decide)) (g := (mkF m 7 #[.val (.double (FP.l2d z)), .second, .val (.ref r1)] [(.double (FP.l2d z))])) rfl (by rw [hml]; rfl) (argsL := [(.double (FP.l2d z))]) (rest := []) (lenOf pd_1 rfl) rfl (by show 2 * 0 + _ ≤ _; exact Nat.le_of_eq rfl) (hb hby d3_7) (fun _ _ => ⟨rfl, e0, (by decide : 0 + 0 ≤ _), (by decide : 0 + 0 ≤ _)⟩)
  dsimp only [Pt.U, Pt.locs, Pt.cells, Pt.slots] at X2 l2 y2 z2 st2 hQ2
  subst l2 y2 z2
  obtain ⟨rfl, N2q, e2⟩ := hQ2
  have N2 := Fr.app N0 N2q
  have k3 : ∀ t, Steps p.tables e below (T2.setTop (mkF m 10 #[.val (.double (FP.l2d z)), .second, .val (.ref r1)] [(.int (0 : Int32))])) t → Steps p.tables e below (s₁.setTop (entryFrame m #[(.double (FP.l2d z)), (.ref r1)] 3)) t := fun t k => k1 t (st2 _ k)
  have hc10 : (0 : Int32) = (0 : Int32) := by decide
  have k4 : ∀ t, Steps p.tables e below (T2.setTop (mkF m 29 #[.val (.double (FP.l2d z)), .second, .val (.ref r1)] [(.double (FP.l2d z))])) t → Steps p.tables e below (s₁.setTop (entryFrame m #[(.double (FP.l2d z)), (.ref r1)] 3)) t := fun t k => k3 t (by
      show Steps p.tables e below (T2.setTop (mkF m 10 #[.val (.double (FP.l2d z)), .second, .val (.ref r1)] [(.int (0 : Int32))])) _
      refine XS.ifYes X2.here hx rfl (pc0 := 10) (pc' := 28) rfl (hb hby d3_10) rfl ((if0 _ _).trans (teq hc10).1) (by decide) (by decide) ?_
      show Steps p.tables e below (T2.setTop (mkF m 28 #[.val (.double (FP.l2d z)), .second, .val (.ref r1)] [])) _
      refine XS.dloadN X2.here hx rfl (hb hby d3_28) rfl ?_
      exact k)
  obtain ⟨fs, hr, hrun, hended, hW, hsame⟩ := X2.leave (v := (some (.double (FP.l2d z)))) (fun h => by rw [Bd.returns] at h; cases h)
  refine ⟨_, _, k4 _ ?_, hrun, hended, _, _, rfl, ?_, ⟨_, rfl⟩, hW, hsame.mono (by decide) (by decide)⟩
  · exact retOut X2 hx Bd.returns rfl (Or.inr (Or.inr (Or.inl ⟨rfl, rfl, _, rfl⟩))) (hb hby d3_29) hr
  · show Q3 Z r1 z h0 n0 _ T2.heap _
    rw [e2]
    exact ⟨rfl, N2, rfl⟩
theorem d1_0 : decode prog_11_method_1_code 0 = .ok (.aload_n 0, 1) := by decide +kernel
theorem d1_1 : decode prog_11_method_1_code 1 = .ok (.invokespecial 1, 3) := by decide +kernel
theorem d1_4 : decode prog_11_method_1_code 4 = .ok (.aload_n 0, 1) := by decide +kernel
theorem d1_5 : decode prog_11_method_1_code 5 = .ok (.dload_n 1, 1) := by decide +kernel
theorem d1_6 : decode prog_11_method_1_code 6 = .ok (.ldc 7, 2) := by decide +kernel
theorem d1_8 : decode prog_11_method_1_code 8 = .ok (.invokestatic 9, 3) := by decide +kernel
theorem d1_11 : decode prog_11_method_1_code 11 = .ok (.putfield 15, 3) := by decide +kernel
theorem d1_14 : decode prog_11_method_1_code 14 = .ok (.aload_n 0, 1) := by decide +kernel
theorem d1_15 : decode prog_11_method_1_code 15 = .ok (.dload_n 3, 1) := by decide +kernel
theorem d1_16 : decode prog_11_method_1_code 16 = .ok (.ldc 21, 2) := by decide +kernel
theorem d1_18 : decode prog_11_method_1_code 18 = .ok (.invokestatic 9, 3) := by decide +kernel
theorem d1_21 : decode prog_11_method_1_code 21 = .ok (.putfield 23, 3) := by decide +kernel
theorem d1_24 : decode prog_11_method_1_code 24 = .ok (.return_, 1) := by decide +kernel
theorem ef_1 (m : MethodId) (x0 : Addr) (x1 : UInt64) (x2 : UInt64) : entryFrame m #[(.ref x0), (.double x1), (.double x2)] 5 = mkF m 0 #[.val (.ref x0), .val (.double x1), .second, .val (.double x2), .second] [] := by first | (simp [entryFrame, mkF, argsToLocals, Value.category]; done) | rfl
theorem pn_2 : plainName "com/example/backpressure/backpressure/model/CandidateRoad" = true := by first | (simp [plainName, overriddenIn]; done) | decide +kernel
theorem pd_2 : parseMethodDescriptor "(DLjava/lang/String;)D" = some ⟨[.double, (.object "java/lang/String")], some .double⟩ := by decide +kernel
def Q1 (Z : State) (r0 : Addr) (za : Int64) (zb : Int64) (h0 : Heap) (n0 : Nat) (v : Option Value) (h : Heap) (L : List Loc) : Prop := v = none ∧ Fr n0 L ∧ Keep h0 h [r0] ∧ Exa Z h r0 "com/example/backpressure/backpressure/model/CandidateRoad" ∧ Fld Z h r0 "com/example/backpressure/backpressure/model/CandidateRoad" "timePerVehicle" "D" (.double (FP.l2d za)) ∧ Fld Z h r0 "com/example/backpressure/backpressure/model/CandidateRoad" "baseTime" "D" (.double (FP.l2d zb))
set_option maxRecDepth 65536 in
set_option maxHeartbeats 40000000 in
theorem rm1 (l : Launch) (Z : State) (a0 : Array Value) (hw : ∀ d ∈ tables_1, d.before a0 Z = true) (ws : List Jvm.Cond) (r0 : Addr) (za : Int64) (zb : Int64) (h0 : Heap) (n0 : Nat) (Z0 : n0 ≤ h0.size) (F_timePerVehicle_r0 : Fld Z h0 r0 "com/example/backpressure/backpressure/model/CandidateRoad" "timePerVehicle" "D" (.double 0)) (F_baseTime_r0 : Fld Z h0 r0 "com/example/backpressure/backpressure/model/CandidateRoad" "baseTime" "D" (.double 0)) (E_r0 : Exa Z h0 r0 "com/example/backpressure/backpressure/model/CandidateRoad") (g_r0 : n0 ≤ r0) (h0a : 0 ≤ za.toInt) (h1a : za.toInt < 2147483648) (h0b : 0 ≤ zb.toInt) (h1b : zb.toInt < 2147483648) :
    MetFree l (⟨"com/example/backpressure/backpressure/model/CandidateRoad", "<init>", "(DD)V"⟩ : MethodName) (head1 (Jvm.Cond.code (⟨"com/example/backpressure/backpressure/model/CandidateRoad", "<init>", "(DD)V"⟩ : MethodName) prog_11_method_1_code 5 none :: ws) ({ frames := 3, cells := 4, slots := 220, locals := 41 } : Room)) (fun a U => a = #[(.ref r0), (.double (FP.l2d za)), (.double (FP.l2d zb))] ∧ Z.Warmed39 U.vm ∧ U.heap = h0) (fun _ _ _ _ _ => True) (fun _ U o U' => ∃ v L, o = .returned v ∧ Q1 Z r0 za zb h0 n0 v U'.heap L ∧ ReturnedEndW U o U' L ({ frames := 3, cells := 4, slots := 220, locals := 41 } : Room).cells ({ frames := 3, cells := 4, slots := 220, locals := 41 } : Room).slots) := by
  refine MetFree.of_bodySF (plainFor_of_name pn_2) hisR ?_
  intro p e s m args below meth c s₁ Bd hml0 hP hK
  obtain ⟨rfl, hZ, hh⟩ := hP
  have hx := Bd.exec
  have hby := Bd.bytes
  have hml : c.maxLocals = 5 := hml0
  have hown : s.vm.findClass "com/example/backpressure/backpressure/model/CandidateRoad" = some m.cls := findClass_of_methodNamed Bd.named
  have hnm := (name_of_methodNamed Bd.named Bd.method).1
  have X0 : Stand p l e ({ frames := 3, cells := 4, slots := 220, locals := 41 } : Room) s m #[(.ref r0), (.double (FP.l2d za)), (.double (FP.l2d zb))] below meth c s₁ [] 0 0 := Stand.of_body Bd
  have e0 : s₁.heap = h0 := by rw [← hh, Bd.state]; rfl
  have N0 := Fr.nil n0
  have k0 : ∀ t, Steps p.tables e below (s₁.setTop (mkF m 0 #[.val (.ref r0), .val (.double (FP.l2d za)), .second, .val (.double (FP.l2d zb)), .second] [])) t → Steps p.tables e below (s₁.setTop (entryFrame m #[(.ref r0), (.double (FP.l2d za)), (.double (FP.l2d zb))] 5)) t := fun t k => castTop (ef_1 m r0 (FP.l2d za) (FP.l2d zb)) k
  have hsa : ∀ d ∈ Bundle.stringAtoms, d.before a0 Z = true := fun d hd => hw d ((by decide +kernel : ∀ d ∈ Bundle.stringAtoms, d ∈ tables_1) d hd)
  have k1 : ∀ t, Steps p.tables e below (s₁.setTop (mkF m 1 #[.val (.ref r0), .val (.double (FP.l2d za)), .second, .val (.double (FP.l2d zb)), .second] [(.ref r0)])) t → Steps p.tables e below (s₁.setTop (entryFrame m #[(.ref r0), (.double (FP.l2d za)), (.double (FP.l2d zb))] 5)) t := fun t k => k0 t (by
      show Steps p.tables e below (s₁.setTop (mkF m 0 #[.val (.ref r0), .val (.double (FP.l2d za)), .second, .val (.double (FP.l2d zb)), .second] [])) _
      refine XS.aloadN X0.here hx rfl (hb hby d1_0) rfl rfl ?_
      exact k)
  obtain ⟨T2, X2, e2, st2⟩ := initO X0 hx hZ hown (hw _ (List.mem_of_getElem? (i := 8) rfl)) (hw _ (List.mem_of_getElem? (i := 9) rfl)) (hw _ (List.mem_of_getElem? (i := 10) rfl)) e0 (g := (mkF m 1 #[.val (.ref r0), .val (.double (FP.l2d za)), .second, .val (.double (FP.l2d zb)), .second] [(.ref r0)])) rfl (by rw [hml]; rfl) rfl (hb hby d1_1) (by decide) (W := 0) (by show 2 * 0 + _ ≤ _; exact Nat.le_of_eq rfl) (by decide)
  have k3 : ∀ t, Steps p.tables e below (T2.setTop (mkF m 4 #[.val (.ref r0), .val (.double (FP.l2d za)), .second, .val (.double (FP.l2d zb)), .second] [])) t → Steps p.tables e below (s₁.setTop (entryFrame m #[(.ref r0), (.double (FP.l2d za)), (.double (FP.l2d zb))] 5)) t := fun t k => k1 t (st2 _ k)
  have k4 : ∀ t, Steps p.tables e below (T2.setTop (mkF m 6 #[.val (.ref r0), .val (.double (FP.l2d za)), .second, .val (.double (FP.l2d zb)), .second] [(.double (FP.l2d za)), (.ref r0)])) t → Steps p.tables e below (s₁.setTop (entryFrame m #[(.ref r0), (.double (FP.l2d za)), (.double (FP.l2d zb))] 5)) t := fun t k => k3 t (by
      show Steps p.tables e below (T2.setTop (mkF m 4 #[.val (.ref r0), .val (.double (FP.l2d za)), .second, .val (.double (FP.l2d zb)), .second] [])) _
      refine XS.aloadN X2.here hx rfl (hb hby d1_4) rfl rfl ?_
      show Steps p.tables e below (T2.setTop (mkF m 5 #[.val (.ref r0), .val (.double (FP.l2d za)), .second, .val (.double (FP.l2d zb)), .second] [(.ref r0)])) _
      refine XS.dloadN X2.here hx rfl (hb hby d1_5) rfl ?_
      exact k)
  obtain ⟨a5, T5, h5, j5, X5, e5, E5, Sn5, jk5, hZ5, hown5, st5⟩ := ldcS (s := s) (vm0 := s.vm) X2 hx hZ hown (hw _ (List.mem_of_getElem? (i := 11) rfl)) hsa e2 ((State.WarmedH.refl s).since h0.size) (Nat.le_refl h0.size) (g := (mkF m 6 #[.val (.ref r0), .val (.double (FP.l2d za)), .second, .val (.double (FP.l2d zb)), .second] [(.double (FP.l2d za)), (.ref r0)])) rfl (hb hby d1_6) (n := 120) (by decide) (by decide) (by decide) (by decide)
  have Zs5 : n0 ≤ h5.size := Nat.le_trans Z0 E5.1
  have k6 : ∀ t, Steps p.tables e below (T5.setTop (mkF m 8 #[.val (.ref r0), .val (.double (FP.l2d za)), .second, .val (.double (FP.l2d zb)), .second] [(.ref a5), (.double (FP.l2d za)), (.ref r0)])) t → Steps p.tables e below (s₁.setTop (entryFrame m #[(.ref r0), (.double (FP.l2d za)), (.double (FP.l2d zb))] 5)) t := fun t k => k4 t (st5 _ k)
  obtain ⟨_, _, ⟨T7, L7, kq7, n7⟩, -, X7, ⟨Lc7, hQ7, l7, y7, z7⟩, st7⟩ := Jvm.LawKit.callS X5 hx (y := (⟨"com/example/backpressure/backpressure/model/NonNegative", "require", "(DLjava/lang/String;)D"⟩ : MethodName)) hown5 (mvT hZ5 (hw _ (List.mem_of_getElem? (i := 19) rfl))) (mvT hZ5 (hw _ (List.mem_of_getElem? (i := 20) rfl))) (mvT hZ5 (hw _ (List.mem_of_getElem? (i := 21) rfl))) (mvT hZ5 (hw _ (List.mem_of_getElem? (i := 22) rfl))) (by decide) (backOf (W := 1) (rm3 l Z a0 hw [] a5 za h5 n0 Zs5 h0a h1a) hZ5 (hw _ (List.mem_of_getElem? (i := 22) rfl)) (hw _ (List.mem_of_getElem? (i := 21) rfl)) (by decide) (by decide)) (g := (mkF m 8 #[.val (.ref r0), .val (.double (FP.l2d za)), .second, .val (.double (FP.l2d zb)), .second] [(.ref a5), (.double (FP.l2d za)), (.ref r0)])) rfl (by rw [hml]; rfl) (argsL := [(.double (FP.l2d za)), (.ref a5)]) (rest := [(.ref r0)]) (lenOf pd_2 rfl) rfl (by show 2 * 0 + _ ≤ _; exact Nat.le_of_eq rfl) (hb hby d1_8) (fun _ _ => ⟨rfl, e5, (by decide : 2 + 0 ≤ _), (by decide : 124 + 0 ≤ _)⟩)
  dsimp only [Pt.U, Pt.locs, Pt.cells, Pt.slots] at X7 l7 y7 z7 st7 hQ7
  subst l7 y7 z7
  obtain ⟨rfl, N7q, e7⟩ := hQ7
  have N7 := Fr.app N0 N7q
  have k8 : ∀ t, Steps p.tables e below (T7.setTop (mkF m 11 #[.val (.ref r0), .val (.double (FP.l2d za)), .second, .val (.double (FP.l2d zb)), .second] [(.double (FP.l2d za)), (.ref r0)])) t → Steps p.tables e below (s₁.setTop (entryFrame m #[(.ref r0), (.double (FP.l2d za)), (.double (FP.l2d zb))] 5)) t := fun t k => k6 t (st7 _ k)
  obtain ⟨T9, h9, X9, e9, W9, st9⟩ := putF X7 hx hZ5 hown5 (host := "") (Or.inl (hw _ (List.mem_of_getElem? (i := 32) rfl))) Via.refl e7 (F_timePerVehicle_r0.ext E5) (E_r0.ext E5) (Or.inr ⟨(hw _ (List.mem_of_getElem? (i := 33) rfl)), rfl, hnm⟩) (hw _ (List.mem_of_getElem? (i := 3) rfl)) (ty := .double) (by decide) rfl rfl (g := (mkF m 11 #[.val (.ref r0), .val (.double (FP.l2d za)), .second, .val (.double (FP.l2d zb)), .second] [(.double (FP.l2d za)), (.ref r0)])) rfl rfl (hb hby d1_11)
  have fc10 := ((F_baseTime_r0.ext E5).other W9 (Or.inr (slot_ne (Or.inr (hw _ (List.mem_of_getElem? (i := 36) rfl))) (Or.inr (hw _ (List.mem_of_getElem? (i := 33) rfl))) (by decide) (t := .double) (t' := .double) (by decide) (by decide))))
  have N9 := Fr.snoc X9 N7 g_r0
  have Zs9 : n0 ≤ h9.size := Nat.le_trans Zs5 (Keep.of_wr W9).1
  have k11 : ∀ t, Steps p.tables e below (T9.setTop (mkF m 14 #[.val (.ref r0), .val (.double (FP.l2d za)), .second, .val (.double (FP.l2d zb)), .second] [])) t → Steps p.tables e below (s₁.setTop (entryFrame m #[(.ref r0), (.double (FP.l2d za)), (.double (FP.l2d zb))] 5)) t := fun t k => k8 t (st9 _ k)
  have k12 : ∀ t, Steps p.tables e below (T9.setTop (mkF m 16 #[.val (.ref r0), .val (.double (FP.l2d za)), .second, .val (.double (FP.l2d zb)), .second] [(.double (FP.l2d zb)), (.ref r0)])) t → Steps p.tables e below (s₁.setTop (entryFrame m #[(.ref r0), (.double (FP.l2d za)), (.double (FP.l2d zb))] 5)) t := fun t k => k11 t (by
      show Steps p.tables e below (T9.setTop (mkF m 14 #[.val (.ref r0), .val (.double (FP.l2d za)), .second, .val (.double (FP.l2d zb)), .second] [])) _
      refine XS.aloadN X9.here hx rfl (hb hby d1_14) rfl rfl ?_
      show Steps p.tables e below (T9.setTop (mkF m 15 #[.val (.ref r0), .val (.double (FP.l2d za)), .second, .val (.double (FP.l2d zb)), .second] [(.ref r0)])) _
      refine XS.dloadN X9.here hx rfl (hb hby d1_15) rfl ?_
      exact k)
  obtain ⟨a13, T13, h13, j13, X13, e13, E13, Sn13, jk13, hZ13, hown13, st13⟩ := ldcS (s := s) (vm0 := T5.vm) X9 hx hZ5 hown5 (hw _ (List.mem_of_getElem? (i := 34) rfl)) hsa e9 Sn5 (Nat.le_trans jk5 (Keep.of_wr W9).1) (g := (mkF m 16 #[.val (.ref r0), .val (.double (FP.l2d za)), .second, .val (.double (FP.l2d zb)), .second] [(.double (FP.l2d zb)), (.ref r0)])) rfl (hb hby d1_16) (n := 92) (by decide) (by decide) (by decide) (by decide)
  have Zs13 : n0 ≤ h13.size := Nat.le_trans Zs9 E13.1
  have k14 : ∀ t, Steps p.tables e below (T13.setTop (mkF m 18 #[.val (.ref r0), .val (.double (FP.l2d za)), .second, .val (.double (FP.l2d zb)), .second] [(.ref a13), (.double (FP.l2d zb)), (.ref r0)])) t → Steps p.tables e below (s₁.setTop (entryFrame m #[(.ref r0), (.double (FP.l2d za)), (.double (FP.l2d zb))] 5)) t := fun t k => k12 t (st13 _ k)
  obtain ⟨_, _, ⟨T15, L15, kq15, n15⟩, -, X15, ⟨Lc15, hQ15, l15, y15, z15⟩, st15⟩ := Jvm.LawKit.callS X13 hx (y := (⟨"com/example/backpressure/backpressure/model/NonNegative", "require", "(DLjava/lang/String;)D"⟩ : MethodName)) hown13 (mvT hZ13 (hw _ (List.mem_of_getElem? (i := 19) rfl))) (mvT hZ13 (hw _ (List.mem_of_getElem? (i := 20) rfl))) (mvT hZ13 (hw _ (List.mem_of_getElem? (i := 21) rfl))) (mvT hZ13 (hw _ (List.mem_of_getElem? (i := 22) rfl))) (by decide) (backOf (W := 1) (rm3 l Z a0 hw [] a13 zb h13 n0 Zs13 h0b h1b) hZ13 (hw _ (List.mem_of_getElem? (i := 22) rfl)) (hw _ (List.mem_of_getElem? (i := 21) rfl)) (by decide) (by decide)) (g := (mkF m 18 #[.val (.ref r0), .val (.double (FP.l2d za)), .second, .val (.double (FP.l2d zb)), .second] [(.ref a13), (.double (FP.l2d zb)), (.ref r0)])) rfl (by rw [hml]; rfl) (argsL := [(.double (FP.l2d zb)), (.ref a13)]) (rest := [(.ref r0)]) (lenOf pd_2 rfl) rfl (by show 2 * 0 + _ ≤ _; exact Nat.le_of_eq rfl) (hb hby d1_18) (fun _ _ => ⟨rfl, e13, (by decide : 4 + 0 ≤ _), (by decide : 220 + 0 ≤ _)⟩)
  dsimp only [Pt.U, Pt.locs, Pt.cells, Pt.slots] at X15 l15 y15 z15 st15 hQ15
  subst l15 y15 z15
  obtain ⟨rfl, N15q, e15⟩ := hQ15
  have N15 := Fr.app N9 N15q
  have k16 : ∀ t, Steps p.tables e below (T15.setTop (mkF m 21 #[.val (.ref r0), .val (.double (FP.l2d za)), .second, .val (.double (FP.l2d zb)), .second] [(.double (FP.l2d zb)), (.ref r0)])) t → Steps p.tables e below (s₁.setTop (entryFrame m #[(.ref r0), (.double (FP.l2d za)), (.double (FP.l2d zb))] 5)) t := fun t k => k14 t (st15 _ k)
  obtain ⟨T17, h17, X17, e17, W17, st17⟩ := putF X15 hx hZ13 hown13 (host := "") (Or.inl (hw _ (List.mem_of_getElem? (i := 35) rfl))) Via.refl e15 (fc10.ext E13) (((E_r0.ext E5).wr W9).ext E13) (Or.inr ⟨(hw _ (List.mem_of_getElem? (i := 36) rfl)), rfl, hnm⟩) (hw _ (List.mem_of_getElem? (i := 3) rfl)) (ty := .double) (by decide) rfl rfl (g := (mkF m 21 #[.val (.ref r0), .val (.double (FP.l2d za)), .second, .val (.double (FP.l2d zb)), .second] [(.double (FP.l2d zb)), (.ref r0)])) rfl rfl (hb hby d1_21)
  have fc18 := ((((F_timePerVehicle_r0.ext E5).same W9).ext E13).other W17 (Or.inr (slot_ne (Or.inr (hw _ (List.mem_of_getElem? (i := 33) rfl))) (Or.inr (hw _ (List.mem_of_getElem? (i := 36) rfl))) (by decide) (t := .double) (t' := .double) (by decide) (by decide))))
  have N17 := Fr.snoc X17 N15 g_r0
  have Zs17 : n0 ≤ h17.size := Nat.le_trans Zs13 (Keep.of_wr W17).1
  have k19 : ∀ t, Steps p.tables e below (T17.setTop (mkF m 24 #[.val (.ref r0), .val (.double (FP.l2d za)), .second, .val (.double (FP.l2d zb)), .second] [])) t → Steps p.tables e below (s₁.setTop (entryFrame m #[(.ref r0), (.double (FP.l2d za)), (.double (FP.l2d zb))] 5)) t := fun t k => k16 t (st17 _ k)
  obtain ⟨fs, hr, hrun, hended, w1, w2, w3, w4⟩ := X17.leaveW (s := s) (vm₁ := T13.vm) Sn13 (by rw [e17]; exact (Nat.le_trans jk13 (Keep.of_wr W17).1)) (v := none) (fun _ => rfl)
  refine ⟨_, _, k19 _ ?_, hrun, hended, _, _, rfl, ?_, w1, w2, w3, w4.mono (by decide) (by decide)⟩
  · exact X17.returnOut hx Bd.returns (hb hby d1_24) hr
  · show Q1 Z r0 za zb h0 n0 _ T17.heap _
    rw [e17]
    exact ⟨rfl, N17, (((((Keep.refl h0 [r0]).ext E5).wr W9 (Or.inl (List.mem_of_getElem? (i := 0) rfl))).ext E13).wr W17 (Or.inl (List.mem_of_getElem? (i := 0) rfl))), ((((E_r0.ext E5).wr W9).ext E13).wr W17), fc18, ((fc10.ext E13).same W17)⟩
theorem d6_0 : decode prog_11_method_4_code 0 = .ok (.aload_n 0, 1) := by decide +kernel
theorem d6_1 : decode prog_11_method_4_code 1 = .ok (.getfield 15, 3) := by decide +kernel
theorem d6_4 : decode prog_11_method_4_code 4 = .ok (.iload_n 1, 1) := by decide +kernel
theorem d6_5 : decode prog_11_method_4_code 5 = .ok (.i2d, 1) := by decide +kernel
theorem d6_6 : decode prog_11_method_4_code 6 = .ok (.dmul, 1) := by decide +kernel
theorem d6_7 : decode prog_11_method_4_code 7 = .ok (.aload_n 0, 1) := by decide +kernel
theorem d6_8 : decode prog_11_method_4_code 8 = .ok (.getfield 23, 3) := by decide +kernel
theorem d6_11 : decode prog_11_method_4_code 11 = .ok (.dadd, 1) := by decide +kernel
theorem d6_12 : decode prog_11_method_4_code 12 = .ok (.dreturn, 1) := by decide +kernel
theorem ef_6 (m : MethodId) (x0 : Addr) (x1 : Int32) : entryFrame m #[(.ref x0), (.int x1)] 2 = mkF m 0 #[.val (.ref x0), .val (.int x1)] [] := by first | (simp [entryFrame, mkF, argsToLocals, Value.category]; done) | rfl
def Q6 (Z : State) (r0 : Addr) (p1 : Int32) (za : Int64) (zb : Int64) (h0 : Heap) (n0 : Nat) (v : Option Value) (h : Heap) (L : List Loc) : Prop := v = some (.double (FP.l2d (za * p1.toInt64 + zb))) ∧ Fr n0 L ∧ h = h0
set_option maxRecDepth 65536 in
set_option maxHeartbeats 40000000 in
theorem rm6 (l : Launch) (Z : State) (a0 : Array Value) (hw : ∀ d ∈ tables_1, d.before a0 Z = true) (ws : List Jvm.Cond) (r0 : Addr) (p1 : Int32) (za : Int64) (zb : Int64) (h0 : Heap) (n0 : Nat) (Z0 : n0 ≤ h0.size) (F_timePerVehicle_r0 : Fld Z h0 r0 "com/example/backpressure/backpressure/model/CandidateRoad" "timePerVehicle" "D" (.double (FP.l2d za))) (F_baseTime_r0 : Fld Z h0 r0 "com/example/backpressure/backpressure/model/CandidateRoad" "baseTime" "D" (.double (FP.l2d zb))) (h0a : 0 ≤ za.toInt) (h1a : za.toInt < 1048576) (h0b : 0 ≤ zb.toInt) (h1b : zb.toInt < 2147483648) :
    MetFree l (⟨"com/example/backpressure/backpressure/model/CandidateRoad", "predictedTime", "(I)D"⟩ : MethodName) (head1 (Jvm.Cond.code (⟨"com/example/backpressure/backpressure/model/CandidateRoad", "predictedTime", "(I)D"⟩ : MethodName) prog_11_method_4_code 2 (some .double) :: ws) ({ frames := 0, cells := 0, slots := 0, locals := 0 } : Room)) (fun a U => a = #[(.ref r0), (.int p1)] ∧ Z.Warmed39 U.vm ∧ U.heap = h0) (fun _ _ _ _ _ => True) (fun _ U o U' => ∃ v L, o = .returned v ∧ Q6 Z r0 p1 za zb h0 n0 v U'.heap L ∧ FrameEnd U o U' L ({ frames := 0, cells := 0, slots := 0, locals := 0 } : Room).cells ({ frames := 0, cells := 0, slots := 0, locals := 0 } : Room).slots) := by
  refine MetFree.of_bodySF (plainFor_of_name pn_2) hisR ?_
  intro p e s m args below meth c s₁ Bd hml0 hP hK
  obtain ⟨rfl, hZ, hh⟩ := hP
  have hx := Bd.exec
  have hby := Bd.bytes
  have hml : c.maxLocals = 2 := hml0
  have hown : s.vm.findClass "com/example/backpressure/backpressure/model/CandidateRoad" = some m.cls := findClass_of_methodNamed Bd.named
  have hnm := (name_of_methodNamed Bd.named Bd.method).1
  have X0 : Stand p l e ({ frames := 0, cells := 0, slots := 0, locals := 0 } : Room) s m #[(.ref r0), (.int p1)] below meth c s₁ [] 0 0 := Stand.of_body Bd
  have e0 : s₁.heap = h0 := by rw [← hh, Bd.state]; rfl
  have N0 := Fr.nil n0
  have k0 : ∀ t, Steps p.tables e below (s₁.setTop (mkF m 0 #[.val (.ref r0), .val (.int p1)] [])) t → Steps p.tables e below (s₁.setTop (entryFrame m #[(.ref r0), (.int p1)] 2)) t := fun t k => castTop (ef_6 m r0 p1) k
  have k1 : ∀ t, Steps p.tables e below (s₁.setTop (mkF m 1 #[.val (.ref r0), .val (.int p1)] [(.ref r0)])) t → Steps p.tables e below (s₁.setTop (entryFrame m #[(.ref r0), (.int p1)] 2)) t := fun t k => k0 t (by
      show Steps p.tables e below (s₁.setTop (mkF m 0 #[.val (.ref r0), .val (.int p1)] [])) _
      refine XS.aloadN X0.here hx rfl (hb hby d6_0) rfl rfl ?_
      exact k)
  obtain ⟨T2, X2, e2, st2⟩ := getF X0 hx hZ hown (host := "") (Or.inl (hw _ (List.mem_of_getElem? (i := 32) rfl))) Via.refl e0 F_timePerVehicle_r0 (g := (mkF m 1 #[.val (.ref r0), .val (.int p1)] [(.ref r0)])) rfl rfl (hb hby d6_1)
  have k3 : ∀ t, Steps p.tables e below (T2.setTop (mkF m 4 #[.val (.ref r0), .val (.int p1)] [(.double (FP.l2d za))])) t → Steps p.tables e below (s₁.setTop (entryFrame m #[(.ref r0), (.int p1)] 2)) t := fun t k => k1 t (st2 _ k)
  have k4 : ∀ t, Steps p.tables e below (T2.setTop (mkF m 8 #[.val (.ref r0), .val (.int p1)] [(.ref r0), (.double (FP.dmul (FP.l2d za) (FP.l2d p1.toInt64)))])) t → Steps p.tables e below (s₁.setTop (entryFrame m #[(.ref r0), (.int p1)] 2)) t := fun t k => k3 t (by
      show Steps p.tables e below (T2.setTop (mkF m 4 #[.val (.ref r0), .val (.int p1)] [(.double (FP.l2d za))])) _
      refine XS.iloadN X2.here hx rfl (hb hby d6_4) rfl ?_
      show Steps p.tables e below (T2.setTop (mkF m 5 #[.val (.ref r0), .val (.int p1)] [(.int p1), (.double (FP.l2d za))])) _
      refine XS.i2dS X2.here hx rfl (hb hby d6_5) rfl (i2d_w _) ?_
      show Steps p.tables e below (T2.setTop (mkF m 6 #[.val (.ref r0), .val (.int p1)] [(.double (FP.l2d p1.toInt64)), (.double (FP.l2d za))])) _
      refine XS.dmulS X2.here hx rfl (hb hby d6_6) rfl (own_nan1 _ _) rfl ?_
      show Steps p.tables e below (T2.setTop (mkF m 7 #[.val (.ref r0), .val (.int p1)] [(.double (FP.dmul (FP.l2d za) (FP.l2d p1.toInt64)))])) _
      refine XS.aloadN X2.here hx rfl (hb hby d6_7) rfl rfl ?_
      exact k)
  obtain ⟨T5, X5, e5, st5⟩ := getF X2 hx hZ hown (host := "") (Or.inl (hw _ (List.mem_of_getElem? (i := 35) rfl))) Via.refl e2 F_baseTime_r0 (g := (mkF m 8 #[.val (.ref r0), .val (.int p1)] [(.ref r0), (.double (FP.dmul (FP.l2d za) (FP.l2d p1.toInt64)))])) rfl rfl (hb hby d6_8)
  have k6 : ∀ t, Steps p.tables e below (T5.setTop (mkF m 11 #[.val (.ref r0), .val (.int p1)] [(.double (FP.l2d zb)), (.double (FP.dmul (FP.l2d za) (FP.l2d p1.toInt64)))])) t → Steps p.tables e below (s₁.setTop (entryFrame m #[(.ref r0), (.int p1)] 2)) t := fun t k => k4 t (st5 _ k)
  have k7 : ∀ t, Steps p.tables e below (T5.setTop (mkF m 12 #[.val (.ref r0), .val (.int p1)] [(.double (FP.l2d (za * p1.toInt64 + zb)))])) t → Steps p.tables e below (s₁.setTop (entryFrame m #[(.ref r0), (.int p1)] 2)) t := fun t k => k6 t (by
      show Steps p.tables e below (T5.setTop (mkF m 11 #[.val (.ref r0), .val (.int p1)] [(.double (FP.l2d zb)), (.double (FP.dmul (FP.l2d za) (FP.l2d p1.toInt64)))])) _
      refine XS.daddS X5.here hx rfl (hb hby d6_11) rfl (by rw [(own_sum h0a h1a (own_v_r p1).1 (own_v_r p1).2 h0b h1b)]; exact (l2d_fin _).noNaN) (own_sum h0a h1a (own_v_r p1).1 (own_v_r p1).2 h0b h1b) ?_
      exact k)
  obtain ⟨fs, hr, hrun, hended, hW, hsame⟩ := X5.leave (v := (some (.double (FP.l2d (za * p1.toInt64 + zb))))) (fun h => by rw [Bd.returns] at h; cases h)
  refine ⟨_, _, k7 _ ?_, hrun, hended, _, _, rfl, ?_, ⟨_, rfl⟩, hW, hsame.mono (by decide) (by decide)⟩
  · exact retOut X5 hx Bd.returns rfl (Or.inr (Or.inr (Or.inl ⟨rfl, rfl, _, rfl⟩))) (hb hby d6_12) hr
  · show Q6 Z r0 p1 za zb h0 n0 _ T5.heap _
    rw [e5]
    exact ⟨rfl, N0, rfl⟩
theorem ef_0 (m : MethodId) (x0 : Int32) (x1 : Int32) (x2 : Int32) : entryFrame m #[(.int x0), (.int x1), (.int x2)] maxLocals = mkF m 0 #[.val (.int x0), .val (.int x1), .val (.int x2), .unset, .unset, .unset, .unset, .unset] [] := by first | (simp [entryFrame, mkF, argsToLocals, Value.category, maxLocals]; done) | rfl
theorem pn_3 : plainName "com/example/backpressure/backpressure/model/CandidateRoadPredictedTimePinLaw" = true := by first | (simp [plainName, overriddenIn]; done) | decide +kernel
theorem pd_3 : parseMethodDescriptor "(DD)V" = some ⟨[.double, .double], none⟩ := by decide +kernel
theorem pd_4 : parseMethodDescriptor "(I)D" = some ⟨[.int], some .double⟩ := by decide +kernel
def Q0 (Z : State) (p0 : Int32) (p1 : Int32) (p2 : Int32) (h0 : Heap) (n0 : Nat) (v : Option Value) (h : Heap) (L : List Loc) : Prop := v = some (.int (1 : Int32)) ∧ Fr n0 L
set_option maxRecDepth 65536 in
set_option maxHeartbeats 40000000 in
theorem rm0 (l : Launch) (Z : State) (a0 : Array Value) (hw : ∀ d ∈ tables_1, d.before a0 Z = true) (ws : List Jvm.Cond) (p0 : Int32) (p1 : Int32) (p2 : Int32) (h0 : Heap) (n0 : Nat) (Z0 : n0 ≤ h0.size) :
    MetFree l x (head1 (Jvm.Cond.code x code maxLocals ret :: ws) room_1) (fun a U => a = #[(.int p0), (.int p1), (.int p2)] ∧ Z.Warmed39 U.vm ∧ U.heap = h0) (fun _ _ _ _ _ => True) (fun _ U o U' => ∃ v L, o = .returned v ∧ Q0 Z p0 p1 p2 h0 n0 v U'.heap L ∧ ReturnedEndW U o U' L 5 222) := by
  refine MetFree.of_bodySF (plainFor_of_name pn_3) hisR ?_
  intro p e s m args below meth c s₁ Bd hml0 hP hK
  obtain ⟨rfl, hZ, hh⟩ := hP
  have hx := Bd.exec
  have hby := Bd.bytes
  have hml : c.maxLocals = 8 := hml0
  have hown : s.vm.findClass "com/example/backpressure/backpressure/model/CandidateRoadPredictedTimePinLaw" = some m.cls := findClass_of_methodNamed Bd.named
  have hnm := (name_of_methodNamed Bd.named Bd.method).1
  have X0 : Stand p l e room_1 s m #[(.int p0), (.int p1), (.int p2)] below meth c s₁ [] 0 0 := Stand.of_body Bd
  have e0 : s₁.heap = h0 := by rw [← hh, Bd.state]; rfl
  have N0 := Fr.nil n0
  have k0 : ∀ t, Steps p.tables e below (s₁.setTop (mkF m 0 #[.val (.int p0), .val (.int p1), .val (.int p2), .unset, .unset, .unset, .unset, .unset] [])) t → Steps p.tables e below (s₁.setTop (entryFrame m #[(.int p0), (.int p1), (.int p2)] maxLocals)) t := fun t k => castTop (ef_0 m p0 p1 p2) k
  have hA := own_a_r p0
  have hB := own_b_r p1
  have k1 : ∀ t, Steps p.tables e below (s₁.setTop (mkF m 11 #[.val (.int p0), .val (.int p1), .val (.int p2), .val (.int (own_a p0)), .val (.int (own_b p1)), .unset, .unset, .unset] [])) t → Steps p.tables e below (s₁.setTop (entryFrame m #[(.int p0), (.int p1), (.int p2)] maxLocals)) t := fun t k => k0 t (by
      show Steps p.tables e below (s₁.setTop (mkF m 0 #[.val (.int p0), .val (.int p1), .val (.int p2), .unset, .unset, .unset, .unset, .unset] [])) _
      refine XS.iloadN X0.here hx rfl (hb hby at_0) rfl ?_
      show Steps p.tables e below (s₁.setTop (mkF m 1 #[.val (.int p0), .val (.int p1), .val (.int p2), .unset, .unset, .unset, .unset, .unset] [(.int p0)])) _
      refine X0.ldcInt hx hown (mvT hZ (hw _ (List.mem_of_getElem? (i := 0) rfl))) (g := (mkF m 1 #[.val (.int p0), .val (.int p1), .val (.int p2), .unset, .unset, .unset, .unset, .unset] [(.int p0)])) rfl (hb hby at_1) _ ?_
      show Steps p.tables e below (s₁.setTop (mkF m 3 #[.val (.int p0), .val (.int p1), .val (.int p2), .unset, .unset, .unset, .unset, .unset] [(.int (1048575 : Int32)), (.int p0)])) _
      refine XS.iand X0.here hx rfl (hb hby at_3) rfl ?_
      show Steps p.tables e below (s₁.setTop (mkF m 4 #[.val (.int p0), .val (.int p1), .val (.int p2), .unset, .unset, .unset, .unset, .unset] [(.int (own_a p0))])) _
      refine XS.istoreN X0.here hx rfl (hb hby at_4) rfl (l' := #[.val (.int p0), .val (.int p1), .val (.int p2), .val (.int (own_a p0)), .unset, .unset, .unset, .unset]) rfl ?_
      show Steps p.tables e below (s₁.setTop (mkF m 5 #[.val (.int p0), .val (.int p1), .val (.int p2), .val (.int (own_a p0)), .unset, .unset, .unset, .unset] [])) _
      refine XS.iloadN X0.here hx rfl (hb hby at_5) rfl ?_
      show Steps p.tables e below (s₁.setTop (mkF m 6 #[.val (.int p0), .val (.int p1), .val (.int p2), .val (.int (own_a p0)), .unset, .unset, .unset, .unset] [(.int p1)])) _
      refine X0.ldcInt hx hown (mvT hZ (hw _ (List.mem_of_getElem? (i := 1) rfl))) (g := (mkF m 6 #[.val (.int p0), .val (.int p1), .val (.int p2), .val (.int (own_a p0)), .unset, .unset, .unset, .unset] [(.int p1)])) rfl (hb hby at_6) _ ?_
      show Steps p.tables e below (s₁.setTop (mkF m 8 #[.val (.int p0), .val (.int p1), .val (.int p2), .val (.int (own_a p0)), .unset, .unset, .unset, .unset] [(.int (2147483647 : Int32)), (.int p1)])) _
      refine XS.iand X0.here hx rfl (hb hby at_8) rfl ?_
      show Steps p.tables e below (s₁.setTop (mkF m 9 #[.val (.int p0), .val (.int p1), .val (.int p2), .val (.int (own_a p0)), .unset, .unset, .unset, .unset] [(.int (own_b p1))])) _
      refine XS.istore X0.here hx rfl (hb hby at_9) rfl (l' := #[.val (.int p0), .val (.int p1), .val (.int p2), .val (.int (own_a p0)), .val (.int (own_b p1)), .unset, .unset, .unset]) rfl ?_
      exact k)
  obtain ⟨T2, h2, X2, e2, E2, A2, D2, -, st2⟩ := newO X0 hx hZ hown (hw _ (List.mem_of_getElem? (i := 2) rfl)) (hw _ (List.mem_of_getElem? (i := 3) rfl)) (hw _ (List.mem_of_getElem? (i := 4) rfl)) e0 (g := (mkF m 11 #[.val (.int p0), .val (.int p1), .val (.int p2), .val (.int (own_a p0)), .val (.int (own_b p1)), .unset, .unset, .unset] [])) rfl (hb hby at_11) (by decide) (by decide)
  obtain ⟨b2, g2⟩ : ∃ z, z = h0.size := ⟨_, rfl⟩
  rw [← g2] at A2 D2 st2
  have F_timePerVehicle_b2 : Fld Z h2 b2 "com/example/backpressure/backpressure/model/CandidateRoad" "timePerVehicle" "D" (.double 0) := D2 (Or.inr (hw _ (List.mem_of_getElem? (i := 33) rfl))) (ty := .double) (by decide)
  have F_baseTime_b2 : Fld Z h2 b2 "com/example/backpressure/backpressure/model/CandidateRoad" "baseTime" "D" (.double 0) := D2 (Or.inr (hw _ (List.mem_of_getElem? (i := 36) rfl))) (ty := .double) (by decide)
  have g_b2 : n0 ≤ b2 := Nat.le_trans Z0 (Nat.le_of_eq g2.symm)
  have Zs2 : n0 ≤ h2.size := Nat.le_trans Z0 E2.1
  have k3 : ∀ t, Steps p.tables e below (T2.setTop (mkF m 14 #[.val (.int p0), .val (.int p1), .val (.int p2), .val (.int (own_a p0)), .val (.int (own_b p1)), .unset, .unset, .unset] [(.ref b2)])) t → Steps p.tables e below (s₁.setTop (entryFrame m #[(.int p0), (.int p1), (.int p2)] maxLocals)) t := fun t k => k1 t (st2 _ k)
  have k4 : ∀ t, Steps p.tables e below (T2.setTop (mkF m 20 #[.val (.int p0), .val (.int p1), .val (.int p2), .val (.int (own_a p0)), .val (.int (own_b p1)), .unset, .unset, .unset] [(.double (FP.l2d (own_b p1).toInt64)), (.double (FP.l2d (own_a p0).toInt64)), (.ref b2), (.ref b2)])) t → Steps p.tables e below (s₁.setTop (entryFrame m #[(.int p0), (.int p1), (.int p2)] maxLocals)) t := fun t k => k3 t (by
      show Steps p.tables e below (T2.setTop (mkF m 14 #[.val (.int p0), .val (.int p1), .val (.int p2), .val (.int (own_a p0)), .val (.int (own_b p1)), .unset, .unset, .unset] [(.ref b2)])) _
      refine XS.dup X2.here hx rfl (hb hby at_14) rfl rfl ?_
      show Steps p.tables e below (T2.setTop (mkF m 15 #[.val (.int p0), .val (.int p1), .val (.int p2), .val (.int (own_a p0)), .val (.int (own_b p1)), .unset, .unset, .unset] [(.ref b2), (.ref b2)])) _
      refine XS.iloadN X2.here hx rfl (hb hby at_15) rfl ?_
      show Steps p.tables e below (T2.setTop (mkF m 16 #[.val (.int p0), .val (.int p1), .val (.int p2), .val (.int (own_a p0)), .val (.int (own_b p1)), .unset, .unset, .unset] [(.int (own_a p0)), (.ref b2), (.ref b2)])) _
      refine XS.i2dS X2.here hx rfl (hb hby at_16) rfl (i2d_w _) ?_
      show Steps p.tables e below (T2.setTop (mkF m 17 #[.val (.int p0), .val (.int p1), .val (.int p2), .val (.int (own_a p0)), .val (.int (own_b p1)), .unset, .unset, .unset] [(.double (FP.l2d (own_a p0).toInt64)), (.ref b2), (.ref b2)])) _
      refine XS.iload X2.here hx rfl (hb hby at_17) rfl ?_
      show Steps p.tables e below (T2.setTop (mkF m 19 #[.val (.int p0), .val (.int p1), .val (.int p2), .val (.int (own_a p0)), .val (.int (own_b p1)), .unset, .unset, .unset] [(.int (own_b p1)), (.double (FP.l2d (own_a p0).toInt64)), (.ref b2), (.ref b2)])) _
      refine XS.i2dS X2.here hx rfl (hb hby at_19) rfl (i2d_w _) ?_
      exact k)
  obtain ⟨_, _, ⟨T5, L5, kq5, n5⟩, -, X5, Sc5, gr5, ⟨Lc5, hQ5, l5, y5, z5⟩, st5⟩ := X2.specialBackS hx (y := (⟨"com/example/backpressure/backpressure/model/CandidateRoad", "<init>", "(DD)V"⟩ : MethodName)) rfl hown (mvT hZ (hw _ (List.mem_of_getElem? (i := 5) rfl))) (mvT hZ (hw _ (List.mem_of_getElem? (i := 6) rfl))) (mvT hZ (hw _ (List.mem_of_getElem? (i := 7) rfl))) (by decide) (backOfS (W := 1) (rm1 l Z a0 hw [] b2 (own_a p0).toInt64 (own_b p1).toInt64 h2 n0 Zs2 F_timePerVehicle_b2 F_baseTime_b2 A2 g_b2 hA.1 (Int.lt_trans hA.2 (by decide)) hB.1 hB.2) hZ (hw _ (List.mem_of_getElem? (i := 7) rfl)) (hw _ (List.mem_of_getElem? (i := 4) rfl)) (by decide) (by decide)) (g := (mkF m 20 #[.val (.int p0), .val (.int p1), .val (.int p2), .val (.int (own_a p0)), .val (.int (own_b p1)), .unset, .unset, .unset] [(.double (FP.l2d (own_b p1).toInt64)), (.double (FP.l2d (own_a p0).toInt64)), (.ref b2), (.ref b2)])) rfl (by rw [hml]; rfl) (Steps.refl _) (a := b2) (argsL := [(.double (FP.l2d (own_a p0).toInt64)), (.double (FP.l2d (own_b p1).toInt64))]) (rest := [(.ref b2)]) (lenOf pd_3 rfl) rfl (by show 2 * 0 + _ ≤ _; exact Nat.le_of_eq rfl) (hb hby at_20) (fun _ _ => ⟨rfl, e2, (by decide : 1 + 4 ≤ _), (by decide : 2 + 220 ≤ _)⟩)
  dsimp only [Pt.U, Pt.locs, Pt.cells, Pt.slots] at Sc5 gr5
  dsimp only [Pt.U, Pt.locs, Pt.cells, Pt.slots] at X5 l5 y5 z5 st5 hQ5
  subst l5 y5 z5
  obtain ⟨rfl, N5q, K5, Ex5, Fx5_0, Fx5_1⟩ := hQ5
  have N5 := Fr.app N0 N5q
  have Zs5 : n0 ≤ T5.heap.size := Nat.le_trans Zs2 K5.1
  have hZ5 : Z.Warmed39 (s.setVm T5.vm).vm := State.Warmed39.trans (t := s.setVm s.vm) hZ Sc5.1
  have hown5 : (s.setVm T5.vm).vm.findClass "com/example/backpressure/backpressure/model/CandidateRoadPredictedTimePinLaw" = some m.cls := by rw [show (s.setVm T5.vm).vm = T5.vm from rfl, Sc5.1.alike.findClass]; exact hown
  have Sn5 : s.Since T5.vm T5.heap.size := foldS (vm0 := s.vm) ((State.WarmedH.refl s).since h0.size) (by rw [e2]; exact (Nat.le_trans (Nat.le_refl h0.size) E2.1)) Sc5 gr5
  have k6 : ∀ t, Steps p.tables e below (T5.setTop (mkF m 23 #[.val (.int p0), .val (.int p1), .val (.int p2), .val (.int (own_a p0)), .val (.int (own_b p1)), .unset, .unset, .unset] [(.ref b2)])) t → Steps p.tables e below (s₁.setTop (entryFrame m #[(.int p0), (.int p1), (.int p2)] maxLocals)) t := fun t k => k4 t (st5.trans k)
  have k7 : ∀ t, Steps p.tables e below (T5.setTop (mkF m 39 #[.val (.int p0), .val (.int p1), .val (.int p2), .val (.int (own_a p0)), .val (.int (own_b p1)), .val (.ref b2), .val (.long ((own_a p0).toInt64 * p2.toInt64 + (own_b p1).toInt64)), .second] [(.int p2), (.ref b2)])) t → Steps p.tables e below (s₁.setTop (entryFrame m #[(.int p0), (.int p1), (.int p2)] maxLocals)) t := fun t k => k6 t (by
      show Steps p.tables e below (T5.setTop (mkF m 23 #[.val (.int p0), .val (.int p1), .val (.int p2), .val (.int (own_a p0)), .val (.int (own_b p1)), .unset, .unset, .unset] [(.ref b2)])) _
      refine XS.astore X5.here hx rfl (hb hby at_23) rfl rfl (l' := #[.val (.int p0), .val (.int p1), .val (.int p2), .val (.int (own_a p0)), .val (.int (own_b p1)), .val (.ref b2), .unset, .unset]) rfl ?_
      show Steps p.tables e below (T5.setTop (mkF m 25 #[.val (.int p0), .val (.int p1), .val (.int p2), .val (.int (own_a p0)), .val (.int (own_b p1)), .val (.ref b2), .unset, .unset] [])) _
      refine XS.iloadN X5.here hx rfl (hb hby at_25) rfl ?_
      show Steps p.tables e below (T5.setTop (mkF m 26 #[.val (.int p0), .val (.int p1), .val (.int p2), .val (.int (own_a p0)), .val (.int (own_b p1)), .val (.ref b2), .unset, .unset] [(.int (own_a p0))])) _
      refine XS.i2l X5.here hx rfl (hb hby at_26) rfl ?_
      show Steps p.tables e below (T5.setTop (mkF m 27 #[.val (.int p0), .val (.int p1), .val (.int p2), .val (.int (own_a p0)), .val (.int (own_b p1)), .val (.ref b2), .unset, .unset] [(.long ((own_a p0).toInt64))])) _
      refine XS.iloadN X5.here hx rfl (hb hby at_27) rfl ?_
      show Steps p.tables e below (T5.setTop (mkF m 28 #[.val (.int p0), .val (.int p1), .val (.int p2), .val (.int (own_a p0)), .val (.int (own_b p1)), .val (.ref b2), .unset, .unset] [(.int p2), (.long ((own_a p0).toInt64))])) _
      refine XS.i2l X5.here hx rfl (hb hby at_28) rfl ?_
      show Steps p.tables e below (T5.setTop (mkF m 29 #[.val (.int p0), .val (.int p1), .val (.int p2), .val (.int (own_a p0)), .val (.int (own_b p1)), .val (.ref b2), .unset, .unset] [(.long (p2.toInt64)), (.long ((own_a p0).toInt64))])) _
      refine XS.lmul X5.here hx rfl (hb hby at_29) rfl ?_
      show Steps p.tables e below (T5.setTop (mkF m 30 #[.val (.int p0), .val (.int p1), .val (.int p2), .val (.int (own_a p0)), .val (.int (own_b p1)), .val (.ref b2), .unset, .unset] [(.long (((own_a p0).toInt64) * (p2.toInt64)))])) _
      refine XS.iload X5.here hx rfl (hb hby at_30) rfl ?_
      show Steps p.tables e below (T5.setTop (mkF m 32 #[.val (.int p0), .val (.int p1), .val (.int p2), .val (.int (own_a p0)), .val (.int (own_b p1)), .val (.ref b2), .unset, .unset] [(.int (own_b p1)), (.long (((own_a p0).toInt64) * (p2.toInt64)))])) _
      refine XS.i2l X5.here hx rfl (hb hby at_32) rfl ?_
      show Steps p.tables e below (T5.setTop (mkF m 33 #[.val (.int p0), .val (.int p1), .val (.int p2), .val (.int (own_a p0)), .val (.int (own_b p1)), .val (.ref b2), .unset, .unset] [(.long ((own_b p1).toInt64)), (.long (((own_a p0).toInt64) * (p2.toInt64)))])) _
      refine XS.ladd X5.here hx rfl (hb hby at_33) rfl ?_
      show Steps p.tables e below (T5.setTop (mkF m 34 #[.val (.int p0), .val (.int p1), .val (.int p2), .val (.int (own_a p0)), .val (.int (own_b p1)), .val (.ref b2), .unset, .unset] [(.long ((own_a p0).toInt64 * p2.toInt64 + (own_b p1).toInt64))])) _
      refine XS.lstore X5.here hx rfl (hb hby at_34) rfl (l' := #[.val (.int p0), .val (.int p1), .val (.int p2), .val (.int (own_a p0)), .val (.int (own_b p1)), .val (.ref b2), .val (.long ((own_a p0).toInt64 * p2.toInt64 + (own_b p1).toInt64)), .second]) rfl ?_
      show Steps p.tables e below (T5.setTop (mkF m 36 #[.val (.int p0), .val (.int p1), .val (.int p2), .val (.int (own_a p0)), .val (.int (own_b p1)), .val (.ref b2), .val (.long ((own_a p0).toInt64 * p2.toInt64 + (own_b p1).toInt64)), .second] [])) _
      refine XS.aload X5.here hx rfl (hb hby at_36) rfl rfl ?_
      show Steps p.tables e below (T5.setTop (mkF m 38 #[.val (.int p0), .val (.int p1), .val (.int p2), .val (.int (own_a p0)), .val (.int (own_b p1)), .val (.ref b2), .val (.long ((own_a p0).toInt64 * p2.toInt64 + (own_b p1).toInt64)), .second] [(.ref b2)])) _
      refine XS.iloadN X5.here hx rfl (hb hby at_38) rfl ?_
      exact k)
  obtain ⟨cq8, kcq8, q8a, q8b, q8c⟩ := isOf hZ5 rfl Ex5
  obtain ⟨_, _, ⟨T8, L8, kq8, n8⟩, -, X8, ⟨Lc8, hQ8, l8, y8, z8⟩, st8⟩ := X5.virtualBack hx (y := (⟨"com/example/backpressure/backpressure/model/CandidateRoad", "predictedTime", "(I)D"⟩ : MethodName)) (z := (⟨"com/example/backpressure/backpressure/model/CandidateRoad", "predictedTime", "(I)D"⟩ : MethodName)) hown5 (mvT hZ5 (hw _ (List.mem_of_getElem? (i := 37) rfl))) (mvT hZ5 (hw _ (List.mem_of_getElem? (i := 38) rfl))) (notFace_of_selects (args := #[]) (mvT hZ5 (hw _ (List.mem_of_getElem? (i := 40) rfl)))) (mvT hZ5 (hw _ (List.mem_of_getElem? (i := 40) rfl))) (mvT hZ5 (hw _ (List.mem_of_getElem? (i := 39) rfl))) (by decide) (backOf (W := 0) (rm6 l Z a0 hw [] b2 p2 (own_a p0).toInt64 (own_b p1).toInt64 T5.heap n0 Zs5 Fx5_0 Fx5_1 hA.1 hA.2 hB.1 hB.2) hZ5 (hw _ (List.mem_of_getElem? (i := 41) rfl)) (hw _ (List.mem_of_getElem? (i := 4) rfl)) (by decide) (by decide)) q8a q8c (g := (mkF m 39 #[.val (.int p0), .val (.int p1), .val (.int p2), .val (.int (own_a p0)), .val (.int (own_b p1)), .val (.ref b2), .val (.long ((own_a p0).toInt64 * p2.toInt64 + (own_b p1).toInt64)), .second] [(.int p2), (.ref b2)])) rfl (by rw [hml]; rfl) (Steps.refl _) (argsL := [(.int p2)]) (rest := []) (lenOf pd_4 rfl) rfl (by show 2 * 0 + _ ≤ _; exact Nat.le_of_eq rfl) (hb hby at_39) (fun _ _ => ⟨rfl, rfl, (by decide : 5 + 0 ≤ _), (by decide : 222 + 0 ≤ _)⟩)
  dsimp only [Pt.U, Pt.locs, Pt.cells, Pt.slots] at X8 l8 y8 z8 st8 hQ8
  subst l8 y8 z8
  obtain ⟨rfl, N8q, e8⟩ := hQ8
  have N8 := Fr.app N5 N8q
  have k9 : ∀ t, Steps p.tables e below (T8.setTop (mkF m 42 #[.val (.int p0), .val (.int p1), .val (.int p2), .val (.int (own_a p0)), .val (.int (own_b p1)), .val (.ref b2), .val (.long ((own_a p0).toInt64 * p2.toInt64 + (own_b p1).toInt64)), .second] [(.double (FP.l2d ((own_a p0).toInt64 * p2.toInt64 + (own_b p1).toInt64)))])) t → Steps p.tables e below (s₁.setTop (entryFrame m #[(.int p0), (.int p1), (.int p2)] maxLocals)) t := fun t k => k7 t (st8.trans k)
  have hc46 : (0 : Int32) = (0 : Int32) := by decide
  have k10 : ∀ t, Steps p.tables e below (T8.setTop (mkF m 54 #[.val (.int p0), .val (.int p1), .val (.int p2), .val (.int (own_a p0)), .val (.int (own_b p1)), .val (.ref b2), .val (.long ((own_a p0).toInt64 * p2.toInt64 + (own_b p1).toInt64)), .second] [(.int (1 : Int32))])) t → Steps p.tables e below (s₁.setTop (entryFrame m #[(.int p0), (.int p1), (.int p2)] maxLocals)) t := fun t k => k9 t (by
      show Steps p.tables e below (T8.setTop (mkF m 42 #[.val (.int p0), .val (.int p1), .val (.int p2), .val (.int (own_a p0)), .val (.int (own_b p1)), .val (.ref b2), .val (.long ((own_a p0).toInt64 * p2.toInt64 + (own_b p1).toInt64)), .second] [(.double (FP.l2d ((own_a p0).toInt64 * p2.toInt64 + (own_b p1).toInt64)))])) _
      refine XS.lload X8.here hx rfl (hb hby at_42) rfl ?_
      show Steps p.tables e below (T8.setTop (mkF m 44 #[.val (.int p0), .val (.int p1), .val (.int p2), .val (.int (own_a p0)), .val (.int (own_b p1)), .val (.ref b2), .val (.long ((own_a p0).toInt64 * p2.toInt64 + (own_b p1).toInt64)), .second] [(.long ((own_a p0).toInt64 * p2.toInt64 + (own_b p1).toInt64)), (.double (FP.l2d ((own_a p0).toInt64 * p2.toInt64 + (own_b p1).toInt64)))])) _
      refine XS.l2dS X8.here hx rfl (hb hby at_44) rfl rfl ?_
      show Steps p.tables e below (T8.setTop (mkF m 45 #[.val (.int p0), .val (.int p1), .val (.int p2), .val (.int (own_a p0)), .val (.int (own_b p1)), .val (.ref b2), .val (.long ((own_a p0).toInt64 * p2.toInt64 + (own_b p1).toInt64)), .second] [(.double (FP.l2d ((own_a p0).toInt64 * p2.toInt64 + (own_b p1).toInt64))), (.double (FP.l2d ((own_a p0).toInt64 * p2.toInt64 + (own_b p1).toInt64)))])) _
      refine XS.dcmpS X8.here hx rfl (hb hby at_45) rfl (dcmpV_self (l2d_fin _).noNaN .l) ?_
      show Steps p.tables e below (T8.setTop (mkF m 46 #[.val (.int p0), .val (.int p1), .val (.int p2), .val (.int (own_a p0)), .val (.int (own_b p1)), .val (.ref b2), .val (.long ((own_a p0).toInt64 * p2.toInt64 + (own_b p1).toInt64)), .second] [(.int (0 : Int32))])) _
      refine XS.ifNo X8.here hx rfl (hb hby at_46) rfl ((if0 _ _).trans (teq hc46).2) ?_
      show Steps p.tables e below (T8.setTop (mkF m 49 #[.val (.int p0), .val (.int p1), .val (.int p2), .val (.int (own_a p0)), .val (.int (own_b p1)), .val (.ref b2), .val (.long ((own_a p0).toInt64 * p2.toInt64 + (own_b p1).toInt64)), .second] [])) _
      refine XS.iconst X8.here hx rfl (hb hby at_49) ?_
      show Steps p.tables e below (T8.setTop (mkF m 50 #[.val (.int p0), .val (.int p1), .val (.int p2), .val (.int (own_a p0)), .val (.int (own_b p1)), .val (.ref b2), .val (.long ((own_a p0).toInt64 * p2.toInt64 + (own_b p1).toInt64)), .second] [(.int (1 : Int32))])) _
      refine XS.goto X8.here hx rfl (pc0 := 50) (pc' := 54) rfl (hb hby at_50) (by decide) (by decide) ?_
      exact k)
  obtain ⟨fs, hr, hrun, hended, w1, w2, w3, w4⟩ := X8.leaveW (s := s) (vm₁ := T5.vm) Sn5 (by rw [e8]; exact (Nat.le_refl _)) (v := (some (.int (1 : Int32)))) (fun h => by rw [Bd.returns] at h; cases h)
  refine ⟨_, _, k10 _ ?_, hrun, hended, _, _, rfl, ?_, w1, w2, w3, w4.mono (by decide) (by decide)⟩
  · exact retN X8 hx (t := .boolean) Bd.returns (by simp) (hb hby at_54) hr
  · show Q0 Z p0 p1 p2 h0 n0 _ T8.heap _
    rw [e8]
    exact ⟨rfl, N8⟩
set_option maxRecDepth 65536 in
set_option maxHeartbeats 40000000 in
theorem comes_1 {Post : Tables → Env → Array Value → State → Outcome → State → Prop} (hpost : ∀ tb e args s v u, (limb_1_1.after args s (.returned v) u = true ∧ limb_1_2.after args s (.returned v) u = true ∧ True) → ReturnedEndW s (.returned v) u (Jvm.fieldLocs frame_1_writes args s ++ Jvm.arrayLocs frame_1_arrays args s ++ Jvm.staticLocs frame_1_statics s) 16 2176 → Post tb e args s (.returned v) u) :
    ArmFor flags0 classFile x code maxLocals ret World_1 tables_1 room_1 Calls_1 rest_1 Pre_1 Post := by
  intro l hfl _ _ p e ha hc hk s m args below hf hA hF happ hP
  obtain ⟨hcalls, hrest, hpre⟩ := hP
  obtain ⟨-, -, -, hnamed, -, -, -, hat⟩ := (Spec.applies_iff hf).mp happ
  obtain ⟨hg, hn⟩ := and_e (Cond.before_iff.mp (show (Jvm.Cond.and given_1 narrow_1).before args s = true from hpre))
  obtain ⟨hcount, hgs⟩ := and_e hg
  obtain ⟨w0, w1, w2, rfl⟩ : ∃ w0 w1 w2 : Value, args = #[w0, w1, w2] := by
    have hs : args.size = 3 := by simpa [Cond.value, given_1] using hcount
    obtain ⟨L⟩ := args
    match L, hs with
    | [w0, w1, w2], _ => exact ⟨w0, w1, w2, rfl⟩
  have hw := fun d (hd : d ∈ tables_1) => atoms_spec (ws := Jvm.Cond.code x code maxLocals ret :: tables_1) hat d (List.mem_cons_of_mem _ hd)
  obtain ⟨hg0, hgr0⟩ := and_e hgs
  obtain ⟨i0, ei0⟩ := is_v hg0
  obtain rfl : w0 = (.int i0) := Option.some.inj ei0
  obtain ⟨hg1, hgr1⟩ := and_e hgr0
  obtain ⟨i1, ei1⟩ := is_v hg1
  obtain rfl : w1 = (.int i1) := Option.some.inj ei1
  obtain ⟨i2, ei2⟩ := is_v hgr1
  obtain rfl : w2 = (.int i2) := Option.some.inj ei2
  obtain ⟨n, o, h1, h2, h3, _, L, rfl, ⟨rfl, N⟩, hq⟩ := rm0 l s _ hw tables_1 i0 i1 i2 s.heap s.heap.size (Nat.le_refl _) p e ha hc hk s m _ below hf ((Spec.applies_iff_loose hf).mp happ).1 ⟨rfl, State.Warmed39.refl s, rfl⟩ trivial
  refine ⟨n, _, h1, h2, h3, hpost _ _ _ _ _ _ ⟨Cond.after_iff.mpr rfl, Cond.after_iff.mpr (eq_i res_at (Term.int_eval (1)) rfl), trivial⟩ ⟨hq.1, hq.2.1, hq.2.2.1, (hq.2.2.2.sift fun y hy => Or.inr (N y hy)).mono (by decide) (by decide)⟩⟩
theorem main_1_1 : Claimed_1_1 := comes_1 fun _ _ _ _ _ _ h hF => ⟨h.1, hF⟩
theorem main_1_2 : Claimed_1_2 := comes_1 fun _ _ _ _ _ _ h hF => ⟨h.2.1, hF⟩
end Jvm.Pilot.@@N@@
namespace Jvm.Pilot.@@N@@
open Jvm Jvm.ClassFile Sem Op Lib Jvm.Free Jvm.Stand Jvm.Pilot.@@N@@.Jvm.D
/-! MADE BY PROGRAM (witnessworld.py) out of the Statement's table words and the real class files: 18 classes; the members and pool entries that the words name. The judged class is class 1, her method 1. -/
namespace start1
open Jvm.ClassFile
def u (s : String) : CpInfo := .utf8 (stringToUtf16 s)
/-- a pool by its gaps: so many unusable entries, then the entry; so many at the end -/
def gap : Nat → List CpInfo → List CpInfo
  | 0, r => r
  | n + 1, r => .unusable :: gap n r
def poolList (es : List (Nat × CpInfo)) (last : Nat) : List CpInfo := es.foldr (fun e r => gap e.1 (e.2 :: r)) (gap last [])
def pool (es : List (Nat × CpInfo)) (last : Nat) : Array CpInfo := ⟨poolList es last⟩
def fileOf (pool : Array CpInfo) (this : Nat) (attrs : Array Attribute := #[]) (ms : Array MethodInfo := #[]) (fl : Nat := 33) (sup : Nat := 0) (ifs : Array Nat := #[]) (fds : Array FieldInfo := #[]) : ClassFile where
  minorVersion := 0
  majorVersion := 65
  constantPool := pool
  accessFlags := fl
  thisClass := this
  superClass := sup
  interfaces := ifs
  fields := fds
  methods := ms
  attributes := attrs
def plain (name : String) (sup : Option ClassId) : Class where
  name := name
  kind := .ordinary
  loader := none
  accessFlags := 33
  super := sup
  interfaces := #[]
  cf := none
  fields := #[]
  methods := #[]
  instanceTypes := #[]
  staticTypes := #[]
  resolved := #[]
  callSites := []
  init := .initialized
  statics := none
  mirror := none

def pool0 : Array CpInfo := pool [(5, u "<init>"), (0, u "()V"), (1, .class_ 10), (1, u "java/lang/Object")] 113

def k0c0 : Code := { maxStack := 0, maxLocals := 1, code := object_method_1_code, exceptionTable := #[], attributes := #[] }
def k0m0 : Method := { name := "<init>", desc := "()V", sig := { parameters := [], returnType := none }, accessFlags := 1, code := some k0c0 }
/-- java/lang/Object -/
def k0 : Class := { plain "java/lang/Object" none with
  accessFlags := 33
  interfaces := #[]
  cf := some (fileOf pool0 8 #[] #[{ accessFlags := 1, nameIndex := 5, descriptorIndex := 6, attributes := #[] }] 33 0 #[] #[])
  fields := #[]
  methods := #[k0m0]
  instanceTypes := #[]
  staticTypes := #[]
  resolved := Array.replicate 124 none
  statics := none }

def pool1 : Array CpInfo := pool [(2, .class_ 4), (1, u "java/lang/Object"), (0, u "<init>"), (0, u "()V"), (0, .integer 1048575), (0, .integer 2147483647), (0, .class_ 10), (0, u "com/example/backpressure/backpressure/model/CandidateRoad"), (0, .methodref 9 12), (0, .nameAndType 5 13), (0, u "(DD)V"), (0, .methodref 9 15), (0, .nameAndType 16 17), (0, u "predictedTime"), (0, u "(I)D"), (0, .class_ 19), (0, u "com/example/backpressure/backpressure/model/CandidateRoadPredictedTimePinLaw"), (2, u "law"), (0, u "(III)Z")] 3

def k1m0 : Method := { name := "<init>", desc := "()V", sig := { parameters := [], returnType := none }, accessFlags := 1, code := none }
def k1c1 : Code := { maxStack := 6, maxLocals := 8, code := code, exceptionTable := #[], attributes := #[] }
def k1m1 : Method := { name := "law", desc := "(III)Z", sig := { parameters := [.int, .int, .int], returnType := some .boolean }, accessFlags := 9, code := some k1c1 }
/-- com/example/backpressure/backpressure/model/CandidateRoadPredictedTimePinLaw -/
def k1 : Class := { plain "com/example/backpressure/backpressure/model/CandidateRoadPredictedTimePinLaw" (some 0) with
  accessFlags := 49
  interfaces := #[]
  cf := some (fileOf pool1 18 #[] #[{ accessFlags := 1, nameIndex := 5, descriptorIndex := 6, attributes := #[] }, { accessFlags := 9, nameIndex := 22, descriptorIndex := 23, attributes := #[] }] 49 2 #[] #[])
  fields := #[]
  methods := #[k1m0, k1m1]
  instanceTypes := #[]
  staticTypes := #[]
  resolved := Array.replicate 27 none
  statics := none }

def pool2 : Array CpInfo := pool [(1, .methodref 2 3), (0, .class_ 4), (0, .nameAndType 5 6), (0, u "java/lang/Object"), (0, u "<init>"), (0, u "()V"), (0, .string 8), (0, u "the time per vehicle of a road"), (0, .methodref 10 11), (0, .class_ 12), (0, .nameAndType 13 14), (0, u "com/example/backpressure/backpressure/model/NonNegative"), (0, u "require"), (0, u "(DLjava/lang/String;)D"), (0, .fieldref 16 17), (0, .class_ 18), (0, .nameAndType 19 20), (0, u "com/example/backpressure/backpressure/model/CandidateRoad"), (0, u "timePerVehicle"), (0, u "D"), (0, .string 22), (0, u "the base time of a road"), (0, .fieldref 16 24), (0, .nameAndType 25 20), (0, u "baseTime"), (0, u "(DD)V"), (5, u "predictedTime"), (0, u "(I)D")] 2

def k2c0 : Code := { maxStack := 4, maxLocals := 5, code := prog_11_method_1_code, exceptionTable := #[], attributes := #[] }
def k2m0 : Method := { name := "<init>", desc := "(DD)V", sig := { parameters := [.double, .double], returnType := none }, accessFlags := 1, code := some k2c0 }
def k2c1 : Code := { maxStack := 4, maxLocals := 2, code := prog_11_method_4_code, exceptionTable := #[], attributes := #[] }
def k2m1 : Method := { name := "predictedTime", desc := "(I)D", sig := { parameters := [.int], returnType := some .double }, accessFlags := 1, code := some k2c1 }
/-- com/example/backpressure/backpressure/model/CandidateRoad -/
def k2 : Class := { plain "com/example/backpressure/backpressure/model/CandidateRoad" (some 0) with
  accessFlags := 33
  interfaces := #[]
  cf := some (fileOf pool2 16 #[] #[{ accessFlags := 1, nameIndex := 5, descriptorIndex := 26, attributes := #[] }, { accessFlags := 1, nameIndex := 32, descriptorIndex := 33, attributes := #[] }] 33 2 #[] #[{ accessFlags := 18, nameIndex := 19, descriptorIndex := 20, attributes := #[] }, { accessFlags := 18, nameIndex := 25, descriptorIndex := 20, attributes := #[] }])
  fields := #[{ name := "timePerVehicle", type := .double, accessFlags := 18, slot := 0, constantValue := 0 }, { name := "baseTime", type := .double, accessFlags := 18, slot := 1, constantValue := 0 }]
  methods := #[k2m0, k2m1]
  instanceTypes := #[.double, .double]
  staticTypes := #[]
  resolved := Array.replicate 36 none
  statics := none }

def pool3 : Array CpInfo := pool [(1, .class_ 2), (0, u "java/io/Serializable"), (0, .class_ 4), (0, u "java/lang/Object")] 2

/-- java/io/Serializable -/
def k3 : Class := { plain "java/io/Serializable" (some 0) with
  accessFlags := 1537
  interfaces := #[]
  cf := some (fileOf pool3 1 #[] #[] 1537 3 #[] #[])
  fields := #[]
  methods := #[]
  instanceTypes := #[]
  staticTypes := #[]
  resolved := Array.replicate 7 none
  statics := none }

def pool4 : Array CpInfo := pool [(1, .class_ 2), (0, u "java/lang/Comparable"), (0, .class_ 4), (0, u "java/lang/Object")] 7

/-- java/lang/Comparable -/
def k4 : Class := { plain "java/lang/Comparable" (some 0) with
  accessFlags := 1537
  interfaces := #[]
  cf := some (fileOf pool4 1 #[] #[] 1537 3 #[] #[])
  fields := #[]
  methods := #[]
  instanceTypes := #[]
  staticTypes := #[]
  resolved := Array.replicate 12 none
  statics := none }

def pool5 : Array CpInfo := pool [(2, .class_ 4), (1, u "java/lang/CharSequence"), (42, .class_ 48), (0, u "java/lang/CharSequence$1CodePointIterator"), (10, .class_ 60), (0, u "java/lang/CharSequence$1CharIterator"), (5, .class_ 67), (0, u "java/lang/Object")] 63

/-- java/lang/CharSequence -/
def k5 : Class := { plain "java/lang/CharSequence" (some 0) with
  accessFlags := 1537
  interfaces := #[]
  cf := some (fileOf pool5 2 #[.nestMembers #[47, 59]] #[] 1537 66 #[] #[])
  fields := #[]
  methods := #[]
  instanceTypes := #[]
  staticTypes := #[]
  resolved := Array.replicate 131 none
  statics := none }

def pool6 : Array CpInfo := pool [(1, .class_ 2), (0, u "java/lang/constant/Constable"), (0, .class_ 4), (0, u "java/lang/Object")] 6

/-- java/lang/constant/Constable -/
def k6 : Class := { plain "java/lang/constant/Constable" (some 0) with
  accessFlags := 1537
  interfaces := #[]
  cf := some (fileOf pool6 1 #[] #[] 1537 3 #[] #[])
  fields := #[]
  methods := #[]
  instanceTypes := #[]
  staticTypes := #[]
  resolved := Array.replicate 11 none
  statics := none }

def pool7 : Array CpInfo := pool [(1, .class_ 2), (0, u "java/lang/constant/ConstantDesc"), (0, .class_ 4), (0, u "java/lang/Object")] 32

/-- java/lang/constant/ConstantDesc -/
def k7 : Class := { plain "java/lang/constant/ConstantDesc" (some 0) with
  accessFlags := 1537
  interfaces := #[]
  cf := some (fileOf pool7 1 #[] #[] 1537 3 #[] #[])
  fields := #[]
  methods := #[]
  instanceTypes := #[]
  staticTypes := #[]
  resolved := Array.replicate 37 none
  statics := none }

def pool8 : Array CpInfo := pool [(2, .class_ 4), (1, u "java/lang/Object"), (0, u "<init>"), (0, u "()V"), (3, .class_ 12), (1, u "java/lang/String"), (0, u "value"), (0, u "[B"), (2, u "coder"), (0, u "B"), (2, u "hash"), (0, u "I"), (2, u "hashIsZero"), (0, u "Z"), (13, u "COMPACT_STRINGS"), (534, .class_ 576), (0, u "java/lang/CharSequence"), (22, u "CASE_INSENSITIVE_ORDER"), (0, u "Ljava/util/Comparator;"), (500, u "serialPersistentFields"), (0, u "[Ljava/io/ObjectStreamField;"), (0, .class_ 1104), (0, u "java/lang/String$CaseInsensitiveComparator"), (1, .class_ 1107), (0, u "java/io/Serializable"), (0, .class_ 1109), (0, u "java/lang/Comparable"), (0, .class_ 1111), (0, u "java/lang/constant/Constable"), (0, .class_ 1113), (0, u "java/lang/constant/ConstantDesc"), (2, u "serialVersionUID"), (0, u "J"), (3, u "REPL"), (0, u "C"), (2, u "LATIN1"), (1, u "UTF16")] 323

def k8m0 : Method := { name := "<init>", desc := "()V", sig := { parameters := [], returnType := none }, accessFlags := 1, code := none }
/-- java/lang/String -/
def k8 : Class := { plain "java/lang/String" (some 0) with
  accessFlags := 49
  interfaces := #[3, 4, 5, 6, 7]
  cf := some (fileOf pool8 10 #[.nestMembers #[1103]] #[{ accessFlags := 1, nameIndex := 5, descriptorIndex := 6, attributes := #[] }] 49 2 #[1106, 1108, 575, 1110, 1112] #[{ accessFlags := 18, nameIndex := 13, descriptorIndex := 14, attributes := #[] }, { accessFlags := 18, nameIndex := 17, descriptorIndex := 18, attributes := #[] }, { accessFlags := 2, nameIndex := 21, descriptorIndex := 22, attributes := #[] }, { accessFlags := 2, nameIndex := 25, descriptorIndex := 26, attributes := #[] }, { accessFlags := 26, nameIndex := 1116, descriptorIndex := 1117, attributes := #[] }, { accessFlags := 24, nameIndex := 40, descriptorIndex := 26, attributes := #[] }, { accessFlags := 26, nameIndex := 1101, descriptorIndex := 1102, attributes := #[] }, { accessFlags := 26, nameIndex := 1121, descriptorIndex := 1122, attributes := #[] }, { accessFlags := 25, nameIndex := 599, descriptorIndex := 600, attributes := #[] }, { accessFlags := 24, nameIndex := 1125, descriptorIndex := 18, attributes := #[] }, { accessFlags := 24, nameIndex := 1127, descriptorIndex := 18, attributes := #[] }])
  fields := #[{ name := "value", type := (.array .byte), accessFlags := 18, slot := 0, constantValue := 0 }, { name := "coder", type := .byte, accessFlags := 18, slot := 1, constantValue := 0 }, { name := "hash", type := .int, accessFlags := 2, slot := 2, constantValue := 0 }, { name := "hashIsZero", type := .boolean, accessFlags := 2, slot := 3, constantValue := 0 }, { name := "serialVersionUID", type := .long, accessFlags := 26, slot := 0, constantValue := 0 }, { name := "COMPACT_STRINGS", type := .boolean, accessFlags := 24, slot := 1, constantValue := 0 }, { name := "serialPersistentFields", type := (.array (.object "java/io/ObjectStreamField")), accessFlags := 26, slot := 2, constantValue := 0 }, { name := "REPL", type := .char, accessFlags := 26, slot := 3, constantValue := 0 }, { name := "CASE_INSENSITIVE_ORDER", type := (.object "java/util/Comparator"), accessFlags := 25, slot := 4, constantValue := 0 }, { name := "LATIN1", type := .byte, accessFlags := 24, slot := 5, constantValue := 0 }, { name := "UTF16", type := .byte, accessFlags := 24, slot := 6, constantValue := 0 }]
  methods := #[k8m0]
  instanceTypes := #[(.array .byte), .byte, .int, .boolean]
  staticTypes := #[.long, .boolean, (.array (.object "java/io/ObjectStreamField")), .char, (.object "java/util/Comparator"), .byte, .byte]
  resolved := Array.replicate 1451 none
  statics := none }

def pool9 : Array CpInfo := pool [(2, .class_ 4), (1, u "java/lang/Object"), (0, u "<init>"), (0, u "()V"), (0, .methodref 8 9), (0, .class_ 10), (0, .nameAndType 11 12), (0, u "java/lang/Double"), (0, u "isInfinite"), (0, u "(D)Z"), (9, .class_ 23), (0, u "com/example/backpressure/backpressure/model/NonNegative"), (2, u "require"), (0, u "(DLjava/lang/String;)D")] 18

def k9m0 : Method := { name := "<init>", desc := "()V", sig := { parameters := [], returnType := none }, accessFlags := 2, code := none }
def k9c1 : Code := { maxStack := 5, maxLocals := 3, code := prog_26_method_2_code, exceptionTable := #[], attributes := #[] }
def k9m1 : Method := { name := "require", desc := "(DLjava/lang/String;)D", sig := { parameters := [.double, (.object "java/lang/String")], returnType := some .double }, accessFlags := 8, code := some k9c1 }
/-- com/example/backpressure/backpressure/model/NonNegative -/
def k9 : Class := { plain "com/example/backpressure/backpressure/model/NonNegative" (some 0) with
  accessFlags := 32
  interfaces := #[]
  cf := some (fileOf pool9 22 #[] #[{ accessFlags := 2, nameIndex := 5, descriptorIndex := 6, attributes := #[] }, { accessFlags := 8, nameIndex := 26, descriptorIndex := 27, attributes := #[] }] 32 2 #[] #[])
  fields := #[]
  methods := #[k9m0, k9m1]
  instanceTypes := #[]
  staticTypes := #[]
  resolved := Array.replicate 46 none
  statics := none }

def pool10 : Array CpInfo := pool [(2, .class_ 4), (1, u "java/lang/Object"), (0, u "<init>"), (0, u "()V"), (1, .class_ 10), (1, u "java/lang/Number"), (2, .class_ 14), (0, u "java/io/Serializable"), (0, u "serialVersionUID"), (0, u "J")] 20

def k10m0 : Method := { name := "<init>", desc := "()V", sig := { parameters := [], returnType := none }, accessFlags := 1, code := none }
/-- java/lang/Number -/
def k10 : Class := { plain "java/lang/Number" (some 0) with
  accessFlags := 1057
  interfaces := #[3]
  cf := some (fileOf pool10 8 #[] #[{ accessFlags := 1, nameIndex := 5, descriptorIndex := 6, attributes := #[] }] 1057 2 #[13] #[{ accessFlags := 26, nameIndex := 15, descriptorIndex := 16, attributes := #[] }])
  fields := #[{ name := "serialVersionUID", type := .long, accessFlags := 26, slot := 0, constantValue := 0 }]
  methods := #[k10m0]
  instanceTypes := #[]
  staticTypes := #[.long]
  resolved := Array.replicate 37 none
  statics := none }

def pool11 : Array CpInfo := pool [(1, .class_ 2), (0, u "java/lang/Double"), (11, u "(D)Z"), (8, .class_ 25), (1, u "java/lang/Math"), (12, .methodref 23 39), (0, .nameAndType 40 41), (0, u "abs"), (0, u "(D)D"), (69, .double 9218868437227405311), (2, .class_ 116), (1, u "java/lang/Number"), (3, u "value"), (0, u "D"), (5, u "isInfinite"), (45, u "TYPE"), (0, u "Ljava/lang/Class;"), (0, .class_ 176), (0, u "java/lang/Comparable"), (0, .class_ 178), (0, u "java/lang/constant/Constable"), (0, .class_ 180), (0, u "java/lang/constant/ConstantDesc"), (0, u "POSITIVE_INFINITY"), (3, u "NEGATIVE_INFINITY"), (2, u "NaN"), (2, u "MAX_VALUE"), (0, u "MIN_NORMAL"), (0, u "MIN_VALUE"), (2, u "SIZE"), (0, u "I"), (1, u "PRECISION"), (1, u "MAX_EXPONENT"), (1, u "MIN_EXPONENT"), (1, u "BYTES"), (3, u "serialVersionUID"), (0, u "J")] 79

def k11c0 : Code := { maxStack := 4, maxLocals := 2, code := jdk_117_method_7_code, exceptionTable := #[], attributes := #[] }
def k11m0 : Method := { name := "isInfinite", desc := "(D)Z", sig := { parameters := [.double], returnType := some .boolean }, accessFlags := 9, code := some k11c0 }
/-- java/lang/Double -/
def k11 : Class := { plain "java/lang/Double" (some 10) with
  accessFlags := 49
  interfaces := #[4, 6, 7]
  cf := some (fileOf pool11 1 #[] #[{ accessFlags := 9, nameIndex := 127, descriptorIndex := 14, attributes := #[] }] 49 114 #[175, 177, 179] #[{ accessFlags := 25, nameIndex := 181, descriptorIndex := 121, attributes := #[] }, { accessFlags := 25, nameIndex := 185, descriptorIndex := 121, attributes := #[] }, { accessFlags := 25, nameIndex := 188, descriptorIndex := 121, attributes := #[] }, { accessFlags := 25, nameIndex := 191, descriptorIndex := 121, attributes := #[] }, { accessFlags := 25, nameIndex := 192, descriptorIndex := 121, attributes := #[] }, { accessFlags := 25, nameIndex := 193, descriptorIndex := 121, attributes := #[] }, { accessFlags := 25, nameIndex := 196, descriptorIndex := 197, attributes := #[] }, { accessFlags := 25, nameIndex := 199, descriptorIndex := 197, attributes := #[] }, { accessFlags := 25, nameIndex := 201, descriptorIndex := 197, attributes := #[] }, { accessFlags := 25, nameIndex := 203, descriptorIndex := 197, attributes := #[] }, { accessFlags := 25, nameIndex := 205, descriptorIndex := 197, attributes := #[] }, { accessFlags := 25, nameIndex := 173, descriptorIndex := 174, attributes := #[] }, { accessFlags := 18, nameIndex := 120, descriptorIndex := 121, attributes := #[] }, { accessFlags := 26, nameIndex := 209, descriptorIndex := 210, attributes := #[] }])
  fields := #[{ name := "POSITIVE_INFINITY", type := .double, accessFlags := 25, slot := 0, constantValue := 0 }, { name := "NEGATIVE_INFINITY", type := .double, accessFlags := 25, slot := 1, constantValue := 0 }, { name := "NaN", type := .double, accessFlags := 25, slot := 2, constantValue := 0 }, { name := "MAX_VALUE", type := .double, accessFlags := 25, slot := 3, constantValue := 0 }, { name := "MIN_NORMAL", type := .double, accessFlags := 25, slot := 4, constantValue := 0 }, { name := "MIN_VALUE", type := .double, accessFlags := 25, slot := 5, constantValue := 0 }, { name := "SIZE", type := .int, accessFlags := 25, slot := 6, constantValue := 0 }, { name := "PRECISION", type := .int, accessFlags := 25, slot := 7, constantValue := 0 }, { name := "MAX_EXPONENT", type := .int, accessFlags := 25, slot := 8, constantValue := 0 }, { name := "MIN_EXPONENT", type := .int, accessFlags := 25, slot := 9, constantValue := 0 }, { name := "BYTES", type := .int, accessFlags := 25, slot := 10, constantValue := 0 }, { name := "TYPE", type := (.object "java/lang/Class"), accessFlags := 25, slot := 11, constantValue := 0 }, { name := "value", type := .double, accessFlags := 18, slot := 0, constantValue := 0 }, { name := "serialVersionUID", type := .long, accessFlags := 26, slot := 12, constantValue := 0 }]
  methods := #[k11m0]
  instanceTypes := #[.double]
  staticTypes := #[.double, .double, .double, .double, .double, .double, .int, .int, .int, .int, .int, (.object "java/lang/Class"), .long]
  resolved := Array.replicate 290 none
  statics := none }

def pool12 : Array CpInfo := pool [(1, .class_ 2), (0, u "java/lang/Math"), (1, .class_ 6), (1, u "java/lang/Object"), (0, u "<init>"), (0, u "()V"), (5, u "(D)D"), (83, .class_ 100), (1, u "java/lang/Math$RandomNumberGeneratorHolder"), (23, u "abs"), (47, u "negativeZeroFloatBits"), (0, u "J"), (2, u "negativeZeroDoubleBits"), (68, u "$assertionsDisabled"), (0, u "Z"), (91, u "twoToTheDoubleScaleDown"), (0, u "D"), (4, u "twoToTheDoubleScaleUp"), (9, u "E"), (3, u "PI"), (2, u "TAU"), (2, u "DEGREES_TO_RADIANS"), (0, u "RADIANS_TO_DEGREES")] 94

def k12m0 : Method := { name := "<init>", desc := "()V", sig := { parameters := [], returnType := none }, accessFlags := 2, code := none }
def k12c1 : Code := { maxStack := 4, maxLocals := 2, code := jdk_29_method_64_code, exceptionTable := #[], attributes := #[] }
def k12m1 : Method := { name := "abs", desc := "(D)D", sig := { parameters := [.double], returnType := some .double }, accessFlags := 9, code := some k12c1 }
/-- java/lang/Math -/
def k12 : Class := { plain "java/lang/Math" (some 0) with
  accessFlags := 49
  interfaces := #[]
  cf := some (fileOf pool12 1 #[.nestMembers #[98]] #[{ accessFlags := 2, nameIndex := 7, descriptorIndex := 8, attributes := #[] }, { accessFlags := 9, nameIndex := 124, descriptorIndex := 14, attributes := #[] }] 49 4 #[] #[{ accessFlags := 25, nameIndex := 354, descriptorIndex := 339, attributes := #[] }, { accessFlags := 25, nameIndex := 358, descriptorIndex := 339, attributes := #[] }, { accessFlags := 25, nameIndex := 361, descriptorIndex := 339, attributes := #[] }, { accessFlags := 26, nameIndex := 364, descriptorIndex := 339, attributes := #[] }, { accessFlags := 26, nameIndex := 365, descriptorIndex := 339, attributes := #[] }, { accessFlags := 26, nameIndex := 172, descriptorIndex := 173, attributes := #[] }, { accessFlags := 26, nameIndex := 176, descriptorIndex := 173, attributes := #[] }, { accessFlags := 8, nameIndex := 344, descriptorIndex := 339, attributes := #[] }, { accessFlags := 8, nameIndex := 338, descriptorIndex := 339, attributes := #[] }, { accessFlags := 4120, nameIndex := 245, descriptorIndex := 246, attributes := #[] }])
  fields := #[{ name := "E", type := .double, accessFlags := 25, slot := 0, constantValue := 0 }, { name := "PI", type := .double, accessFlags := 25, slot := 1, constantValue := 0 }, { name := "TAU", type := .double, accessFlags := 25, slot := 2, constantValue := 0 }, { name := "DEGREES_TO_RADIANS", type := .double, accessFlags := 26, slot := 3, constantValue := 0 }, { name := "RADIANS_TO_DEGREES", type := .double, accessFlags := 26, slot := 4, constantValue := 0 }, { name := "negativeZeroFloatBits", type := .long, accessFlags := 26, slot := 5, constantValue := 0 }, { name := "negativeZeroDoubleBits", type := .long, accessFlags := 26, slot := 6, constantValue := 0 }, { name := "twoToTheDoubleScaleUp", type := .double, accessFlags := 8, slot := 7, constantValue := 0 }, { name := "twoToTheDoubleScaleDown", type := .double, accessFlags := 8, slot := 8, constantValue := 0 }, { name := "$assertionsDisabled", type := .boolean, accessFlags := 4120, slot := 9, constantValue := 0 }]
  methods := #[k12m0, k12m1]
  instanceTypes := #[]
  staticTypes := #[.double, .double, .double, .double, .double, .long, .long, .double, .double, .boolean]
  resolved := Array.replicate 460 none
  statics := none }

def pool13 : Array CpInfo := pool [(1, u "java/lang/Cloneable"), (0, .class_ 1), (0, u "java/lang/Object"), (0, .class_ 3)] 3

/-- java/lang/Cloneable -/
def k13 : Class := { plain "java/lang/Cloneable" (some 0) with
  accessFlags := 1537
  interfaces := #[]
  cf := some (fileOf pool13 2 #[] #[] 1537 4 #[] #[])
  fields := #[]
  methods := #[]
  instanceTypes := #[]
  staticTypes := #[]
  resolved := Array.replicate 8 none
  statics := none }

/-- the primitive byte -/
def k14 : Class := { plain "byte" none with kind := .primitive 'B', accessFlags := 0x411 }
/-- [B -/
def k15 : Class := { plain "[B" (some 0) with kind := .array 14 .byte, interfaces := #[13, 3], accessFlags := 1041 }

/-- the primitive int -/
def k16 : Class := { plain "int" none with kind := .primitive 'I', accessFlags := 0x411 }
/-- [I -/
def k17 : Class := { plain "[I" (some 0) with kind := .array 16 .int, interfaces := #[13, 3], accessFlags := 1041 }

def heap : Heap := #[]
def classes : Array Class := #[k0, k1, k2, k3, k4, k5, k6, k7, k8, k9, k10, k11, k12, k13, k14, k15, k16, k17]
def interned : List (Array UInt16 × Addr) := []
def slotsUsed : Nat := 0
def theMethod : MethodId := ⟨1, 1⟩
def args0 : Array Value := #[.int 5, .int 300, .int 7]
def aboutOver (below : List Frame) : State where
  vm := { classes := classes, interned := interned.toArray }
  heap := heap
  slotsUsed := slotsUsed
  threads := #[{ frames := .invoking theMethod args0 :: below }]
def below0 : List Frame := [.native { method := ⟨0, 0⟩, args := #[] }]
def about1 : State := aboutOver below0
def p0 : Program := .bare "" "" ""
def e0 : Env := launch0.env 0 0 0
theorem w_frames : about1.frames = Frame.invoking theMethod args0 :: below0 := rfl
set_option maxRecDepth 65536 in
theorem w_args : argsFit about1.vm theMethod args0 = true := by decide +kernel
set_option maxRecDepth 65536 in
theorem w_heap : heapFits about1 = true := by decide +kernel
set_option maxRecDepth 65536 in
theorem w_runnable : about1.curStatus? = some .runnable := by decide +kernel
set_option maxRecDepth 65536 in
theorem w_alone : about1.alone = true := by decide +kernel
set_option maxRecDepth 65536 in
theorem w_named : about1.methodNamed? x = some theMethod := by decide +kernel
set_option maxRecDepth 65536 in
theorem w_hears : about1.hears theMethod below0 = true := by decide +kernel
set_option maxRecDepth 65536 in
theorem w_ripe : about1.ripe theMethod args0 below0 = true := by decide +kernel
theorem w_running : about1.status = .running := rfl
set_option maxRecDepth 65536 in
theorem w_room : about1.hasRoom e0.platform room_1 = true :=
  launch0.hasRoom_least _ room_1 (by decide +kernel) (by decide +kernel) (by decide +kernel) (by decide +kernel) (by decide +kernel) (by decide +kernel)
theorem allAtoms_all (ts : List Jvm.Cond) (a : Array Jvm.Value) (st : Jvm.State) : (allAtoms ts).before a st = ts.all (fun c => c.before a st) := by
  induction ts with
  | nil => rfl
  | cons c t ih =>
    show (Jvm.Cond.and c (allAtoms t)).before a st = _
    rw [Jvm.Cond.before_and, ih, List.all_cons]
def words1 : List Jvm.Cond := Jvm.Cond.code x code maxLocals ret :: tables_1
/-- a 'code' word, met by the world's own term for the bytes: nothing is compared byte by byte -/
theorem code_word {y : MethodName} {bytes : ByteArray} {mx : Nat} {rt : Option FieldType} {a : Array Value} {s : State} {m : MethodId} {meth : Method} {c : Code} (h1 : s.methodNamed? y = some m) (h2 : s.vm.method? m = some meth) (h3 : meth.code = some c) (h4 : c.code = bytes)
    (h5 : (c.maxLocals == mx && c.exceptionTable.isEmpty && decide (c.maxStack ≤ mostOperands) && decide (meth.sig.returnType = rt) && !meth.locks && decide (parseMethodDescriptor y.desc = some meth.sig)) = true) : (Jvm.Cond.code y bytes mx rt).before a s = true := by
  simp only [Bool.and_eq_true, beq_iff_eq, Bool.not_eq_true', decide_eq_true_eq] at h5
  obtain ⟨⟨⟨⟨⟨g1, g2⟩, g3⟩, g4⟩, g5⟩, g6⟩ := h5
  simp [Cond.before, Cond.holds, Cond.value, h1, h2, h3, h4, g1, g2, g3, g4, g5, g6]
def isCode : Jvm.Cond → Bool
  | .code _ _ _ _ => true
  | _ => false
theorem all_split {L : List Jvm.Cond} {P : Jvm.Cond → Bool} (h1 : L.all (fun c => isCode c || P c) = true) (h2 : ∀ c ∈ L.filter isCode, P c = true) : L.all P = true := by
  refine List.all_eq_true.mpr fun c hc => ?_
  have h := List.all_eq_true.mp h1 c hc
  rcases Bool.eq_false_or_eq_true (isCode c) with hi | hi
  · exact h2 c (List.mem_filter.mpr ⟨hc, hi⟩)
  · simpa [hi] using h
set_option maxRecDepth 65536 in
theorem w_c0 : (Jvm.Cond.code x code maxLocals ret).before args0 about1 = true := code_word (m := ⟨1, 1⟩) (meth := k1m1) (c := k1c1) (by decide +kernel) rfl rfl rfl (by decide +kernel)
set_option maxRecDepth 65536 in
theorem w_c1 : (Jvm.Cond.code ({ cls := "com/example/backpressure/backpressure/model/CandidateRoad", name := "<init>", desc := "(DD)V" } : Jvm.MethodName) prog_11_method_1_code (5 : Nat) (Option.none : Option Jvm.ClassFile.FieldType)).before args0 about1 = true := code_word (m := ⟨2, 0⟩) (meth := k2m0) (c := k2c0) (by decide +kernel) rfl rfl rfl (by decide +kernel)
set_option maxRecDepth 65536 in
theorem w_c2 : (Jvm.Cond.code ({ cls := "java/lang/Object", name := "<init>", desc := "()V" } : Jvm.MethodName) object_method_1_code (1 : Nat) (Option.none : Option Jvm.ClassFile.FieldType)).before args0 about1 = true := code_word (m := ⟨0, 0⟩) (meth := k0m0) (c := k0c0) (by decide +kernel) rfl rfl rfl (by decide +kernel)
set_option maxRecDepth 65536 in
theorem w_c3 : (Jvm.Cond.code ({ cls := "com/example/backpressure/backpressure/model/NonNegative", name := "require", desc := "(DLjava/lang/String;)D" } : Jvm.MethodName) prog_26_method_2_code (3 : Nat) (Option.some Jvm.ClassFile.FieldType.double)).before args0 about1 = true := code_word (m := ⟨9, 1⟩) (meth := k9m1) (c := k9c1) (by decide +kernel) rfl rfl rfl (by decide +kernel)
set_option maxRecDepth 65536 in
theorem w_c4 : (Jvm.Cond.code ({ cls := "java/lang/Double", name := "isInfinite", desc := "(D)Z" } : Jvm.MethodName) jdk_117_method_7_code (2 : Nat) (Option.some Jvm.ClassFile.FieldType.boolean)).before args0 about1 = true := code_word (m := ⟨11, 0⟩) (meth := k11m0) (c := k11c0) (by decide +kernel) rfl rfl rfl (by decide +kernel)
set_option maxRecDepth 65536 in
theorem w_c5 : (Jvm.Cond.code ({ cls := "java/lang/Math", name := "abs", desc := "(D)D" } : Jvm.MethodName) jdk_29_method_64_code (2 : Nat) (Option.some Jvm.ClassFile.FieldType.double)).before args0 about1 = true := code_word (m := ⟨12, 1⟩) (meth := k12m1) (c := k12c1) (by decide +kernel) rfl rfl rfl (by decide +kernel)
set_option maxRecDepth 65536 in
theorem w_c6 : (Jvm.Cond.code ({ cls := "com/example/backpressure/backpressure/model/CandidateRoad", name := "predictedTime", desc := "(I)D" } : Jvm.MethodName) prog_11_method_4_code (2 : Nat) (Option.some Jvm.ClassFile.FieldType.double)).before args0 about1 = true := code_word (m := ⟨2, 1⟩) (meth := k2m1) (c := k2c1) (by decide +kernel) rfl rfl rfl (by decide +kernel)
def codes1 : List Jvm.Cond := [Jvm.Cond.code x code maxLocals ret, Jvm.Cond.code ({ cls := "com/example/backpressure/backpressure/model/CandidateRoad", name := "<init>", desc := "(DD)V" } : Jvm.MethodName) prog_11_method_1_code (5 : Nat) (Option.none : Option Jvm.ClassFile.FieldType), Jvm.Cond.code ({ cls := "java/lang/Object", name := "<init>", desc := "()V" } : Jvm.MethodName) object_method_1_code (1 : Nat) (Option.none : Option Jvm.ClassFile.FieldType), Jvm.Cond.code ({ cls := "com/example/backpressure/backpressure/model/NonNegative", name := "require", desc := "(DLjava/lang/String;)D" } : Jvm.MethodName) prog_26_method_2_code (3 : Nat) (Option.some Jvm.ClassFile.FieldType.double), Jvm.Cond.code ({ cls := "java/lang/Double", name := "isInfinite", desc := "(D)Z" } : Jvm.MethodName) jdk_117_method_7_code (2 : Nat) (Option.some Jvm.ClassFile.FieldType.boolean), Jvm.Cond.code ({ cls := "java/lang/Math", name := "abs", desc := "(D)D" } : Jvm.MethodName) jdk_29_method_64_code (2 : Nat) (Option.some Jvm.ClassFile.FieldType.double), Jvm.Cond.code ({ cls := "com/example/backpressure/backpressure/model/CandidateRoad", name := "predictedTime", desc := "(I)D" } : Jvm.MethodName) prog_11_method_4_code (2 : Nat) (Option.some Jvm.ClassFile.FieldType.double)]
set_option maxRecDepth 65536 in
theorem codes_eq : words1.filter isCode = codes1 := rfl
theorem w_codes : ∀ c ∈ words1.filter isCode, c.before args0 about1 = true := by
  rw [codes_eq]
  intro c hc
  simp only [codes1, List.mem_cons, List.not_mem_nil, or_false] at hc
  rcases hc with rfl | rfl | rfl | rfl | rfl | rfl | rfl
  · exact w_c0
  · exact w_c1
  · exact w_c2
  · exact w_c3
  · exact w_c4
  · exact w_c5
  · exact w_c6
set_option maxRecDepth 65536 in
theorem w_t1 : (words1.take 24).all (fun c => isCode c || c.before args0 about1) = true := by decide +kernel
set_option maxRecDepth 65536 in
theorem w_t2 : (words1.drop 24).all (fun c => isCode c || c.before args0 about1) = true := by decide +kernel
theorem w_tables : (allAtoms (Jvm.Cond.code x code maxLocals ret :: tables_1)).before args0 about1 = true := by
  rw [allAtoms_all]
  show words1.all (fun c => c.before args0 about1) = true
  refine all_split ?_ w_codes
  rw [← List.take_append_drop 24 words1, List.all_append, w_t1, w_t2]
  rfl
set_option maxRecDepth 65536 in
theorem w_case : (Jvm.Cond.and given_1 narrow_1).before args0 about1 = true := by decide +kernel
theorem w_applies : (headSpec (Jvm.Cond.code x code maxLocals ret :: tables_1) room_1).applies x e0.platform about1 = true :=
  (Spec.applies_iff w_frames).mpr ⟨w_running, w_runnable, w_alone, w_named, w_hears, w_ripe, w_room, w_tables⟩
theorem atStart : AtStart classFile x code maxLocals ret World_1 tables_1 room_1 Calls_1 rest_1 Pre_1 launch0 p0 e0 about1 theMethod args0 below0 :=
  ⟨lists_1, trivial, launch0.admits_env _ _ _, launch0.least_env, fairChoices_fair.cas, fairChoices_fair.clock, w_frames, w_args, w_heap, w_applies, trivial, trivial, w_case⟩
end start1
theorem witness_1 : WitnessClaimed_1 := ⟨start1.p0, start1.e0, start1.about1, start1.theMethod, start1.args0, start1.below0, start1.atStart⟩
end Jvm.Pilot.@@N@@
