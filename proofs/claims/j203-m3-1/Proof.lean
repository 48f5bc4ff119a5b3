import JvmDerived
import JvmDerived.Pilot.@@N@@Statement
import JvmDerived.Pilot.@@N@@Code
set_option linter.unusedVariables false
set_option linter.unusedSimpArgs false
@@BLOCK:NumsL.lean.txt@@
namespace Jvm.Pilot.@@N@@
open Jvm Jvm.ClassFile Sem Op Lib Jvm.Free Jvm.Stand Jvm.LawKit Jvm.RoadKit Bundle Jvm.Pilot.@@N@@.Jvm.D
theorem own_fr {args : Array Value} {s : State} {t u : Term} {C n d : String} {a b : Addr} (e : t.eval args s none [] s = some (.ref a)) (e2 : u.eval args s none [] s = some (.ref b)) (h : (Jvm.Cond.eq (.field t C n d) u).value args s none s [] = some true) : s.fieldOf? a C n d = some (.ref b) := by
  obtain ⟨x, y, hx, hy, k1, k2⟩ := cmp_v (Or.inl h)
  have hy' : y = .ref b := Option.some.inj (hy.symm.trans e2)
  subst hy'
  have k3 : x.isRef = true := by cases x <;> simp [Kin, Value.isRef] at k2 ⊢
  have q : x = .ref b := gotT (eq_R hx hy k3 rfl) h
  rw [fld_at e] at hx
  rw [hx, q]
def own_pk (w0 w1 w2 w3 w4 w5 : Addr) (k : Int32) : Addr := if k = 0 then w0 else if k = 1 then w1 else if k = 2 then w2 else if k = 3 then w3 else if k = 4 then w4 else w5
theorem own_pk_all {P : Addr → Prop} {w0 w1 w2 w3 w4 w5 : Addr} (h0 : P w0) (h1 : P w1) (h2 : P w2) (h3 : P w3) (h4 : P w4) (h5 : P w5) (k : Int32) : P (own_pk w0 w1 w2 w3 w4 w5 k) := by
  unfold own_pk
  repeat' split
  all_goals assumption
theorem own_pk_low {P : Addr → Prop} {w0 w1 w2 w3 w4 w5 : Addr} (h0 : P w0) (h1 : P w1) (h2 : P w2) (h3 : P w3) (k : Int32) (hk : 0 ≤ k.toInt) (hl : ¬ ((3 : Int32) < k)) : P (own_pk w0 w1 w2 w3 w4 w5 k) := by
  unfold own_pk
  split
  · assumption
  split
  · assumption
  split
  · assumption
  split
  · assumption
  rename_i a b c d
  exfalso
  simp only [Int32.lt_iff_toInt_lt, ← Int32.toInt_inj, Int32.reduceToInt] at a b c d hl
  omega
theorem own_pk_high {P : Addr → Prop} {w0 w1 w2 w3 w4 w5 : Addr} (h4 : P w4) (h5 : P w5) (k : Int32) (hl : (3 : Int32) < k) : P (own_pk w0 w1 w2 w3 w4 w5 k) := by
  unfold own_pk
  simp only [Int32.lt_iff_toInt_lt, Int32.reduceToInt] at hl
  split
  · rename_i a; subst a; exact absurd hl (by decide)
  split
  · rename_i a; subst a; exact absurd hl (by decide)
  split
  · rename_i a; subst a; exact absurd hl (by decide)
  split
  · rename_i a; subst a; exact absurd hl (by decide)
  split <;> assumption
def own_k (x : Int32) : Int32 := (x &&& (2147483647 : Int32)) % (6 : Int32)
theorem own_k_nn (x : Int32) : 0 ≤ (own_k x).toInt := by
  have e : (x &&& (2147483647 : Int32)).toInt = x.toInt % 2 ^ 31 := Jvm.Kit.i32_mask x 2147483647 (k := 31) (by decide) (by decide)
  unfold own_k
  rw [Int32.toInt_mod]
  exact Int.tmod_nonneg _ (by omega)
theorem d1_0 : decode method_2_code 0 = .ok (.iload_n 0, 1) := by decide +kernel
theorem d1_1 : decode method_2_code 1 = .ok (.ifCond .ne 7, 3) := by decide +kernel
theorem d1_4 : decode method_2_code 4 = .ok (.getstatic 7, 3) := by decide +kernel
theorem d1_7 : decode method_2_code 7 = .ok (.areturn, 1) := by decide +kernel
theorem d1_8 : decode method_2_code 8 = .ok (.iload_n 0, 1) := by decide +kernel
theorem d1_9 : decode method_2_code 9 = .ok (.iconst 1, 1) := by decide +kernel
theorem d1_10 : decode method_2_code 10 = .ok (.if_icmp .ne 7, 3) := by decide +kernel
theorem d1_13 : decode method_2_code 13 = .ok (.getstatic 13, 3) := by decide +kernel
theorem d1_16 : decode method_2_code 16 = .ok (.areturn, 1) := by decide +kernel
theorem d1_17 : decode method_2_code 17 = .ok (.iload_n 0, 1) := by decide +kernel
theorem d1_18 : decode method_2_code 18 = .ok (.iconst 2, 1) := by decide +kernel
theorem d1_19 : decode method_2_code 19 = .ok (.if_icmp .ne 7, 3) := by decide +kernel
theorem d1_22 : decode method_2_code 22 = .ok (.getstatic 16, 3) := by decide +kernel
theorem d1_25 : decode method_2_code 25 = .ok (.areturn, 1) := by decide +kernel
theorem d1_26 : decode method_2_code 26 = .ok (.iload_n 0, 1) := by decide +kernel
theorem d1_27 : decode method_2_code 27 = .ok (.iconst 3, 1) := by decide +kernel
theorem d1_28 : decode method_2_code 28 = .ok (.if_icmp .ne 7, 3) := by decide +kernel
theorem d1_31 : decode method_2_code 31 = .ok (.getstatic 19, 3) := by decide +kernel
theorem d1_34 : decode method_2_code 34 = .ok (.areturn, 1) := by decide +kernel
theorem d1_35 : decode method_2_code 35 = .ok (.iload_n 0, 1) := by decide +kernel
theorem d1_36 : decode method_2_code 36 = .ok (.iconst 4, 1) := by decide +kernel
theorem d1_37 : decode method_2_code 37 = .ok (.if_icmp .ne 7, 3) := by decide +kernel
theorem d1_40 : decode method_2_code 40 = .ok (.getstatic 22, 3) := by decide +kernel
theorem d1_43 : decode method_2_code 43 = .ok (.areturn, 1) := by decide +kernel
theorem d1_44 : decode method_2_code 44 = .ok (.getstatic 25, 3) := by decide +kernel
theorem d1_47 : decode method_2_code 47 = .ok (.areturn, 1) := by decide +kernel
theorem ef_1 (m : MethodId) (p0 : Int32) : entryFrame m #[(.int p0)] 1 = mkF m 0 #[.val (.int p0)] [] := by first | (simp [entryFrame, mkF, argsToLocals, Value.category]; done) | rfl
theorem pn_0 : plainName "com/example/navsim/navsim/NavigabilityMeasureLocalPinLaw" = true := by first | (simp [plainName, overriddenIn]; done) | decide +kernel
def Q1 (Z : State) (p0 : Int32) (w_P_5 : Addr) (w_P_10 : Addr) (w_P_20 : Addr) (w_AP : Addr) (w_MRD : Addr) (w_NMRD : Addr) (r : Addr) (h0 : Heap) (n0 : Nat) (v : Option Value) (h : Heap) (L : List Loc) : Prop := v = some (.ref r) ∧ Fr n0 L ∧ h = h0
set_option maxRecDepth 65536 in
set_option maxHeartbeats 40000000 in
theorem rm1 (l : Launch) (Z : State) (a0 : Array Value) (hw : ∀ d ∈ tables_1, d.before a0 Z = true) (ws : List Jvm.Cond) (p0 : Int32) (w_P_5 : Addr) (w_P_10 : Addr) (w_P_20 : Addr) (w_AP : Addr) (w_MRD : Addr) (w_NMRD : Addr) (r : Addr) (h0 : Heap) (n0 : Nat) (Z0 : n0 ≤ h0.size) (S_P_5 : Sta Z h0 "com/example/navsim/navsim/NavigabilityMeasure" "P_5" "Lcom/example/navsim/navsim/NavigabilityMeasure;" (.ref w_P_5)) (S_P_10 : Sta Z h0 "com/example/navsim/navsim/NavigabilityMeasure" "P_10" "Lcom/example/navsim/navsim/NavigabilityMeasure;" (.ref w_P_10)) (S_P_20 : Sta Z h0 "com/example/navsim/navsim/NavigabilityMeasure" "P_20" "Lcom/example/navsim/navsim/NavigabilityMeasure;" (.ref w_P_20)) (S_AP : Sta Z h0 "com/example/navsim/navsim/NavigabilityMeasure" "AP" "Lcom/example/navsim/navsim/NavigabilityMeasure;" (.ref w_AP)) (S_MRD : Sta Z h0 "com/example/navsim/navsim/NavigabilityMeasure" "MRD" "Lcom/example/navsim/navsim/NavigabilityMeasure;" (.ref w_MRD)) (S_NMRD : Sta Z h0 "com/example/navsim/navsim/NavigabilityMeasure" "NMRD" "Lcom/example/navsim/navsim/NavigabilityMeasure;" (.ref w_NMRD)) (hpk : own_pk w_P_5 w_P_10 w_P_20 w_AP w_MRD w_NMRD p0 = r) :
    MetFree l (⟨"com/example/navsim/navsim/NavigabilityMeasureLocalPinLaw", "pick", "(I)Lcom/example/navsim/navsim/NavigabilityMeasure;"⟩ : MethodName) (head1 (Jvm.Cond.code (⟨"com/example/navsim/navsim/NavigabilityMeasureLocalPinLaw", "pick", "(I)Lcom/example/navsim/navsim/NavigabilityMeasure;"⟩ : MethodName) method_2_code 1 (some (.object "com/example/navsim/navsim/NavigabilityMeasure")) :: ws) ({ frames := 0, cells := 0, slots := 0, locals := 0 } : Room)) (fun a U => a = #[(.int p0)] ∧ Z.Warmed39 U.vm ∧ U.heap = h0) (fun _ _ _ _ _ => True) (fun _ U o U' => ∃ v L, o = .returned v ∧ Q1 Z p0 w_P_5 w_P_10 w_P_20 w_AP w_MRD w_NMRD r h0 n0 v U'.heap L ∧ FrameEnd U o U' L ({ frames := 0, cells := 0, slots := 0, locals := 0 } : Room).cells ({ frames := 0, cells := 0, slots := 0, locals := 0 } : Room).slots) := by
  refine MetFree.of_bodySF (plainFor_of_name pn_0) hisR ?_
  intro p e s m args below meth c s₁ Bd hml0 hP hK
  obtain ⟨rfl, hZ, hh⟩ := hP
  have hx := Bd.exec
  have hby := Bd.bytes
  have hml : c.maxLocals = 1 := hml0
  have hown : s.vm.findClass "com/example/navsim/navsim/NavigabilityMeasureLocalPinLaw" = some m.cls := findClass_of_methodNamed Bd.named
  have hnm := (name_of_methodNamed Bd.named Bd.method).1
  have X0 : Stand p l e ({ frames := 0, cells := 0, slots := 0, locals := 0 } : Room) s m #[(.int p0)] below meth c s₁ [] 0 0 := Stand.of_body Bd
  have e0 : s₁.heap = h0 := by rw [← hh, Bd.state]; rfl
  have N0 := Fr.nil n0
  have k0 : ∀ t, Steps p.tables e below (s₁.setTop (mkF m 0 #[.val (.int p0)] [])) t → Steps p.tables e below (s₁.setTop (entryFrame m #[(.int p0)] 1)) t := fun t k => castTop (ef_1 m p0) k
  have k1 : ∀ t, Steps p.tables e below (s₁.setTop (mkF m 1 #[.val (.int p0)] [(.int p0)])) t → Steps p.tables e below (s₁.setTop (entryFrame m #[(.int p0)] 1)) t := fun t k => k0 t (by
      show Steps p.tables e below (s₁.setTop (mkF m 0 #[.val (.int p0)] [])) _
      refine XS.iloadN X0.here hx rfl (hb hby d1_0) rfl ?_
      exact k)
  by_cases hc1 : p0 = (0 : Int32)
  · have k2 : ∀ t, Steps p.tables e below (s₁.setTop (mkF m 4 #[.val (.int p0)] [])) t → Steps p.tables e below (s₁.setTop (entryFrame m #[(.int p0)] 1)) t := fun t k => k1 t (by
        show Steps p.tables e below (s₁.setTop (mkF m 1 #[.val (.int p0)] [(.int p0)])) _
        refine XS.ifNo X0.here hx rfl (hb hby d1_1) rfl ((if0 _ _).trans (teq hc1).2) ?_
        exact k)
    obtain ⟨T3, X3, e3, st3⟩ := getS2 X0 hx hZ hown (host := "") (Or.inl (hw _ (List.mem_of_getElem? (i := 5) rfl))) Via.refl e0 S_P_5 (g := (mkF m 4 #[.val (.int p0)] [])) rfl (hb hby d1_4)
    have k4 : ∀ t, Steps p.tables e below (T3.setTop (mkF m 7 #[.val (.int p0)] [(.ref w_P_5)])) t → Steps p.tables e below (s₁.setTop (entryFrame m #[(.int p0)] 1)) t := fun t k => k2 t (st3 _ k)
    obtain ⟨fs, hr, hrun, hended, hW, hsame⟩ := X3.leave (v := (some (.ref w_P_5))) (fun h => by rw [Bd.returns] at h; cases h)
    refine ⟨_, _, k4 _ ?_, hrun, hended, _, _, rfl, ?_, ⟨_, rfl⟩, hW, hsame.mono (by decide) (by decide)⟩
    · exact retOut X3 hx Bd.returns rfl (Or.inr (Or.inr (Or.inr (Or.inr ⟨rfl, rfl, rfl⟩)))) (hb hby d1_7) hr
    · show Q1 Z p0 w_P_5 w_P_10 w_P_20 w_AP w_MRD w_NMRD r h0 n0 _ T3.heap _
      rw [e3]
      exact ⟨congrArg (fun z => some (Value.ref z)) (by rw [← hpk]; unfold own_pk; rw [if_pos hc1]), N0, rfl⟩
  · have k5 : ∀ t, Steps p.tables e below (s₁.setTop (mkF m 10 #[.val (.int p0)] [(.int (1 : Int32)), (.int p0)])) t → Steps p.tables e below (s₁.setTop (entryFrame m #[(.int p0)] 1)) t := fun t k => k1 t (by
        show Steps p.tables e below (s₁.setTop (mkF m 1 #[.val (.int p0)] [(.int p0)])) _
        refine XS.ifYes X0.here hx rfl (pc0 := 1) (pc' := 8) rfl (hb hby d1_1) rfl ((if0 _ _).trans (feq hc1).2) (by decide) (by decide) ?_
        show Steps p.tables e below (s₁.setTop (mkF m 8 #[.val (.int p0)] [])) _
        refine XS.iloadN X0.here hx rfl (hb hby d1_8) rfl ?_
        show Steps p.tables e below (s₁.setTop (mkF m 9 #[.val (.int p0)] [(.int p0)])) _
        refine XS.iconst X0.here hx rfl (hb hby d1_9) ?_
        exact k)
    by_cases hc10 : p0 = (1 : Int32)
    · have k6 : ∀ t, Steps p.tables e below (s₁.setTop (mkF m 13 #[.val (.int p0)] [])) t → Steps p.tables e below (s₁.setTop (entryFrame m #[(.int p0)] 1)) t := fun t k => k5 t (by
          show Steps p.tables e below (s₁.setTop (mkF m 10 #[.val (.int p0)] [(.int (1 : Int32)), (.int p0)])) _
          refine XS.icmpNo X0.here hx rfl (hb hby d1_10) rfl (teq hc10).2 ?_
          exact k)
      obtain ⟨T7, X7, e7, st7⟩ := getS2 X0 hx hZ hown (host := "") (Or.inl (hw _ (List.mem_of_getElem? (i := 23) rfl))) Via.refl e0 S_P_10 (g := (mkF m 13 #[.val (.int p0)] [])) rfl (hb hby d1_13)
      have k8 : ∀ t, Steps p.tables e below (T7.setTop (mkF m 16 #[.val (.int p0)] [(.ref w_P_10)])) t → Steps p.tables e below (s₁.setTop (entryFrame m #[(.int p0)] 1)) t := fun t k => k6 t (st7 _ k)
      obtain ⟨fs, hr, hrun, hended, hW, hsame⟩ := X7.leave (v := (some (.ref w_P_10))) (fun h => by rw [Bd.returns] at h; cases h)
      refine ⟨_, _, k8 _ ?_, hrun, hended, _, _, rfl, ?_, ⟨_, rfl⟩, hW, hsame.mono (by decide) (by decide)⟩
      · exact retOut X7 hx Bd.returns rfl (Or.inr (Or.inr (Or.inr (Or.inr ⟨rfl, rfl, rfl⟩)))) (hb hby d1_16) hr
      · show Q1 Z p0 w_P_5 w_P_10 w_P_20 w_AP w_MRD w_NMRD r h0 n0 _ T7.heap _
        rw [e7]
        exact ⟨congrArg (fun z => some (Value.ref z)) (by rw [← hpk]; unfold own_pk; rw [if_neg hc1, if_pos hc10]), N0, rfl⟩
    · have k9 : ∀ t, Steps p.tables e below (s₁.setTop (mkF m 19 #[.val (.int p0)] [(.int (2 : Int32)), (.int p0)])) t → Steps p.tables e below (s₁.setTop (entryFrame m #[(.int p0)] 1)) t := fun t k => k5 t (by
          show Steps p.tables e below (s₁.setTop (mkF m 10 #[.val (.int p0)] [(.int (1 : Int32)), (.int p0)])) _
          refine XS.icmpYes X0.here hx rfl (pc0 := 10) (pc' := 17) rfl (hb hby d1_10) rfl (feq hc10).2 (by decide) (by decide) ?_
          show Steps p.tables e below (s₁.setTop (mkF m 17 #[.val (.int p0)] [])) _
          refine XS.iloadN X0.here hx rfl (hb hby d1_17) rfl ?_
          show Steps p.tables e below (s₁.setTop (mkF m 18 #[.val (.int p0)] [(.int p0)])) _
          refine XS.iconst X0.here hx rfl (hb hby d1_18) ?_
          exact k)
      by_cases hc19 : p0 = (2 : Int32)
      · have k10 : ∀ t, Steps p.tables e below (s₁.setTop (mkF m 22 #[.val (.int p0)] [])) t → Steps p.tables e below (s₁.setTop (entryFrame m #[(.int p0)] 1)) t := fun t k => k9 t (by
            show Steps p.tables e below (s₁.setTop (mkF m 19 #[.val (.int p0)] [(.int (2 : Int32)), (.int p0)])) _
            refine XS.icmpNo X0.here hx rfl (hb hby d1_19) rfl (teq hc19).2 ?_
            exact k)
        obtain ⟨T11, X11, e11, st11⟩ := getS2 X0 hx hZ hown (host := "") (Or.inl (hw _ (List.mem_of_getElem? (i := 20) rfl))) Via.refl e0 S_P_20 (g := (mkF m 22 #[.val (.int p0)] [])) rfl (hb hby d1_22)
        have k12 : ∀ t, Steps p.tables e below (T11.setTop (mkF m 25 #[.val (.int p0)] [(.ref w_P_20)])) t → Steps p.tables e below (s₁.setTop (entryFrame m #[(.int p0)] 1)) t := fun t k => k10 t (st11 _ k)
        obtain ⟨fs, hr, hrun, hended, hW, hsame⟩ := X11.leave (v := (some (.ref w_P_20))) (fun h => by rw [Bd.returns] at h; cases h)
        refine ⟨_, _, k12 _ ?_, hrun, hended, _, _, rfl, ?_, ⟨_, rfl⟩, hW, hsame.mono (by decide) (by decide)⟩
        · exact retOut X11 hx Bd.returns rfl (Or.inr (Or.inr (Or.inr (Or.inr ⟨rfl, rfl, rfl⟩)))) (hb hby d1_25) hr
        · show Q1 Z p0 w_P_5 w_P_10 w_P_20 w_AP w_MRD w_NMRD r h0 n0 _ T11.heap _
          rw [e11]
          exact ⟨congrArg (fun z => some (Value.ref z)) (by rw [← hpk]; unfold own_pk; rw [if_neg hc1, if_neg hc10, if_pos hc19]), N0, rfl⟩
      · have k13 : ∀ t, Steps p.tables e below (s₁.setTop (mkF m 28 #[.val (.int p0)] [(.int (3 : Int32)), (.int p0)])) t → Steps p.tables e below (s₁.setTop (entryFrame m #[(.int p0)] 1)) t := fun t k => k9 t (by
            show Steps p.tables e below (s₁.setTop (mkF m 19 #[.val (.int p0)] [(.int (2 : Int32)), (.int p0)])) _
            refine XS.icmpYes X0.here hx rfl (pc0 := 19) (pc' := 26) rfl (hb hby d1_19) rfl (feq hc19).2 (by decide) (by decide) ?_
            show Steps p.tables e below (s₁.setTop (mkF m 26 #[.val (.int p0)] [])) _
            refine XS.iloadN X0.here hx rfl (hb hby d1_26) rfl ?_
            show Steps p.tables e below (s₁.setTop (mkF m 27 #[.val (.int p0)] [(.int p0)])) _
            refine XS.iconst X0.here hx rfl (hb hby d1_27) ?_
            exact k)
        by_cases hc28 : p0 = (3 : Int32)
        · have k14 : ∀ t, Steps p.tables e below (s₁.setTop (mkF m 31 #[.val (.int p0)] [])) t → Steps p.tables e below (s₁.setTop (entryFrame m #[(.int p0)] 1)) t := fun t k => k13 t (by
              show Steps p.tables e below (s₁.setTop (mkF m 28 #[.val (.int p0)] [(.int (3 : Int32)), (.int p0)])) _
              refine XS.icmpNo X0.here hx rfl (hb hby d1_28) rfl (teq hc28).2 ?_
              exact k)
          obtain ⟨T15, X15, e15, st15⟩ := getS2 X0 hx hZ hown (host := "") (Or.inl (hw _ (List.mem_of_getElem? (i := 17) rfl))) Via.refl e0 S_AP (g := (mkF m 31 #[.val (.int p0)] [])) rfl (hb hby d1_31)
          have k16 : ∀ t, Steps p.tables e below (T15.setTop (mkF m 34 #[.val (.int p0)] [(.ref w_AP)])) t → Steps p.tables e below (s₁.setTop (entryFrame m #[(.int p0)] 1)) t := fun t k => k14 t (st15 _ k)
          obtain ⟨fs, hr, hrun, hended, hW, hsame⟩ := X15.leave (v := (some (.ref w_AP))) (fun h => by rw [Bd.returns] at h; cases h)
          refine ⟨_, _, k16 _ ?_, hrun, hended, _, _, rfl, ?_, ⟨_, rfl⟩, hW, hsame.mono (by decide) (by decide)⟩
          · exact retOut X15 hx Bd.returns rfl (Or.inr (Or.inr (Or.inr (Or.inr ⟨rfl, rfl, rfl⟩)))) (hb hby d1_34) hr
          · show Q1 Z p0 w_P_5 w_P_10 w_P_20 w_AP w_MRD w_NMRD r h0 n0 _ T15.heap _
            rw [e15]
            exact ⟨congrArg (fun z => some (Value.ref z)) (by rw [← hpk]; unfold own_pk; rw [if_neg hc1, if_neg hc10, if_neg hc19, if_pos hc28]), N0, rfl⟩
        · have k17 : ∀ t, Steps p.tables e below (s₁.setTop (mkF m 37 #[.val (.int p0)] [(.int (4 : Int32)), (.int p0)])) t → Steps p.tables e below (s₁.setTop (entryFrame m #[(.int p0)] 1)) t := fun t k => k13 t (by
              show Steps p.tables e below (s₁.setTop (mkF m 28 #[.val (.int p0)] [(.int (3 : Int32)), (.int p0)])) _
              refine XS.icmpYes X0.here hx rfl (pc0 := 28) (pc' := 35) rfl (hb hby d1_28) rfl (feq hc28).2 (by decide) (by decide) ?_
              show Steps p.tables e below (s₁.setTop (mkF m 35 #[.val (.int p0)] [])) _
              refine XS.iloadN X0.here hx rfl (hb hby d1_35) rfl ?_
              show Steps p.tables e below (s₁.setTop (mkF m 36 #[.val (.int p0)] [(.int p0)])) _
              refine XS.iconst X0.here hx rfl (hb hby d1_36) ?_
              exact k)
          by_cases hc37 : p0 = (4 : Int32)
          · have k18 : ∀ t, Steps p.tables e below (s₁.setTop (mkF m 40 #[.val (.int p0)] [])) t → Steps p.tables e below (s₁.setTop (entryFrame m #[(.int p0)] 1)) t := fun t k => k17 t (by
                show Steps p.tables e below (s₁.setTop (mkF m 37 #[.val (.int p0)] [(.int (4 : Int32)), (.int p0)])) _
                refine XS.icmpNo X0.here hx rfl (hb hby d1_37) rfl (teq hc37).2 ?_
                exact k)
            obtain ⟨T19, X19, e19, st19⟩ := getS2 X0 hx hZ hown (host := "") (Or.inl (hw _ (List.mem_of_getElem? (i := 28) rfl))) Via.refl e0 S_MRD (g := (mkF m 40 #[.val (.int p0)] [])) rfl (hb hby d1_40)
            have k20 : ∀ t, Steps p.tables e below (T19.setTop (mkF m 43 #[.val (.int p0)] [(.ref w_MRD)])) t → Steps p.tables e below (s₁.setTop (entryFrame m #[(.int p0)] 1)) t := fun t k => k18 t (st19 _ k)
            obtain ⟨fs, hr, hrun, hended, hW, hsame⟩ := X19.leave (v := (some (.ref w_MRD))) (fun h => by rw [Bd.returns] at h; cases h)
            refine ⟨_, _, k20 _ ?_, hrun, hended, _, _, rfl, ?_, ⟨_, rfl⟩, hW, hsame.mono (by decide) (by decide)⟩
            · exact retOut X19 hx Bd.returns rfl (Or.inr (Or.inr (Or.inr (Or.inr ⟨rfl, rfl, rfl⟩)))) (hb hby d1_43) hr
            · show Q1 Z p0 w_P_5 w_P_10 w_P_20 w_AP w_MRD w_NMRD r h0 n0 _ T19.heap _
              rw [e19]
              exact ⟨congrArg (fun z => some (Value.ref z)) (by rw [← hpk]; unfold own_pk; rw [if_neg hc1, if_neg hc10, if_neg hc19, if_neg hc28, if_pos hc37]), N0, rfl⟩
          · have k21 : ∀ t, Steps p.tables e below (s₁.setTop (mkF m 44 #[.val (.int p0)] [])) t → Steps p.tables e below (s₁.setTop (entryFrame m #[(.int p0)] 1)) t := fun t k => k17 t (by
                show Steps p.tables e below (s₁.setTop (mkF m 37 #[.val (.int p0)] [(.int (4 : Int32)), (.int p0)])) _
                refine XS.icmpYes X0.here hx rfl (pc0 := 37) (pc' := 44) rfl (hb hby d1_37) rfl (feq hc37).2 (by decide) (by decide) ?_
                exact k)
            obtain ⟨T22, X22, e22, st22⟩ := getS2 X0 hx hZ hown (host := "") (Or.inl (hw _ (List.mem_of_getElem? (i := 26) rfl))) Via.refl e0 S_NMRD (g := (mkF m 44 #[.val (.int p0)] [])) rfl (hb hby d1_44)
            have k23 : ∀ t, Steps p.tables e below (T22.setTop (mkF m 47 #[.val (.int p0)] [(.ref w_NMRD)])) t → Steps p.tables e below (s₁.setTop (entryFrame m #[(.int p0)] 1)) t := fun t k => k21 t (st22 _ k)
            obtain ⟨fs, hr, hrun, hended, hW, hsame⟩ := X22.leave (v := (some (.ref w_NMRD))) (fun h => by rw [Bd.returns] at h; cases h)
            refine ⟨_, _, k23 _ ?_, hrun, hended, _, _, rfl, ?_, ⟨_, rfl⟩, hW, hsame.mono (by decide) (by decide)⟩
            · exact retOut X22 hx Bd.returns rfl (Or.inr (Or.inr (Or.inr (Or.inr ⟨rfl, rfl, rfl⟩)))) (hb hby d1_47) hr
            · show Q1 Z p0 w_P_5 w_P_10 w_P_20 w_AP w_MRD w_NMRD r h0 n0 _ T22.heap _
              rw [e22]
              exact ⟨congrArg (fun z => some (Value.ref z)) (by rw [← hpk]; unfold own_pk; rw [if_neg hc1, if_neg hc10, if_neg hc19, if_neg hc28, if_neg hc37]), N0, rfl⟩
theorem d2_0 : decode prog_21_method_5_code 0 = .ok (.aload_n 0, 1) := by decide +kernel
theorem d2_1 : decode prog_21_method_5_code 1 = .ok (.getfield 45, 3) := by decide +kernel
theorem d2_4 : decode prog_21_method_5_code 4 = .ok (.ifnull 7, 3) := by decide +kernel
theorem d2_7 : decode prog_21_method_5_code 7 = .ok (.iconst 1, 1) := by decide +kernel
theorem d2_8 : decode prog_21_method_5_code 8 = .ok (.goto 4, 3) := by decide +kernel
theorem d2_11 : decode prog_21_method_5_code 11 = .ok (.iconst 0, 1) := by decide +kernel
theorem d2_12 : decode prog_21_method_5_code 12 = .ok (.ireturn, 1) := by decide +kernel
theorem ef_2n (m : MethodId) (r0 : Addr) : entryFrame m #[(.ref r0)] 1 = mkF m 0 #[.val (.ref r0)] [] := by first | (simp [entryFrame, mkF, argsToLocals, Value.category]; done) | rfl
theorem pn_1 : plainName "com/example/navsim/navsim/NavigabilityMeasure" = true := by first | (simp [plainName, overriddenIn]; done) | decide +kernel
def Q2n (Z : State) (r0 : Addr) (h0 : Heap) (n0 : Nat) (v : Option Value) (h : Heap) (L : List Loc) : Prop := v = some (.int (0 : Int32)) ∧ Fr n0 L ∧ h = h0
set_option maxRecDepth 65536 in
set_option maxHeartbeats 40000000 in
theorem rm2n (l : Launch) (Z : State) (a0 : Array Value) (hw : ∀ d ∈ tables_1, d.before a0 Z = true) (ws : List Jvm.Cond) (r0 : Addr) (h0 : Heap) (n0 : Nat) (Z0 : n0 ≤ h0.size) (F_ofList_r0 : Fld Z h0 r0 "com/example/navsim/navsim/NavigabilityMeasure" "ofList" "Lcom/example/navsim/navsim/Measure;" .null) :
    MetFree l (⟨"com/example/navsim/navsim/NavigabilityMeasure", "local", "()Z"⟩ : MethodName) (head1 (Jvm.Cond.code (⟨"com/example/navsim/navsim/NavigabilityMeasure", "local", "()Z"⟩ : MethodName) prog_21_method_5_code 1 (some .boolean) :: ws) ({ frames := 0, cells := 0, slots := 0, locals := 0 } : Room)) (fun a U => a = #[(.ref r0)] ∧ Z.Warmed39 U.vm ∧ U.heap = h0) (fun _ _ _ _ _ => True) (fun _ U o U' => ∃ v L, o = .returned v ∧ Q2n Z r0 h0 n0 v U'.heap L ∧ FrameEnd U o U' L ({ frames := 0, cells := 0, slots := 0, locals := 0 } : Room).cells ({ frames := 0, cells := 0, slots := 0, locals := 0 } : Room).slots) := by
  refine MetFree.of_bodySF (plainFor_of_name pn_1) hisR ?_
  intro p e s m args below meth c s₁ Bd hml0 hP hK
  obtain ⟨rfl, hZ, hh⟩ := hP
  have hx := Bd.exec
  have hby := Bd.bytes
  have hml : c.maxLocals = 1 := hml0
  have hown : s.vm.findClass "com/example/navsim/navsim/NavigabilityMeasure" = some m.cls := findClass_of_methodNamed Bd.named
  have hnm := (name_of_methodNamed Bd.named Bd.method).1
  have X0 : Stand p l e ({ frames := 0, cells := 0, slots := 0, locals := 0 } : Room) s m #[(.ref r0)] below meth c s₁ [] 0 0 := Stand.of_body Bd
  have e0 : s₁.heap = h0 := by rw [← hh, Bd.state]; rfl
  have N0 := Fr.nil n0
  have k0 : ∀ t, Steps p.tables e below (s₁.setTop (mkF m 0 #[.val (.ref r0)] [])) t → Steps p.tables e below (s₁.setTop (entryFrame m #[(.ref r0)] 1)) t := fun t k => castTop (ef_2n m r0) k
  have k1 : ∀ t, Steps p.tables e below (s₁.setTop (mkF m 1 #[.val (.ref r0)] [(.ref r0)])) t → Steps p.tables e below (s₁.setTop (entryFrame m #[(.ref r0)] 1)) t := fun t k => k0 t (by
      show Steps p.tables e below (s₁.setTop (mkF m 0 #[.val (.ref r0)] [])) _
      refine XS.aloadN X0.here hx rfl (hb hby d2_0) rfl rfl ?_
      exact k)
  obtain ⟨T2, X2, e2, st2⟩ := getF X0 hx hZ hown (host := "") (Or.inl (hw _ (List.mem_of_getElem? (i := 13) rfl))) Via.refl e0 F_ofList_r0 (g := (mkF m 1 #[.val (.ref r0)] [(.ref r0)])) rfl rfl (hb hby d2_1)
  have k3 : ∀ t, Steps p.tables e below (T2.setTop (mkF m 4 #[.val (.ref r0)] [.null])) t → Steps p.tables e below (s₁.setTop (entryFrame m #[(.ref r0)] 1)) t := fun t k => k1 t (st2 _ k)
  have k4 : ∀ t, Steps p.tables e below (T2.setTop (mkF m 12 #[.val (.ref r0)] [(.int (0 : Int32))])) t → Steps p.tables e below (s₁.setTop (entryFrame m #[(.ref r0)] 1)) t := fun t k => k3 t (by
      show Steps p.tables e below (T2.setTop (mkF m 4 #[.val (.ref r0)] [.null])) _
      refine XS.ifnullYes X2.here hx rfl (pc0 := 4) (pc' := 11) rfl (hb hby d2_4) rfl (by decide) (by decide) ?_
      show Steps p.tables e below (T2.setTop (mkF m 11 #[.val (.ref r0)] [])) _
      refine XS.iconst X2.here hx rfl (hb hby d2_11) ?_
      exact k)
  obtain ⟨fs, hr, hrun, hended, hW, hsame⟩ := X2.leave (v := (some (.int (0 : Int32)))) (fun h => by rw [Bd.returns] at h; cases h)
  refine ⟨_, _, k4 _ ?_, hrun, hended, _, _, rfl, ?_, ⟨_, rfl⟩, hW, hsame.mono (by decide) (by decide)⟩
  · exact retN X2 hx (t := .boolean) Bd.returns (by simp) (hb hby d2_12) hr
  · show Q2n Z r0 h0 n0 _ T2.heap _
    rw [e2]
    exact ⟨rfl, N0, rfl⟩
theorem ef_2r (m : MethodId) (r0 : Addr) : entryFrame m #[(.ref r0)] 1 = mkF m 0 #[.val (.ref r0)] [] := by first | (simp [entryFrame, mkF, argsToLocals, Value.category]; done) | rfl
def Q2r (Z : State) (r0 : Addr) (q : Addr) (h0 : Heap) (n0 : Nat) (v : Option Value) (h : Heap) (L : List Loc) : Prop := v = some (.int (1 : Int32)) ∧ Fr n0 L ∧ h = h0
set_option maxRecDepth 65536 in
set_option maxHeartbeats 40000000 in
theorem rm2r (l : Launch) (Z : State) (a0 : Array Value) (hw : ∀ d ∈ tables_1, d.before a0 Z = true) (ws : List Jvm.Cond) (r0 : Addr) (q : Addr) (h0 : Heap) (n0 : Nat) (Z0 : n0 ≤ h0.size) (F_ofList_r0 : Fld Z h0 r0 "com/example/navsim/navsim/NavigabilityMeasure" "ofList" "Lcom/example/navsim/navsim/Measure;" (.ref q)) :
    MetFree l (⟨"com/example/navsim/navsim/NavigabilityMeasure", "local", "()Z"⟩ : MethodName) (head1 (Jvm.Cond.code (⟨"com/example/navsim/navsim/NavigabilityMeasure", "local", "()Z"⟩ : MethodName) prog_21_method_5_code 1 (some .boolean) :: ws) ({ frames := 0, cells := 0, slots := 0, locals := 0 } : Room)) (fun a U => a = #[(.ref r0)] ∧ Z.Warmed39 U.vm ∧ U.heap = h0) (fun _ _ _ _ _ => True) (fun _ U o U' => ∃ v L, o = .returned v ∧ Q2r Z r0 q h0 n0 v U'.heap L ∧ FrameEnd U o U' L ({ frames := 0, cells := 0, slots := 0, locals := 0 } : Room).cells ({ frames := 0, cells := 0, slots := 0, locals := 0 } : Room).slots) := by
  refine MetFree.of_bodySF (plainFor_of_name pn_1) hisR ?_
  intro p e s m args below meth c s₁ Bd hml0 hP hK
  obtain ⟨rfl, hZ, hh⟩ := hP
  have hx := Bd.exec
  have hby := Bd.bytes
  have hml : c.maxLocals = 1 := hml0
  have hown : s.vm.findClass "com/example/navsim/navsim/NavigabilityMeasure" = some m.cls := findClass_of_methodNamed Bd.named
  have hnm := (name_of_methodNamed Bd.named Bd.method).1
  have X0 : Stand p l e ({ frames := 0, cells := 0, slots := 0, locals := 0 } : Room) s m #[(.ref r0)] below meth c s₁ [] 0 0 := Stand.of_body Bd
  have e0 : s₁.heap = h0 := by rw [← hh, Bd.state]; rfl
  have N0 := Fr.nil n0
  have k0 : ∀ t, Steps p.tables e below (s₁.setTop (mkF m 0 #[.val (.ref r0)] [])) t → Steps p.tables e below (s₁.setTop (entryFrame m #[(.ref r0)] 1)) t := fun t k => castTop (ef_2r m r0) k
  have k1 : ∀ t, Steps p.tables e below (s₁.setTop (mkF m 1 #[.val (.ref r0)] [(.ref r0)])) t → Steps p.tables e below (s₁.setTop (entryFrame m #[(.ref r0)] 1)) t := fun t k => k0 t (by
      show Steps p.tables e below (s₁.setTop (mkF m 0 #[.val (.ref r0)] [])) _
      refine XS.aloadN X0.here hx rfl (hb hby d2_0) rfl rfl ?_
      exact k)
  obtain ⟨T2, X2, e2, st2⟩ := getF X0 hx hZ hown (host := "") (Or.inl (hw _ (List.mem_of_getElem? (i := 13) rfl))) Via.refl e0 F_ofList_r0 (g := (mkF m 1 #[.val (.ref r0)] [(.ref r0)])) rfl rfl (hb hby d2_1)
  have k3 : ∀ t, Steps p.tables e below (T2.setTop (mkF m 4 #[.val (.ref r0)] [(.ref q)])) t → Steps p.tables e below (s₁.setTop (entryFrame m #[(.ref r0)] 1)) t := fun t k => k1 t (st2 _ k)
  have k4 : ∀ t, Steps p.tables e below (T2.setTop (mkF m 12 #[.val (.ref r0)] [(.int (1 : Int32))])) t → Steps p.tables e below (s₁.setTop (entryFrame m #[(.ref r0)] 1)) t := fun t k => k3 t (by
      show Steps p.tables e below (T2.setTop (mkF m 4 #[.val (.ref r0)] [(.ref q)])) _
      refine XS.ifnullNo X2.here hx rfl (hb hby d2_4) rfl ?_
      show Steps p.tables e below (T2.setTop (mkF m 7 #[.val (.ref r0)] [])) _
      refine XS.iconst X2.here hx rfl (hb hby d2_7) ?_
      show Steps p.tables e below (T2.setTop (mkF m 8 #[.val (.ref r0)] [(.int (1 : Int32))])) _
      refine XS.goto X2.here hx rfl (pc0 := 8) (pc' := 12) rfl (hb hby d2_8) (by decide) (by decide) ?_
      exact k)
  obtain ⟨fs, hr, hrun, hended, hW, hsame⟩ := X2.leave (v := (some (.int (1 : Int32)))) (fun h => by rw [Bd.returns] at h; cases h)
  refine ⟨_, _, k4 _ ?_, hrun, hended, _, _, rfl, ?_, ⟨_, rfl⟩, hW, hsame.mono (by decide) (by decide)⟩
  · exact retN X2 hx (t := .boolean) Bd.returns (by simp) (hb hby d2_12) hr
  · show Q2r Z r0 q h0 n0 _ T2.heap _
    rw [e2]
    exact ⟨rfl, N0, rfl⟩
theorem ef_0 (m : MethodId) (p0 : Int32) : entryFrame m #[(.int p0)] maxLocals = mkF m 0 #[.val (.int p0), .unset, .unset, .unset] [] := by first | (simp [entryFrame, mkF, argsToLocals, Value.category, maxLocals]; done) | rfl
theorem pd_0 : parseMethodDescriptor "(I)Lcom/example/navsim/navsim/NavigabilityMeasure;" = some ⟨[.int], some (.object "com/example/navsim/navsim/NavigabilityMeasure")⟩ := by decide +kernel
theorem pd_1 : parseMethodDescriptor "()Z" = some ⟨[], some .boolean⟩ := by decide +kernel
def Q0 (Z : State) (p0 : Int32) (w_P_5 : Addr) (w_P_10 : Addr) (w_P_20 : Addr) (w_AP : Addr) (w_MRD : Addr) (w_NMRD : Addr) (r : Addr) (h0 : Heap) (n0 : Nat) (v : Option Value) (h : Heap) (L : List Loc) : Prop := v = some (.int (1 : Int32)) ∧ Fr n0 L
set_option maxRecDepth 65536 in
set_option maxHeartbeats 40000000 in
theorem rm0 (l : Launch) (Z : State) (a0 : Array Value) (hw : ∀ d ∈ tables_1, d.before a0 Z = true) (ws : List Jvm.Cond) (p0 : Int32) (w_P_5 : Addr) (w_P_10 : Addr) (w_P_20 : Addr) (w_AP : Addr) (w_MRD : Addr) (w_NMRD : Addr) (r : Addr) (h0 : Heap) (n0 : Nat) (Z0 : n0 ≤ h0.size) (S_P_5 : Sta Z h0 "com/example/navsim/navsim/NavigabilityMeasure" "P_5" "Lcom/example/navsim/navsim/NavigabilityMeasure;" (.ref w_P_5)) (S_P_10 : Sta Z h0 "com/example/navsim/navsim/NavigabilityMeasure" "P_10" "Lcom/example/navsim/navsim/NavigabilityMeasure;" (.ref w_P_10)) (S_P_20 : Sta Z h0 "com/example/navsim/navsim/NavigabilityMeasure" "P_20" "Lcom/example/navsim/navsim/NavigabilityMeasure;" (.ref w_P_20)) (S_AP : Sta Z h0 "com/example/navsim/navsim/NavigabilityMeasure" "AP" "Lcom/example/navsim/navsim/NavigabilityMeasure;" (.ref w_AP)) (S_MRD : Sta Z h0 "com/example/navsim/navsim/NavigabilityMeasure" "MRD" "Lcom/example/navsim/navsim/NavigabilityMeasure;" (.ref w_MRD)) (S_NMRD : Sta Z h0 "com/example/navsim/navsim/NavigabilityMeasure" "NMRD" "Lcom/example/navsim/navsim/NavigabilityMeasure;" (.ref w_NMRD)) (hpk : own_pk w_P_5 w_P_10 w_P_20 w_AP w_MRD w_NMRD (own_k p0) = r) (E_r : Exa Z h0 r "com/example/navsim/navsim/NavigabilityMeasure") (hlow : ¬ ((3 : Int32) < own_k p0) → ∃ q, Fld Z h0 r "com/example/navsim/navsim/NavigabilityMeasure" "ofList" "Lcom/example/navsim/navsim/Measure;" (.ref q)) (hhigh : (3 : Int32) < own_k p0 → Fld Z h0 r "com/example/navsim/navsim/NavigabilityMeasure" "ofList" "Lcom/example/navsim/navsim/Measure;" .null) :
    MetFree l x (head1 (Jvm.Cond.code x code maxLocals ret :: ws) room_1) (fun a U => a = #[(.int p0)] ∧ Z.Warmed39 U.vm ∧ U.heap = h0) (fun _ _ _ _ _ => True) (fun _ U o U' => ∃ v L, o = .returned v ∧ Q0 Z p0 w_P_5 w_P_10 w_P_20 w_AP w_MRD w_NMRD r h0 n0 v U'.heap L ∧ FrameEnd U o U' L 0 0) := by
  refine MetFree.of_bodySF (plainFor_of_name pn_0) hisR ?_
  intro p e s m args below meth c s₁ Bd hml0 hP hK
  obtain ⟨rfl, hZ, hh⟩ := hP
  have hx := Bd.exec
  have hby := Bd.bytes
  have hml : c.maxLocals = 4 := hml0
  have hown : s.vm.findClass "com/example/navsim/navsim/NavigabilityMeasureLocalPinLaw" = some m.cls := findClass_of_methodNamed Bd.named
  have hnm := (name_of_methodNamed Bd.named Bd.method).1
  have X0 : Stand p l e room_1 s m #[(.int p0)] below meth c s₁ [] 0 0 := Stand.of_body Bd
  have e0 : s₁.heap = h0 := by rw [← hh, Bd.state]; rfl
  have N0 := Fr.nil n0
  have k0 : ∀ t, Steps p.tables e below (s₁.setTop (mkF m 0 #[.val (.int p0), .unset, .unset, .unset] [])) t → Steps p.tables e below (s₁.setTop (entryFrame m #[(.int p0)] maxLocals)) t := fun t k => castTop (ef_0 m p0) k
  have k1 : ∀ t, Steps p.tables e below (s₁.setTop (mkF m 9 #[.val (.int p0), .val (.int (own_k p0)), .unset, .unset] [(.int (own_k p0))])) t → Steps p.tables e below (s₁.setTop (entryFrame m #[(.int p0)] maxLocals)) t := fun t k => k0 t (by
      show Steps p.tables e below (s₁.setTop (mkF m 0 #[.val (.int p0), .unset, .unset, .unset] [])) _
      refine XS.iloadN X0.here hx rfl (hb hby at_0) rfl ?_
      show Steps p.tables e below (s₁.setTop (mkF m 1 #[.val (.int p0), .unset, .unset, .unset] [(.int p0)])) _
      refine X0.ldcInt hx hown (mvT hZ (hw _ (List.mem_of_getElem? (i := 0) rfl))) (g := (mkF m 1 #[.val (.int p0), .unset, .unset, .unset] [(.int p0)])) rfl (hb hby at_1) _ ?_
      show Steps p.tables e below (s₁.setTop (mkF m 3 #[.val (.int p0), .unset, .unset, .unset] [(.int (2147483647 : Int32)), (.int p0)])) _
      refine XS.iand X0.here hx rfl (hb hby at_3) rfl ?_
      show Steps p.tables e below (s₁.setTop (mkF m 4 #[.val (.int p0), .unset, .unset, .unset] [(.int (p0 &&& (2147483647 : Int32)))])) _
      refine XS.bipush X0.here hx rfl (hb hby at_4) ?_
      show Steps p.tables e below (s₁.setTop (mkF m 6 #[.val (.int p0), .unset, .unset, .unset] [(.int (6 : Int32)), (.int (p0 &&& (2147483647 : Int32)))])) _
      refine iremM X0 hx rfl (hb hby at_6) rfl (by decide) ?_
      show Steps p.tables e below (s₁.setTop (mkF m 7 #[.val (.int p0), .unset, .unset, .unset] [(.int (own_k p0))])) _
      refine XS.istoreN X0.here hx rfl (hb hby at_7) rfl (l' := #[.val (.int p0), .val (.int (own_k p0)), .unset, .unset]) rfl ?_
      show Steps p.tables e below (s₁.setTop (mkF m 8 #[.val (.int p0), .val (.int (own_k p0)), .unset, .unset] [])) _
      refine XS.iloadN X0.here hx rfl (hb hby at_8) rfl ?_
      exact k)
  obtain ⟨_, _, ⟨T2, L2, kq2, n2⟩, -, X2, ⟨Lc2, hQ2, l2, y2, z2⟩, st2⟩ := Jvm.LawKit.callS X0 hx (y := (⟨"com/example/navsim/navsim/NavigabilityMeasureLocalPinLaw", "pick", "(I)Lcom/example/navsim/navsim/NavigabilityMeasure;"⟩ : MethodName)) hown (mvT hZ (hw _ (List.mem_of_getElem? (i := 1) rfl))) (mvT hZ (hw _ (List.mem_of_getElem? (i := 2) rfl))) (mvT hZ (hw _ (List.mem_of_getElem? (i := 3) rfl))) (mvT hZ (hw _ (List.mem_of_getElem? (i := 4) rfl))) (by decide) (backOf (W := 0) (rm1 l Z a0 hw [] (own_k p0) w_P_5 w_P_10 w_P_20 w_AP w_MRD w_NMRD r h0 n0 Z0 S_P_5 S_P_10 S_P_20 S_AP S_MRD S_NMRD hpk) hZ (hw _ (List.mem_of_getElem? (i := 4) rfl)) (hw _ (List.mem_of_getElem? (i := 3) rfl)) (by decide) (by decide)) (g := (mkF m 9 #[.val (.int p0), .val (.int (own_k p0)), .unset, .unset] [(.int (own_k p0))])) rfl (by rw [hml]; rfl) (argsL := [(.int (own_k p0))]) (rest := []) (lenOf pd_0 rfl) rfl (by show 2 * 0 + _ ≤ _; exact Nat.le_of_eq rfl) (hb hby at_9) (fun _ _ => ⟨rfl, e0, (by decide : 0 + 0 ≤ _), (by decide : 0 + 0 ≤ _)⟩)
  dsimp only [Pt.U, Pt.locs, Pt.cells, Pt.slots] at X2 l2 y2 z2 st2 hQ2
  subst l2 y2 z2
  obtain ⟨rfl, N2q, e2⟩ := hQ2
  have N2 := Fr.app N0 N2q
  have k3 : ∀ t, Steps p.tables e below (T2.setTop (mkF m 12 #[.val (.int p0), .val (.int (own_k p0)), .unset, .unset] [(.ref r)])) t → Steps p.tables e below (s₁.setTop (entryFrame m #[(.int p0)] maxLocals)) t := fun t k => k1 t (st2 _ k)
  have k4 : ∀ t, Steps p.tables e below (T2.setTop (mkF m 15 #[.val (.int p0), .val (.int (own_k p0)), .val (.ref r), .unset] [(.int (3 : Int32)), (.int (own_k p0))])) t → Steps p.tables e below (s₁.setTop (entryFrame m #[(.int p0)] maxLocals)) t := fun t k => k3 t (by
      show Steps p.tables e below (T2.setTop (mkF m 12 #[.val (.int p0), .val (.int (own_k p0)), .unset, .unset] [(.ref r)])) _
      refine XS.astoreN X2.here hx rfl (hb hby at_12) rfl rfl (l' := #[.val (.int p0), .val (.int (own_k p0)), .val (.ref r), .unset]) rfl ?_
      show Steps p.tables e below (T2.setTop (mkF m 13 #[.val (.int p0), .val (.int (own_k p0)), .val (.ref r), .unset] [])) _
      refine XS.iloadN X2.here hx rfl (hb hby at_13) rfl ?_
      show Steps p.tables e below (T2.setTop (mkF m 14 #[.val (.int p0), .val (.int (own_k p0)), .val (.ref r), .unset] [(.int (own_k p0))])) _
      refine XS.iconst X2.here hx rfl (hb hby at_14) ?_
      exact k)
  by_cases hc15 : (3 : Int32) < (own_k p0)
  · have k5 : ∀ t, Steps p.tables e below (T2.setTop (mkF m 24 #[.val (.int p0), .val (.int (own_k p0)), .val (.ref r), .val (.int (0 : Int32))] [])) t → Steps p.tables e below (s₁.setTop (entryFrame m #[(.int p0)] maxLocals)) t := fun t k => k4 t (by
        show Steps p.tables e below (T2.setTop (mkF m 15 #[.val (.int p0), .val (.int (own_k p0)), .val (.ref r), .unset] [(.int (3 : Int32)), (.int (own_k p0))])) _
        refine XS.icmpYes X2.here hx rfl (pc0 := 15) (pc' := 22) rfl (hb hby at_15) rfl (tlt hc15).2.2.1 (by decide) (by decide) ?_
        show Steps p.tables e below (T2.setTop (mkF m 22 #[.val (.int p0), .val (.int (own_k p0)), .val (.ref r), .unset] [])) _
        refine XS.iconst X2.here hx rfl (hb hby at_22) ?_
        show Steps p.tables e below (T2.setTop (mkF m 23 #[.val (.int p0), .val (.int (own_k p0)), .val (.ref r), .unset] [(.int (0 : Int32))])) _
        refine XS.istoreN X2.here hx rfl (hb hby at_23) rfl (l' := #[.val (.int p0), .val (.int (own_k p0)), .val (.ref r), .val (.int (0 : Int32))]) rfl ?_
        exact k)
    have F_r := hhigh hc15
    have k6 : ∀ t, Steps p.tables e below (T2.setTop (mkF m 25 #[.val (.int p0), .val (.int (own_k p0)), .val (.ref r), .val (.int (0 : Int32))] [(.ref r)])) t → Steps p.tables e below (s₁.setTop (entryFrame m #[(.int p0)] maxLocals)) t := fun t k => k5 t (by
        show Steps p.tables e below (T2.setTop (mkF m 24 #[.val (.int p0), .val (.int (own_k p0)), .val (.ref r), .val (.int (0 : Int32))] [])) _
        refine XS.aloadN X2.here hx rfl (hb hby at_24) rfl rfl ?_
        exact k)
    obtain ⟨cq7, kcq7, q7a, q7b, q7c⟩ := isOf hZ e2 E_r
    obtain ⟨_, _, ⟨T7, L7, kq7, n7⟩, -, X7, ⟨Lc7, hQ7, l7, y7, z7⟩, st7⟩ := X2.virtualBack hx (y := (⟨"com/example/navsim/navsim/NavigabilityMeasure", "local", "()Z"⟩ : MethodName)) (z := (⟨"com/example/navsim/navsim/NavigabilityMeasure", "local", "()Z"⟩ : MethodName)) hown (mvT hZ (hw _ (List.mem_of_getElem? (i := 8) rfl))) (mvT hZ (hw _ (List.mem_of_getElem? (i := 9) rfl))) (notFace_of_selects (args := #[]) (mvT hZ (hw _ (List.mem_of_getElem? (i := 11) rfl)))) (mvT hZ (hw _ (List.mem_of_getElem? (i := 11) rfl))) (mvT hZ (hw _ (List.mem_of_getElem? (i := 10) rfl))) (by decide) (backOf (W := 0) (rm2n l Z a0 hw [] r h0 n0 Z0 F_r) hZ (hw _ (List.mem_of_getElem? (i := 12) rfl)) (hw _ (List.mem_of_getElem? (i := 6) rfl)) (by decide) (by decide)) q7a q7c (g := (mkF m 25 #[.val (.int p0), .val (.int (own_k p0)), .val (.ref r), .val (.int (0 : Int32))] [(.ref r)])) rfl (by rw [hml]; rfl) (Steps.refl _) (argsL := []) (rest := []) (lenOf pd_1 rfl) rfl (by show 2 * 0 + _ ≤ _; exact Nat.le_of_eq rfl) (hb hby at_25) (fun _ _ => ⟨rfl, e2, (by decide : 0 + 0 ≤ _), (by decide : 0 + 0 ≤ _)⟩)
    dsimp only [Pt.U, Pt.locs, Pt.cells, Pt.slots] at X7 l7 y7 z7 st7 hQ7
    subst l7 y7 z7
    obtain ⟨rfl, N7q, e7⟩ := hQ7
    have N7 := Fr.app N2 N7q
    have k8 : ∀ t, Steps p.tables e below (T7.setTop (mkF m 28 #[.val (.int p0), .val (.int (own_k p0)), .val (.ref r), .val (.int (0 : Int32))] [(.int (0 : Int32))])) t → Steps p.tables e below (s₁.setTop (entryFrame m #[(.int p0)] maxLocals)) t := fun t k => k6 t (st7.trans k)
    have hc29 : (0 : Int32) = (0 : Int32) := by decide
    have k9 : ∀ t, Steps p.tables e below (T7.setTop (mkF m 37 #[.val (.int p0), .val (.int (own_k p0)), .val (.ref r), .val (.int (0 : Int32))] [(.int (1 : Int32))])) t → Steps p.tables e below (s₁.setTop (entryFrame m #[(.int p0)] maxLocals)) t := fun t k => k8 t (by
        show Steps p.tables e below (T7.setTop (mkF m 28 #[.val (.int p0), .val (.int (own_k p0)), .val (.ref r), .val (.int (0 : Int32))] [(.int (0 : Int32))])) _
        refine XS.iloadN X7.here hx rfl (hb hby at_28) rfl ?_
        show Steps p.tables e below (T7.setTop (mkF m 29 #[.val (.int p0), .val (.int (own_k p0)), .val (.ref r), .val (.int (0 : Int32))] [(.int (0 : Int32)), (.int (0 : Int32))])) _
        refine XS.icmpNo X7.here hx rfl (hb hby at_29) rfl (teq hc29).2 ?_
        show Steps p.tables e below (T7.setTop (mkF m 32 #[.val (.int p0), .val (.int (own_k p0)), .val (.ref r), .val (.int (0 : Int32))] [])) _
        refine XS.iconst X7.here hx rfl (hb hby at_32) ?_
        show Steps p.tables e below (T7.setTop (mkF m 33 #[.val (.int p0), .val (.int (own_k p0)), .val (.ref r), .val (.int (0 : Int32))] [(.int (1 : Int32))])) _
        refine XS.goto X7.here hx rfl (pc0 := 33) (pc' := 37) rfl (hb hby at_33) (by decide) (by decide) ?_
        exact k)
    obtain ⟨fs, hr, hrun, hended, hW, hsame⟩ := X7.leave (v := (some (.int (1 : Int32)))) (fun h => by rw [Bd.returns] at h; cases h)
    refine ⟨_, _, k9 _ ?_, hrun, hended, _, _, rfl, ?_, ⟨_, rfl⟩, hW, hsame.mono (by decide) (by decide)⟩
    · exact retN X7 hx (t := .boolean) Bd.returns (by simp) (hb hby at_37) hr
    · show Q0 Z p0 w_P_5 w_P_10 w_P_20 w_AP w_MRD w_NMRD r h0 n0 _ T7.heap _
      rw [e7]
      exact ⟨rfl, N7⟩
  · have k10 : ∀ t, Steps p.tables e below (T2.setTop (mkF m 24 #[.val (.int p0), .val (.int (own_k p0)), .val (.ref r), .val (.int (1 : Int32))] [])) t → Steps p.tables e below (s₁.setTop (entryFrame m #[(.int p0)] maxLocals)) t := fun t k => k4 t (by
        show Steps p.tables e below (T2.setTop (mkF m 15 #[.val (.int p0), .val (.int (own_k p0)), .val (.ref r), .unset] [(.int (3 : Int32)), (.int (own_k p0))])) _
        refine XS.icmpNo X2.here hx rfl (hb hby at_15) rfl (flt hc15).2.2.1 ?_
        show Steps p.tables e below (T2.setTop (mkF m 18 #[.val (.int p0), .val (.int (own_k p0)), .val (.ref r), .unset] [])) _
        refine XS.iconst X2.here hx rfl (hb hby at_18) ?_
        show Steps p.tables e below (T2.setTop (mkF m 19 #[.val (.int p0), .val (.int (own_k p0)), .val (.ref r), .unset] [(.int (1 : Int32))])) _
        refine XS.goto X2.here hx rfl (pc0 := 19) (pc' := 23) rfl (hb hby at_19) (by decide) (by decide) ?_
        show Steps p.tables e below (T2.setTop (mkF m 23 #[.val (.int p0), .val (.int (own_k p0)), .val (.ref r), .unset] [(.int (1 : Int32))])) _
        refine XS.istoreN X2.here hx rfl (hb hby at_23) rfl (l' := #[.val (.int p0), .val (.int (own_k p0)), .val (.ref r), .val (.int (1 : Int32))]) rfl ?_
        exact k)
    obtain ⟨q, F_r⟩ := hlow hc15
    have k11 : ∀ t, Steps p.tables e below (T2.setTop (mkF m 25 #[.val (.int p0), .val (.int (own_k p0)), .val (.ref r), .val (.int (1 : Int32))] [(.ref r)])) t → Steps p.tables e below (s₁.setTop (entryFrame m #[(.int p0)] maxLocals)) t := fun t k => k10 t (by
        show Steps p.tables e below (T2.setTop (mkF m 24 #[.val (.int p0), .val (.int (own_k p0)), .val (.ref r), .val (.int (1 : Int32))] [])) _
        refine XS.aloadN X2.here hx rfl (hb hby at_24) rfl rfl ?_
        exact k)
    obtain ⟨cq12, kcq12, q12a, q12b, q12c⟩ := isOf hZ e2 E_r
    obtain ⟨_, _, ⟨T12, L12, kq12, n12⟩, -, X12, ⟨Lc12, hQ12, l12, y12, z12⟩, st12⟩ := X2.virtualBack hx (y := (⟨"com/example/navsim/navsim/NavigabilityMeasure", "local", "()Z"⟩ : MethodName)) (z := (⟨"com/example/navsim/navsim/NavigabilityMeasure", "local", "()Z"⟩ : MethodName)) hown (mvT hZ (hw _ (List.mem_of_getElem? (i := 8) rfl))) (mvT hZ (hw _ (List.mem_of_getElem? (i := 9) rfl))) (notFace_of_selects (args := #[]) (mvT hZ (hw _ (List.mem_of_getElem? (i := 11) rfl)))) (mvT hZ (hw _ (List.mem_of_getElem? (i := 11) rfl))) (mvT hZ (hw _ (List.mem_of_getElem? (i := 10) rfl))) (by decide) (backOf (W := 0) (rm2r l Z a0 hw [] r q h0 n0 Z0 F_r) hZ (hw _ (List.mem_of_getElem? (i := 12) rfl)) (hw _ (List.mem_of_getElem? (i := 6) rfl)) (by decide) (by decide)) q12a q12c (g := (mkF m 25 #[.val (.int p0), .val (.int (own_k p0)), .val (.ref r), .val (.int (1 : Int32))] [(.ref r)])) rfl (by rw [hml]; rfl) (Steps.refl _) (argsL := []) (rest := []) (lenOf pd_1 rfl) rfl (by show 2 * 0 + _ ≤ _; exact Nat.le_of_eq rfl) (hb hby at_25) (fun _ _ => ⟨rfl, e2, (by decide : 0 + 0 ≤ _), (by decide : 0 + 0 ≤ _)⟩)
    dsimp only [Pt.U, Pt.locs, Pt.cells, Pt.slots] at X12 l12 y12 z12 st12 hQ12
    subst l12 y12 z12
    obtain ⟨rfl, N12q, e12⟩ := hQ12
    have N12 := Fr.app N2 N12q
    have k13 : ∀ t, Steps p.tables e below (T12.setTop (mkF m 28 #[.val (.int p0), .val (.int (own_k p0)), .val (.ref r), .val (.int (1 : Int32))] [(.int (1 : Int32))])) t → Steps p.tables e below (s₁.setTop (entryFrame m #[(.int p0)] maxLocals)) t := fun t k => k11 t (st12.trans k)
    have hc29 : (1 : Int32) = (1 : Int32) := by decide
    have k14 : ∀ t, Steps p.tables e below (T12.setTop (mkF m 37 #[.val (.int p0), .val (.int (own_k p0)), .val (.ref r), .val (.int (1 : Int32))] [(.int (1 : Int32))])) t → Steps p.tables e below (s₁.setTop (entryFrame m #[(.int p0)] maxLocals)) t := fun t k => k13 t (by
        show Steps p.tables e below (T12.setTop (mkF m 28 #[.val (.int p0), .val (.int (own_k p0)), .val (.ref r), .val (.int (1 : Int32))] [(.int (1 : Int32))])) _
        refine XS.iloadN X12.here hx rfl (hb hby at_28) rfl ?_
        show Steps p.tables e below (T12.setTop (mkF m 29 #[.val (.int p0), .val (.int (own_k p0)), .val (.ref r), .val (.int (1 : Int32))] [(.int (1 : Int32)), (.int (1 : Int32))])) _
        refine XS.icmpNo X12.here hx rfl (hb hby at_29) rfl (teq hc29).2 ?_
        show Steps p.tables e below (T12.setTop (mkF m 32 #[.val (.int p0), .val (.int (own_k p0)), .val (.ref r), .val (.int (1 : Int32))] [])) _
        refine XS.iconst X12.here hx rfl (hb hby at_32) ?_
        show Steps p.tables e below (T12.setTop (mkF m 33 #[.val (.int p0), .val (.int (own_k p0)), .val (.ref r), .val (.int (1 : Int32))] [(.int (1 : Int32))])) _
        refine XS.goto X12.here hx rfl (pc0 := 33) (pc' := 37) rfl (hb hby at_33) (by decide) (by decide) ?_
        exact k)
    obtain ⟨fs, hr, hrun, hended, hW, hsame⟩ := X12.leave (v := (some (.int (1 : Int32)))) (fun h => by rw [Bd.returns] at h; cases h)
    refine ⟨_, _, k14 _ ?_, hrun, hended, _, _, rfl, ?_, ⟨_, rfl⟩, hW, hsame.mono (by decide) (by decide)⟩
    · exact retN X12 hx (t := .boolean) Bd.returns (by simp) (hb hby at_37) hr
    · show Q0 Z p0 w_P_5 w_P_10 w_P_20 w_AP w_MRD w_NMRD r h0 n0 _ T12.heap _
      rw [e12]
      exact ⟨rfl, N12⟩
set_option maxRecDepth 65536 in
set_option maxHeartbeats 40000000 in
theorem comes_1 {Post : Tables → Env → Array Value → State → Outcome → State → Prop} (hpost : ∀ tb e args s v u, (limb_1_1.after args s (.returned v) u = true ∧ limb_1_2.after args s (.returned v) u = true ∧ True) → FrameEnd s (.returned v) u (Jvm.fieldLocs frame_1_writes args s ++ Jvm.arrayLocs frame_1_arrays args s ++ Jvm.staticLocs frame_1_statics s) 0 0 → Post tb e args s (.returned v) u) :
    ArmFor flags0 classFile x code maxLocals ret World_1 tables_1 room_1 Calls_1 rest_1 Pre_1 Post := by
  intro l hfl _ _ p e ha hc hk s m args below hf hA hF happ hP
  obtain ⟨hcalls, hrest, hpre⟩ := hP
  obtain ⟨-, -, -, hnamed, -, -, -, hat⟩ := (Spec.applies_iff hf).mp happ
  obtain ⟨hg, hn⟩ := and_e (Cond.before_iff.mp (show (Jvm.Cond.and given_1 narrow_1).before args s = true from hpre))
  obtain ⟨hcount, hgs⟩ := and_e hg
  obtain ⟨w0, rfl⟩ : ∃ w0 : Value, args = #[w0] := by
    have hs : args.size = 1 := by simpa [Cond.value, given_1] using hcount
    obtain ⟨L⟩ := args
    match L, hs with
    | [w0], _ => exact ⟨w0, rfl⟩
  have hw := fun d (hd : d ∈ tables_1) => atoms_spec (ws := Jvm.Cond.code x code maxLocals ret :: tables_1) hat d (List.mem_cons_of_mem _ hd)
  obtain ⟨i0, ei0⟩ := is_v hgs
  obtain rfl : w0 = (.int i0) := Option.some.inj ei0
  obtain ⟨hn1, hn2⟩ := and_e hn
  obtain ⟨hn3, hn4⟩ := and_e hn2
  obtain ⟨hn5, hn6⟩ := and_e hn4
  obtain ⟨hn7, hn8⟩ := and_e hn6
  obtain ⟨hn9, hn10⟩ := and_e hn8
  obtain ⟨hn11, hn12⟩ := and_e hn10
  obtain ⟨hn13, hn14⟩ := and_e hn12
  obtain ⟨hn15, hn16⟩ := and_e hn14
  obtain ⟨hn17, hn18⟩ := and_e hn16
  obtain ⟨hn19, hn20⟩ := and_e hn18
  obtain ⟨hn21, hn22⟩ := and_e hn20
  obtain ⟨hn23, hn24⟩ := and_e hn22
  obtain ⟨hn25, hn26⟩ := and_e hn24
  obtain ⟨hn27, hn28⟩ := and_e hn26
  obtain ⟨hn29, hn30⟩ := and_e hn28
  obtain ⟨w_P_5, es_P_5⟩ := exa_v hn1
  have S_P_5 := Sta.start es_P_5 (Or.inr ⟨(hw _ (List.mem_of_getElem? (i := 6) rfl)), (hw _ (List.mem_of_getElem? (i := 7) rfl))⟩)
  have E_w_P_5 := Exa.start es_P_5 hn1
  obtain ⟨w_M_P_5, es_M_P_5⟩ := exa_v hn3
  have S_M_P_5 := Sta.start es_M_P_5 (Or.inr ⟨(hw _ (List.mem_of_getElem? (i := 15) rfl)), (hw _ (List.mem_of_getElem? (i := 16) rfl))⟩)
  have E_w_M_P_5 := Exa.start es_M_P_5 hn3
  obtain ⟨w_AP, es_AP⟩ := exa_v hn7
  have S_AP := Sta.start es_AP (Or.inr ⟨(hw _ (List.mem_of_getElem? (i := 6) rfl)), (hw _ (List.mem_of_getElem? (i := 18) rfl))⟩)
  have E_w_AP := Exa.start es_AP hn7
  obtain ⟨w_M_MAP, es_M_MAP⟩ := exa_v hn9
  have S_M_MAP := Sta.start es_M_MAP (Or.inr ⟨(hw _ (List.mem_of_getElem? (i := 15) rfl)), (hw _ (List.mem_of_getElem? (i := 19) rfl))⟩)
  have E_w_M_MAP := Exa.start es_M_MAP hn9
  obtain ⟨w_P_20, es_P_20⟩ := exa_v hn13
  have S_P_20 := Sta.start es_P_20 (Or.inr ⟨(hw _ (List.mem_of_getElem? (i := 6) rfl)), (hw _ (List.mem_of_getElem? (i := 21) rfl))⟩)
  have E_w_P_20 := Exa.start es_P_20 hn13
  obtain ⟨w_M_P_20, es_M_P_20⟩ := exa_v hn15
  have S_M_P_20 := Sta.start es_M_P_20 (Or.inr ⟨(hw _ (List.mem_of_getElem? (i := 15) rfl)), (hw _ (List.mem_of_getElem? (i := 22) rfl))⟩)
  have E_w_M_P_20 := Exa.start es_M_P_20 hn15
  obtain ⟨w_P_10, es_P_10⟩ := exa_v hn19
  have S_P_10 := Sta.start es_P_10 (Or.inr ⟨(hw _ (List.mem_of_getElem? (i := 6) rfl)), (hw _ (List.mem_of_getElem? (i := 24) rfl))⟩)
  have E_w_P_10 := Exa.start es_P_10 hn19
  obtain ⟨w_M_P_10, es_M_P_10⟩ := exa_v hn21
  have S_M_P_10 := Sta.start es_M_P_10 (Or.inr ⟨(hw _ (List.mem_of_getElem? (i := 15) rfl)), (hw _ (List.mem_of_getElem? (i := 25) rfl))⟩)
  have E_w_M_P_10 := Exa.start es_M_P_10 hn21
  obtain ⟨w_NMRD, es_NMRD⟩ := exa_v hn25
  have S_NMRD := Sta.start es_NMRD (Or.inr ⟨(hw _ (List.mem_of_getElem? (i := 6) rfl)), (hw _ (List.mem_of_getElem? (i := 27) rfl))⟩)
  have E_w_NMRD := Exa.start es_NMRD hn25
  obtain ⟨w_MRD, es_MRD⟩ := exa_v hn29
  have S_MRD := Sta.start es_MRD (Or.inr ⟨(hw _ (List.mem_of_getElem? (i := 6) rfl)), (hw _ (List.mem_of_getElem? (i := 29) rfl))⟩)
  have E_w_MRD := Exa.start es_MRD hn29
  have F_P_5 := Fld.start (own_fr es_P_5 es_M_P_5 hn5)
  have F_P_10 := Fld.start (own_fr es_P_10 es_M_P_10 hn23)
  have F_P_20 := Fld.start (own_fr es_P_20 es_M_P_20 hn17)
  have F_AP := Fld.start (own_fr es_AP es_M_MAP hn11)
  have F_MRD := Fld.start ((fld_at es_MRD).symm.trans (null_v hn30))
  have F_NMRD := Fld.start ((fld_at es_NMRD).symm.trans (null_v hn27))
  obtain ⟨n, o, h1, h2, h3, _, L, rfl, ⟨rfl, N⟩, hq⟩ := rm0 l s _ hw tables_1 i0 w_P_5 w_P_10 w_P_20 w_AP w_MRD w_NMRD _ s.heap s.heap.size (Nat.le_refl _) S_P_5 S_P_10 S_P_20 S_AP S_MRD S_NMRD rfl (own_pk_all (P := fun z => Exa s s.heap z _) E_w_P_5 E_w_P_10 E_w_P_20 E_w_AP E_w_MRD E_w_NMRD _) (own_pk_low (P := fun z => ∃ q, Fld s s.heap z "com/example/navsim/navsim/NavigabilityMeasure" "ofList" "Lcom/example/navsim/navsim/Measure;" (.ref q)) ⟨_, F_P_5⟩ ⟨_, F_P_10⟩ ⟨_, F_P_20⟩ ⟨_, F_AP⟩ _ (own_k_nn _)) (own_pk_high (P := fun z => Fld s s.heap z "com/example/navsim/navsim/NavigabilityMeasure" "ofList" "Lcom/example/navsim/navsim/Measure;" .null) F_MRD F_NMRD _) p e ha hc hk s m _ below hf ((Spec.applies_iff_loose hf).mp happ).1 ⟨rfl, State.Warmed39.refl s, rfl⟩ trivial
  refine ⟨n, _, h1, h2, h3, hpost _ _ _ _ _ _ ⟨Cond.after_iff.mpr rfl, Cond.after_iff.mpr (eq_i res_at (Term.int_eval (1)) rfl), trivial⟩ ⟨hq.1, hq.2.1, (hq.2.2.sift fun y hy => Or.inr (N y hy)).mono (by decide) (by decide)⟩⟩
theorem main_1_1 : Claimed_1_1 := comes_1 fun _ _ _ _ _ _ h hF => ⟨h.1, hF⟩
theorem main_1_2 : Claimed_1_2 := comes_1 fun _ _ _ _ _ _ h hF => ⟨h.2.1, hF⟩
end Jvm.Pilot.@@N@@
namespace Jvm.Pilot.@@N@@
open Jvm Jvm.ClassFile Sem Op Lib Jvm.Free Jvm.Stand Jvm.Pilot.@@N@@.Jvm.D
/-! MADE BY PROGRAM (witnessworld.py) out of the Statement's table words and the real class files: 13 classes; the members and pool entries that the words name. The judged class is class 1, her method 2. -/
namespace start1
open Jvm.ClassFile
def u (s : String) : CpInfo := .utf8 (stringToUtf16 s)
/-- a pool by its gaps: so many unusable entries, then the entry; so many at the end -/
def gap : Nat → List CpInfo → List CpInfo
  | 0, r => r
  | n + 1, r => .unusable :: gap n r
def poolList (es : List (Nat × CpInfo)) (last : Nat) : List CpInfo := es.foldr (fun e r => gap e.1 (e.2 :: r)) (gap last [])
def pool (es : List (Nat × CpInfo)) (last : Nat) : Array CpInfo := ⟨poolList es last⟩
def fileOf (pool : Array CpInfo) (this : Nat) (attrs : Array Attribute := #[]) (ms : Array MethodInfo := #[]) (fl : Nat := 33) (sup : Nat := 0) (ifs : Array Nat := #[]) (fds : Array FieldInfo := #[]) : ClassFile where
  minorVersion := 0
  majorVersion := 65
  constantPool := pool
  accessFlags := fl
  thisClass := this
  superClass := sup
  interfaces := ifs
  fields := fds
  methods := ms
  attributes := attrs
def plain (name : String) (sup : Option ClassId) : Class where
  name := name
  kind := .ordinary
  loader := none
  accessFlags := 33
  super := sup
  interfaces := #[]
  cf := none
  fields := #[]
  methods := #[]
  instanceTypes := #[]
  staticTypes := #[]
  resolved := #[]
  callSites := []
  init := .initialized
  statics := none
  mirror := none

def pool0 : Array CpInfo := pool [(5, u "<init>"), (0, u "()V"), (1, .class_ 10), (1, u "java/lang/Object")] 113

def k0m0 : Method := { name := "<init>", desc := "()V", sig := { parameters := [], returnType := none }, accessFlags := 1, code := none }
/-- java/lang/Object -/
def k0 : Class := { plain "java/lang/Object" none with
  accessFlags := 33
  interfaces := #[]
  cf := some (fileOf pool0 8 #[] #[{ accessFlags := 1, nameIndex := 5, descriptorIndex := 6, attributes := #[] }] 33 0 #[] #[])
  fields := #[]
  methods := #[k0m0]
  instanceTypes := #[]
  staticTypes := #[]
  resolved := Array.replicate 124 none
  statics := none }

def pool1 : Array CpInfo := pool [(2, .class_ 4), (1, u "java/lang/Object"), (0, u "<init>"), (0, u "()V"), (0, .fieldref 8 9), (0, .class_ 10), (0, .nameAndType 11 12), (0, u "com/example/navsim/navsim/NavigabilityMeasure"), (0, u "P_5"), (0, u "Lcom/example/navsim/navsim/NavigabilityMeasure;"), (0, .fieldref 8 14), (0, .nameAndType 15 12), (0, u "P_10"), (0, .fieldref 8 17), (0, .nameAndType 18 12), (0, u "P_20"), (0, .fieldref 8 20), (0, .nameAndType 21 12), (0, u "AP"), (0, .fieldref 8 23), (0, .nameAndType 24 12), (0, u "MRD"), (0, .fieldref 8 26), (0, .nameAndType 27 12), (0, u "NMRD"), (0, .integer 2147483647), (0, .methodref 30 31), (0, .class_ 32), (0, .nameAndType 33 34), (0, u "com/example/navsim/navsim/NavigabilityMeasureLocalPinLaw"), (0, u "pick"), (0, u "(I)Lcom/example/navsim/navsim/NavigabilityMeasure;"), (0, .methodref 8 36), (0, .nameAndType 37 38), (0, u "local"), (0, u "()Z"), (3, u "law"), (0, u "(I)Z")] 2

def k1m0 : Method := { name := "<init>", desc := "()V", sig := { parameters := [], returnType := none }, accessFlags := 2, code := none }
def k1c1 : Code := { maxStack := 2, maxLocals := 1, code := method_2_code, exceptionTable := #[], attributes := #[] }
def k1m1 : Method := { name := "pick", desc := "(I)Lcom/example/navsim/navsim/NavigabilityMeasure;", sig := { parameters := [.int], returnType := some (.object "com/example/navsim/navsim/NavigabilityMeasure") }, accessFlags := 10, code := some k1c1 }
def k1c2 : Code := { maxStack := 2, maxLocals := 4, code := code, exceptionTable := #[], attributes := #[] }
def k1m2 : Method := { name := "law", desc := "(I)Z", sig := { parameters := [.int], returnType := some .boolean }, accessFlags := 9, code := some k1c2 }
/-- com/example/navsim/navsim/NavigabilityMeasureLocalPinLaw -/
def k1 : Class := { plain "com/example/navsim/navsim/NavigabilityMeasureLocalPinLaw" (some 0) with
  accessFlags := 49
  interfaces := #[]
  cf := some (fileOf pool1 30 #[] #[{ accessFlags := 2, nameIndex := 5, descriptorIndex := 6, attributes := #[] }, { accessFlags := 10, nameIndex := 33, descriptorIndex := 34, attributes := #[] }, { accessFlags := 9, nameIndex := 42, descriptorIndex := 43, attributes := #[] }] 49 2 #[] #[])
  fields := #[]
  methods := #[k1m0, k1m1, k1m2]
  instanceTypes := #[]
  staticTypes := #[]
  resolved := Array.replicate 46 none
  statics := none }

def pool2 : Array CpInfo := pool [(1, .class_ 2), (0, u "java/lang/constant/Constable"), (0, .class_ 4), (0, u "java/lang/Object")] 6

/-- java/lang/constant/Constable -/
def k2 : Class := { plain "java/lang/constant/Constable" (some 0) with
  accessFlags := 1537
  interfaces := #[]
  cf := some (fileOf pool2 1 #[] #[] 1537 3 #[] #[])
  fields := #[]
  methods := #[]
  instanceTypes := #[]
  staticTypes := #[]
  resolved := Array.replicate 11 none
  statics := none }

def pool3 : Array CpInfo := pool [(1, .class_ 2), (0, u "java/lang/Comparable"), (0, .class_ 4), (0, u "java/lang/Object")] 7

/-- java/lang/Comparable -/
def k3 : Class := { plain "java/lang/Comparable" (some 0) with
  accessFlags := 1537
  interfaces := #[]
  cf := some (fileOf pool3 1 #[] #[] 1537 3 #[] #[])
  fields := #[]
  methods := #[]
  instanceTypes := #[]
  staticTypes := #[]
  resolved := Array.replicate 12 none
  statics := none }

def pool4 : Array CpInfo := pool [(1, .class_ 2), (0, u "java/io/Serializable"), (0, .class_ 4), (0, u "java/lang/Object")] 2

/-- java/io/Serializable -/
def k4 : Class := { plain "java/io/Serializable" (some 0) with
  accessFlags := 1537
  interfaces := #[]
  cf := some (fileOf pool4 1 #[] #[] 1537 3 #[] #[])
  fields := #[]
  methods := #[]
  instanceTypes := #[]
  staticTypes := #[]
  resolved := Array.replicate 7 none
  statics := none }

def pool5 : Array CpInfo := pool [(2, .class_ 4), (1, u "java/lang/Enum"), (0, u "name"), (0, u "Ljava/lang/String;"), (2, u "ordinal"), (0, u "I"), (1, .class_ 14), (1, u "java/lang/Object"), (4, u "hash"), (86, .class_ 108), (1, u "java/lang/Enum$EnumDesc"), (2, .class_ 112), (0, u "java/lang/constant/Constable"), (0, .class_ 114), (0, u "java/lang/Comparable"), (0, .class_ 116), (0, u "java/io/Serializable")] 87

/-- java/lang/Enum -/
def k5 : Class := { plain "java/lang/Enum" (some 0) with
  accessFlags := 1057
  interfaces := #[2, 3, 4]
  cf := some (fileOf pool5 2 #[.nestMembers #[106]] #[] 1057 12 #[111, 113, 115] #[{ accessFlags := 18, nameIndex := 5, descriptorIndex := 6, attributes := #[] }, { accessFlags := 18, nameIndex := 9, descriptorIndex := 10, attributes := #[] }, { accessFlags := 2, nameIndex := 19, descriptorIndex := 10, attributes := #[] }])
  fields := #[{ name := "name", type := (.object "java/lang/String"), accessFlags := 18, slot := 0, constantValue := 0 }, { name := "ordinal", type := .int, accessFlags := 18, slot := 1, constantValue := 0 }, { name := "hash", type := .int, accessFlags := 2, slot := 2, constantValue := 0 }]
  methods := #[]
  instanceTypes := #[(.object "java/lang/String"), .int, .int]
  staticTypes := #[]
  resolved := Array.replicate 204 none
  statics := none }

def pool6 : Array CpInfo := pool [(1, .class_ 2), (0, u "com/example/navsim/navsim/NavigabilityMeasure"), (2, u "P_5"), (0, u "Lcom/example/navsim/navsim/NavigabilityMeasure;"), (2, u "P_10"), (2, u "P_20"), (2, u "AP"), (2, u "MRD"), (2, u "NMRD"), (2, u "$VALUES"), (0, u "[Lcom/example/navsim/navsim/NavigabilityMeasure;"), (6, .class_ 34), (1, u "java/lang/Enum"), (8, u "label"), (0, u "Ljava/lang/String;"), (0, .fieldref 1 46), (0, .nameAndType 47 48), (0, u "ofList"), (0, u "Lcom/example/navsim/navsim/Measure;"), (53, u "local"), (0, u "()Z")] 22

def k6c0 : Code := { maxStack := 1, maxLocals := 1, code := prog_21_method_5_code, exceptionTable := #[], attributes := #[] }
def k6m0 : Method := { name := "local", desc := "()Z", sig := { parameters := [], returnType := some .boolean }, accessFlags := 1, code := some k6c0 }
/-- com/example/navsim/navsim/NavigabilityMeasure -/
def k6 : Class := { plain "com/example/navsim/navsim/NavigabilityMeasure" (some 5) with
  accessFlags := 16433
  interfaces := #[]
  cf := some (fileOf pool6 1 #[] #[{ accessFlags := 1, nameIndex := 102, descriptorIndex := 103, attributes := #[] }] 16433 32 #[] #[{ accessFlags := 16409, nameIndex := 5, descriptorIndex := 6, attributes := #[] }, { accessFlags := 16409, nameIndex := 9, descriptorIndex := 6, attributes := #[] }, { accessFlags := 16409, nameIndex := 12, descriptorIndex := 6, attributes := #[] }, { accessFlags := 16409, nameIndex := 15, descriptorIndex := 6, attributes := #[] }, { accessFlags := 16409, nameIndex := 18, descriptorIndex := 6, attributes := #[] }, { accessFlags := 16409, nameIndex := 21, descriptorIndex := 6, attributes := #[] }, { accessFlags := 18, nameIndex := 43, descriptorIndex := 44, attributes := #[] }, { accessFlags := 18, nameIndex := 47, descriptorIndex := 48, attributes := #[] }, { accessFlags := 4122, nameIndex := 24, descriptorIndex := 25, attributes := #[] }])
  fields := #[{ name := "P_5", type := (.object "com/example/navsim/navsim/NavigabilityMeasure"), accessFlags := 16409, slot := 0, constantValue := 0 }, { name := "P_10", type := (.object "com/example/navsim/navsim/NavigabilityMeasure"), accessFlags := 16409, slot := 1, constantValue := 0 }, { name := "P_20", type := (.object "com/example/navsim/navsim/NavigabilityMeasure"), accessFlags := 16409, slot := 2, constantValue := 0 }, { name := "AP", type := (.object "com/example/navsim/navsim/NavigabilityMeasure"), accessFlags := 16409, slot := 3, constantValue := 0 }, { name := "MRD", type := (.object "com/example/navsim/navsim/NavigabilityMeasure"), accessFlags := 16409, slot := 4, constantValue := 0 }, { name := "NMRD", type := (.object "com/example/navsim/navsim/NavigabilityMeasure"), accessFlags := 16409, slot := 5, constantValue := 0 }, { name := "label", type := (.object "java/lang/String"), accessFlags := 18, slot := 3, constantValue := 0 }, { name := "ofList", type := (.object "com/example/navsim/navsim/Measure"), accessFlags := 18, slot := 4, constantValue := 0 }, { name := "$VALUES", type := (.array (.object "com/example/navsim/navsim/NavigabilityMeasure")), accessFlags := 4122, slot := 6, constantValue := 0 }]
  methods := #[k6m0]
  instanceTypes := #[(.object "java/lang/String"), .int, .int, (.object "java/lang/String"), (.object "com/example/navsim/navsim/Measure")]
  staticTypes := #[(.object "com/example/navsim/navsim/NavigabilityMeasure"), (.object "com/example/navsim/navsim/NavigabilityMeasure"), (.object "com/example/navsim/navsim/NavigabilityMeasure"), (.object "com/example/navsim/navsim/NavigabilityMeasure"), (.object "com/example/navsim/navsim/NavigabilityMeasure"), (.object "com/example/navsim/navsim/NavigabilityMeasure"), (.array (.object "com/example/navsim/navsim/NavigabilityMeasure"))]
  resolved := Array.replicate 126 none
  statics := some 0 }

def pool7 : Array CpInfo := pool [(1, .class_ 2), (0, u "com/example/navsim/navsim/Measure"), (2, u "NUM_Q"), (0, u "Lcom/example/navsim/navsim/Measure;"), (2, u "NUM_RET"), (2, u "NUM_REL"), (2, u "NUM_REL_RET"), (2, u "MAP"), (2, u "GM_MAP"), (2, u "P_5"), (2, u "P_10"), (2, u "P_20"), (2, u "P_100"), (2, u "RECALL_1000"), (2, u "$VALUES"), (0, u "[Lcom/example/navsim/navsim/Measure;"), (6, .class_ 49), (1, u "java/lang/Enum"), (8, u "label"), (0, u "Ljava/lang/String;"), (2, u "combination"), (0, u "Lcom/example/navsim/navsim/Measure$Combination;"), (2, u "topicValue"), (0, u "Ljava/util/function/ToDoubleFunction;"), (25, .class_ 95), (1, u "com/example/navsim/navsim/Measure$Combination"), (83, u "GEOMETRIC_MEAN_FLOOR"), (0, u "D")] 81

/-- com/example/navsim/navsim/Measure -/
def k7 : Class := { plain "com/example/navsim/navsim/Measure" (some 5) with
  accessFlags := 16433
  interfaces := #[]
  cf := some (fileOf pool7 1 #[.nestMembers #[93]] #[] 16433 47 #[] #[{ accessFlags := 16409, nameIndex := 5, descriptorIndex := 6, attributes := #[] }, { accessFlags := 16409, nameIndex := 9, descriptorIndex := 6, attributes := #[] }, { accessFlags := 16409, nameIndex := 12, descriptorIndex := 6, attributes := #[] }, { accessFlags := 16409, nameIndex := 15, descriptorIndex := 6, attributes := #[] }, { accessFlags := 16409, nameIndex := 18, descriptorIndex := 6, attributes := #[] }, { accessFlags := 16409, nameIndex := 21, descriptorIndex := 6, attributes := #[] }, { accessFlags := 16409, nameIndex := 24, descriptorIndex := 6, attributes := #[] }, { accessFlags := 16409, nameIndex := 27, descriptorIndex := 6, attributes := #[] }, { accessFlags := 16409, nameIndex := 30, descriptorIndex := 6, attributes := #[] }, { accessFlags := 16409, nameIndex := 33, descriptorIndex := 6, attributes := #[] }, { accessFlags := 16409, nameIndex := 36, descriptorIndex := 6, attributes := #[] }, { accessFlags := 25, nameIndex := 179, descriptorIndex := 180, attributes := #[] }, { accessFlags := 18, nameIndex := 58, descriptorIndex := 59, attributes := #[] }, { accessFlags := 18, nameIndex := 62, descriptorIndex := 63, attributes := #[] }, { accessFlags := 18, nameIndex := 66, descriptorIndex := 67, attributes := #[] }, { accessFlags := 4122, nameIndex := 39, descriptorIndex := 40, attributes := #[] }])
  fields := #[{ name := "NUM_Q", type := (.object "com/example/navsim/navsim/Measure"), accessFlags := 16409, slot := 0, constantValue := 0 }, { name := "NUM_RET", type := (.object "com/example/navsim/navsim/Measure"), accessFlags := 16409, slot := 1, constantValue := 0 }, { name := "NUM_REL", type := (.object "com/example/navsim/navsim/Measure"), accessFlags := 16409, slot := 2, constantValue := 0 }, { name := "NUM_REL_RET", type := (.object "com/example/navsim/navsim/Measure"), accessFlags := 16409, slot := 3, constantValue := 0 }, { name := "MAP", type := (.object "com/example/navsim/navsim/Measure"), accessFlags := 16409, slot := 4, constantValue := 0 }, { name := "GM_MAP", type := (.object "com/example/navsim/navsim/Measure"), accessFlags := 16409, slot := 5, constantValue := 0 }, { name := "P_5", type := (.object "com/example/navsim/navsim/Measure"), accessFlags := 16409, slot := 6, constantValue := 0 }, { name := "P_10", type := (.object "com/example/navsim/navsim/Measure"), accessFlags := 16409, slot := 7, constantValue := 0 }, { name := "P_20", type := (.object "com/example/navsim/navsim/Measure"), accessFlags := 16409, slot := 8, constantValue := 0 }, { name := "P_100", type := (.object "com/example/navsim/navsim/Measure"), accessFlags := 16409, slot := 9, constantValue := 0 }, { name := "RECALL_1000", type := (.object "com/example/navsim/navsim/Measure"), accessFlags := 16409, slot := 10, constantValue := 0 }, { name := "GEOMETRIC_MEAN_FLOOR", type := .double, accessFlags := 25, slot := 11, constantValue := 0 }, { name := "label", type := (.object "java/lang/String"), accessFlags := 18, slot := 3, constantValue := 0 }, { name := "combination", type := (.object "com/example/navsim/navsim/Measure$Combination"), accessFlags := 18, slot := 4, constantValue := 0 }, { name := "topicValue", type := (.object "java/util/function/ToDoubleFunction"), accessFlags := 18, slot := 5, constantValue := 0 }, { name := "$VALUES", type := (.array (.object "com/example/navsim/navsim/Measure")), accessFlags := 4122, slot := 12, constantValue := 0 }]
  methods := #[]
  instanceTypes := #[(.object "java/lang/String"), .int, .int, (.object "java/lang/String"), (.object "com/example/navsim/navsim/Measure$Combination"), (.object "java/util/function/ToDoubleFunction")]
  staticTypes := #[(.object "com/example/navsim/navsim/Measure"), (.object "com/example/navsim/navsim/Measure"), (.object "com/example/navsim/navsim/Measure"), (.object "com/example/navsim/navsim/Measure"), (.object "com/example/navsim/navsim/Measure"), (.object "com/example/navsim/navsim/Measure"), (.object "com/example/navsim/navsim/Measure"), (.object "com/example/navsim/navsim/Measure"), (.object "com/example/navsim/navsim/Measure"), (.object "com/example/navsim/navsim/Measure"), (.object "com/example/navsim/navsim/Measure"), .double, (.array (.object "com/example/navsim/navsim/Measure"))]
  resolved := Array.replicate 262 none
  statics := some 1 }

def pool8 : Array CpInfo := pool [(1, u "java/lang/Cloneable"), (0, .class_ 1), (0, u "java/lang/Object"), (0, .class_ 3)] 3

/-- java/lang/Cloneable -/
def k8 : Class := { plain "java/lang/Cloneable" (some 0) with
  accessFlags := 1537
  interfaces := #[]
  cf := some (fileOf pool8 2 #[] #[] 1537 4 #[] #[])
  fields := #[]
  methods := #[]
  instanceTypes := #[]
  staticTypes := #[]
  resolved := Array.replicate 8 none
  statics := none }

/-- the primitive byte -/
def k9 : Class := { plain "byte" none with kind := .primitive 'B', accessFlags := 0x411 }
/-- [B -/
def k10 : Class := { plain "[B" (some 0) with kind := .array 9 .byte, interfaces := #[8, 4], accessFlags := 1041 }

/-- the primitive int -/
def k11 : Class := { plain "int" none with kind := .primitive 'I', accessFlags := 0x411 }
/-- [I -/
def k12 : Class := { plain "[I" (some 0) with kind := .array 11 .int, interfaces := #[8, 4], accessFlags := 1041 }

def heap : Heap := #[{ cls := 6, slots := #[.ref 6, .ref 7, .ref 8, .ref 9, .ref 10, .ref 11, .null], vm := .statics 6 },
  { cls := 7, slots := #[.null, .null, .null, .null, .ref 5, .null, .ref 2, .ref 3, .ref 4, .null, .null, .double 0, .null], vm := .statics 7 },
  { cls := 7, slots := #[.null, .int 0, .int 0, .null, .null, .null], vm := .none },
  { cls := 7, slots := #[.null, .int 1, .int 0, .null, .null, .null], vm := .none },
  { cls := 7, slots := #[.null, .int 2, .int 0, .null, .null, .null], vm := .none },
  { cls := 7, slots := #[.null, .int 3, .int 0, .null, .null, .null], vm := .none },
  { cls := 6, slots := #[.null, .int 4, .int 0, .null, .ref 2], vm := .none },
  { cls := 6, slots := #[.null, .int 5, .int 0, .null, .ref 3], vm := .none },
  { cls := 6, slots := #[.null, .int 6, .int 0, .null, .ref 4], vm := .none },
  { cls := 6, slots := #[.null, .int 7, .int 0, .null, .ref 5], vm := .none },
  { cls := 6, slots := #[.null, .int 8, .int 0, .null, .null], vm := .none },
  { cls := 6, slots := #[.null, .int 9, .int 0, .null, .null], vm := .none }]
def classes : Array Class := #[k0, k1, k2, k3, k4, k5, k6, k7, k8, k9, k10, k11, k12]
def interned : List (Array UInt16 × Addr) := []
def slotsUsed : Nat := 74
def theMethod : MethodId := ⟨1, 2⟩
def args0 : Array Value := #[.int 5]
def aboutOver (below : List Frame) : State where
  vm := { classes := classes, interned := interned.toArray }
  heap := heap
  slotsUsed := slotsUsed
  threads := #[{ frames := .invoking theMethod args0 :: below }]
def below0 : List Frame := [.native { method := ⟨0, 0⟩, args := #[] }]
def about1 : State := aboutOver below0
def p0 : Program := .bare "" "" ""
def e0 : Env := launch0.env 0 0 0
theorem w_frames : about1.frames = Frame.invoking theMethod args0 :: below0 := rfl
set_option maxRecDepth 65536 in
theorem w_args : argsFit about1.vm theMethod args0 = true := by decide +kernel
set_option maxRecDepth 65536 in
theorem w_heap : heapFits about1 = true := by decide +kernel
set_option maxRecDepth 65536 in
theorem w_runnable : about1.curStatus? = some .runnable := by decide +kernel
set_option maxRecDepth 65536 in
theorem w_alone : about1.alone = true := by decide +kernel
set_option maxRecDepth 65536 in
theorem w_named : about1.methodNamed? x = some theMethod := by decide +kernel
set_option maxRecDepth 65536 in
theorem w_hears : about1.hears theMethod below0 = true := by decide +kernel
set_option maxRecDepth 65536 in
theorem w_ripe : about1.ripe theMethod args0 below0 = true := by decide +kernel
theorem w_running : about1.status = .running := rfl
set_option maxRecDepth 65536 in
theorem w_room : about1.hasRoom e0.platform room_1 = true :=
  launch0.hasRoom_least _ room_1 (by decide +kernel) (by decide +kernel) (by decide +kernel) (by decide +kernel) (by decide +kernel) (by decide +kernel)
theorem allAtoms_all (ts : List Jvm.Cond) (a : Array Jvm.Value) (st : Jvm.State) : (allAtoms ts).before a st = ts.all (fun c => c.before a st) := by
  induction ts with
  | nil => rfl
  | cons c t ih =>
    show (Jvm.Cond.and c (allAtoms t)).before a st = _
    rw [Jvm.Cond.before_and, ih, List.all_cons]
def words1 : List Jvm.Cond := Jvm.Cond.code x code maxLocals ret :: tables_1
/-- a 'code' word, met by the world's own term for the bytes: nothing is compared byte by byte -/
theorem code_word {y : MethodName} {bytes : ByteArray} {mx : Nat} {rt : Option FieldType} {a : Array Value} {s : State} {m : MethodId} {meth : Method} {c : Code} (h1 : s.methodNamed? y = some m) (h2 : s.vm.method? m = some meth) (h3 : meth.code = some c) (h4 : c.code = bytes)
    (h5 : (c.maxLocals == mx && c.exceptionTable.isEmpty && decide (c.maxStack ≤ mostOperands) && decide (meth.sig.returnType = rt) && !meth.locks && decide (parseMethodDescriptor y.desc = some meth.sig)) = true) : (Jvm.Cond.code y bytes mx rt).before a s = true := by
  simp only [Bool.and_eq_true, beq_iff_eq, Bool.not_eq_true', decide_eq_true_eq] at h5
  obtain ⟨⟨⟨⟨⟨g1, g2⟩, g3⟩, g4⟩, g5⟩, g6⟩ := h5
  simp [Cond.before, Cond.holds, Cond.value, h1, h2, h3, h4, g1, g2, g3, g4, g5, g6]
def isCode : Jvm.Cond → Bool
  | .code _ _ _ _ => true
  | _ => false
theorem all_split {L : List Jvm.Cond} {P : Jvm.Cond → Bool} (h1 : L.all (fun c => isCode c || P c) = true) (h2 : ∀ c ∈ L.filter isCode, P c = true) : L.all P = true := by
  refine List.all_eq_true.mpr fun c hc => ?_
  have h := List.all_eq_true.mp h1 c hc
  rcases Bool.eq_false_or_eq_true (isCode c) with hi | hi
  · exact h2 c (List.mem_filter.mpr ⟨hc, hi⟩)
  · simpa [hi] using h
set_option maxRecDepth 65536 in
theorem w_c0 : (Jvm.Cond.code x code maxLocals ret).before args0 about1 = true := code_word (m := ⟨1, 2⟩) (meth := k1m2) (c := k1c2) (by decide +kernel) rfl rfl rfl (by decide +kernel)
set_option maxRecDepth 65536 in
theorem w_c1 : (Jvm.Cond.code ({ cls := "com/example/navsim/navsim/NavigabilityMeasureLocalPinLaw", name := "pick", desc := "(I)Lcom/example/navsim/navsim/NavigabilityMeasure;" } : Jvm.MethodName) method_2_code (1 : Nat) (Option.some (Jvm.ClassFile.FieldType.object "com/example/navsim/navsim/NavigabilityMeasure"))).before args0 about1 = true := code_word (m := ⟨1, 1⟩) (meth := k1m1) (c := k1c1) (by decide +kernel) rfl rfl rfl (by decide +kernel)
set_option maxRecDepth 65536 in
theorem w_c2 : (Jvm.Cond.code ({ cls := "com/example/navsim/navsim/NavigabilityMeasure", name := "local", desc := "()Z" } : Jvm.MethodName) prog_21_method_5_code (1 : Nat) (Option.some Jvm.ClassFile.FieldType.boolean)).before args0 about1 = true := code_word (m := ⟨6, 0⟩) (meth := k6m0) (c := k6c0) (by decide +kernel) rfl rfl rfl (by decide +kernel)
def codes1 : List Jvm.Cond := [Jvm.Cond.code x code maxLocals ret, Jvm.Cond.code ({ cls := "com/example/navsim/navsim/NavigabilityMeasureLocalPinLaw", name := "pick", desc := "(I)Lcom/example/navsim/navsim/NavigabilityMeasure;" } : Jvm.MethodName) method_2_code (1 : Nat) (Option.some (Jvm.ClassFile.FieldType.object "com/example/navsim/navsim/NavigabilityMeasure")), Jvm.Cond.code ({ cls := "com/example/navsim/navsim/NavigabilityMeasure", name := "local", desc := "()Z" } : Jvm.MethodName) prog_21_method_5_code (1 : Nat) (Option.some Jvm.ClassFile.FieldType.boolean)]
set_option maxRecDepth 65536 in
theorem codes_eq : words1.filter isCode = codes1 := rfl
theorem w_codes : ∀ c ∈ words1.filter isCode, c.before args0 about1 = true := by
  rw [codes_eq]
  intro c hc
  simp only [codes1, List.mem_cons, List.not_mem_nil, or_false] at hc
  rcases hc with rfl | rfl | rfl
  · exact w_c0
  · exact w_c1
  · exact w_c2
set_option maxRecDepth 65536 in
theorem w_t1 : (words1.take 24).all (fun c => isCode c || c.before args0 about1) = true := by decide +kernel
set_option maxRecDepth 65536 in
theorem w_t2 : (words1.drop 24).all (fun c => isCode c || c.before args0 about1) = true := by decide +kernel
theorem w_tables : (allAtoms (Jvm.Cond.code x code maxLocals ret :: tables_1)).before args0 about1 = true := by
  rw [allAtoms_all]
  show words1.all (fun c => c.before args0 about1) = true
  refine all_split ?_ w_codes
  rw [← List.take_append_drop 24 words1, List.all_append, w_t1, w_t2]
  rfl
set_option maxRecDepth 65536 in
theorem w_case : (Jvm.Cond.and given_1 narrow_1).before args0 about1 = true := by decide +kernel
theorem w_applies : (headSpec (Jvm.Cond.code x code maxLocals ret :: tables_1) room_1).applies x e0.platform about1 = true :=
  (Spec.applies_iff w_frames).mpr ⟨w_running, w_runnable, w_alone, w_named, w_hears, w_ripe, w_room, w_tables⟩
theorem atStart : AtStart classFile x code maxLocals ret World_1 tables_1 room_1 Calls_1 rest_1 Pre_1 launch0 p0 e0 about1 theMethod args0 below0 :=
  ⟨lists_1, trivial, launch0.admits_env _ _ _, launch0.least_env, fairChoices_fair.cas, fairChoices_fair.clock, w_frames, w_args, w_heap, w_applies, trivial, trivial, w_case⟩
end start1
theorem witness_1 : WitnessClaimed_1 := ⟨start1.p0, start1.e0, start1.about1, start1.theMethod, start1.args0, start1.below0, start1.atStart⟩
end Jvm.Pilot.@@N@@
