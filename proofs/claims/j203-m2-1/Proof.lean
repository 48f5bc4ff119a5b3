import JvmDerived
import JvmDerived.Pilot.@@N@@Statement
import JvmDerived.Pilot.@@N@@Code
set_option linter.unusedVariables false
set_option linter.unusedSimpArgs false
namespace Jvm.Pilot.@@N@@
open Jvm Jvm.ClassFile Sem Op Lib Jvm.Free Jvm.Stand Jvm.LawKit Jvm.RoadKit Bundle Jvm.Pilot.@@N@@.Jvm.D
def own_bI (P : Prop) [Decidable P] : Int32 := if P then 1 else 0
theorem own_bI_t {P : Prop} [Decidable P] (h : P) : own_bI P = 1 := if_pos h
theorem own_bI_f {P : Prop} [Decidable P] (h : ¬ P) : own_bI P = 0 := if_neg h
theorem own_bI_eq0 {P : Prop} [Decidable P] : own_bI P = 0 ↔ ¬ P := by
  by_cases h : P
  · rw [own_bI_t h]; exact ⟨fun q => absurd q (by decide), fun q => absurd h q⟩
  · rw [own_bI_f h]; exact ⟨fun _ => h, fun _ => rfl⟩
theorem own_bI_eq1 {P : Prop} [Decidable P] : own_bI P = 1 ↔ P := by
  by_cases h : P
  · rw [own_bI_t h]; exact ⟨fun _ => h, fun _ => rfl⟩
  · rw [own_bI_f h]; exact ⟨fun q => absurd q (by decide), fun q => absurd q h⟩
theorem own_fi {args : Array Value} {s : State} {t : Term} {C n d : String} {a : Addr} {i : Int32} (e : t.eval args s none [] s = some (.ref a)) (h : (Jvm.Cond.eq (.field t C n d) (.int i)).value args s none s [] = some true) : s.fieldOf? a C n d = some (.int i) := by
  obtain ⟨x, y, hx, hy, k1, k2⟩ := cmp_v (Or.inl h)
  have hy' : y = .int i := Option.some.inj (hy.symm.trans (Term.int_eval i))
  subst hy'
  obtain ⟨z, rfl⟩ := k2
  have q : z = i := gotT (Cond.eq_ints hx (Term.int_eval i)) h
  rw [fld_at e] at hx
  rw [hx, q]
theorem own_ne {args : Array Value} {s : State} {t u : Term} {C n d : String} {a b : Addr} {i j : Int32} (e1 : t.eval args s none [] s = some (.ref a)) (e2 : u.eval args s none [] s = some (.ref b)) (h1 : (Jvm.Cond.eq (.field t C n d) (.int i)).value args s none s [] = some true) (h2 : (Jvm.Cond.eq (.field u C n d) (.int j)).value args s none s [] = some true) (hij : i ≠ j) : a ≠ b := by
  intro q; subst q
  have g1 := own_fi e1 h1
  have g2 := own_fi e2 h2
  rw [g1] at g2
  exact hij (Value.int.inj (Option.some.inj g2))
theorem d1_0 : decode prog_18_method_5_code 0 = .ok (.aload_n 0, 1) := by decide +kernel
theorem d1_1 : decode prog_18_method_5_code 1 = .ok (.getstatic 3, 3) := by decide +kernel
theorem d1_4 : decode prog_18_method_5_code 4 = .ok (.if_acmp .eq 14, 3) := by decide +kernel
theorem d1_7 : decode prog_18_method_5_code 7 = .ok (.aload_n 0, 1) := by decide +kernel
theorem d1_8 : decode prog_18_method_5_code 8 = .ok (.getstatic 19, 3) := by decide +kernel
theorem d1_11 : decode prog_18_method_5_code 11 = .ok (.if_acmp .eq 7, 3) := by decide +kernel
theorem d1_14 : decode prog_18_method_5_code 14 = .ok (.iconst 1, 1) := by decide +kernel
theorem d1_15 : decode prog_18_method_5_code 15 = .ok (.goto 4, 3) := by decide +kernel
theorem d1_18 : decode prog_18_method_5_code 18 = .ok (.iconst 0, 1) := by decide +kernel
theorem d1_19 : decode prog_18_method_5_code 19 = .ok (.ireturn, 1) := by decide +kernel
theorem ef_1 (m : MethodId) (r0 : Addr) : entryFrame m #[(.ref r0)] 1 = mkF m 0 #[.val (.ref r0)] [] := by first | (simp [entryFrame, mkF, argsToLocals, Value.category]; done) | rfl
theorem pn_0 : plainName "com/example/navsim/navsim/Measure" = true := by first | (simp [plainName, overriddenIn]; done) | decide +kernel
def Q1 (Z : State) (r0 : Addr) (w_NUM_Q : Addr) (w_GM_MAP : Addr) (h0 : Heap) (n0 : Nat) (v : Option Value) (h : Heap) (L : List Loc) : Prop := v = some (.int (own_bI (¬ (r0 = w_NUM_Q) ∧ ¬ (r0 = w_GM_MAP)))) ∧ Fr n0 L ∧ h = h0
set_option maxRecDepth 65536 in
set_option maxHeartbeats 40000000 in
theorem rm1 (l : Launch) (Z : State) (a0 : Array Value) (hw : ∀ d ∈ tables_1, d.before a0 Z = true) (ws : List Jvm.Cond) (r0 : Addr) (w_NUM_Q : Addr) (w_GM_MAP : Addr) (h0 : Heap) (n0 : Nat) (Z0 : n0 ≤ h0.size) (S_NUM_Q : Sta Z h0 "com/example/navsim/navsim/Measure" "NUM_Q" "Lcom/example/navsim/navsim/Measure;" (.ref w_NUM_Q)) (S_GM_MAP : Sta Z h0 "com/example/navsim/navsim/Measure" "GM_MAP" "Lcom/example/navsim/navsim/Measure;" (.ref w_GM_MAP)) :
    MetFree l (⟨"com/example/navsim/navsim/Measure", "printedPerTopic", "()Z"⟩ : MethodName) (head1 (Jvm.Cond.code (⟨"com/example/navsim/navsim/Measure", "printedPerTopic", "()Z"⟩ : MethodName) prog_18_method_5_code 1 (some .boolean) :: ws) ({ frames := 0, cells := 0, slots := 0, locals := 0 } : Room)) (fun a U => a = #[(.ref r0)] ∧ Z.Warmed39 U.vm ∧ U.heap = h0) (fun _ _ _ _ _ => True) (fun _ U o U' => ∃ v L, o = .returned v ∧ Q1 Z r0 w_NUM_Q w_GM_MAP h0 n0 v U'.heap L ∧ FrameEnd U o U' L ({ frames := 0, cells := 0, slots := 0, locals := 0 } : Room).cells ({ frames := 0, cells := 0, slots := 0, locals := 0 } : Room).slots) := by
  refine MetFree.of_bodySF (plainFor_of_name pn_0) hisR ?_
  intro p e s m args below meth c s₁ Bd hml0 hP hK
  obtain ⟨rfl, hZ, hh⟩ := hP
  have hx := Bd.exec
  have hby := Bd.bytes
  have hml : c.maxLocals = 1 := hml0
  have hown : s.vm.findClass "com/example/navsim/navsim/Measure" = some m.cls := findClass_of_methodNamed Bd.named
  have hnm := (name_of_methodNamed Bd.named Bd.method).1
  have X0 : Stand p l e ({ frames := 0, cells := 0, slots := 0, locals := 0 } : Room) s m #[(.ref r0)] below meth c s₁ [] 0 0 := Stand.of_body Bd
  have e0 : s₁.heap = h0 := by rw [← hh, Bd.state]; rfl
  have N0 := Fr.nil n0
  have k0 : ∀ t, Steps p.tables e below (s₁.setTop (mkF m 0 #[.val (.ref r0)] [])) t → Steps p.tables e below (s₁.setTop (entryFrame m #[(.ref r0)] 1)) t := fun t k => castTop (ef_1 m r0) k
  have k1 : ∀ t, Steps p.tables e below (s₁.setTop (mkF m 1 #[.val (.ref r0)] [(.ref r0)])) t → Steps p.tables e below (s₁.setTop (entryFrame m #[(.ref r0)] 1)) t := fun t k => k0 t (by
      show Steps p.tables e below (s₁.setTop (mkF m 0 #[.val (.ref r0)] [])) _
      refine XS.aloadN X0.here hx rfl (hb hby d1_0) rfl rfl ?_
      exact k)
  obtain ⟨T2, X2, e2, st2⟩ := getS2 X0 hx hZ hown (host := "") (Or.inl (hw _ (List.mem_of_getElem? (i := 9) rfl))) Via.refl e0 S_NUM_Q (g := (mkF m 1 #[.val (.ref r0)] [(.ref r0)])) rfl (hb hby d1_1)
  have k3 : ∀ t, Steps p.tables e below (T2.setTop (mkF m 4 #[.val (.ref r0)] [(.ref w_NUM_Q), (.ref r0)])) t → Steps p.tables e below (s₁.setTop (entryFrame m #[(.ref r0)] 1)) t := fun t k => k1 t (st2 _ k)
  by_cases ha4 : r0 = w_NUM_Q
  · have k4 : ∀ t, Steps p.tables e below (T2.setTop (mkF m 19 #[.val (.ref r0)] [(.int (0 : Int32))])) t → Steps p.tables e below (s₁.setTop (entryFrame m #[(.ref r0)] 1)) t := fun t k => k3 t (by
        show Steps p.tables e below (T2.setTop (mkF m 4 #[.val (.ref r0)] [(.ref w_NUM_Q), (.ref r0)])) _
        refine Jvm.RoadKit.acmp (g := (mkF m 4 #[.val (.ref r0)] [(.ref w_NUM_Q), (.ref r0)])) X2 hx rfl rfl rfl (pc0 := 4) (pc' := 18) (same := true) rfl (hb hby d1_4) rfl (decide_eq_true (congrArg Value.ref ha4)) (by decide) (by decide) ?_
        show Steps p.tables e below (T2.setTop (mkF m 18 #[.val (.ref r0)] [])) _
        refine XS.iconst X2.here hx rfl (hb hby d1_18) ?_
        exact k)
    obtain ⟨fs, hr, hrun, hended, hW, hsame⟩ := X2.leave (v := (some (.int (0 : Int32)))) (fun h => by rw [Bd.returns] at h; cases h)
    refine ⟨_, _, k4 _ ?_, hrun, hended, _, _, rfl, ?_, ⟨_, rfl⟩, hW, hsame.mono (by decide) (by decide)⟩
    · exact retN X2 hx (t := .boolean) Bd.returns (by simp) (hb hby d1_19) hr
    · show Q1 Z r0 w_NUM_Q w_GM_MAP h0 n0 _ T2.heap _
      rw [e2]
      exact ⟨congrArg (fun z => some (Value.int z)) (own_bI_f (fun q => q.1 ha4)).symm, N0, rfl⟩
  · have k5 : ∀ t, Steps p.tables e below (T2.setTop (mkF m 8 #[.val (.ref r0)] [(.ref r0)])) t → Steps p.tables e below (s₁.setTop (entryFrame m #[(.ref r0)] 1)) t := fun t k => k3 t (by
        show Steps p.tables e below (T2.setTop (mkF m 4 #[.val (.ref r0)] [(.ref w_NUM_Q), (.ref r0)])) _
        refine Jvm.RoadKit.acmp (g := (mkF m 4 #[.val (.ref r0)] [(.ref w_NUM_Q), (.ref r0)])) X2 hx rfl rfl rfl (pc0 := 4) (pc' := 7) (same := false) rfl (hb hby d1_4) rfl (decide_eq_false fun q => ha4 (Value.ref.inj q)) (by decide) (by decide) ?_
        show Steps p.tables e below (T2.setTop (mkF m 7 #[.val (.ref r0)] [])) _
        refine XS.aloadN X2.here hx rfl (hb hby d1_7) rfl rfl ?_
        exact k)
    obtain ⟨T6, X6, e6, st6⟩ := getS2 X2 hx hZ hown (host := "") (Or.inl (hw _ (List.mem_of_getElem? (i := 12) rfl))) Via.refl e2 S_GM_MAP (g := (mkF m 8 #[.val (.ref r0)] [(.ref r0)])) rfl (hb hby d1_8)
    have k7 : ∀ t, Steps p.tables e below (T6.setTop (mkF m 11 #[.val (.ref r0)] [(.ref w_GM_MAP), (.ref r0)])) t → Steps p.tables e below (s₁.setTop (entryFrame m #[(.ref r0)] 1)) t := fun t k => k5 t (st6 _ k)
    by_cases ha11 : r0 = w_GM_MAP
    · have k8 : ∀ t, Steps p.tables e below (T6.setTop (mkF m 19 #[.val (.ref r0)] [(.int (0 : Int32))])) t → Steps p.tables e below (s₁.setTop (entryFrame m #[(.ref r0)] 1)) t := fun t k => k7 t (by
          show Steps p.tables e below (T6.setTop (mkF m 11 #[.val (.ref r0)] [(.ref w_GM_MAP), (.ref r0)])) _
          refine Jvm.RoadKit.acmp (g := (mkF m 11 #[.val (.ref r0)] [(.ref w_GM_MAP), (.ref r0)])) X6 hx rfl rfl rfl (pc0 := 11) (pc' := 18) (same := true) rfl (hb hby d1_11) rfl (decide_eq_true (congrArg Value.ref ha11)) (by decide) (by decide) ?_
          show Steps p.tables e below (T6.setTop (mkF m 18 #[.val (.ref r0)] [])) _
          refine XS.iconst X6.here hx rfl (hb hby d1_18) ?_
          exact k)
      obtain ⟨fs, hr, hrun, hended, hW, hsame⟩ := X6.leave (v := (some (.int (0 : Int32)))) (fun h => by rw [Bd.returns] at h; cases h)
      refine ⟨_, _, k8 _ ?_, hrun, hended, _, _, rfl, ?_, ⟨_, rfl⟩, hW, hsame.mono (by decide) (by decide)⟩
      · exact retN X6 hx (t := .boolean) Bd.returns (by simp) (hb hby d1_19) hr
      · show Q1 Z r0 w_NUM_Q w_GM_MAP h0 n0 _ T6.heap _
        rw [e6]
        exact ⟨congrArg (fun z => some (Value.int z)) (own_bI_f (fun q => q.2 ha11)).symm, N0, rfl⟩
    · have k9 : ∀ t, Steps p.tables e below (T6.setTop (mkF m 19 #[.val (.ref r0)] [(.int (1 : Int32))])) t → Steps p.tables e below (s₁.setTop (entryFrame m #[(.ref r0)] 1)) t := fun t k => k7 t (by
          show Steps p.tables e below (T6.setTop (mkF m 11 #[.val (.ref r0)] [(.ref w_GM_MAP), (.ref r0)])) _
          refine Jvm.RoadKit.acmp (g := (mkF m 11 #[.val (.ref r0)] [(.ref w_GM_MAP), (.ref r0)])) X6 hx rfl rfl rfl (pc0 := 11) (pc' := 14) (same := false) rfl (hb hby d1_11) rfl (decide_eq_false fun q => ha11 (Value.ref.inj q)) (by decide) (by decide) ?_
          show Steps p.tables e below (T6.setTop (mkF m 14 #[.val (.ref r0)] [])) _
          refine XS.iconst X6.here hx rfl (hb hby d1_14) ?_
          show Steps p.tables e below (T6.setTop (mkF m 15 #[.val (.ref r0)] [(.int (1 : Int32))])) _
          refine XS.goto X6.here hx rfl (pc0 := 15) (pc' := 19) rfl (hb hby d1_15) (by decide) (by decide) ?_
          exact k)
      obtain ⟨fs, hr, hrun, hended, hW, hsame⟩ := X6.leave (v := (some (.int (1 : Int32)))) (fun h => by rw [Bd.returns] at h; cases h)
      refine ⟨_, _, k9 _ ?_, hrun, hended, _, _, rfl, ?_, ⟨_, rfl⟩, hW, hsame.mono (by decide) (by decide)⟩
      · exact retN X6 hx (t := .boolean) Bd.returns (by simp) (hb hby d1_19) hr
      · show Q1 Z r0 w_NUM_Q w_GM_MAP h0 n0 _ T6.heap _
        rw [e6]
        exact ⟨congrArg (fun z => some (Value.int z)) (own_bI_t ⟨ha4, ha11⟩).symm, N0, rfl⟩
theorem ef_0 (m : MethodId) (p0 : Int32) : entryFrame m #[(.int p0)] maxLocals = mkF m 0 #[.val (.int p0), .unset, .unset, .unset] [] := by first | (simp [entryFrame, mkF, argsToLocals, Value.category, maxLocals]; done) | rfl
theorem pn_1 : plainName "com/example/navsim/navsim/MeasurePrintedPerTopicPinLaw" = true := by first | (simp [plainName, overriddenIn]; done) | decide +kernel
theorem pd_0 : parseMethodDescriptor "()Z" = some ⟨[], some .boolean⟩ := by decide +kernel
def Q0 (Z : State) (p0 : Int32) (w_NUM_Q : Addr) (w_NUM_REL_RET : Addr) (w_GM_MAP : Addr) (w_P_10 : Addr) (w_P_20 : Addr) (w_NUM_REL : Addr) (w_RECALL_1000 : Addr) (w_NUM_RET : Addr) (w_P_100 : Addr) (w_P_5 : Addr) (w_MAP : Addr) (h0 : Heap) (n0 : Nat) (v : Option Value) (h : Heap) (L : List Loc) : Prop := v = some (.int (1 : Int32)) ∧ Fr n0 L
set_option maxRecDepth 65536 in
set_option maxHeartbeats 40000000 in
theorem rm0 (l : Launch) (Z : State) (a0 : Array Value) (hw : ∀ d ∈ tables_1, d.before a0 Z = true) (ws : List Jvm.Cond) (p0 : Int32) (w_NUM_Q : Addr) (w_NUM_REL_RET : Addr) (w_GM_MAP : Addr) (w_P_10 : Addr) (w_P_20 : Addr) (w_NUM_REL : Addr) (w_RECALL_1000 : Addr) (w_NUM_RET : Addr) (w_P_100 : Addr) (w_P_5 : Addr) (w_MAP : Addr) (h0 : Heap) (n0 : Nat) (Z0 : n0 ≤ h0.size) (S_NUM_Q : Sta Z h0 "com/example/navsim/navsim/Measure" "NUM_Q" "Lcom/example/navsim/navsim/Measure;" (.ref w_NUM_Q)) (S_NUM_REL_RET : Sta Z h0 "com/example/navsim/navsim/Measure" "NUM_REL_RET" "Lcom/example/navsim/navsim/Measure;" (.ref w_NUM_REL_RET)) (S_GM_MAP : Sta Z h0 "com/example/navsim/navsim/Measure" "GM_MAP" "Lcom/example/navsim/navsim/Measure;" (.ref w_GM_MAP)) (S_P_10 : Sta Z h0 "com/example/navsim/navsim/Measure" "P_10" "Lcom/example/navsim/navsim/Measure;" (.ref w_P_10)) (S_P_20 : Sta Z h0 "com/example/navsim/navsim/Measure" "P_20" "Lcom/example/navsim/navsim/Measure;" (.ref w_P_20)) (S_NUM_REL : Sta Z h0 "com/example/navsim/navsim/Measure" "NUM_REL" "Lcom/example/navsim/navsim/Measure;" (.ref w_NUM_REL)) (S_RECALL_1000 : Sta Z h0 "com/example/navsim/navsim/Measure" "RECALL_1000" "Lcom/example/navsim/navsim/Measure;" (.ref w_RECALL_1000)) (S_NUM_RET : Sta Z h0 "com/example/navsim/navsim/Measure" "NUM_RET" "Lcom/example/navsim/navsim/Measure;" (.ref w_NUM_RET)) (S_P_100 : Sta Z h0 "com/example/navsim/navsim/Measure" "P_100" "Lcom/example/navsim/navsim/Measure;" (.ref w_P_100)) (S_P_5 : Sta Z h0 "com/example/navsim/navsim/Measure" "P_5" "Lcom/example/navsim/navsim/Measure;" (.ref w_P_5)) (S_MAP : Sta Z h0 "com/example/navsim/navsim/Measure" "MAP" "Lcom/example/navsim/navsim/Measure;" (.ref w_MAP)) (E_w_NUM_Q : Exa Z h0 w_NUM_Q "com/example/navsim/navsim/Measure") (E_w_NUM_REL_RET : Exa Z h0 w_NUM_REL_RET "com/example/navsim/navsim/Measure") (E_w_GM_MAP : Exa Z h0 w_GM_MAP "com/example/navsim/navsim/Measure") (E_w_P_10 : Exa Z h0 w_P_10 "com/example/navsim/navsim/Measure") (E_w_P_20 : Exa Z h0 w_P_20 "com/example/navsim/navsim/Measure") (E_w_NUM_REL : Exa Z h0 w_NUM_REL "com/example/navsim/navsim/Measure") (E_w_RECALL_1000 : Exa Z h0 w_RECALL_1000 "com/example/navsim/navsim/Measure") (E_w_NUM_RET : Exa Z h0 w_NUM_RET "com/example/navsim/navsim/Measure") (E_w_P_100 : Exa Z h0 w_P_100 "com/example/navsim/navsim/Measure") (E_w_P_5 : Exa Z h0 w_P_5 "com/example/navsim/navsim/Measure") (E_w_MAP : Exa Z h0 w_MAP "com/example/navsim/navsim/Measure") (hq_NUM_REL_RET : w_NUM_REL_RET ≠ w_NUM_Q) (hq_P_10 : w_P_10 ≠ w_NUM_Q) (hq_P_20 : w_P_20 ≠ w_NUM_Q) (hq_NUM_REL : w_NUM_REL ≠ w_NUM_Q) (hq_RECALL_1000 : w_RECALL_1000 ≠ w_NUM_Q) (hq_NUM_RET : w_NUM_RET ≠ w_NUM_Q) (hq_P_100 : w_P_100 ≠ w_NUM_Q) (hq_P_5 : w_P_5 ≠ w_NUM_Q) (hq_MAP : w_MAP ≠ w_NUM_Q) (hg_NUM_REL_RET : w_NUM_REL_RET ≠ w_GM_MAP) (hg_P_10 : w_P_10 ≠ w_GM_MAP) (hg_P_20 : w_P_20 ≠ w_GM_MAP) (hg_NUM_REL : w_NUM_REL ≠ w_GM_MAP) (hg_RECALL_1000 : w_RECALL_1000 ≠ w_GM_MAP) (hg_NUM_RET : w_NUM_RET ≠ w_GM_MAP) (hg_P_100 : w_P_100 ≠ w_GM_MAP) (hg_P_5 : w_P_5 ≠ w_GM_MAP) (hg_MAP : w_MAP ≠ w_GM_MAP) :
    MetFree l x (head1 (Jvm.Cond.code x code maxLocals ret :: ws) room_1) (fun a U => a = #[(.int p0)] ∧ Z.Warmed39 U.vm ∧ U.heap = h0) (fun _ _ _ _ _ => True) (fun _ U o U' => ∃ v L, o = .returned v ∧ Q0 Z p0 w_NUM_Q w_NUM_REL_RET w_GM_MAP w_P_10 w_P_20 w_NUM_REL w_RECALL_1000 w_NUM_RET w_P_100 w_P_5 w_MAP h0 n0 v U'.heap L ∧ FrameEnd U o U' L 0 0) := by
  refine MetFree.of_bodySF (plainFor_of_name pn_1) hisR ?_
  intro p e s m args below meth c s₁ Bd hml0 hP hK
  obtain ⟨rfl, hZ, hh⟩ := hP
  have hx := Bd.exec
  have hby := Bd.bytes
  have hml : c.maxLocals = 4 := hml0
  have hown : s.vm.findClass "com/example/navsim/navsim/MeasurePrintedPerTopicPinLaw" = some m.cls := findClass_of_methodNamed Bd.named
  have hnm := (name_of_methodNamed Bd.named Bd.method).1
  have X0 : Stand p l e room_1 s m #[(.int p0)] below meth c s₁ [] 0 0 := Stand.of_body Bd
  have e0 : s₁.heap = h0 := by rw [← hh, Bd.state]; rfl
  have N0 := Fr.nil n0
  have k0 : ∀ t, Steps p.tables e below (s₁.setTop (mkF m 0 #[.val (.int p0), .unset, .unset, .unset] [])) t → Steps p.tables e below (s₁.setTop (entryFrame m #[(.int p0)] maxLocals)) t := fun t k => castTop (ef_0 m p0) k
  have k1 : ∀ t, Steps p.tables e below (s₁.setTop (mkF m 9 #[.val (.int p0), .val (.int ((p0 &&& (2147483647 : Int32)) % (11 : Int32))), .unset, .unset] [(.int ((p0 &&& (2147483647 : Int32)) % (11 : Int32)))])) t → Steps p.tables e below (s₁.setTop (entryFrame m #[(.int p0)] maxLocals)) t := fun t k => k0 t (by
      show Steps p.tables e below (s₁.setTop (mkF m 0 #[.val (.int p0), .unset, .unset, .unset] [])) _
      refine XS.iloadN X0.here hx rfl (hb hby at_0) rfl ?_
      show Steps p.tables e below (s₁.setTop (mkF m 1 #[.val (.int p0), .unset, .unset, .unset] [(.int p0)])) _
      refine X0.ldcInt hx hown (mvT hZ (hw _ (List.mem_of_getElem? (i := 0) rfl))) (g := (mkF m 1 #[.val (.int p0), .unset, .unset, .unset] [(.int p0)])) rfl (hb hby at_1) _ ?_
      show Steps p.tables e below (s₁.setTop (mkF m 3 #[.val (.int p0), .unset, .unset, .unset] [(.int (2147483647 : Int32)), (.int p0)])) _
      refine XS.iand X0.here hx rfl (hb hby at_3) rfl ?_
      show Steps p.tables e below (s₁.setTop (mkF m 4 #[.val (.int p0), .unset, .unset, .unset] [(.int (p0 &&& (2147483647 : Int32)))])) _
      refine XS.bipush X0.here hx rfl (hb hby at_4) ?_
      show Steps p.tables e below (s₁.setTop (mkF m 6 #[.val (.int p0), .unset, .unset, .unset] [(.int (11 : Int32)), (.int (p0 &&& (2147483647 : Int32)))])) _
      refine iremM X0 hx rfl (hb hby at_6) rfl (by decide) ?_
      show Steps p.tables e below (s₁.setTop (mkF m 7 #[.val (.int p0), .unset, .unset, .unset] [(.int ((p0 &&& (2147483647 : Int32)) % (11 : Int32)))])) _
      refine XS.istoreN X0.here hx rfl (hb hby at_7) rfl (l' := #[.val (.int p0), .val (.int ((p0 &&& (2147483647 : Int32)) % (11 : Int32))), .unset, .unset]) rfl ?_
      show Steps p.tables e below (s₁.setTop (mkF m 8 #[.val (.int p0), .val (.int ((p0 &&& (2147483647 : Int32)) % (11 : Int32))), .unset, .unset] [])) _
      refine XS.iloadN X0.here hx rfl (hb hby at_8) rfl ?_
      exact k)
  by_cases hc9 : ((p0 &&& (2147483647 : Int32)) % (11 : Int32)) = (0 : Int32)
  · have k2 : ∀ t, Steps p.tables e below (s₁.setTop (mkF m 12 #[.val (.int p0), .val (.int ((p0 &&& (2147483647 : Int32)) % (11 : Int32))), .unset, .unset] [])) t → Steps p.tables e below (s₁.setTop (entryFrame m #[(.int p0)] maxLocals)) t := fun t k => k1 t (by
        show Steps p.tables e below (s₁.setTop (mkF m 9 #[.val (.int p0), .val (.int ((p0 &&& (2147483647 : Int32)) % (11 : Int32))), .unset, .unset] [(.int ((p0 &&& (2147483647 : Int32)) % (11 : Int32)))])) _
        refine XS.ifNo X0.here hx rfl (hb hby at_9) rfl ((if0 _ _).trans (teq hc9).2) ?_
        exact k)
    obtain ⟨T3, X3, e3, st3⟩ := getS2 X0 hx hZ hown (host := "") (Or.inl (hw _ (List.mem_of_getElem? (i := 1) rfl))) Via.refl e0 S_NUM_Q (g := (mkF m 12 #[.val (.int p0), .val (.int ((p0 &&& (2147483647 : Int32)) % (11 : Int32))), .unset, .unset] [])) rfl (hb hby at_12)
    have k4 : ∀ t, Steps p.tables e below (T3.setTop (mkF m 15 #[.val (.int p0), .val (.int ((p0 &&& (2147483647 : Int32)) % (11 : Int32))), .unset, .unset] [(.ref w_NUM_Q)])) t → Steps p.tables e below (s₁.setTop (entryFrame m #[(.int p0)] maxLocals)) t := fun t k => k2 t (st3 _ k)
    have k5 : ∀ t, Steps p.tables e below (T3.setTop (mkF m 158 #[.val (.int p0), .val (.int ((p0 &&& (2147483647 : Int32)) % (11 : Int32))), .val (.ref w_NUM_Q), .val (.int (0 : Int32))] [(.ref w_NUM_Q)])) t → Steps p.tables e below (s₁.setTop (entryFrame m #[(.int p0)] maxLocals)) t := fun t k => k4 t (by
        show Steps p.tables e below (T3.setTop (mkF m 15 #[.val (.int p0), .val (.int ((p0 &&& (2147483647 : Int32)) % (11 : Int32))), .unset, .unset] [(.ref w_NUM_Q)])) _
        refine XS.astoreN X3.here hx rfl (hb hby at_15) rfl rfl (l' := #[.val (.int p0), .val (.int ((p0 &&& (2147483647 : Int32)) % (11 : Int32))), .val (.ref w_NUM_Q), .unset]) rfl ?_
        show Steps p.tables e below (T3.setTop (mkF m 16 #[.val (.int p0), .val (.int ((p0 &&& (2147483647 : Int32)) % (11 : Int32))), .val (.ref w_NUM_Q), .unset] [])) _
        refine XS.iconst X3.here hx rfl (hb hby at_16) ?_
        show Steps p.tables e below (T3.setTop (mkF m 17 #[.val (.int p0), .val (.int ((p0 &&& (2147483647 : Int32)) % (11 : Int32))), .val (.ref w_NUM_Q), .unset] [(.int (0 : Int32))])) _
        refine XS.istoreN X3.here hx rfl (hb hby at_17) rfl (l' := #[.val (.int p0), .val (.int ((p0 &&& (2147483647 : Int32)) % (11 : Int32))), .val (.ref w_NUM_Q), .val (.int (0 : Int32))]) rfl ?_
        show Steps p.tables e below (T3.setTop (mkF m 18 #[.val (.int p0), .val (.int ((p0 &&& (2147483647 : Int32)) % (11 : Int32))), .val (.ref w_NUM_Q), .val (.int (0 : Int32))] [])) _
        refine XS.goto X3.here hx rfl (pc0 := 18) (pc' := 157) rfl (hb hby at_18) (by decide) (by decide) ?_
        show Steps p.tables e below (T3.setTop (mkF m 157 #[.val (.int p0), .val (.int ((p0 &&& (2147483647 : Int32)) % (11 : Int32))), .val (.ref w_NUM_Q), .val (.int (0 : Int32))] [])) _
        refine XS.aloadN X3.here hx rfl (hb hby at_157) rfl rfl ?_
        exact k)
    obtain ⟨cq6, kcq6, q6a, q6b, q6c⟩ := isOf hZ e3 E_w_NUM_Q
    obtain ⟨_, _, ⟨T6, L6, kq6, n6⟩, -, X6, ⟨Lc6, hQ6, l6, y6, z6⟩, st6⟩ := X3.virtualBack hx (y := (⟨"com/example/navsim/navsim/Measure", "printedPerTopic", "()Z"⟩ : MethodName)) (z := (⟨"com/example/navsim/navsim/Measure", "printedPerTopic", "()Z"⟩ : MethodName)) hown (mvT hZ (hw _ (List.mem_of_getElem? (i := 4) rfl))) (mvT hZ (hw _ (List.mem_of_getElem? (i := 5) rfl))) (notFace_of_selects (args := #[]) (mvT hZ (hw _ (List.mem_of_getElem? (i := 7) rfl)))) (mvT hZ (hw _ (List.mem_of_getElem? (i := 7) rfl))) (mvT hZ (hw _ (List.mem_of_getElem? (i := 6) rfl))) (by decide) (backOf (W := 0) (rm1 l Z a0 hw [] w_NUM_Q w_NUM_Q w_GM_MAP h0 n0 Z0 S_NUM_Q S_GM_MAP) hZ (hw _ (List.mem_of_getElem? (i := 8) rfl)) (hw _ (List.mem_of_getElem? (i := 2) rfl)) (by decide) (by decide)) q6a q6c (g := (mkF m 158 #[.val (.int p0), .val (.int ((p0 &&& (2147483647 : Int32)) % (11 : Int32))), .val (.ref w_NUM_Q), .val (.int (0 : Int32))] [(.ref w_NUM_Q)])) rfl (by rw [hml]; rfl) (Steps.refl _) (argsL := []) (rest := []) (lenOf pd_0 rfl) rfl (by show 2 * 0 + _ ≤ _; exact Nat.le_of_eq rfl) (hb hby at_158) (fun _ _ => ⟨rfl, e3, (by decide : 0 + 0 ≤ _), (by decide : 0 + 0 ≤ _)⟩)
    dsimp only [Pt.U, Pt.locs, Pt.cells, Pt.slots] at X6 l6 y6 z6 st6 hQ6
    subst l6 y6 z6
    obtain ⟨rfl, N6q, e6⟩ := hQ6
    have N6 := Fr.app N0 N6q
    have k7 : ∀ t, Steps p.tables e below (T6.setTop (mkF m 161 #[.val (.int p0), .val (.int ((p0 &&& (2147483647 : Int32)) % (11 : Int32))), .val (.ref w_NUM_Q), .val (.int (0 : Int32))] [(.int (own_bI (¬ (w_NUM_Q = w_NUM_Q) ∧ ¬ (w_NUM_Q = w_GM_MAP))))])) t → Steps p.tables e below (s₁.setTop (entryFrame m #[(.int p0)] maxLocals)) t := fun t k => k5 t (st6.trans k)
    have hc162 : (own_bI (¬ (w_NUM_Q = w_NUM_Q) ∧ ¬ (w_NUM_Q = w_GM_MAP))) = (0 : Int32) := own_bI_f (fun q => q.1 rfl)
    have k8 : ∀ t, Steps p.tables e below (T6.setTop (mkF m 170 #[.val (.int p0), .val (.int ((p0 &&& (2147483647 : Int32)) % (11 : Int32))), .val (.ref w_NUM_Q), .val (.int (0 : Int32))] [(.int (1 : Int32))])) t → Steps p.tables e below (s₁.setTop (entryFrame m #[(.int p0)] maxLocals)) t := fun t k => k7 t (by
        show Steps p.tables e below (T6.setTop (mkF m 161 #[.val (.int p0), .val (.int ((p0 &&& (2147483647 : Int32)) % (11 : Int32))), .val (.ref w_NUM_Q), .val (.int (0 : Int32))] [(.int (own_bI (¬ (w_NUM_Q = w_NUM_Q) ∧ ¬ (w_NUM_Q = w_GM_MAP))))])) _
        refine XS.iloadN X6.here hx rfl (hb hby at_161) rfl ?_
        show Steps p.tables e below (T6.setTop (mkF m 162 #[.val (.int p0), .val (.int ((p0 &&& (2147483647 : Int32)) % (11 : Int32))), .val (.ref w_NUM_Q), .val (.int (0 : Int32))] [(.int (0 : Int32)), (.int (own_bI (¬ (w_NUM_Q = w_NUM_Q) ∧ ¬ (w_NUM_Q = w_GM_MAP))))])) _
        refine XS.icmpNo X6.here hx rfl (hb hby at_162) rfl (teq hc162).2 ?_
        show Steps p.tables e below (T6.setTop (mkF m 165 #[.val (.int p0), .val (.int ((p0 &&& (2147483647 : Int32)) % (11 : Int32))), .val (.ref w_NUM_Q), .val (.int (0 : Int32))] [])) _
        refine XS.iconst X6.here hx rfl (hb hby at_165) ?_
        show Steps p.tables e below (T6.setTop (mkF m 166 #[.val (.int p0), .val (.int ((p0 &&& (2147483647 : Int32)) % (11 : Int32))), .val (.ref w_NUM_Q), .val (.int (0 : Int32))] [(.int (1 : Int32))])) _
        refine XS.goto X6.here hx rfl (pc0 := 166) (pc' := 170) rfl (hb hby at_166) (by decide) (by decide) ?_
        exact k)
    obtain ⟨fs, hr, hrun, hended, hW, hsame⟩ := X6.leave (v := (some (.int (1 : Int32)))) (fun h => by rw [Bd.returns] at h; cases h)
    refine ⟨_, _, k8 _ ?_, hrun, hended, _, _, rfl, ?_, ⟨_, rfl⟩, hW, hsame.mono (by decide) (by decide)⟩
    · exact retN X6 hx (t := .boolean) Bd.returns (by simp) (hb hby at_170) hr
    · show Q0 Z p0 w_NUM_Q w_NUM_REL_RET w_GM_MAP w_P_10 w_P_20 w_NUM_REL w_RECALL_1000 w_NUM_RET w_P_100 w_P_5 w_MAP h0 n0 _ T6.heap _
      rw [e6]
      exact ⟨rfl, N6⟩
  · have k9 : ∀ t, Steps p.tables e below (s₁.setTop (mkF m 23 #[.val (.int p0), .val (.int ((p0 &&& (2147483647 : Int32)) % (11 : Int32))), .unset, .unset] [(.int (1 : Int32)), (.int ((p0 &&& (2147483647 : Int32)) % (11 : Int32)))])) t → Steps p.tables e below (s₁.setTop (entryFrame m #[(.int p0)] maxLocals)) t := fun t k => k1 t (by
        show Steps p.tables e below (s₁.setTop (mkF m 9 #[.val (.int p0), .val (.int ((p0 &&& (2147483647 : Int32)) % (11 : Int32))), .unset, .unset] [(.int ((p0 &&& (2147483647 : Int32)) % (11 : Int32)))])) _
        refine XS.ifYes X0.here hx rfl (pc0 := 9) (pc' := 21) rfl (hb hby at_9) rfl ((if0 _ _).trans (feq hc9).2) (by decide) (by decide) ?_
        show Steps p.tables e below (s₁.setTop (mkF m 21 #[.val (.int p0), .val (.int ((p0 &&& (2147483647 : Int32)) % (11 : Int32))), .unset, .unset] [])) _
        refine XS.iloadN X0.here hx rfl (hb hby at_21) rfl ?_
        show Steps p.tables e below (s₁.setTop (mkF m 22 #[.val (.int p0), .val (.int ((p0 &&& (2147483647 : Int32)) % (11 : Int32))), .unset, .unset] [(.int ((p0 &&& (2147483647 : Int32)) % (11 : Int32)))])) _
        refine XS.iconst X0.here hx rfl (hb hby at_22) ?_
        exact k)
    by_cases hc23 : ((p0 &&& (2147483647 : Int32)) % (11 : Int32)) = (1 : Int32)
    · have k10 : ∀ t, Steps p.tables e below (s₁.setTop (mkF m 26 #[.val (.int p0), .val (.int ((p0 &&& (2147483647 : Int32)) % (11 : Int32))), .unset, .unset] [])) t → Steps p.tables e below (s₁.setTop (entryFrame m #[(.int p0)] maxLocals)) t := fun t k => k9 t (by
          show Steps p.tables e below (s₁.setTop (mkF m 23 #[.val (.int p0), .val (.int ((p0 &&& (2147483647 : Int32)) % (11 : Int32))), .unset, .unset] [(.int (1 : Int32)), (.int ((p0 &&& (2147483647 : Int32)) % (11 : Int32)))])) _
          refine XS.icmpNo X0.here hx rfl (hb hby at_23) rfl (teq hc23).2 ?_
          exact k)
      obtain ⟨T11, X11, e11, st11⟩ := getS2 X0 hx hZ hown (host := "") (Or.inl (hw _ (List.mem_of_getElem? (i := 22) rfl))) Via.refl e0 S_NUM_RET (g := (mkF m 26 #[.val (.int p0), .val (.int ((p0 &&& (2147483647 : Int32)) % (11 : Int32))), .unset, .unset] [])) rfl (hb hby at_26)
      have k12 : ∀ t, Steps p.tables e below (T11.setTop (mkF m 29 #[.val (.int p0), .val (.int ((p0 &&& (2147483647 : Int32)) % (11 : Int32))), .unset, .unset] [(.ref w_NUM_RET)])) t → Steps p.tables e below (s₁.setTop (entryFrame m #[(.int p0)] maxLocals)) t := fun t k => k10 t (st11 _ k)
      have k13 : ∀ t, Steps p.tables e below (T11.setTop (mkF m 158 #[.val (.int p0), .val (.int ((p0 &&& (2147483647 : Int32)) % (11 : Int32))), .val (.ref w_NUM_RET), .val (.int (1 : Int32))] [(.ref w_NUM_RET)])) t → Steps p.tables e below (s₁.setTop (entryFrame m #[(.int p0)] maxLocals)) t := fun t k => k12 t (by
          show Steps p.tables e below (T11.setTop (mkF m 29 #[.val (.int p0), .val (.int ((p0 &&& (2147483647 : Int32)) % (11 : Int32))), .unset, .unset] [(.ref w_NUM_RET)])) _
          refine XS.astoreN X11.here hx rfl (hb hby at_29) rfl rfl (l' := #[.val (.int p0), .val (.int ((p0 &&& (2147483647 : Int32)) % (11 : Int32))), .val (.ref w_NUM_RET), .unset]) rfl ?_
          show Steps p.tables e below (T11.setTop (mkF m 30 #[.val (.int p0), .val (.int ((p0 &&& (2147483647 : Int32)) % (11 : Int32))), .val (.ref w_NUM_RET), .unset] [])) _
          refine XS.iconst X11.here hx rfl (hb hby at_30) ?_
          show Steps p.tables e below (T11.setTop (mkF m 31 #[.val (.int p0), .val (.int ((p0 &&& (2147483647 : Int32)) % (11 : Int32))), .val (.ref w_NUM_RET), .unset] [(.int (1 : Int32))])) _
          refine XS.istoreN X11.here hx rfl (hb hby at_31) rfl (l' := #[.val (.int p0), .val (.int ((p0 &&& (2147483647 : Int32)) % (11 : Int32))), .val (.ref w_NUM_RET), .val (.int (1 : Int32))]) rfl ?_
          show Steps p.tables e below (T11.setTop (mkF m 32 #[.val (.int p0), .val (.int ((p0 &&& (2147483647 : Int32)) % (11 : Int32))), .val (.ref w_NUM_RET), .val (.int (1 : Int32))] [])) _
          refine XS.goto X11.here hx rfl (pc0 := 32) (pc' := 157) rfl (hb hby at_32) (by decide) (by decide) ?_
          show Steps p.tables e below (T11.setTop (mkF m 157 #[.val (.int p0), .val (.int ((p0 &&& (2147483647 : Int32)) % (11 : Int32))), .val (.ref w_NUM_RET), .val (.int (1 : Int32))] [])) _
          refine XS.aloadN X11.here hx rfl (hb hby at_157) rfl rfl ?_
          exact k)
      obtain ⟨cq14, kcq14, q14a, q14b, q14c⟩ := isOf hZ e11 E_w_NUM_RET
      obtain ⟨_, _, ⟨T14, L14, kq14, n14⟩, -, X14, ⟨Lc14, hQ14, l14, y14, z14⟩, st14⟩ := X11.virtualBack hx (y := (⟨"com/example/navsim/navsim/Measure", "printedPerTopic", "()Z"⟩ : MethodName)) (z := (⟨"com/example/navsim/navsim/Measure", "printedPerTopic", "()Z"⟩ : MethodName)) hown (mvT hZ (hw _ (List.mem_of_getElem? (i := 4) rfl))) (mvT hZ (hw _ (List.mem_of_getElem? (i := 5) rfl))) (notFace_of_selects (args := #[]) (mvT hZ (hw _ (List.mem_of_getElem? (i := 7) rfl)))) (mvT hZ (hw _ (List.mem_of_getElem? (i := 7) rfl))) (mvT hZ (hw _ (List.mem_of_getElem? (i := 6) rfl))) (by decide) (backOf (W := 0) (rm1 l Z a0 hw [] w_NUM_RET w_NUM_Q w_GM_MAP h0 n0 Z0 S_NUM_Q S_GM_MAP) hZ (hw _ (List.mem_of_getElem? (i := 8) rfl)) (hw _ (List.mem_of_getElem? (i := 2) rfl)) (by decide) (by decide)) q14a q14c (g := (mkF m 158 #[.val (.int p0), .val (.int ((p0 &&& (2147483647 : Int32)) % (11 : Int32))), .val (.ref w_NUM_RET), .val (.int (1 : Int32))] [(.ref w_NUM_RET)])) rfl (by rw [hml]; rfl) (Steps.refl _) (argsL := []) (rest := []) (lenOf pd_0 rfl) rfl (by show 2 * 0 + _ ≤ _; exact Nat.le_of_eq rfl) (hb hby at_158) (fun _ _ => ⟨rfl, e11, (by decide : 0 + 0 ≤ _), (by decide : 0 + 0 ≤ _)⟩)
      dsimp only [Pt.U, Pt.locs, Pt.cells, Pt.slots] at X14 l14 y14 z14 st14 hQ14
      subst l14 y14 z14
      obtain ⟨rfl, N14q, e14⟩ := hQ14
      have N14 := Fr.app N0 N14q
      have k15 : ∀ t, Steps p.tables e below (T14.setTop (mkF m 161 #[.val (.int p0), .val (.int ((p0 &&& (2147483647 : Int32)) % (11 : Int32))), .val (.ref w_NUM_RET), .val (.int (1 : Int32))] [(.int (own_bI (¬ (w_NUM_RET = w_NUM_Q) ∧ ¬ (w_NUM_RET = w_GM_MAP))))])) t → Steps p.tables e below (s₁.setTop (entryFrame m #[(.int p0)] maxLocals)) t := fun t k => k13 t (st14.trans k)
      have hc162 : (own_bI (¬ (w_NUM_RET = w_NUM_Q) ∧ ¬ (w_NUM_RET = w_GM_MAP))) = (1 : Int32) := own_bI_t ⟨hq_NUM_RET, hg_NUM_RET⟩
      have k16 : ∀ t, Steps p.tables e below (T14.setTop (mkF m 170 #[.val (.int p0), .val (.int ((p0 &&& (2147483647 : Int32)) % (11 : Int32))), .val (.ref w_NUM_RET), .val (.int (1 : Int32))] [(.int (1 : Int32))])) t → Steps p.tables e below (s₁.setTop (entryFrame m #[(.int p0)] maxLocals)) t := fun t k => k15 t (by
          show Steps p.tables e below (T14.setTop (mkF m 161 #[.val (.int p0), .val (.int ((p0 &&& (2147483647 : Int32)) % (11 : Int32))), .val (.ref w_NUM_RET), .val (.int (1 : Int32))] [(.int (own_bI (¬ (w_NUM_RET = w_NUM_Q) ∧ ¬ (w_NUM_RET = w_GM_MAP))))])) _
          refine XS.iloadN X14.here hx rfl (hb hby at_161) rfl ?_
          show Steps p.tables e below (T14.setTop (mkF m 162 #[.val (.int p0), .val (.int ((p0 &&& (2147483647 : Int32)) % (11 : Int32))), .val (.ref w_NUM_RET), .val (.int (1 : Int32))] [(.int (1 : Int32)), (.int (own_bI (¬ (w_NUM_RET = w_NUM_Q) ∧ ¬ (w_NUM_RET = w_GM_MAP))))])) _
          refine XS.icmpNo X14.here hx rfl (hb hby at_162) rfl (teq hc162).2 ?_
          show Steps p.tables e below (T14.setTop (mkF m 165 #[.val (.int p0), .val (.int ((p0 &&& (2147483647 : Int32)) % (11 : Int32))), .val (.ref w_NUM_RET), .val (.int (1 : Int32))] [])) _
          refine XS.iconst X14.here hx rfl (hb hby at_165) ?_
          show Steps p.tables e below (T14.setTop (mkF m 166 #[.val (.int p0), .val (.int ((p0 &&& (2147483647 : Int32)) % (11 : Int32))), .val (.ref w_NUM_RET), .val (.int (1 : Int32))] [(.int (1 : Int32))])) _
          refine XS.goto X14.here hx rfl (pc0 := 166) (pc' := 170) rfl (hb hby at_166) (by decide) (by decide) ?_
          exact k)
      obtain ⟨fs, hr, hrun, hended, hW, hsame⟩ := X14.leave (v := (some (.int (1 : Int32)))) (fun h => by rw [Bd.returns] at h; cases h)
      refine ⟨_, _, k16 _ ?_, hrun, hended, _, _, rfl, ?_, ⟨_, rfl⟩, hW, hsame.mono (by decide) (by decide)⟩
      · exact retN X14 hx (t := .boolean) Bd.returns (by simp) (hb hby at_170) hr
      · show Q0 Z p0 w_NUM_Q w_NUM_REL_RET w_GM_MAP w_P_10 w_P_20 w_NUM_REL w_RECALL_1000 w_NUM_RET w_P_100 w_P_5 w_MAP h0 n0 _ T14.heap _
        rw [e14]
        exact ⟨rfl, N14⟩
    · have k17 : ∀ t, Steps p.tables e below (s₁.setTop (mkF m 37 #[.val (.int p0), .val (.int ((p0 &&& (2147483647 : Int32)) % (11 : Int32))), .unset, .unset] [(.int (2 : Int32)), (.int ((p0 &&& (2147483647 : Int32)) % (11 : Int32)))])) t → Steps p.tables e below (s₁.setTop (entryFrame m #[(.int p0)] maxLocals)) t := fun t k => k9 t (by
          show Steps p.tables e below (s₁.setTop (mkF m 23 #[.val (.int p0), .val (.int ((p0 &&& (2147483647 : Int32)) % (11 : Int32))), .unset, .unset] [(.int (1 : Int32)), (.int ((p0 &&& (2147483647 : Int32)) % (11 : Int32)))])) _
          refine XS.icmpYes X0.here hx rfl (pc0 := 23) (pc' := 35) rfl (hb hby at_23) rfl (feq hc23).2 (by decide) (by decide) ?_
          show Steps p.tables e below (s₁.setTop (mkF m 35 #[.val (.int p0), .val (.int ((p0 &&& (2147483647 : Int32)) % (11 : Int32))), .unset, .unset] [])) _
          refine XS.iloadN X0.here hx rfl (hb hby at_35) rfl ?_
          show Steps p.tables e below (s₁.setTop (mkF m 36 #[.val (.int p0), .val (.int ((p0 &&& (2147483647 : Int32)) % (11 : Int32))), .unset, .unset] [(.int ((p0 &&& (2147483647 : Int32)) % (11 : Int32)))])) _
          refine XS.iconst X0.here hx rfl (hb hby at_36) ?_
          exact k)
      by_cases hc37 : ((p0 &&& (2147483647 : Int32)) % (11 : Int32)) = (2 : Int32)
      · have k18 : ∀ t, Steps p.tables e below (s₁.setTop (mkF m 40 #[.val (.int p0), .val (.int ((p0 &&& (2147483647 : Int32)) % (11 : Int32))), .unset, .unset] [])) t → Steps p.tables e below (s₁.setTop (entryFrame m #[(.int p0)] maxLocals)) t := fun t k => k17 t (by
            show Steps p.tables e below (s₁.setTop (mkF m 37 #[.val (.int p0), .val (.int ((p0 &&& (2147483647 : Int32)) % (11 : Int32))), .unset, .unset] [(.int (2 : Int32)), (.int ((p0 &&& (2147483647 : Int32)) % (11 : Int32)))])) _
            refine XS.icmpNo X0.here hx rfl (hb hby at_37) rfl (teq hc37).2 ?_
            exact k)
        obtain ⟨T19, X19, e19, st19⟩ := getS2 X0 hx hZ hown (host := "") (Or.inl (hw _ (List.mem_of_getElem? (i := 18) rfl))) Via.refl e0 S_NUM_REL (g := (mkF m 40 #[.val (.int p0), .val (.int ((p0 &&& (2147483647 : Int32)) % (11 : Int32))), .unset, .unset] [])) rfl (hb hby at_40)
        have k20 : ∀ t, Steps p.tables e below (T19.setTop (mkF m 43 #[.val (.int p0), .val (.int ((p0 &&& (2147483647 : Int32)) % (11 : Int32))), .unset, .unset] [(.ref w_NUM_REL)])) t → Steps p.tables e below (s₁.setTop (entryFrame m #[(.int p0)] maxLocals)) t := fun t k => k18 t (st19 _ k)
        have k21 : ∀ t, Steps p.tables e below (T19.setTop (mkF m 158 #[.val (.int p0), .val (.int ((p0 &&& (2147483647 : Int32)) % (11 : Int32))), .val (.ref w_NUM_REL), .val (.int (1 : Int32))] [(.ref w_NUM_REL)])) t → Steps p.tables e below (s₁.setTop (entryFrame m #[(.int p0)] maxLocals)) t := fun t k => k20 t (by
            show Steps p.tables e below (T19.setTop (mkF m 43 #[.val (.int p0), .val (.int ((p0 &&& (2147483647 : Int32)) % (11 : Int32))), .unset, .unset] [(.ref w_NUM_REL)])) _
            refine XS.astoreN X19.here hx rfl (hb hby at_43) rfl rfl (l' := #[.val (.int p0), .val (.int ((p0 &&& (2147483647 : Int32)) % (11 : Int32))), .val (.ref w_NUM_REL), .unset]) rfl ?_
            show Steps p.tables e below (T19.setTop (mkF m 44 #[.val (.int p0), .val (.int ((p0 &&& (2147483647 : Int32)) % (11 : Int32))), .val (.ref w_NUM_REL), .unset] [])) _
            refine XS.iconst X19.here hx rfl (hb hby at_44) ?_
            show Steps p.tables e below (T19.setTop (mkF m 45 #[.val (.int p0), .val (.int ((p0 &&& (2147483647 : Int32)) % (11 : Int32))), .val (.ref w_NUM_REL), .unset] [(.int (1 : Int32))])) _
            refine XS.istoreN X19.here hx rfl (hb hby at_45) rfl (l' := #[.val (.int p0), .val (.int ((p0 &&& (2147483647 : Int32)) % (11 : Int32))), .val (.ref w_NUM_REL), .val (.int (1 : Int32))]) rfl ?_
            show Steps p.tables e below (T19.setTop (mkF m 46 #[.val (.int p0), .val (.int ((p0 &&& (2147483647 : Int32)) % (11 : Int32))), .val (.ref w_NUM_REL), .val (.int (1 : Int32))] [])) _
            refine XS.goto X19.here hx rfl (pc0 := 46) (pc' := 157) rfl (hb hby at_46) (by decide) (by decide) ?_
            show Steps p.tables e below (T19.setTop (mkF m 157 #[.val (.int p0), .val (.int ((p0 &&& (2147483647 : Int32)) % (11 : Int32))), .val (.ref w_NUM_REL), .val (.int (1 : Int32))] [])) _
            refine XS.aloadN X19.here hx rfl (hb hby at_157) rfl rfl ?_
            exact k)
        obtain ⟨cq22, kcq22, q22a, q22b, q22c⟩ := isOf hZ e19 E_w_NUM_REL
        obtain ⟨_, _, ⟨T22, L22, kq22, n22⟩, -, X22, ⟨Lc22, hQ22, l22, y22, z22⟩, st22⟩ := X19.virtualBack hx (y := (⟨"com/example/navsim/navsim/Measure", "printedPerTopic", "()Z"⟩ : MethodName)) (z := (⟨"com/example/navsim/navsim/Measure", "printedPerTopic", "()Z"⟩ : MethodName)) hown (mvT hZ (hw _ (List.mem_of_getElem? (i := 4) rfl))) (mvT hZ (hw _ (List.mem_of_getElem? (i := 5) rfl))) (notFace_of_selects (args := #[]) (mvT hZ (hw _ (List.mem_of_getElem? (i := 7) rfl)))) (mvT hZ (hw _ (List.mem_of_getElem? (i := 7) rfl))) (mvT hZ (hw _ (List.mem_of_getElem? (i := 6) rfl))) (by decide) (backOf (W := 0) (rm1 l Z a0 hw [] w_NUM_REL w_NUM_Q w_GM_MAP h0 n0 Z0 S_NUM_Q S_GM_MAP) hZ (hw _ (List.mem_of_getElem? (i := 8) rfl)) (hw _ (List.mem_of_getElem? (i := 2) rfl)) (by decide) (by decide)) q22a q22c (g := (mkF m 158 #[.val (.int p0), .val (.int ((p0 &&& (2147483647 : Int32)) % (11 : Int32))), .val (.ref w_NUM_REL), .val (.int (1 : Int32))] [(.ref w_NUM_REL)])) rfl (by rw [hml]; rfl) (Steps.refl _) (argsL := []) (rest := []) (lenOf pd_0 rfl) rfl (by show 2 * 0 + _ ≤ _; exact Nat.le_of_eq rfl) (hb hby at_158) (fun _ _ => ⟨rfl, e19, (by decide : 0 + 0 ≤ _), (by decide : 0 + 0 ≤ _)⟩)
        dsimp only [Pt.U, Pt.locs, Pt.cells, Pt.slots] at X22 l22 y22 z22 st22 hQ22
        subst l22 y22 z22
        obtain ⟨rfl, N22q, e22⟩ := hQ22
        have N22 := Fr.app N0 N22q
        have k23 : ∀ t, Steps p.tables e below (T22.setTop (mkF m 161 #[.val (.int p0), .val (.int ((p0 &&& (2147483647 : Int32)) % (11 : Int32))), .val (.ref w_NUM_REL), .val (.int (1 : Int32))] [(.int (own_bI (¬ (w_NUM_REL = w_NUM_Q) ∧ ¬ (w_NUM_REL = w_GM_MAP))))])) t → Steps p.tables e below (s₁.setTop (entryFrame m #[(.int p0)] maxLocals)) t := fun t k => k21 t (st22.trans k)
        have hc162 : (own_bI (¬ (w_NUM_REL = w_NUM_Q) ∧ ¬ (w_NUM_REL = w_GM_MAP))) = (1 : Int32) := own_bI_t ⟨hq_NUM_REL, hg_NUM_REL⟩
        have k24 : ∀ t, Steps p.tables e below (T22.setTop (mkF m 170 #[.val (.int p0), .val (.int ((p0 &&& (2147483647 : Int32)) % (11 : Int32))), .val (.ref w_NUM_REL), .val (.int (1 : Int32))] [(.int (1 : Int32))])) t → Steps p.tables e below (s₁.setTop (entryFrame m #[(.int p0)] maxLocals)) t := fun t k => k23 t (by
            show Steps p.tables e below (T22.setTop (mkF m 161 #[.val (.int p0), .val (.int ((p0 &&& (2147483647 : Int32)) % (11 : Int32))), .val (.ref w_NUM_REL), .val (.int (1 : Int32))] [(.int (own_bI (¬ (w_NUM_REL = w_NUM_Q) ∧ ¬ (w_NUM_REL = w_GM_MAP))))])) _
            refine XS.iloadN X22.here hx rfl (hb hby at_161) rfl ?_
            show Steps p.tables e below (T22.setTop (mkF m 162 #[.val (.int p0), .val (.int ((p0 &&& (2147483647 : Int32)) % (11 : Int32))), .val (.ref w_NUM_REL), .val (.int (1 : Int32))] [(.int (1 : Int32)), (.int (own_bI (¬ (w_NUM_REL = w_NUM_Q) ∧ ¬ (w_NUM_REL = w_GM_MAP))))])) _
            refine XS.icmpNo X22.here hx rfl (hb hby at_162) rfl (teq hc162).2 ?_
            show Steps p.tables e below (T22.setTop (mkF m 165 #[.val (.int p0), .val (.int ((p0 &&& (2147483647 : Int32)) % (11 : Int32))), .val (.ref w_NUM_REL), .val (.int (1 : Int32))] [])) _
            refine XS.iconst X22.here hx rfl (hb hby at_165) ?_
            show Steps p.tables e below (T22.setTop (mkF m 166 #[.val (.int p0), .val (.int ((p0 &&& (2147483647 : Int32)) % (11 : Int32))), .val (.ref w_NUM_REL), .val (.int (1 : Int32))] [(.int (1 : Int32))])) _
            refine XS.goto X22.here hx rfl (pc0 := 166) (pc' := 170) rfl (hb hby at_166) (by decide) (by decide) ?_
            exact k)
        obtain ⟨fs, hr, hrun, hended, hW, hsame⟩ := X22.leave (v := (some (.int (1 : Int32)))) (fun h => by rw [Bd.returns] at h; cases h)
        refine ⟨_, _, k24 _ ?_, hrun, hended, _, _, rfl, ?_, ⟨_, rfl⟩, hW, hsame.mono (by decide) (by decide)⟩
        · exact retN X22 hx (t := .boolean) Bd.returns (by simp) (hb hby at_170) hr
        · show Q0 Z p0 w_NUM_Q w_NUM_REL_RET w_GM_MAP w_P_10 w_P_20 w_NUM_REL w_RECALL_1000 w_NUM_RET w_P_100 w_P_5 w_MAP h0 n0 _ T22.heap _
          rw [e22]
          exact ⟨rfl, N22⟩
      · have k25 : ∀ t, Steps p.tables e below (s₁.setTop (mkF m 51 #[.val (.int p0), .val (.int ((p0 &&& (2147483647 : Int32)) % (11 : Int32))), .unset, .unset] [(.int (3 : Int32)), (.int ((p0 &&& (2147483647 : Int32)) % (11 : Int32)))])) t → Steps p.tables e below (s₁.setTop (entryFrame m #[(.int p0)] maxLocals)) t := fun t k => k17 t (by
            show Steps p.tables e below (s₁.setTop (mkF m 37 #[.val (.int p0), .val (.int ((p0 &&& (2147483647 : Int32)) % (11 : Int32))), .unset, .unset] [(.int (2 : Int32)), (.int ((p0 &&& (2147483647 : Int32)) % (11 : Int32)))])) _
            refine XS.icmpYes X0.here hx rfl (pc0 := 37) (pc' := 49) rfl (hb hby at_37) rfl (feq hc37).2 (by decide) (by decide) ?_
            show Steps p.tables e below (s₁.setTop (mkF m 49 #[.val (.int p0), .val (.int ((p0 &&& (2147483647 : Int32)) % (11 : Int32))), .unset, .unset] [])) _
            refine XS.iloadN X0.here hx rfl (hb hby at_49) rfl ?_
            show Steps p.tables e below (s₁.setTop (mkF m 50 #[.val (.int p0), .val (.int ((p0 &&& (2147483647 : Int32)) % (11 : Int32))), .unset, .unset] [(.int ((p0 &&& (2147483647 : Int32)) % (11 : Int32)))])) _
            refine XS.iconst X0.here hx rfl (hb hby at_50) ?_
            exact k)
        by_cases hc51 : ((p0 &&& (2147483647 : Int32)) % (11 : Int32)) = (3 : Int32)
        · have k26 : ∀ t, Steps p.tables e below (s₁.setTop (mkF m 54 #[.val (.int p0), .val (.int ((p0 &&& (2147483647 : Int32)) % (11 : Int32))), .unset, .unset] [])) t → Steps p.tables e below (s₁.setTop (entryFrame m #[(.int p0)] maxLocals)) t := fun t k => k25 t (by
              show Steps p.tables e below (s₁.setTop (mkF m 51 #[.val (.int p0), .val (.int ((p0 &&& (2147483647 : Int32)) % (11 : Int32))), .unset, .unset] [(.int (3 : Int32)), (.int ((p0 &&& (2147483647 : Int32)) % (11 : Int32)))])) _
              refine XS.icmpNo X0.here hx rfl (hb hby at_51) rfl (teq hc51).2 ?_
              exact k)
          obtain ⟨T27, X27, e27, st27⟩ := getS2 X0 hx hZ hown (host := "") (Or.inl (hw _ (List.mem_of_getElem? (i := 10) rfl))) Via.refl e0 S_NUM_REL_RET (g := (mkF m 54 #[.val (.int p0), .val (.int ((p0 &&& (2147483647 : Int32)) % (11 : Int32))), .unset, .unset] [])) rfl (hb hby at_54)
          have k28 : ∀ t, Steps p.tables e below (T27.setTop (mkF m 57 #[.val (.int p0), .val (.int ((p0 &&& (2147483647 : Int32)) % (11 : Int32))), .unset, .unset] [(.ref w_NUM_REL_RET)])) t → Steps p.tables e below (s₁.setTop (entryFrame m #[(.int p0)] maxLocals)) t := fun t k => k26 t (st27 _ k)
          have k29 : ∀ t, Steps p.tables e below (T27.setTop (mkF m 158 #[.val (.int p0), .val (.int ((p0 &&& (2147483647 : Int32)) % (11 : Int32))), .val (.ref w_NUM_REL_RET), .val (.int (1 : Int32))] [(.ref w_NUM_REL_RET)])) t → Steps p.tables e below (s₁.setTop (entryFrame m #[(.int p0)] maxLocals)) t := fun t k => k28 t (by
              show Steps p.tables e below (T27.setTop (mkF m 57 #[.val (.int p0), .val (.int ((p0 &&& (2147483647 : Int32)) % (11 : Int32))), .unset, .unset] [(.ref w_NUM_REL_RET)])) _
              refine XS.astoreN X27.here hx rfl (hb hby at_57) rfl rfl (l' := #[.val (.int p0), .val (.int ((p0 &&& (2147483647 : Int32)) % (11 : Int32))), .val (.ref w_NUM_REL_RET), .unset]) rfl ?_
              show Steps p.tables e below (T27.setTop (mkF m 58 #[.val (.int p0), .val (.int ((p0 &&& (2147483647 : Int32)) % (11 : Int32))), .val (.ref w_NUM_REL_RET), .unset] [])) _
              refine XS.iconst X27.here hx rfl (hb hby at_58) ?_
              show Steps p.tables e below (T27.setTop (mkF m 59 #[.val (.int p0), .val (.int ((p0 &&& (2147483647 : Int32)) % (11 : Int32))), .val (.ref w_NUM_REL_RET), .unset] [(.int (1 : Int32))])) _
              refine XS.istoreN X27.here hx rfl (hb hby at_59) rfl (l' := #[.val (.int p0), .val (.int ((p0 &&& (2147483647 : Int32)) % (11 : Int32))), .val (.ref w_NUM_REL_RET), .val (.int (1 : Int32))]) rfl ?_
              show Steps p.tables e below (T27.setTop (mkF m 60 #[.val (.int p0), .val (.int ((p0 &&& (2147483647 : Int32)) % (11 : Int32))), .val (.ref w_NUM_REL_RET), .val (.int (1 : Int32))] [])) _
              refine XS.goto X27.here hx rfl (pc0 := 60) (pc' := 157) rfl (hb hby at_60) (by decide) (by decide) ?_
              show Steps p.tables e below (T27.setTop (mkF m 157 #[.val (.int p0), .val (.int ((p0 &&& (2147483647 : Int32)) % (11 : Int32))), .val (.ref w_NUM_REL_RET), .val (.int (1 : Int32))] [])) _
              refine XS.aloadN X27.here hx rfl (hb hby at_157) rfl rfl ?_
              exact k)
          obtain ⟨cq30, kcq30, q30a, q30b, q30c⟩ := isOf hZ e27 E_w_NUM_REL_RET
          obtain ⟨_, _, ⟨T30, L30, kq30, n30⟩, -, X30, ⟨Lc30, hQ30, l30, y30, z30⟩, st30⟩ := X27.virtualBack hx (y := (⟨"com/example/navsim/navsim/Measure", "printedPerTopic", "()Z"⟩ : MethodName)) (z := (⟨"com/example/navsim/navsim/Measure", "printedPerTopic", "()Z"⟩ : MethodName)) hown (mvT hZ (hw _ (List.mem_of_getElem? (i := 4) rfl))) (mvT hZ (hw _ (List.mem_of_getElem? (i := 5) rfl))) (notFace_of_selects (args := #[]) (mvT hZ (hw _ (List.mem_of_getElem? (i := 7) rfl)))) (mvT hZ (hw _ (List.mem_of_getElem? (i := 7) rfl))) (mvT hZ (hw _ (List.mem_of_getElem? (i := 6) rfl))) (by decide) (backOf (W := 0) (rm1 l Z a0 hw [] w_NUM_REL_RET w_NUM_Q w_GM_MAP h0 n0 Z0 S_NUM_Q S_GM_MAP) hZ (hw _ (List.mem_of_getElem? (i := 8) rfl)) (hw _ (List.mem_of_getElem? (i := 2) rfl)) (by decide) (by decide)) q30a q30c (g := (mkF m 158 #[.val (.int p0), .val (.int ((p0 &&& (2147483647 : Int32)) % (11 : Int32))), .val (.ref w_NUM_REL_RET), .val (.int (1 : Int32))] [(.ref w_NUM_REL_RET)])) rfl (by rw [hml]; rfl) (Steps.refl _) (argsL := []) (rest := []) (lenOf pd_0 rfl) rfl (by show 2 * 0 + _ ≤ _; exact Nat.le_of_eq rfl) (hb hby at_158) (fun _ _ => ⟨rfl, e27, (by decide : 0 + 0 ≤ _), (by decide : 0 + 0 ≤ _)⟩)
          dsimp only [Pt.U, Pt.locs, Pt.cells, Pt.slots] at X30 l30 y30 z30 st30 hQ30
          subst l30 y30 z30
          obtain ⟨rfl, N30q, e30⟩ := hQ30
          have N30 := Fr.app N0 N30q
          have k31 : ∀ t, Steps p.tables e below (T30.setTop (mkF m 161 #[.val (.int p0), .val (.int ((p0 &&& (2147483647 : Int32)) % (11 : Int32))), .val (.ref w_NUM_REL_RET), .val (.int (1 : Int32))] [(.int (own_bI (¬ (w_NUM_REL_RET = w_NUM_Q) ∧ ¬ (w_NUM_REL_RET = w_GM_MAP))))])) t → Steps p.tables e below (s₁.setTop (entryFrame m #[(.int p0)] maxLocals)) t := fun t k => k29 t (st30.trans k)
          have hc162 : (own_bI (¬ (w_NUM_REL_RET = w_NUM_Q) ∧ ¬ (w_NUM_REL_RET = w_GM_MAP))) = (1 : Int32) := own_bI_t ⟨hq_NUM_REL_RET, hg_NUM_REL_RET⟩
          have k32 : ∀ t, Steps p.tables e below (T30.setTop (mkF m 170 #[.val (.int p0), .val (.int ((p0 &&& (2147483647 : Int32)) % (11 : Int32))), .val (.ref w_NUM_REL_RET), .val (.int (1 : Int32))] [(.int (1 : Int32))])) t → Steps p.tables e below (s₁.setTop (entryFrame m #[(.int p0)] maxLocals)) t := fun t k => k31 t (by
              show Steps p.tables e below (T30.setTop (mkF m 161 #[.val (.int p0), .val (.int ((p0 &&& (2147483647 : Int32)) % (11 : Int32))), .val (.ref w_NUM_REL_RET), .val (.int (1 : Int32))] [(.int (own_bI (¬ (w_NUM_REL_RET = w_NUM_Q) ∧ ¬ (w_NUM_REL_RET = w_GM_MAP))))])) _
              refine XS.iloadN X30.here hx rfl (hb hby at_161) rfl ?_
              show Steps p.tables e below (T30.setTop (mkF m 162 #[.val (.int p0), .val (.int ((p0 &&& (2147483647 : Int32)) % (11 : Int32))), .val (.ref w_NUM_REL_RET), .val (.int (1 : Int32))] [(.int (1 : Int32)), (.int (own_bI (¬ (w_NUM_REL_RET = w_NUM_Q) ∧ ¬ (w_NUM_REL_RET = w_GM_MAP))))])) _
              refine XS.icmpNo X30.here hx rfl (hb hby at_162) rfl (teq hc162).2 ?_
              show Steps p.tables e below (T30.setTop (mkF m 165 #[.val (.int p0), .val (.int ((p0 &&& (2147483647 : Int32)) % (11 : Int32))), .val (.ref w_NUM_REL_RET), .val (.int (1 : Int32))] [])) _
              refine XS.iconst X30.here hx rfl (hb hby at_165) ?_
              show Steps p.tables e below (T30.setTop (mkF m 166 #[.val (.int p0), .val (.int ((p0 &&& (2147483647 : Int32)) % (11 : Int32))), .val (.ref w_NUM_REL_RET), .val (.int (1 : Int32))] [(.int (1 : Int32))])) _
              refine XS.goto X30.here hx rfl (pc0 := 166) (pc' := 170) rfl (hb hby at_166) (by decide) (by decide) ?_
              exact k)
          obtain ⟨fs, hr, hrun, hended, hW, hsame⟩ := X30.leave (v := (some (.int (1 : Int32)))) (fun h => by rw [Bd.returns] at h; cases h)
          refine ⟨_, _, k32 _ ?_, hrun, hended, _, _, rfl, ?_, ⟨_, rfl⟩, hW, hsame.mono (by decide) (by decide)⟩
          · exact retN X30 hx (t := .boolean) Bd.returns (by simp) (hb hby at_170) hr
          · show Q0 Z p0 w_NUM_Q w_NUM_REL_RET w_GM_MAP w_P_10 w_P_20 w_NUM_REL w_RECALL_1000 w_NUM_RET w_P_100 w_P_5 w_MAP h0 n0 _ T30.heap _
            rw [e30]
            exact ⟨rfl, N30⟩
        · have k33 : ∀ t, Steps p.tables e below (s₁.setTop (mkF m 65 #[.val (.int p0), .val (.int ((p0 &&& (2147483647 : Int32)) % (11 : Int32))), .unset, .unset] [(.int (4 : Int32)), (.int ((p0 &&& (2147483647 : Int32)) % (11 : Int32)))])) t → Steps p.tables e below (s₁.setTop (entryFrame m #[(.int p0)] maxLocals)) t := fun t k => k25 t (by
              show Steps p.tables e below (s₁.setTop (mkF m 51 #[.val (.int p0), .val (.int ((p0 &&& (2147483647 : Int32)) % (11 : Int32))), .unset, .unset] [(.int (3 : Int32)), (.int ((p0 &&& (2147483647 : Int32)) % (11 : Int32)))])) _
              refine XS.icmpYes X0.here hx rfl (pc0 := 51) (pc' := 63) rfl (hb hby at_51) rfl (feq hc51).2 (by decide) (by decide) ?_
              show Steps p.tables e below (s₁.setTop (mkF m 63 #[.val (.int p0), .val (.int ((p0 &&& (2147483647 : Int32)) % (11 : Int32))), .unset, .unset] [])) _
              refine XS.iloadN X0.here hx rfl (hb hby at_63) rfl ?_
              show Steps p.tables e below (s₁.setTop (mkF m 64 #[.val (.int p0), .val (.int ((p0 &&& (2147483647 : Int32)) % (11 : Int32))), .unset, .unset] [(.int ((p0 &&& (2147483647 : Int32)) % (11 : Int32)))])) _
              refine XS.iconst X0.here hx rfl (hb hby at_64) ?_
              exact k)
          by_cases hc65 : ((p0 &&& (2147483647 : Int32)) % (11 : Int32)) = (4 : Int32)
          · have k34 : ∀ t, Steps p.tables e below (s₁.setTop (mkF m 68 #[.val (.int p0), .val (.int ((p0 &&& (2147483647 : Int32)) % (11 : Int32))), .unset, .unset] [])) t → Steps p.tables e below (s₁.setTop (entryFrame m #[(.int p0)] maxLocals)) t := fun t k => k33 t (by
                show Steps p.tables e below (s₁.setTop (mkF m 65 #[.val (.int p0), .val (.int ((p0 &&& (2147483647 : Int32)) % (11 : Int32))), .unset, .unset] [(.int (4 : Int32)), (.int ((p0 &&& (2147483647 : Int32)) % (11 : Int32)))])) _
                refine XS.icmpNo X0.here hx rfl (hb hby at_65) rfl (teq hc65).2 ?_
                exact k)
            obtain ⟨T35, X35, e35, st35⟩ := getS2 X0 hx hZ hown (host := "") (Or.inl (hw _ (List.mem_of_getElem? (i := 29) rfl))) Via.refl e0 S_MAP (g := (mkF m 68 #[.val (.int p0), .val (.int ((p0 &&& (2147483647 : Int32)) % (11 : Int32))), .unset, .unset] [])) rfl (hb hby at_68)
            have k36 : ∀ t, Steps p.tables e below (T35.setTop (mkF m 71 #[.val (.int p0), .val (.int ((p0 &&& (2147483647 : Int32)) % (11 : Int32))), .unset, .unset] [(.ref w_MAP)])) t → Steps p.tables e below (s₁.setTop (entryFrame m #[(.int p0)] maxLocals)) t := fun t k => k34 t (st35 _ k)
            have k37 : ∀ t, Steps p.tables e below (T35.setTop (mkF m 158 #[.val (.int p0), .val (.int ((p0 &&& (2147483647 : Int32)) % (11 : Int32))), .val (.ref w_MAP), .val (.int (1 : Int32))] [(.ref w_MAP)])) t → Steps p.tables e below (s₁.setTop (entryFrame m #[(.int p0)] maxLocals)) t := fun t k => k36 t (by
                show Steps p.tables e below (T35.setTop (mkF m 71 #[.val (.int p0), .val (.int ((p0 &&& (2147483647 : Int32)) % (11 : Int32))), .unset, .unset] [(.ref w_MAP)])) _
                refine XS.astoreN X35.here hx rfl (hb hby at_71) rfl rfl (l' := #[.val (.int p0), .val (.int ((p0 &&& (2147483647 : Int32)) % (11 : Int32))), .val (.ref w_MAP), .unset]) rfl ?_
                show Steps p.tables e below (T35.setTop (mkF m 72 #[.val (.int p0), .val (.int ((p0 &&& (2147483647 : Int32)) % (11 : Int32))), .val (.ref w_MAP), .unset] [])) _
                refine XS.iconst X35.here hx rfl (hb hby at_72) ?_
                show Steps p.tables e below (T35.setTop (mkF m 73 #[.val (.int p0), .val (.int ((p0 &&& (2147483647 : Int32)) % (11 : Int32))), .val (.ref w_MAP), .unset] [(.int (1 : Int32))])) _
                refine XS.istoreN X35.here hx rfl (hb hby at_73) rfl (l' := #[.val (.int p0), .val (.int ((p0 &&& (2147483647 : Int32)) % (11 : Int32))), .val (.ref w_MAP), .val (.int (1 : Int32))]) rfl ?_
                show Steps p.tables e below (T35.setTop (mkF m 74 #[.val (.int p0), .val (.int ((p0 &&& (2147483647 : Int32)) % (11 : Int32))), .val (.ref w_MAP), .val (.int (1 : Int32))] [])) _
                refine XS.goto X35.here hx rfl (pc0 := 74) (pc' := 157) rfl (hb hby at_74) (by decide) (by decide) ?_
                show Steps p.tables e below (T35.setTop (mkF m 157 #[.val (.int p0), .val (.int ((p0 &&& (2147483647 : Int32)) % (11 : Int32))), .val (.ref w_MAP), .val (.int (1 : Int32))] [])) _
                refine XS.aloadN X35.here hx rfl (hb hby at_157) rfl rfl ?_
                exact k)
            obtain ⟨cq38, kcq38, q38a, q38b, q38c⟩ := isOf hZ e35 E_w_MAP
            obtain ⟨_, _, ⟨T38, L38, kq38, n38⟩, -, X38, ⟨Lc38, hQ38, l38, y38, z38⟩, st38⟩ := X35.virtualBack hx (y := (⟨"com/example/navsim/navsim/Measure", "printedPerTopic", "()Z"⟩ : MethodName)) (z := (⟨"com/example/navsim/navsim/Measure", "printedPerTopic", "()Z"⟩ : MethodName)) hown (mvT hZ (hw _ (List.mem_of_getElem? (i := 4) rfl))) (mvT hZ (hw _ (List.mem_of_getElem? (i := 5) rfl))) (notFace_of_selects (args := #[]) (mvT hZ (hw _ (List.mem_of_getElem? (i := 7) rfl)))) (mvT hZ (hw _ (List.mem_of_getElem? (i := 7) rfl))) (mvT hZ (hw _ (List.mem_of_getElem? (i := 6) rfl))) (by decide) (backOf (W := 0) (rm1 l Z a0 hw [] w_MAP w_NUM_Q w_GM_MAP h0 n0 Z0 S_NUM_Q S_GM_MAP) hZ (hw _ (List.mem_of_getElem? (i := 8) rfl)) (hw _ (List.mem_of_getElem? (i := 2) rfl)) (by decide) (by decide)) q38a q38c (g := (mkF m 158 #[.val (.int p0), .val (.int ((p0 &&& (2147483647 : Int32)) % (11 : Int32))), .val (.ref w_MAP), .val (.int (1 : Int32))] [(.ref w_MAP)])) rfl (by rw [hml]; rfl) (Steps.refl _) (argsL := []) (rest := []) (lenOf pd_0 rfl) rfl (by show 2 * 0 + _ ≤ _; exact Nat.le_of_eq rfl) (hb hby at_158) (fun _ _ => ⟨rfl, e35, (by decide : 0 + 0 ≤ _), (by decide : 0 + 0 ≤ _)⟩)
            dsimp only [Pt.U, Pt.locs, Pt.cells, Pt.slots] at X38 l38 y38 z38 st38 hQ38
            subst l38 y38 z38
            obtain ⟨rfl, N38q, e38⟩ := hQ38
            have N38 := Fr.app N0 N38q
            have k39 : ∀ t, Steps p.tables e below (T38.setTop (mkF m 161 #[.val (.int p0), .val (.int ((p0 &&& (2147483647 : Int32)) % (11 : Int32))), .val (.ref w_MAP), .val (.int (1 : Int32))] [(.int (own_bI (¬ (w_MAP = w_NUM_Q) ∧ ¬ (w_MAP = w_GM_MAP))))])) t → Steps p.tables e below (s₁.setTop (entryFrame m #[(.int p0)] maxLocals)) t := fun t k => k37 t (st38.trans k)
            have hc162 : (own_bI (¬ (w_MAP = w_NUM_Q) ∧ ¬ (w_MAP = w_GM_MAP))) = (1 : Int32) := own_bI_t ⟨hq_MAP, hg_MAP⟩
            have k40 : ∀ t, Steps p.tables e below (T38.setTop (mkF m 170 #[.val (.int p0), .val (.int ((p0 &&& (2147483647 : Int32)) % (11 : Int32))), .val (.ref w_MAP), .val (.int (1 : Int32))] [(.int (1 : Int32))])) t → Steps p.tables e below (s₁.setTop (entryFrame m #[(.int p0)] maxLocals)) t := fun t k => k39 t (by
                show Steps p.tables e below (T38.setTop (mkF m 161 #[.val (.int p0), .val (.int ((p0 &&& (2147483647 : Int32)) % (11 : Int32))), .val (.ref w_MAP), .val (.int (1 : Int32))] [(.int (own_bI (¬ (w_MAP = w_NUM_Q) ∧ ¬ (w_MAP = w_GM_MAP))))])) _
                refine XS.iloadN X38.here hx rfl (hb hby at_161) rfl ?_
                show Steps p.tables e below (T38.setTop (mkF m 162 #[.val (.int p0), .val (.int ((p0 &&& (2147483647 : Int32)) % (11 : Int32))), .val (.ref w_MAP), .val (.int (1 : Int32))] [(.int (1 : Int32)), (.int (own_bI (¬ (w_MAP = w_NUM_Q) ∧ ¬ (w_MAP = w_GM_MAP))))])) _
                refine XS.icmpNo X38.here hx rfl (hb hby at_162) rfl (teq hc162).2 ?_
                show Steps p.tables e below (T38.setTop (mkF m 165 #[.val (.int p0), .val (.int ((p0 &&& (2147483647 : Int32)) % (11 : Int32))), .val (.ref w_MAP), .val (.int (1 : Int32))] [])) _
                refine XS.iconst X38.here hx rfl (hb hby at_165) ?_
                show Steps p.tables e below (T38.setTop (mkF m 166 #[.val (.int p0), .val (.int ((p0 &&& (2147483647 : Int32)) % (11 : Int32))), .val (.ref w_MAP), .val (.int (1 : Int32))] [(.int (1 : Int32))])) _
                refine XS.goto X38.here hx rfl (pc0 := 166) (pc' := 170) rfl (hb hby at_166) (by decide) (by decide) ?_
                exact k)
            obtain ⟨fs, hr, hrun, hended, hW, hsame⟩ := X38.leave (v := (some (.int (1 : Int32)))) (fun h => by rw [Bd.returns] at h; cases h)
            refine ⟨_, _, k40 _ ?_, hrun, hended, _, _, rfl, ?_, ⟨_, rfl⟩, hW, hsame.mono (by decide) (by decide)⟩
            · exact retN X38 hx (t := .boolean) Bd.returns (by simp) (hb hby at_170) hr
            · show Q0 Z p0 w_NUM_Q w_NUM_REL_RET w_GM_MAP w_P_10 w_P_20 w_NUM_REL w_RECALL_1000 w_NUM_RET w_P_100 w_P_5 w_MAP h0 n0 _ T38.heap _
              rw [e38]
              exact ⟨rfl, N38⟩
          · have k41 : ∀ t, Steps p.tables e below (s₁.setTop (mkF m 79 #[.val (.int p0), .val (.int ((p0 &&& (2147483647 : Int32)) % (11 : Int32))), .unset, .unset] [(.int (5 : Int32)), (.int ((p0 &&& (2147483647 : Int32)) % (11 : Int32)))])) t → Steps p.tables e below (s₁.setTop (entryFrame m #[(.int p0)] maxLocals)) t := fun t k => k33 t (by
                show Steps p.tables e below (s₁.setTop (mkF m 65 #[.val (.int p0), .val (.int ((p0 &&& (2147483647 : Int32)) % (11 : Int32))), .unset, .unset] [(.int (4 : Int32)), (.int ((p0 &&& (2147483647 : Int32)) % (11 : Int32)))])) _
                refine XS.icmpYes X0.here hx rfl (pc0 := 65) (pc' := 77) rfl (hb hby at_65) rfl (feq hc65).2 (by decide) (by decide) ?_
                show Steps p.tables e below (s₁.setTop (mkF m 77 #[.val (.int p0), .val (.int ((p0 &&& (2147483647 : Int32)) % (11 : Int32))), .unset, .unset] [])) _
                refine XS.iloadN X0.here hx rfl (hb hby at_77) rfl ?_
                show Steps p.tables e below (s₁.setTop (mkF m 78 #[.val (.int p0), .val (.int ((p0 &&& (2147483647 : Int32)) % (11 : Int32))), .unset, .unset] [(.int ((p0 &&& (2147483647 : Int32)) % (11 : Int32)))])) _
                refine XS.iconst X0.here hx rfl (hb hby at_78) ?_
                exact k)
            by_cases hc79 : ((p0 &&& (2147483647 : Int32)) % (11 : Int32)) = (5 : Int32)
            · have k42 : ∀ t, Steps p.tables e below (s₁.setTop (mkF m 82 #[.val (.int p0), .val (.int ((p0 &&& (2147483647 : Int32)) % (11 : Int32))), .unset, .unset] [])) t → Steps p.tables e below (s₁.setTop (entryFrame m #[(.int p0)] maxLocals)) t := fun t k => k41 t (by
                  show Steps p.tables e below (s₁.setTop (mkF m 79 #[.val (.int p0), .val (.int ((p0 &&& (2147483647 : Int32)) % (11 : Int32))), .unset, .unset] [(.int (5 : Int32)), (.int ((p0 &&& (2147483647 : Int32)) % (11 : Int32)))])) _
                  refine XS.icmpNo X0.here hx rfl (hb hby at_79) rfl (teq hc79).2 ?_
                  exact k)
              obtain ⟨T43, X43, e43, st43⟩ := getS2 X0 hx hZ hown (host := "") (Or.inl (hw _ (List.mem_of_getElem? (i := 26) rfl))) Via.refl e0 S_GM_MAP (g := (mkF m 82 #[.val (.int p0), .val (.int ((p0 &&& (2147483647 : Int32)) % (11 : Int32))), .unset, .unset] [])) rfl (hb hby at_82)
              have k44 : ∀ t, Steps p.tables e below (T43.setTop (mkF m 85 #[.val (.int p0), .val (.int ((p0 &&& (2147483647 : Int32)) % (11 : Int32))), .unset, .unset] [(.ref w_GM_MAP)])) t → Steps p.tables e below (s₁.setTop (entryFrame m #[(.int p0)] maxLocals)) t := fun t k => k42 t (st43 _ k)
              have k45 : ∀ t, Steps p.tables e below (T43.setTop (mkF m 158 #[.val (.int p0), .val (.int ((p0 &&& (2147483647 : Int32)) % (11 : Int32))), .val (.ref w_GM_MAP), .val (.int (0 : Int32))] [(.ref w_GM_MAP)])) t → Steps p.tables e below (s₁.setTop (entryFrame m #[(.int p0)] maxLocals)) t := fun t k => k44 t (by
                  show Steps p.tables e below (T43.setTop (mkF m 85 #[.val (.int p0), .val (.int ((p0 &&& (2147483647 : Int32)) % (11 : Int32))), .unset, .unset] [(.ref w_GM_MAP)])) _
                  refine XS.astoreN X43.here hx rfl (hb hby at_85) rfl rfl (l' := #[.val (.int p0), .val (.int ((p0 &&& (2147483647 : Int32)) % (11 : Int32))), .val (.ref w_GM_MAP), .unset]) rfl ?_
                  show Steps p.tables e below (T43.setTop (mkF m 86 #[.val (.int p0), .val (.int ((p0 &&& (2147483647 : Int32)) % (11 : Int32))), .val (.ref w_GM_MAP), .unset] [])) _
                  refine XS.iconst X43.here hx rfl (hb hby at_86) ?_
                  show Steps p.tables e below (T43.setTop (mkF m 87 #[.val (.int p0), .val (.int ((p0 &&& (2147483647 : Int32)) % (11 : Int32))), .val (.ref w_GM_MAP), .unset] [(.int (0 : Int32))])) _
                  refine XS.istoreN X43.here hx rfl (hb hby at_87) rfl (l' := #[.val (.int p0), .val (.int ((p0 &&& (2147483647 : Int32)) % (11 : Int32))), .val (.ref w_GM_MAP), .val (.int (0 : Int32))]) rfl ?_
                  show Steps p.tables e below (T43.setTop (mkF m 88 #[.val (.int p0), .val (.int ((p0 &&& (2147483647 : Int32)) % (11 : Int32))), .val (.ref w_GM_MAP), .val (.int (0 : Int32))] [])) _
                  refine XS.goto X43.here hx rfl (pc0 := 88) (pc' := 157) rfl (hb hby at_88) (by decide) (by decide) ?_
                  show Steps p.tables e below (T43.setTop (mkF m 157 #[.val (.int p0), .val (.int ((p0 &&& (2147483647 : Int32)) % (11 : Int32))), .val (.ref w_GM_MAP), .val (.int (0 : Int32))] [])) _
                  refine XS.aloadN X43.here hx rfl (hb hby at_157) rfl rfl ?_
                  exact k)
              obtain ⟨cq46, kcq46, q46a, q46b, q46c⟩ := isOf hZ e43 E_w_GM_MAP
              obtain ⟨_, _, ⟨T46, L46, kq46, n46⟩, -, X46, ⟨Lc46, hQ46, l46, y46, z46⟩, st46⟩ := X43.virtualBack hx (y := (⟨"com/example/navsim/navsim/Measure", "printedPerTopic", "()Z"⟩ : MethodName)) (z := (⟨"com/example/navsim/navsim/Measure", "printedPerTopic", "()Z"⟩ : MethodName)) hown (mvT hZ (hw _ (List.mem_of_getElem? (i := 4) rfl))) (mvT hZ (hw _ (List.mem_of_getElem? (i := 5) rfl))) (notFace_of_selects (args := #[]) (mvT hZ (hw _ (List.mem_of_getElem? (i := 7) rfl)))) (mvT hZ (hw _ (List.mem_of_getElem? (i := 7) rfl))) (mvT hZ (hw _ (List.mem_of_getElem? (i := 6) rfl))) (by decide) (backOf (W := 0) (rm1 l Z a0 hw [] w_GM_MAP w_NUM_Q w_GM_MAP h0 n0 Z0 S_NUM_Q S_GM_MAP) hZ (hw _ (List.mem_of_getElem? (i := 8) rfl)) (hw _ (List.mem_of_getElem? (i := 2) rfl)) (by decide) (by decide)) q46a q46c (g := (mkF m 158 #[.val (.int p0), .val (.int ((p0 &&& (2147483647 : Int32)) % (11 : Int32))), .val (.ref w_GM_MAP), .val (.int (0 : Int32))] [(.ref w_GM_MAP)])) rfl (by rw [hml]; rfl) (Steps.refl _) (argsL := []) (rest := []) (lenOf pd_0 rfl) rfl (by show 2 * 0 + _ ≤ _; exact Nat.le_of_eq rfl) (hb hby at_158) (fun _ _ => ⟨rfl, e43, (by decide : 0 + 0 ≤ _), (by decide : 0 + 0 ≤ _)⟩)
              dsimp only [Pt.U, Pt.locs, Pt.cells, Pt.slots] at X46 l46 y46 z46 st46 hQ46
              subst l46 y46 z46
              obtain ⟨rfl, N46q, e46⟩ := hQ46
              have N46 := Fr.app N0 N46q
              have k47 : ∀ t, Steps p.tables e below (T46.setTop (mkF m 161 #[.val (.int p0), .val (.int ((p0 &&& (2147483647 : Int32)) % (11 : Int32))), .val (.ref w_GM_MAP), .val (.int (0 : Int32))] [(.int (own_bI (¬ (w_GM_MAP = w_NUM_Q) ∧ ¬ (w_GM_MAP = w_GM_MAP))))])) t → Steps p.tables e below (s₁.setTop (entryFrame m #[(.int p0)] maxLocals)) t := fun t k => k45 t (st46.trans k)
              have hc162 : (own_bI (¬ (w_GM_MAP = w_NUM_Q) ∧ ¬ (w_GM_MAP = w_GM_MAP))) = (0 : Int32) := own_bI_f (fun q => q.2 rfl)
              have k48 : ∀ t, Steps p.tables e below (T46.setTop (mkF m 170 #[.val (.int p0), .val (.int ((p0 &&& (2147483647 : Int32)) % (11 : Int32))), .val (.ref w_GM_MAP), .val (.int (0 : Int32))] [(.int (1 : Int32))])) t → Steps p.tables e below (s₁.setTop (entryFrame m #[(.int p0)] maxLocals)) t := fun t k => k47 t (by
                  show Steps p.tables e below (T46.setTop (mkF m 161 #[.val (.int p0), .val (.int ((p0 &&& (2147483647 : Int32)) % (11 : Int32))), .val (.ref w_GM_MAP), .val (.int (0 : Int32))] [(.int (own_bI (¬ (w_GM_MAP = w_NUM_Q) ∧ ¬ (w_GM_MAP = w_GM_MAP))))])) _
                  refine XS.iloadN X46.here hx rfl (hb hby at_161) rfl ?_
                  show Steps p.tables e below (T46.setTop (mkF m 162 #[.val (.int p0), .val (.int ((p0 &&& (2147483647 : Int32)) % (11 : Int32))), .val (.ref w_GM_MAP), .val (.int (0 : Int32))] [(.int (0 : Int32)), (.int (own_bI (¬ (w_GM_MAP = w_NUM_Q) ∧ ¬ (w_GM_MAP = w_GM_MAP))))])) _
                  refine XS.icmpNo X46.here hx rfl (hb hby at_162) rfl (teq hc162).2 ?_
                  show Steps p.tables e below (T46.setTop (mkF m 165 #[.val (.int p0), .val (.int ((p0 &&& (2147483647 : Int32)) % (11 : Int32))), .val (.ref w_GM_MAP), .val (.int (0 : Int32))] [])) _
                  refine XS.iconst X46.here hx rfl (hb hby at_165) ?_
                  show Steps p.tables e below (T46.setTop (mkF m 166 #[.val (.int p0), .val (.int ((p0 &&& (2147483647 : Int32)) % (11 : Int32))), .val (.ref w_GM_MAP), .val (.int (0 : Int32))] [(.int (1 : Int32))])) _
                  refine XS.goto X46.here hx rfl (pc0 := 166) (pc' := 170) rfl (hb hby at_166) (by decide) (by decide) ?_
                  exact k)
              obtain ⟨fs, hr, hrun, hended, hW, hsame⟩ := X46.leave (v := (some (.int (1 : Int32)))) (fun h => by rw [Bd.returns] at h; cases h)
              refine ⟨_, _, k48 _ ?_, hrun, hended, _, _, rfl, ?_, ⟨_, rfl⟩, hW, hsame.mono (by decide) (by decide)⟩
              · exact retN X46 hx (t := .boolean) Bd.returns (by simp) (hb hby at_170) hr
              · show Q0 Z p0 w_NUM_Q w_NUM_REL_RET w_GM_MAP w_P_10 w_P_20 w_NUM_REL w_RECALL_1000 w_NUM_RET w_P_100 w_P_5 w_MAP h0 n0 _ T46.heap _
                rw [e46]
                exact ⟨rfl, N46⟩
            · have k49 : ∀ t, Steps p.tables e below (s₁.setTop (mkF m 94 #[.val (.int p0), .val (.int ((p0 &&& (2147483647 : Int32)) % (11 : Int32))), .unset, .unset] [(.int (6 : Int32)), (.int ((p0 &&& (2147483647 : Int32)) % (11 : Int32)))])) t → Steps p.tables e below (s₁.setTop (entryFrame m #[(.int p0)] maxLocals)) t := fun t k => k41 t (by
                  show Steps p.tables e below (s₁.setTop (mkF m 79 #[.val (.int p0), .val (.int ((p0 &&& (2147483647 : Int32)) % (11 : Int32))), .unset, .unset] [(.int (5 : Int32)), (.int ((p0 &&& (2147483647 : Int32)) % (11 : Int32)))])) _
                  refine XS.icmpYes X0.here hx rfl (pc0 := 79) (pc' := 91) rfl (hb hby at_79) rfl (feq hc79).2 (by decide) (by decide) ?_
                  show Steps p.tables e below (s₁.setTop (mkF m 91 #[.val (.int p0), .val (.int ((p0 &&& (2147483647 : Int32)) % (11 : Int32))), .unset, .unset] [])) _
                  refine XS.iloadN X0.here hx rfl (hb hby at_91) rfl ?_
                  show Steps p.tables e below (s₁.setTop (mkF m 92 #[.val (.int p0), .val (.int ((p0 &&& (2147483647 : Int32)) % (11 : Int32))), .unset, .unset] [(.int ((p0 &&& (2147483647 : Int32)) % (11 : Int32)))])) _
                  refine XS.bipush X0.here hx rfl (hb hby at_92) ?_
                  exact k)
              by_cases hc94 : ((p0 &&& (2147483647 : Int32)) % (11 : Int32)) = (6 : Int32)
              · have k50 : ∀ t, Steps p.tables e below (s₁.setTop (mkF m 97 #[.val (.int p0), .val (.int ((p0 &&& (2147483647 : Int32)) % (11 : Int32))), .unset, .unset] [])) t → Steps p.tables e below (s₁.setTop (entryFrame m #[(.int p0)] maxLocals)) t := fun t k => k49 t (by
                    show Steps p.tables e below (s₁.setTop (mkF m 94 #[.val (.int p0), .val (.int ((p0 &&& (2147483647 : Int32)) % (11 : Int32))), .unset, .unset] [(.int (6 : Int32)), (.int ((p0 &&& (2147483647 : Int32)) % (11 : Int32)))])) _
                    refine XS.icmpNo X0.here hx rfl (hb hby at_94) rfl (teq hc94).2 ?_
                    exact k)
                obtain ⟨T51, X51, e51, st51⟩ := getS2 X0 hx hZ hown (host := "") (Or.inl (hw _ (List.mem_of_getElem? (i := 27) rfl))) Via.refl e0 S_P_5 (g := (mkF m 97 #[.val (.int p0), .val (.int ((p0 &&& (2147483647 : Int32)) % (11 : Int32))), .unset, .unset] [])) rfl (hb hby at_97)
                have k52 : ∀ t, Steps p.tables e below (T51.setTop (mkF m 100 #[.val (.int p0), .val (.int ((p0 &&& (2147483647 : Int32)) % (11 : Int32))), .unset, .unset] [(.ref w_P_5)])) t → Steps p.tables e below (s₁.setTop (entryFrame m #[(.int p0)] maxLocals)) t := fun t k => k50 t (st51 _ k)
                have k53 : ∀ t, Steps p.tables e below (T51.setTop (mkF m 158 #[.val (.int p0), .val (.int ((p0 &&& (2147483647 : Int32)) % (11 : Int32))), .val (.ref w_P_5), .val (.int (1 : Int32))] [(.ref w_P_5)])) t → Steps p.tables e below (s₁.setTop (entryFrame m #[(.int p0)] maxLocals)) t := fun t k => k52 t (by
                    show Steps p.tables e below (T51.setTop (mkF m 100 #[.val (.int p0), .val (.int ((p0 &&& (2147483647 : Int32)) % (11 : Int32))), .unset, .unset] [(.ref w_P_5)])) _
                    refine XS.astoreN X51.here hx rfl (hb hby at_100) rfl rfl (l' := #[.val (.int p0), .val (.int ((p0 &&& (2147483647 : Int32)) % (11 : Int32))), .val (.ref w_P_5), .unset]) rfl ?_
                    show Steps p.tables e below (T51.setTop (mkF m 101 #[.val (.int p0), .val (.int ((p0 &&& (2147483647 : Int32)) % (11 : Int32))), .val (.ref w_P_5), .unset] [])) _
                    refine XS.iconst X51.here hx rfl (hb hby at_101) ?_
                    show Steps p.tables e below (T51.setTop (mkF m 102 #[.val (.int p0), .val (.int ((p0 &&& (2147483647 : Int32)) % (11 : Int32))), .val (.ref w_P_5), .unset] [(.int (1 : Int32))])) _
                    refine XS.istoreN X51.here hx rfl (hb hby at_102) rfl (l' := #[.val (.int p0), .val (.int ((p0 &&& (2147483647 : Int32)) % (11 : Int32))), .val (.ref w_P_5), .val (.int (1 : Int32))]) rfl ?_
                    show Steps p.tables e below (T51.setTop (mkF m 103 #[.val (.int p0), .val (.int ((p0 &&& (2147483647 : Int32)) % (11 : Int32))), .val (.ref w_P_5), .val (.int (1 : Int32))] [])) _
                    refine XS.goto X51.here hx rfl (pc0 := 103) (pc' := 157) rfl (hb hby at_103) (by decide) (by decide) ?_
                    show Steps p.tables e below (T51.setTop (mkF m 157 #[.val (.int p0), .val (.int ((p0 &&& (2147483647 : Int32)) % (11 : Int32))), .val (.ref w_P_5), .val (.int (1 : Int32))] [])) _
                    refine XS.aloadN X51.here hx rfl (hb hby at_157) rfl rfl ?_
                    exact k)
                obtain ⟨cq54, kcq54, q54a, q54b, q54c⟩ := isOf hZ e51 E_w_P_5
                obtain ⟨_, _, ⟨T54, L54, kq54, n54⟩, -, X54, ⟨Lc54, hQ54, l54, y54, z54⟩, st54⟩ := X51.virtualBack hx (y := (⟨"com/example/navsim/navsim/Measure", "printedPerTopic", "()Z"⟩ : MethodName)) (z := (⟨"com/example/navsim/navsim/Measure", "printedPerTopic", "()Z"⟩ : MethodName)) hown (mvT hZ (hw _ (List.mem_of_getElem? (i := 4) rfl))) (mvT hZ (hw _ (List.mem_of_getElem? (i := 5) rfl))) (notFace_of_selects (args := #[]) (mvT hZ (hw _ (List.mem_of_getElem? (i := 7) rfl)))) (mvT hZ (hw _ (List.mem_of_getElem? (i := 7) rfl))) (mvT hZ (hw _ (List.mem_of_getElem? (i := 6) rfl))) (by decide) (backOf (W := 0) (rm1 l Z a0 hw [] w_P_5 w_NUM_Q w_GM_MAP h0 n0 Z0 S_NUM_Q S_GM_MAP) hZ (hw _ (List.mem_of_getElem? (i := 8) rfl)) (hw _ (List.mem_of_getElem? (i := 2) rfl)) (by decide) (by decide)) q54a q54c (g := (mkF m 158 #[.val (.int p0), .val (.int ((p0 &&& (2147483647 : Int32)) % (11 : Int32))), .val (.ref w_P_5), .val (.int (1 : Int32))] [(.ref w_P_5)])) rfl (by rw [hml]; rfl) (Steps.refl _) (argsL := []) (rest := []) (lenOf pd_0 rfl) rfl (by show 2 * 0 + _ ≤ _; exact Nat.le_of_eq rfl) (hb hby at_158) (fun _ _ => ⟨rfl, e51, (by decide : 0 + 0 ≤ _), (by decide : 0 + 0 ≤ _)⟩)
                dsimp only [Pt.U, Pt.locs, Pt.cells, Pt.slots] at X54 l54 y54 z54 st54 hQ54
                subst l54 y54 z54
                obtain ⟨rfl, N54q, e54⟩ := hQ54
                have N54 := Fr.app N0 N54q
                have k55 : ∀ t, Steps p.tables e below (T54.setTop (mkF m 161 #[.val (.int p0), .val (.int ((p0 &&& (2147483647 : Int32)) % (11 : Int32))), .val (.ref w_P_5), .val (.int (1 : Int32))] [(.int (own_bI (¬ (w_P_5 = w_NUM_Q) ∧ ¬ (w_P_5 = w_GM_MAP))))])) t → Steps p.tables e below (s₁.setTop (entryFrame m #[(.int p0)] maxLocals)) t := fun t k => k53 t (st54.trans k)
                have hc162 : (own_bI (¬ (w_P_5 = w_NUM_Q) ∧ ¬ (w_P_5 = w_GM_MAP))) = (1 : Int32) := own_bI_t ⟨hq_P_5, hg_P_5⟩
                have k56 : ∀ t, Steps p.tables e below (T54.setTop (mkF m 170 #[.val (.int p0), .val (.int ((p0 &&& (2147483647 : Int32)) % (11 : Int32))), .val (.ref w_P_5), .val (.int (1 : Int32))] [(.int (1 : Int32))])) t → Steps p.tables e below (s₁.setTop (entryFrame m #[(.int p0)] maxLocals)) t := fun t k => k55 t (by
                    show Steps p.tables e below (T54.setTop (mkF m 161 #[.val (.int p0), .val (.int ((p0 &&& (2147483647 : Int32)) % (11 : Int32))), .val (.ref w_P_5), .val (.int (1 : Int32))] [(.int (own_bI (¬ (w_P_5 = w_NUM_Q) ∧ ¬ (w_P_5 = w_GM_MAP))))])) _
                    refine XS.iloadN X54.here hx rfl (hb hby at_161) rfl ?_
                    show Steps p.tables e below (T54.setTop (mkF m 162 #[.val (.int p0), .val (.int ((p0 &&& (2147483647 : Int32)) % (11 : Int32))), .val (.ref w_P_5), .val (.int (1 : Int32))] [(.int (1 : Int32)), (.int (own_bI (¬ (w_P_5 = w_NUM_Q) ∧ ¬ (w_P_5 = w_GM_MAP))))])) _
                    refine XS.icmpNo X54.here hx rfl (hb hby at_162) rfl (teq hc162).2 ?_
                    show Steps p.tables e below (T54.setTop (mkF m 165 #[.val (.int p0), .val (.int ((p0 &&& (2147483647 : Int32)) % (11 : Int32))), .val (.ref w_P_5), .val (.int (1 : Int32))] [])) _
                    refine XS.iconst X54.here hx rfl (hb hby at_165) ?_
                    show Steps p.tables e below (T54.setTop (mkF m 166 #[.val (.int p0), .val (.int ((p0 &&& (2147483647 : Int32)) % (11 : Int32))), .val (.ref w_P_5), .val (.int (1 : Int32))] [(.int (1 : Int32))])) _
                    refine XS.goto X54.here hx rfl (pc0 := 166) (pc' := 170) rfl (hb hby at_166) (by decide) (by decide) ?_
                    exact k)
                obtain ⟨fs, hr, hrun, hended, hW, hsame⟩ := X54.leave (v := (some (.int (1 : Int32)))) (fun h => by rw [Bd.returns] at h; cases h)
                refine ⟨_, _, k56 _ ?_, hrun, hended, _, _, rfl, ?_, ⟨_, rfl⟩, hW, hsame.mono (by decide) (by decide)⟩
                · exact retN X54 hx (t := .boolean) Bd.returns (by simp) (hb hby at_170) hr
                · show Q0 Z p0 w_NUM_Q w_NUM_REL_RET w_GM_MAP w_P_10 w_P_20 w_NUM_REL w_RECALL_1000 w_NUM_RET w_P_100 w_P_5 w_MAP h0 n0 _ T54.heap _
                  rw [e54]
                  exact ⟨rfl, N54⟩
              · have k57 : ∀ t, Steps p.tables e below (s₁.setTop (mkF m 109 #[.val (.int p0), .val (.int ((p0 &&& (2147483647 : Int32)) % (11 : Int32))), .unset, .unset] [(.int (7 : Int32)), (.int ((p0 &&& (2147483647 : Int32)) % (11 : Int32)))])) t → Steps p.tables e below (s₁.setTop (entryFrame m #[(.int p0)] maxLocals)) t := fun t k => k49 t (by
                    show Steps p.tables e below (s₁.setTop (mkF m 94 #[.val (.int p0), .val (.int ((p0 &&& (2147483647 : Int32)) % (11 : Int32))), .unset, .unset] [(.int (6 : Int32)), (.int ((p0 &&& (2147483647 : Int32)) % (11 : Int32)))])) _
                    refine XS.icmpYes X0.here hx rfl (pc0 := 94) (pc' := 106) rfl (hb hby at_94) rfl (feq hc94).2 (by decide) (by decide) ?_
                    show Steps p.tables e below (s₁.setTop (mkF m 106 #[.val (.int p0), .val (.int ((p0 &&& (2147483647 : Int32)) % (11 : Int32))), .unset, .unset] [])) _
                    refine XS.iloadN X0.here hx rfl (hb hby at_106) rfl ?_
                    show Steps p.tables e below (s₁.setTop (mkF m 107 #[.val (.int p0), .val (.int ((p0 &&& (2147483647 : Int32)) % (11 : Int32))), .unset, .unset] [(.int ((p0 &&& (2147483647 : Int32)) % (11 : Int32)))])) _
                    refine XS.bipush X0.here hx rfl (hb hby at_107) ?_
                    exact k)
                by_cases hc109 : ((p0 &&& (2147483647 : Int32)) % (11 : Int32)) = (7 : Int32)
                · have k58 : ∀ t, Steps p.tables e below (s₁.setTop (mkF m 112 #[.val (.int p0), .val (.int ((p0 &&& (2147483647 : Int32)) % (11 : Int32))), .unset, .unset] [])) t → Steps p.tables e below (s₁.setTop (entryFrame m #[(.int p0)] maxLocals)) t := fun t k => k57 t (by
                      show Steps p.tables e below (s₁.setTop (mkF m 109 #[.val (.int p0), .val (.int ((p0 &&& (2147483647 : Int32)) % (11 : Int32))), .unset, .unset] [(.int (7 : Int32)), (.int ((p0 &&& (2147483647 : Int32)) % (11 : Int32)))])) _
                      refine XS.icmpNo X0.here hx rfl (hb hby at_109) rfl (teq hc109).2 ?_
                      exact k)
                  obtain ⟨T59, X59, e59, st59⟩ := getS2 X0 hx hZ hown (host := "") (Or.inl (hw _ (List.mem_of_getElem? (i := 14) rfl))) Via.refl e0 S_P_10 (g := (mkF m 112 #[.val (.int p0), .val (.int ((p0 &&& (2147483647 : Int32)) % (11 : Int32))), .unset, .unset] [])) rfl (hb hby at_112)
                  have k60 : ∀ t, Steps p.tables e below (T59.setTop (mkF m 115 #[.val (.int p0), .val (.int ((p0 &&& (2147483647 : Int32)) % (11 : Int32))), .unset, .unset] [(.ref w_P_10)])) t → Steps p.tables e below (s₁.setTop (entryFrame m #[(.int p0)] maxLocals)) t := fun t k => k58 t (st59 _ k)
                  have k61 : ∀ t, Steps p.tables e below (T59.setTop (mkF m 158 #[.val (.int p0), .val (.int ((p0 &&& (2147483647 : Int32)) % (11 : Int32))), .val (.ref w_P_10), .val (.int (1 : Int32))] [(.ref w_P_10)])) t → Steps p.tables e below (s₁.setTop (entryFrame m #[(.int p0)] maxLocals)) t := fun t k => k60 t (by
                      show Steps p.tables e below (T59.setTop (mkF m 115 #[.val (.int p0), .val (.int ((p0 &&& (2147483647 : Int32)) % (11 : Int32))), .unset, .unset] [(.ref w_P_10)])) _
                      refine XS.astoreN X59.here hx rfl (hb hby at_115) rfl rfl (l' := #[.val (.int p0), .val (.int ((p0 &&& (2147483647 : Int32)) % (11 : Int32))), .val (.ref w_P_10), .unset]) rfl ?_
                      show Steps p.tables e below (T59.setTop (mkF m 116 #[.val (.int p0), .val (.int ((p0 &&& (2147483647 : Int32)) % (11 : Int32))), .val (.ref w_P_10), .unset] [])) _
                      refine XS.iconst X59.here hx rfl (hb hby at_116) ?_
                      show Steps p.tables e below (T59.setTop (mkF m 117 #[.val (.int p0), .val (.int ((p0 &&& (2147483647 : Int32)) % (11 : Int32))), .val (.ref w_P_10), .unset] [(.int (1 : Int32))])) _
                      refine XS.istoreN X59.here hx rfl (hb hby at_117) rfl (l' := #[.val (.int p0), .val (.int ((p0 &&& (2147483647 : Int32)) % (11 : Int32))), .val (.ref w_P_10), .val (.int (1 : Int32))]) rfl ?_
                      show Steps p.tables e below (T59.setTop (mkF m 118 #[.val (.int p0), .val (.int ((p0 &&& (2147483647 : Int32)) % (11 : Int32))), .val (.ref w_P_10), .val (.int (1 : Int32))] [])) _
                      refine XS.goto X59.here hx rfl (pc0 := 118) (pc' := 157) rfl (hb hby at_118) (by decide) (by decide) ?_
                      show Steps p.tables e below (T59.setTop (mkF m 157 #[.val (.int p0), .val (.int ((p0 &&& (2147483647 : Int32)) % (11 : Int32))), .val (.ref w_P_10), .val (.int (1 : Int32))] [])) _
                      refine XS.aloadN X59.here hx rfl (hb hby at_157) rfl rfl ?_
                      exact k)
                  obtain ⟨cq62, kcq62, q62a, q62b, q62c⟩ := isOf hZ e59 E_w_P_10
                  obtain ⟨_, _, ⟨T62, L62, kq62, n62⟩, -, X62, ⟨Lc62, hQ62, l62, y62, z62⟩, st62⟩ := X59.virtualBack hx (y := (⟨"com/example/navsim/navsim/Measure", "printedPerTopic", "()Z"⟩ : MethodName)) (z := (⟨"com/example/navsim/navsim/Measure", "printedPerTopic", "()Z"⟩ : MethodName)) hown (mvT hZ (hw _ (List.mem_of_getElem? (i := 4) rfl))) (mvT hZ (hw _ (List.mem_of_getElem? (i := 5) rfl))) (notFace_of_selects (args := #[]) (mvT hZ (hw _ (List.mem_of_getElem? (i := 7) rfl)))) (mvT hZ (hw _ (List.mem_of_getElem? (i := 7) rfl))) (mvT hZ (hw _ (List.mem_of_getElem? (i := 6) rfl))) (by decide) (backOf (W := 0) (rm1 l Z a0 hw [] w_P_10 w_NUM_Q w_GM_MAP h0 n0 Z0 S_NUM_Q S_GM_MAP) hZ (hw _ (List.mem_of_getElem? (i := 8) rfl)) (hw _ (List.mem_of_getElem? (i := 2) rfl)) (by decide) (by decide)) q62a q62c (g := (mkF m 158 #[.val (.int p0), .val (.int ((p0 &&& (2147483647 : Int32)) % (11 : Int32))), .val (.ref w_P_10), .val (.int (1 : Int32))] [(.ref w_P_10)])) rfl (by rw [hml]; rfl) (Steps.refl _) (argsL := []) (rest := []) (lenOf pd_0 rfl) rfl (by show 2 * 0 + _ ≤ _; exact Nat.le_of_eq rfl) (hb hby at_158) (fun _ _ => ⟨rfl, e59, (by decide : 0 + 0 ≤ _), (by decide : 0 + 0 ≤ _)⟩)
                  dsimp only [Pt.U, Pt.locs, Pt.cells, Pt.slots] at X62 l62 y62 z62 st62 hQ62
                  subst l62 y62 z62
                  obtain ⟨rfl, N62q, e62⟩ := hQ62
                  have N62 := Fr.app N0 N62q
                  have k63 : ∀ t, Steps p.tables e below (T62.setTop (mkF m 161 #[.val (.int p0), .val (.int ((p0 &&& (2147483647 : Int32)) % (11 : Int32))), .val (.ref w_P_10), .val (.int (1 : Int32))] [(.int (own_bI (¬ (w_P_10 = w_NUM_Q) ∧ ¬ (w_P_10 = w_GM_MAP))))])) t → Steps p.tables e below (s₁.setTop (entryFrame m #[(.int p0)] maxLocals)) t := fun t k => k61 t (st62.trans k)
                  have hc162 : (own_bI (¬ (w_P_10 = w_NUM_Q) ∧ ¬ (w_P_10 = w_GM_MAP))) = (1 : Int32) := own_bI_t ⟨hq_P_10, hg_P_10⟩
                  have k64 : ∀ t, Steps p.tables e below (T62.setTop (mkF m 170 #[.val (.int p0), .val (.int ((p0 &&& (2147483647 : Int32)) % (11 : Int32))), .val (.ref w_P_10), .val (.int (1 : Int32))] [(.int (1 : Int32))])) t → Steps p.tables e below (s₁.setTop (entryFrame m #[(.int p0)] maxLocals)) t := fun t k => k63 t (by
                      show Steps p.tables e below (T62.setTop (mkF m 161 #[.val (.int p0), .val (.int ((p0 &&& (2147483647 : Int32)) % (11 : Int32))), .val (.ref w_P_10), .val (.int (1 : Int32))] [(.int (own_bI (¬ (w_P_10 = w_NUM_Q) ∧ ¬ (w_P_10 = w_GM_MAP))))])) _
                      refine XS.iloadN X62.here hx rfl (hb hby at_161) rfl ?_
                      show Steps p.tables e below (T62.setTop (mkF m 162 #[.val (.int p0), .val (.int ((p0 &&& (2147483647 : Int32)) % (11 : Int32))), .val (.ref w_P_10), .val (.int (1 : Int32))] [(.int (1 : Int32)), (.int (own_bI (¬ (w_P_10 = w_NUM_Q) ∧ ¬ (w_P_10 = w_GM_MAP))))])) _
                      refine XS.icmpNo X62.here hx rfl (hb hby at_162) rfl (teq hc162).2 ?_
                      show Steps p.tables e below (T62.setTop (mkF m 165 #[.val (.int p0), .val (.int ((p0 &&& (2147483647 : Int32)) % (11 : Int32))), .val (.ref w_P_10), .val (.int (1 : Int32))] [])) _
                      refine XS.iconst X62.here hx rfl (hb hby at_165) ?_
                      show Steps p.tables e below (T62.setTop (mkF m 166 #[.val (.int p0), .val (.int ((p0 &&& (2147483647 : Int32)) % (11 : Int32))), .val (.ref w_P_10), .val (.int (1 : Int32))] [(.int (1 : Int32))])) _
                      refine XS.goto X62.here hx rfl (pc0 := 166) (pc' := 170) rfl (hb hby at_166) (by decide) (by decide) ?_
                      exact k)
                  obtain ⟨fs, hr, hrun, hended, hW, hsame⟩ := X62.leave (v := (some (.int (1 : Int32)))) (fun h => by rw [Bd.returns] at h; cases h)
                  refine ⟨_, _, k64 _ ?_, hrun, hended, _, _, rfl, ?_, ⟨_, rfl⟩, hW, hsame.mono (by decide) (by decide)⟩
                  · exact retN X62 hx (t := .boolean) Bd.returns (by simp) (hb hby at_170) hr
                  · show Q0 Z p0 w_NUM_Q w_NUM_REL_RET w_GM_MAP w_P_10 w_P_20 w_NUM_REL w_RECALL_1000 w_NUM_RET w_P_100 w_P_5 w_MAP h0 n0 _ T62.heap _
                    rw [e62]
                    exact ⟨rfl, N62⟩
                · have k65 : ∀ t, Steps p.tables e below (s₁.setTop (mkF m 124 #[.val (.int p0), .val (.int ((p0 &&& (2147483647 : Int32)) % (11 : Int32))), .unset, .unset] [(.int (8 : Int32)), (.int ((p0 &&& (2147483647 : Int32)) % (11 : Int32)))])) t → Steps p.tables e below (s₁.setTop (entryFrame m #[(.int p0)] maxLocals)) t := fun t k => k57 t (by
                      show Steps p.tables e below (s₁.setTop (mkF m 109 #[.val (.int p0), .val (.int ((p0 &&& (2147483647 : Int32)) % (11 : Int32))), .unset, .unset] [(.int (7 : Int32)), (.int ((p0 &&& (2147483647 : Int32)) % (11 : Int32)))])) _
                      refine XS.icmpYes X0.here hx rfl (pc0 := 109) (pc' := 121) rfl (hb hby at_109) rfl (feq hc109).2 (by decide) (by decide) ?_
                      show Steps p.tables e below (s₁.setTop (mkF m 121 #[.val (.int p0), .val (.int ((p0 &&& (2147483647 : Int32)) % (11 : Int32))), .unset, .unset] [])) _
                      refine XS.iloadN X0.here hx rfl (hb hby at_121) rfl ?_
                      show Steps p.tables e below (s₁.setTop (mkF m 122 #[.val (.int p0), .val (.int ((p0 &&& (2147483647 : Int32)) % (11 : Int32))), .unset, .unset] [(.int ((p0 &&& (2147483647 : Int32)) % (11 : Int32)))])) _
                      refine XS.bipush X0.here hx rfl (hb hby at_122) ?_
                      exact k)
                  by_cases hc124 : ((p0 &&& (2147483647 : Int32)) % (11 : Int32)) = (8 : Int32)
                  · have k66 : ∀ t, Steps p.tables e below (s₁.setTop (mkF m 127 #[.val (.int p0), .val (.int ((p0 &&& (2147483647 : Int32)) % (11 : Int32))), .unset, .unset] [])) t → Steps p.tables e below (s₁.setTop (entryFrame m #[(.int p0)] maxLocals)) t := fun t k => k65 t (by
                        show Steps p.tables e below (s₁.setTop (mkF m 124 #[.val (.int p0), .val (.int ((p0 &&& (2147483647 : Int32)) % (11 : Int32))), .unset, .unset] [(.int (8 : Int32)), (.int ((p0 &&& (2147483647 : Int32)) % (11 : Int32)))])) _
                        refine XS.icmpNo X0.here hx rfl (hb hby at_124) rfl (teq hc124).2 ?_
                        exact k)
                    obtain ⟨T67, X67, e67, st67⟩ := getS2 X0 hx hZ hown (host := "") (Or.inl (hw _ (List.mem_of_getElem? (i := 16) rfl))) Via.refl e0 S_P_20 (g := (mkF m 127 #[.val (.int p0), .val (.int ((p0 &&& (2147483647 : Int32)) % (11 : Int32))), .unset, .unset] [])) rfl (hb hby at_127)
                    have k68 : ∀ t, Steps p.tables e below (T67.setTop (mkF m 130 #[.val (.int p0), .val (.int ((p0 &&& (2147483647 : Int32)) % (11 : Int32))), .unset, .unset] [(.ref w_P_20)])) t → Steps p.tables e below (s₁.setTop (entryFrame m #[(.int p0)] maxLocals)) t := fun t k => k66 t (st67 _ k)
                    have k69 : ∀ t, Steps p.tables e below (T67.setTop (mkF m 158 #[.val (.int p0), .val (.int ((p0 &&& (2147483647 : Int32)) % (11 : Int32))), .val (.ref w_P_20), .val (.int (1 : Int32))] [(.ref w_P_20)])) t → Steps p.tables e below (s₁.setTop (entryFrame m #[(.int p0)] maxLocals)) t := fun t k => k68 t (by
                        show Steps p.tables e below (T67.setTop (mkF m 130 #[.val (.int p0), .val (.int ((p0 &&& (2147483647 : Int32)) % (11 : Int32))), .unset, .unset] [(.ref w_P_20)])) _
                        refine XS.astoreN X67.here hx rfl (hb hby at_130) rfl rfl (l' := #[.val (.int p0), .val (.int ((p0 &&& (2147483647 : Int32)) % (11 : Int32))), .val (.ref w_P_20), .unset]) rfl ?_
                        show Steps p.tables e below (T67.setTop (mkF m 131 #[.val (.int p0), .val (.int ((p0 &&& (2147483647 : Int32)) % (11 : Int32))), .val (.ref w_P_20), .unset] [])) _
                        refine XS.iconst X67.here hx rfl (hb hby at_131) ?_
                        show Steps p.tables e below (T67.setTop (mkF m 132 #[.val (.int p0), .val (.int ((p0 &&& (2147483647 : Int32)) % (11 : Int32))), .val (.ref w_P_20), .unset] [(.int (1 : Int32))])) _
                        refine XS.istoreN X67.here hx rfl (hb hby at_132) rfl (l' := #[.val (.int p0), .val (.int ((p0 &&& (2147483647 : Int32)) % (11 : Int32))), .val (.ref w_P_20), .val (.int (1 : Int32))]) rfl ?_
                        show Steps p.tables e below (T67.setTop (mkF m 133 #[.val (.int p0), .val (.int ((p0 &&& (2147483647 : Int32)) % (11 : Int32))), .val (.ref w_P_20), .val (.int (1 : Int32))] [])) _
                        refine XS.goto X67.here hx rfl (pc0 := 133) (pc' := 157) rfl (hb hby at_133) (by decide) (by decide) ?_
                        show Steps p.tables e below (T67.setTop (mkF m 157 #[.val (.int p0), .val (.int ((p0 &&& (2147483647 : Int32)) % (11 : Int32))), .val (.ref w_P_20), .val (.int (1 : Int32))] [])) _
                        refine XS.aloadN X67.here hx rfl (hb hby at_157) rfl rfl ?_
                        exact k)
                    obtain ⟨cq70, kcq70, q70a, q70b, q70c⟩ := isOf hZ e67 E_w_P_20
                    obtain ⟨_, _, ⟨T70, L70, kq70, n70⟩, -, X70, ⟨Lc70, hQ70, l70, y70, z70⟩, st70⟩ := X67.virtualBack hx (y := (⟨"com/example/navsim/navsim/Measure", "printedPerTopic", "()Z"⟩ : MethodName)) (z := (⟨"com/example/navsim/navsim/Measure", "printedPerTopic", "()Z"⟩ : MethodName)) hown (mvT hZ (hw _ (List.mem_of_getElem? (i := 4) rfl))) (mvT hZ (hw _ (List.mem_of_getElem? (i := 5) rfl))) (notFace_of_selects (args := #[]) (mvT hZ (hw _ (List.mem_of_getElem? (i := 7) rfl)))) (mvT hZ (hw _ (List.mem_of_getElem? (i := 7) rfl))) (mvT hZ (hw _ (List.mem_of_getElem? (i := 6) rfl))) (by decide) (backOf (W := 0) (rm1 l Z a0 hw [] w_P_20 w_NUM_Q w_GM_MAP h0 n0 Z0 S_NUM_Q S_GM_MAP) hZ (hw _ (List.mem_of_getElem? (i := 8) rfl)) (hw _ (List.mem_of_getElem? (i := 2) rfl)) (by decide) (by decide)) q70a q70c (g := (mkF m 158 #[.val (.int p0), .val (.int ((p0 &&& (2147483647 : Int32)) % (11 : Int32))), .val (.ref w_P_20), .val (.int (1 : Int32))] [(.ref w_P_20)])) rfl (by rw [hml]; rfl) (Steps.refl _) (argsL := []) (rest := []) (lenOf pd_0 rfl) rfl (by show 2 * 0 + _ ≤ _; exact Nat.le_of_eq rfl) (hb hby at_158) (fun _ _ => ⟨rfl, e67, (by decide : 0 + 0 ≤ _), (by decide : 0 + 0 ≤ _)⟩)
                    dsimp only [Pt.U, Pt.locs, Pt.cells, Pt.slots] at X70 l70 y70 z70 st70 hQ70
                    subst l70 y70 z70
                    obtain ⟨rfl, N70q, e70⟩ := hQ70
                    have N70 := Fr.app N0 N70q
                    have k71 : ∀ t, Steps p.tables e below (T70.setTop (mkF m 161 #[.val (.int p0), .val (.int ((p0 &&& (2147483647 : Int32)) % (11 : Int32))), .val (.ref w_P_20), .val (.int (1 : Int32))] [(.int (own_bI (¬ (w_P_20 = w_NUM_Q) ∧ ¬ (w_P_20 = w_GM_MAP))))])) t → Steps p.tables e below (s₁.setTop (entryFrame m #[(.int p0)] maxLocals)) t := fun t k => k69 t (st70.trans k)
                    have hc162 : (own_bI (¬ (w_P_20 = w_NUM_Q) ∧ ¬ (w_P_20 = w_GM_MAP))) = (1 : Int32) := own_bI_t ⟨hq_P_20, hg_P_20⟩
                    have k72 : ∀ t, Steps p.tables e below (T70.setTop (mkF m 170 #[.val (.int p0), .val (.int ((p0 &&& (2147483647 : Int32)) % (11 : Int32))), .val (.ref w_P_20), .val (.int (1 : Int32))] [(.int (1 : Int32))])) t → Steps p.tables e below (s₁.setTop (entryFrame m #[(.int p0)] maxLocals)) t := fun t k => k71 t (by
                        show Steps p.tables e below (T70.setTop (mkF m 161 #[.val (.int p0), .val (.int ((p0 &&& (2147483647 : Int32)) % (11 : Int32))), .val (.ref w_P_20), .val (.int (1 : Int32))] [(.int (own_bI (¬ (w_P_20 = w_NUM_Q) ∧ ¬ (w_P_20 = w_GM_MAP))))])) _
                        refine XS.iloadN X70.here hx rfl (hb hby at_161) rfl ?_
                        show Steps p.tables e below (T70.setTop (mkF m 162 #[.val (.int p0), .val (.int ((p0 &&& (2147483647 : Int32)) % (11 : Int32))), .val (.ref w_P_20), .val (.int (1 : Int32))] [(.int (1 : Int32)), (.int (own_bI (¬ (w_P_20 = w_NUM_Q) ∧ ¬ (w_P_20 = w_GM_MAP))))])) _
                        refine XS.icmpNo X70.here hx rfl (hb hby at_162) rfl (teq hc162).2 ?_
                        show Steps p.tables e below (T70.setTop (mkF m 165 #[.val (.int p0), .val (.int ((p0 &&& (2147483647 : Int32)) % (11 : Int32))), .val (.ref w_P_20), .val (.int (1 : Int32))] [])) _
                        refine XS.iconst X70.here hx rfl (hb hby at_165) ?_
                        show Steps p.tables e below (T70.setTop (mkF m 166 #[.val (.int p0), .val (.int ((p0 &&& (2147483647 : Int32)) % (11 : Int32))), .val (.ref w_P_20), .val (.int (1 : Int32))] [(.int (1 : Int32))])) _
                        refine XS.goto X70.here hx rfl (pc0 := 166) (pc' := 170) rfl (hb hby at_166) (by decide) (by decide) ?_
                        exact k)
                    obtain ⟨fs, hr, hrun, hended, hW, hsame⟩ := X70.leave (v := (some (.int (1 : Int32)))) (fun h => by rw [Bd.returns] at h; cases h)
                    refine ⟨_, _, k72 _ ?_, hrun, hended, _, _, rfl, ?_, ⟨_, rfl⟩, hW, hsame.mono (by decide) (by decide)⟩
                    · exact retN X70 hx (t := .boolean) Bd.returns (by simp) (hb hby at_170) hr
                    · show Q0 Z p0 w_NUM_Q w_NUM_REL_RET w_GM_MAP w_P_10 w_P_20 w_NUM_REL w_RECALL_1000 w_NUM_RET w_P_100 w_P_5 w_MAP h0 n0 _ T70.heap _
                      rw [e70]
                      exact ⟨rfl, N70⟩
                  · have k73 : ∀ t, Steps p.tables e below (s₁.setTop (mkF m 139 #[.val (.int p0), .val (.int ((p0 &&& (2147483647 : Int32)) % (11 : Int32))), .unset, .unset] [(.int (9 : Int32)), (.int ((p0 &&& (2147483647 : Int32)) % (11 : Int32)))])) t → Steps p.tables e below (s₁.setTop (entryFrame m #[(.int p0)] maxLocals)) t := fun t k => k65 t (by
                        show Steps p.tables e below (s₁.setTop (mkF m 124 #[.val (.int p0), .val (.int ((p0 &&& (2147483647 : Int32)) % (11 : Int32))), .unset, .unset] [(.int (8 : Int32)), (.int ((p0 &&& (2147483647 : Int32)) % (11 : Int32)))])) _
                        refine XS.icmpYes X0.here hx rfl (pc0 := 124) (pc' := 136) rfl (hb hby at_124) rfl (feq hc124).2 (by decide) (by decide) ?_
                        show Steps p.tables e below (s₁.setTop (mkF m 136 #[.val (.int p0), .val (.int ((p0 &&& (2147483647 : Int32)) % (11 : Int32))), .unset, .unset] [])) _
                        refine XS.iloadN X0.here hx rfl (hb hby at_136) rfl ?_
                        show Steps p.tables e below (s₁.setTop (mkF m 137 #[.val (.int p0), .val (.int ((p0 &&& (2147483647 : Int32)) % (11 : Int32))), .unset, .unset] [(.int ((p0 &&& (2147483647 : Int32)) % (11 : Int32)))])) _
                        refine XS.bipush X0.here hx rfl (hb hby at_137) ?_
                        exact k)
                    by_cases hc139 : ((p0 &&& (2147483647 : Int32)) % (11 : Int32)) = (9 : Int32)
                    · have k74 : ∀ t, Steps p.tables e below (s₁.setTop (mkF m 142 #[.val (.int p0), .val (.int ((p0 &&& (2147483647 : Int32)) % (11 : Int32))), .unset, .unset] [])) t → Steps p.tables e below (s₁.setTop (entryFrame m #[(.int p0)] maxLocals)) t := fun t k => k73 t (by
                          show Steps p.tables e below (s₁.setTop (mkF m 139 #[.val (.int p0), .val (.int ((p0 &&& (2147483647 : Int32)) % (11 : Int32))), .unset, .unset] [(.int (9 : Int32)), (.int ((p0 &&& (2147483647 : Int32)) % (11 : Int32)))])) _
                          refine XS.icmpNo X0.here hx rfl (hb hby at_139) rfl (teq hc139).2 ?_
                          exact k)
                      obtain ⟨T75, X75, e75, st75⟩ := getS2 X0 hx hZ hown (host := "") (Or.inl (hw _ (List.mem_of_getElem? (i := 24) rfl))) Via.refl e0 S_P_100 (g := (mkF m 142 #[.val (.int p0), .val (.int ((p0 &&& (2147483647 : Int32)) % (11 : Int32))), .unset, .unset] [])) rfl (hb hby at_142)
                      have k76 : ∀ t, Steps p.tables e below (T75.setTop (mkF m 145 #[.val (.int p0), .val (.int ((p0 &&& (2147483647 : Int32)) % (11 : Int32))), .unset, .unset] [(.ref w_P_100)])) t → Steps p.tables e below (s₁.setTop (entryFrame m #[(.int p0)] maxLocals)) t := fun t k => k74 t (st75 _ k)
                      have k77 : ∀ t, Steps p.tables e below (T75.setTop (mkF m 158 #[.val (.int p0), .val (.int ((p0 &&& (2147483647 : Int32)) % (11 : Int32))), .val (.ref w_P_100), .val (.int (1 : Int32))] [(.ref w_P_100)])) t → Steps p.tables e below (s₁.setTop (entryFrame m #[(.int p0)] maxLocals)) t := fun t k => k76 t (by
                          show Steps p.tables e below (T75.setTop (mkF m 145 #[.val (.int p0), .val (.int ((p0 &&& (2147483647 : Int32)) % (11 : Int32))), .unset, .unset] [(.ref w_P_100)])) _
                          refine XS.astoreN X75.here hx rfl (hb hby at_145) rfl rfl (l' := #[.val (.int p0), .val (.int ((p0 &&& (2147483647 : Int32)) % (11 : Int32))), .val (.ref w_P_100), .unset]) rfl ?_
                          show Steps p.tables e below (T75.setTop (mkF m 146 #[.val (.int p0), .val (.int ((p0 &&& (2147483647 : Int32)) % (11 : Int32))), .val (.ref w_P_100), .unset] [])) _
                          refine XS.iconst X75.here hx rfl (hb hby at_146) ?_
                          show Steps p.tables e below (T75.setTop (mkF m 147 #[.val (.int p0), .val (.int ((p0 &&& (2147483647 : Int32)) % (11 : Int32))), .val (.ref w_P_100), .unset] [(.int (1 : Int32))])) _
                          refine XS.istoreN X75.here hx rfl (hb hby at_147) rfl (l' := #[.val (.int p0), .val (.int ((p0 &&& (2147483647 : Int32)) % (11 : Int32))), .val (.ref w_P_100), .val (.int (1 : Int32))]) rfl ?_
                          show Steps p.tables e below (T75.setTop (mkF m 148 #[.val (.int p0), .val (.int ((p0 &&& (2147483647 : Int32)) % (11 : Int32))), .val (.ref w_P_100), .val (.int (1 : Int32))] [])) _
                          refine XS.goto X75.here hx rfl (pc0 := 148) (pc' := 157) rfl (hb hby at_148) (by decide) (by decide) ?_
                          show Steps p.tables e below (T75.setTop (mkF m 157 #[.val (.int p0), .val (.int ((p0 &&& (2147483647 : Int32)) % (11 : Int32))), .val (.ref w_P_100), .val (.int (1 : Int32))] [])) _
                          refine XS.aloadN X75.here hx rfl (hb hby at_157) rfl rfl ?_
                          exact k)
                      obtain ⟨cq78, kcq78, q78a, q78b, q78c⟩ := isOf hZ e75 E_w_P_100
                      obtain ⟨_, _, ⟨T78, L78, kq78, n78⟩, -, X78, ⟨Lc78, hQ78, l78, y78, z78⟩, st78⟩ := X75.virtualBack hx (y := (⟨"com/example/navsim/navsim/Measure", "printedPerTopic", "()Z"⟩ : MethodName)) (z := (⟨"com/example/navsim/navsim/Measure", "printedPerTopic", "()Z"⟩ : MethodName)) hown (mvT hZ (hw _ (List.mem_of_getElem? (i := 4) rfl))) (mvT hZ (hw _ (List.mem_of_getElem? (i := 5) rfl))) (notFace_of_selects (args := #[]) (mvT hZ (hw _ (List.mem_of_getElem? (i := 7) rfl)))) (mvT hZ (hw _ (List.mem_of_getElem? (i := 7) rfl))) (mvT hZ (hw _ (List.mem_of_getElem? (i := 6) rfl))) (by decide) (backOf (W := 0) (rm1 l Z a0 hw [] w_P_100 w_NUM_Q w_GM_MAP h0 n0 Z0 S_NUM_Q S_GM_MAP) hZ (hw _ (List.mem_of_getElem? (i := 8) rfl)) (hw _ (List.mem_of_getElem? (i := 2) rfl)) (by decide) (by decide)) q78a q78c (g := (mkF m 158 #[.val (.int p0), .val (.int ((p0 &&& (2147483647 : Int32)) % (11 : Int32))), .val (.ref w_P_100), .val (.int (1 : Int32))] [(.ref w_P_100)])) rfl (by rw [hml]; rfl) (Steps.refl _) (argsL := []) (rest := []) (lenOf pd_0 rfl) rfl (by show 2 * 0 + _ ≤ _; exact Nat.le_of_eq rfl) (hb hby at_158) (fun _ _ => ⟨rfl, e75, (by decide : 0 + 0 ≤ _), (by decide : 0 + 0 ≤ _)⟩)
                      dsimp only [Pt.U, Pt.locs, Pt.cells, Pt.slots] at X78 l78 y78 z78 st78 hQ78
                      subst l78 y78 z78
                      obtain ⟨rfl, N78q, e78⟩ := hQ78
                      have N78 := Fr.app N0 N78q
                      have k79 : ∀ t, Steps p.tables e below (T78.setTop (mkF m 161 #[.val (.int p0), .val (.int ((p0 &&& (2147483647 : Int32)) % (11 : Int32))), .val (.ref w_P_100), .val (.int (1 : Int32))] [(.int (own_bI (¬ (w_P_100 = w_NUM_Q) ∧ ¬ (w_P_100 = w_GM_MAP))))])) t → Steps p.tables e below (s₁.setTop (entryFrame m #[(.int p0)] maxLocals)) t := fun t k => k77 t (st78.trans k)
                      have hc162 : (own_bI (¬ (w_P_100 = w_NUM_Q) ∧ ¬ (w_P_100 = w_GM_MAP))) = (1 : Int32) := own_bI_t ⟨hq_P_100, hg_P_100⟩
                      have k80 : ∀ t, Steps p.tables e below (T78.setTop (mkF m 170 #[.val (.int p0), .val (.int ((p0 &&& (2147483647 : Int32)) % (11 : Int32))), .val (.ref w_P_100), .val (.int (1 : Int32))] [(.int (1 : Int32))])) t → Steps p.tables e below (s₁.setTop (entryFrame m #[(.int p0)] maxLocals)) t := fun t k => k79 t (by
                          show Steps p.tables e below (T78.setTop (mkF m 161 #[.val (.int p0), .val (.int ((p0 &&& (2147483647 : Int32)) % (11 : Int32))), .val (.ref w_P_100), .val (.int (1 : Int32))] [(.int (own_bI (¬ (w_P_100 = w_NUM_Q) ∧ ¬ (w_P_100 = w_GM_MAP))))])) _
                          refine XS.iloadN X78.here hx rfl (hb hby at_161) rfl ?_
                          show Steps p.tables e below (T78.setTop (mkF m 162 #[.val (.int p0), .val (.int ((p0 &&& (2147483647 : Int32)) % (11 : Int32))), .val (.ref w_P_100), .val (.int (1 : Int32))] [(.int (1 : Int32)), (.int (own_bI (¬ (w_P_100 = w_NUM_Q) ∧ ¬ (w_P_100 = w_GM_MAP))))])) _
                          refine XS.icmpNo X78.here hx rfl (hb hby at_162) rfl (teq hc162).2 ?_
                          show Steps p.tables e below (T78.setTop (mkF m 165 #[.val (.int p0), .val (.int ((p0 &&& (2147483647 : Int32)) % (11 : Int32))), .val (.ref w_P_100), .val (.int (1 : Int32))] [])) _
                          refine XS.iconst X78.here hx rfl (hb hby at_165) ?_
                          show Steps p.tables e below (T78.setTop (mkF m 166 #[.val (.int p0), .val (.int ((p0 &&& (2147483647 : Int32)) % (11 : Int32))), .val (.ref w_P_100), .val (.int (1 : Int32))] [(.int (1 : Int32))])) _
                          refine XS.goto X78.here hx rfl (pc0 := 166) (pc' := 170) rfl (hb hby at_166) (by decide) (by decide) ?_
                          exact k)
                      obtain ⟨fs, hr, hrun, hended, hW, hsame⟩ := X78.leave (v := (some (.int (1 : Int32)))) (fun h => by rw [Bd.returns] at h; cases h)
                      refine ⟨_, _, k80 _ ?_, hrun, hended, _, _, rfl, ?_, ⟨_, rfl⟩, hW, hsame.mono (by decide) (by decide)⟩
                      · exact retN X78 hx (t := .boolean) Bd.returns (by simp) (hb hby at_170) hr
                      · show Q0 Z p0 w_NUM_Q w_NUM_REL_RET w_GM_MAP w_P_10 w_P_20 w_NUM_REL w_RECALL_1000 w_NUM_RET w_P_100 w_P_5 w_MAP h0 n0 _ T78.heap _
                        rw [e78]
                        exact ⟨rfl, N78⟩
                    · have k81 : ∀ t, Steps p.tables e below (s₁.setTop (mkF m 151 #[.val (.int p0), .val (.int ((p0 &&& (2147483647 : Int32)) % (11 : Int32))), .unset, .unset] [])) t → Steps p.tables e below (s₁.setTop (entryFrame m #[(.int p0)] maxLocals)) t := fun t k => k73 t (by
                          show Steps p.tables e below (s₁.setTop (mkF m 139 #[.val (.int p0), .val (.int ((p0 &&& (2147483647 : Int32)) % (11 : Int32))), .unset, .unset] [(.int (9 : Int32)), (.int ((p0 &&& (2147483647 : Int32)) % (11 : Int32)))])) _
                          refine XS.icmpYes X0.here hx rfl (pc0 := 139) (pc' := 151) rfl (hb hby at_139) rfl (feq hc139).2 (by decide) (by decide) ?_
                          exact k)
                      obtain ⟨T82, X82, e82, st82⟩ := getS2 X0 hx hZ hown (host := "") (Or.inl (hw _ (List.mem_of_getElem? (i := 20) rfl))) Via.refl e0 S_RECALL_1000 (g := (mkF m 151 #[.val (.int p0), .val (.int ((p0 &&& (2147483647 : Int32)) % (11 : Int32))), .unset, .unset] [])) rfl (hb hby at_151)
                      have k83 : ∀ t, Steps p.tables e below (T82.setTop (mkF m 154 #[.val (.int p0), .val (.int ((p0 &&& (2147483647 : Int32)) % (11 : Int32))), .unset, .unset] [(.ref w_RECALL_1000)])) t → Steps p.tables e below (s₁.setTop (entryFrame m #[(.int p0)] maxLocals)) t := fun t k => k81 t (st82 _ k)
                      have k84 : ∀ t, Steps p.tables e below (T82.setTop (mkF m 158 #[.val (.int p0), .val (.int ((p0 &&& (2147483647 : Int32)) % (11 : Int32))), .val (.ref w_RECALL_1000), .val (.int (1 : Int32))] [(.ref w_RECALL_1000)])) t → Steps p.tables e below (s₁.setTop (entryFrame m #[(.int p0)] maxLocals)) t := fun t k => k83 t (by
                          show Steps p.tables e below (T82.setTop (mkF m 154 #[.val (.int p0), .val (.int ((p0 &&& (2147483647 : Int32)) % (11 : Int32))), .unset, .unset] [(.ref w_RECALL_1000)])) _
                          refine XS.astoreN X82.here hx rfl (hb hby at_154) rfl rfl (l' := #[.val (.int p0), .val (.int ((p0 &&& (2147483647 : Int32)) % (11 : Int32))), .val (.ref w_RECALL_1000), .unset]) rfl ?_
                          show Steps p.tables e below (T82.setTop (mkF m 155 #[.val (.int p0), .val (.int ((p0 &&& (2147483647 : Int32)) % (11 : Int32))), .val (.ref w_RECALL_1000), .unset] [])) _
                          refine XS.iconst X82.here hx rfl (hb hby at_155) ?_
                          show Steps p.tables e below (T82.setTop (mkF m 156 #[.val (.int p0), .val (.int ((p0 &&& (2147483647 : Int32)) % (11 : Int32))), .val (.ref w_RECALL_1000), .unset] [(.int (1 : Int32))])) _
                          refine XS.istoreN X82.here hx rfl (hb hby at_156) rfl (l' := #[.val (.int p0), .val (.int ((p0 &&& (2147483647 : Int32)) % (11 : Int32))), .val (.ref w_RECALL_1000), .val (.int (1 : Int32))]) rfl ?_
                          show Steps p.tables e below (T82.setTop (mkF m 157 #[.val (.int p0), .val (.int ((p0 &&& (2147483647 : Int32)) % (11 : Int32))), .val (.ref w_RECALL_1000), .val (.int (1 : Int32))] [])) _
                          refine XS.aloadN X82.here hx rfl (hb hby at_157) rfl rfl ?_
                          exact k)
                      obtain ⟨cq85, kcq85, q85a, q85b, q85c⟩ := isOf hZ e82 E_w_RECALL_1000
                      obtain ⟨_, _, ⟨T85, L85, kq85, n85⟩, -, X85, ⟨Lc85, hQ85, l85, y85, z85⟩, st85⟩ := X82.virtualBack hx (y := (⟨"com/example/navsim/navsim/Measure", "printedPerTopic", "()Z"⟩ : MethodName)) (z := (⟨"com/example/navsim/navsim/Measure", "printedPerTopic", "()Z"⟩ : MethodName)) hown (mvT hZ (hw _ (List.mem_of_getElem? (i := 4) rfl))) (mvT hZ (hw _ (List.mem_of_getElem? (i := 5) rfl))) (notFace_of_selects (args := #[]) (mvT hZ (hw _ (List.mem_of_getElem? (i := 7) rfl)))) (mvT hZ (hw _ (List.mem_of_getElem? (i := 7) rfl))) (mvT hZ (hw _ (List.mem_of_getElem? (i := 6) rfl))) (by decide) (backOf (W := 0) (rm1 l Z a0 hw [] w_RECALL_1000 w_NUM_Q w_GM_MAP h0 n0 Z0 S_NUM_Q S_GM_MAP) hZ (hw _ (List.mem_of_getElem? (i := 8) rfl)) (hw _ (List.mem_of_getElem? (i := 2) rfl)) (by decide) (by decide)) q85a q85c (g := (mkF m 158 #[.val (.int p0), .val (.int ((p0 &&& (2147483647 : Int32)) % (11 : Int32))), .val (.ref w_RECALL_1000), .val (.int (1 : Int32))] [(.ref w_RECALL_1000)])) rfl (by rw [hml]; rfl) (Steps.refl _) (argsL := []) (rest := []) (lenOf pd_0 rfl) rfl (by show 2 * 0 + _ ≤ _; exact Nat.le_of_eq rfl) (hb hby at_158) (fun _ _ => ⟨rfl, e82, (by decide : 0 + 0 ≤ _), (by decide : 0 + 0 ≤ _)⟩)
                      dsimp only [Pt.U, Pt.locs, Pt.cells, Pt.slots] at X85 l85 y85 z85 st85 hQ85
                      subst l85 y85 z85
                      obtain ⟨rfl, N85q, e85⟩ := hQ85
                      have N85 := Fr.app N0 N85q
                      have k86 : ∀ t, Steps p.tables e below (T85.setTop (mkF m 161 #[.val (.int p0), .val (.int ((p0 &&& (2147483647 : Int32)) % (11 : Int32))), .val (.ref w_RECALL_1000), .val (.int (1 : Int32))] [(.int (own_bI (¬ (w_RECALL_1000 = w_NUM_Q) ∧ ¬ (w_RECALL_1000 = w_GM_MAP))))])) t → Steps p.tables e below (s₁.setTop (entryFrame m #[(.int p0)] maxLocals)) t := fun t k => k84 t (st85.trans k)
                      have hc162 : (own_bI (¬ (w_RECALL_1000 = w_NUM_Q) ∧ ¬ (w_RECALL_1000 = w_GM_MAP))) = (1 : Int32) := own_bI_t ⟨hq_RECALL_1000, hg_RECALL_1000⟩
                      have k87 : ∀ t, Steps p.tables e below (T85.setTop (mkF m 170 #[.val (.int p0), .val (.int ((p0 &&& (2147483647 : Int32)) % (11 : Int32))), .val (.ref w_RECALL_1000), .val (.int (1 : Int32))] [(.int (1 : Int32))])) t → Steps p.tables e below (s₁.setTop (entryFrame m #[(.int p0)] maxLocals)) t := fun t k => k86 t (by
                          show Steps p.tables e below (T85.setTop (mkF m 161 #[.val (.int p0), .val (.int ((p0 &&& (2147483647 : Int32)) % (11 : Int32))), .val (.ref w_RECALL_1000), .val (.int (1 : Int32))] [(.int (own_bI (¬ (w_RECALL_1000 = w_NUM_Q) ∧ ¬ (w_RECALL_1000 = w_GM_MAP))))])) _
                          refine XS.iloadN X85.here hx rfl (hb hby at_161) rfl ?_
                          show Steps p.tables e below (T85.setTop (mkF m 162 #[.val (.int p0), .val (.int ((p0 &&& (2147483647 : Int32)) % (11 : Int32))), .val (.ref w_RECALL_1000), .val (.int (1 : Int32))] [(.int (1 : Int32)), (.int (own_bI (¬ (w_RECALL_1000 = w_NUM_Q) ∧ ¬ (w_RECALL_1000 = w_GM_MAP))))])) _
                          refine XS.icmpNo X85.here hx rfl (hb hby at_162) rfl (teq hc162).2 ?_
                          show Steps p.tables e below (T85.setTop (mkF m 165 #[.val (.int p0), .val (.int ((p0 &&& (2147483647 : Int32)) % (11 : Int32))), .val (.ref w_RECALL_1000), .val (.int (1 : Int32))] [])) _
                          refine XS.iconst X85.here hx rfl (hb hby at_165) ?_
                          show Steps p.tables e below (T85.setTop (mkF m 166 #[.val (.int p0), .val (.int ((p0 &&& (2147483647 : Int32)) % (11 : Int32))), .val (.ref w_RECALL_1000), .val (.int (1 : Int32))] [(.int (1 : Int32))])) _
                          refine XS.goto X85.here hx rfl (pc0 := 166) (pc' := 170) rfl (hb hby at_166) (by decide) (by decide) ?_
                          exact k)
                      obtain ⟨fs, hr, hrun, hended, hW, hsame⟩ := X85.leave (v := (some (.int (1 : Int32)))) (fun h => by rw [Bd.returns] at h; cases h)
                      refine ⟨_, _, k87 _ ?_, hrun, hended, _, _, rfl, ?_, ⟨_, rfl⟩, hW, hsame.mono (by decide) (by decide)⟩
                      · exact retN X85 hx (t := .boolean) Bd.returns (by simp) (hb hby at_170) hr
                      · show Q0 Z p0 w_NUM_Q w_NUM_REL_RET w_GM_MAP w_P_10 w_P_20 w_NUM_REL w_RECALL_1000 w_NUM_RET w_P_100 w_P_5 w_MAP h0 n0 _ T85.heap _
                        rw [e85]
                        exact ⟨rfl, N85⟩
set_option maxRecDepth 65536 in
set_option maxHeartbeats 40000000 in
theorem comes_1 {Post : Tables → Env → Array Value → State → Outcome → State → Prop} (hpost : ∀ tb e args s v u, (limb_1_1.after args s (.returned v) u = true ∧ limb_1_2.after args s (.returned v) u = true ∧ True) → FrameEnd s (.returned v) u (Jvm.fieldLocs frame_1_writes args s ++ Jvm.arrayLocs frame_1_arrays args s ++ Jvm.staticLocs frame_1_statics s) 0 0 → Post tb e args s (.returned v) u) :
    ArmFor flags0 classFile x code maxLocals ret World_1 tables_1 room_1 Calls_1 rest_1 Pre_1 Post := by
  intro l hfl _ _ p e ha hc hk s m args below hf hA hF happ hP
  obtain ⟨hcalls, hrest, hpre⟩ := hP
  obtain ⟨-, -, -, hnamed, -, -, -, hat⟩ := (Spec.applies_iff hf).mp happ
  obtain ⟨hg, hn⟩ := and_e (Cond.before_iff.mp (show (Jvm.Cond.and given_1 narrow_1).before args s = true from hpre))
  obtain ⟨hcount, hgs⟩ := and_e hg
  obtain ⟨w0, rfl⟩ : ∃ w0 : Value, args = #[w0] := by
    have hs : args.size = 1 := by simpa [Cond.value, given_1] using hcount
    obtain ⟨L⟩ := args
    match L, hs with
    | [w0], _ => exact ⟨w0, rfl⟩
  have hw := fun d (hd : d ∈ tables_1) => atoms_spec (ws := Jvm.Cond.code x code maxLocals ret :: tables_1) hat d (List.mem_cons_of_mem _ hd)
  obtain ⟨i0, ei0⟩ := is_v hgs
  obtain rfl : w0 = (.int i0) := Option.some.inj ei0
  obtain ⟨hn1, hn2⟩ := and_e hn
  obtain ⟨hn3, hn4⟩ := and_e hn2
  obtain ⟨hn5, hn6⟩ := and_e hn4
  obtain ⟨hn7, hn8⟩ := and_e hn6
  obtain ⟨hn9, hn10⟩ := and_e hn8
  obtain ⟨hn11, hn12⟩ := and_e hn10
  obtain ⟨hn13, hn14⟩ := and_e hn12
  obtain ⟨hn15, hn16⟩ := and_e hn14
  obtain ⟨hn17, hn18⟩ := and_e hn16
  obtain ⟨hn19, hn20⟩ := and_e hn18
  obtain ⟨hn21, hn22⟩ := and_e hn20
  obtain ⟨hn23, hn24⟩ := and_e hn22
  obtain ⟨hn25, hn26⟩ := and_e hn24
  obtain ⟨hn27, hn28⟩ := and_e hn26
  obtain ⟨hn29, hn30⟩ := and_e hn28
  obtain ⟨hn31, hn32⟩ := and_e hn30
  obtain ⟨hn33, hn34⟩ := and_e hn32
  obtain ⟨hn35, hn36⟩ := and_e hn34
  obtain ⟨hn37, hn38⟩ := and_e hn36
  obtain ⟨hn39, hn40⟩ := and_e hn38
  obtain ⟨hn41, hn42⟩ := and_e hn40
  obtain ⟨w_NUM_Q, es_NUM_Q⟩ := exa_v hn1
  have S_NUM_Q := Sta.start es_NUM_Q (Or.inr ⟨(hw _ (List.mem_of_getElem? (i := 2) rfl)), (hw _ (List.mem_of_getElem? (i := 3) rfl))⟩)
  have E_w_NUM_Q := Exa.start es_NUM_Q hn1
  obtain ⟨w_NUM_REL_RET, es_NUM_REL_RET⟩ := exa_v hn3
  have S_NUM_REL_RET := Sta.start es_NUM_REL_RET (Or.inr ⟨(hw _ (List.mem_of_getElem? (i := 2) rfl)), (hw _ (List.mem_of_getElem? (i := 11) rfl))⟩)
  have E_w_NUM_REL_RET := Exa.start es_NUM_REL_RET hn3
  obtain ⟨w_GM_MAP, es_GM_MAP⟩ := exa_v hn9
  have S_GM_MAP := Sta.start es_GM_MAP (Or.inr ⟨(hw _ (List.mem_of_getElem? (i := 2) rfl)), (hw _ (List.mem_of_getElem? (i := 13) rfl))⟩)
  have E_w_GM_MAP := Exa.start es_GM_MAP hn9
  obtain ⟨w_P_10, es_P_10⟩ := exa_v hn13
  have S_P_10 := Sta.start es_P_10 (Or.inr ⟨(hw _ (List.mem_of_getElem? (i := 2) rfl)), (hw _ (List.mem_of_getElem? (i := 15) rfl))⟩)
  have E_w_P_10 := Exa.start es_P_10 hn13
  obtain ⟨w_P_20, es_P_20⟩ := exa_v hn17
  have S_P_20 := Sta.start es_P_20 (Or.inr ⟨(hw _ (List.mem_of_getElem? (i := 2) rfl)), (hw _ (List.mem_of_getElem? (i := 17) rfl))⟩)
  have E_w_P_20 := Exa.start es_P_20 hn17
  obtain ⟨w_NUM_REL, es_NUM_REL⟩ := exa_v hn21
  have S_NUM_REL := Sta.start es_NUM_REL (Or.inr ⟨(hw _ (List.mem_of_getElem? (i := 2) rfl)), (hw _ (List.mem_of_getElem? (i := 19) rfl))⟩)
  have E_w_NUM_REL := Exa.start es_NUM_REL hn21
  obtain ⟨w_RECALL_1000, es_RECALL_1000⟩ := exa_v hn25
  have S_RECALL_1000 := Sta.start es_RECALL_1000 (Or.inr ⟨(hw _ (List.mem_of_getElem? (i := 2) rfl)), (hw _ (List.mem_of_getElem? (i := 21) rfl))⟩)
  have E_w_RECALL_1000 := Exa.start es_RECALL_1000 hn25
  obtain ⟨w_NUM_RET, es_NUM_RET⟩ := exa_v hn29
  have S_NUM_RET := Sta.start es_NUM_RET (Or.inr ⟨(hw _ (List.mem_of_getElem? (i := 2) rfl)), (hw _ (List.mem_of_getElem? (i := 23) rfl))⟩)
  have E_w_NUM_RET := Exa.start es_NUM_RET hn29
  obtain ⟨w_P_100, es_P_100⟩ := exa_v hn33
  have S_P_100 := Sta.start es_P_100 (Or.inr ⟨(hw _ (List.mem_of_getElem? (i := 2) rfl)), (hw _ (List.mem_of_getElem? (i := 25) rfl))⟩)
  have E_w_P_100 := Exa.start es_P_100 hn33
  obtain ⟨w_P_5, es_P_5⟩ := exa_v hn37
  have S_P_5 := Sta.start es_P_5 (Or.inr ⟨(hw _ (List.mem_of_getElem? (i := 2) rfl)), (hw _ (List.mem_of_getElem? (i := 28) rfl))⟩)
  have E_w_P_5 := Exa.start es_P_5 hn37
  obtain ⟨w_MAP, es_MAP⟩ := exa_v hn41
  have S_MAP := Sta.start es_MAP (Or.inr ⟨(hw _ (List.mem_of_getElem? (i := 2) rfl)), (hw _ (List.mem_of_getElem? (i := 30) rfl))⟩)
  have E_w_MAP := Exa.start es_MAP hn41
  obtain ⟨n, o, h1, h2, h3, _, L, rfl, ⟨rfl, N⟩, hq⟩ := rm0 l s _ hw tables_1 i0 w_NUM_Q w_NUM_REL_RET w_GM_MAP w_P_10 w_P_20 w_NUM_REL w_RECALL_1000 w_NUM_RET w_P_100 w_P_5 w_MAP s.heap s.heap.size (Nat.le_refl _) S_NUM_Q S_NUM_REL_RET S_GM_MAP S_P_10 S_P_20 S_NUM_REL S_RECALL_1000 S_NUM_RET S_P_100 S_P_5 S_MAP E_w_NUM_Q E_w_NUM_REL_RET E_w_GM_MAP E_w_P_10 E_w_P_20 E_w_NUM_REL E_w_RECALL_1000 E_w_NUM_RET E_w_P_100 E_w_P_5 E_w_MAP (own_ne es_NUM_REL_RET es_NUM_Q hn5 hn7 (by decide)) (own_ne es_P_10 es_NUM_Q hn15 hn7 (by decide)) (own_ne es_P_20 es_NUM_Q hn19 hn7 (by decide)) (own_ne es_NUM_REL es_NUM_Q hn23 hn7 (by decide)) (own_ne es_RECALL_1000 es_NUM_Q hn27 hn7 (by decide)) (own_ne es_NUM_RET es_NUM_Q hn31 hn7 (by decide)) (own_ne es_P_100 es_NUM_Q hn35 hn7 (by decide)) (own_ne es_P_5 es_NUM_Q hn39 hn7 (by decide)) (own_ne es_MAP es_NUM_Q hn42 hn7 (by decide)) (own_ne es_NUM_REL_RET es_GM_MAP hn5 hn11 (by decide)) (own_ne es_P_10 es_GM_MAP hn15 hn11 (by decide)) (own_ne es_P_20 es_GM_MAP hn19 hn11 (by decide)) (own_ne es_NUM_REL es_GM_MAP hn23 hn11 (by decide)) (own_ne es_RECALL_1000 es_GM_MAP hn27 hn11 (by decide)) (own_ne es_NUM_RET es_GM_MAP hn31 hn11 (by decide)) (own_ne es_P_100 es_GM_MAP hn35 hn11 (by decide)) (own_ne es_P_5 es_GM_MAP hn39 hn11 (by decide)) (own_ne es_MAP es_GM_MAP hn42 hn11 (by decide)) p e ha hc hk s m _ below hf ((Spec.applies_iff_loose hf).mp happ).1 ⟨rfl, State.Warmed39.refl s, rfl⟩ trivial
  refine ⟨n, _, h1, h2, h3, hpost _ _ _ _ _ _ ⟨Cond.after_iff.mpr rfl, Cond.after_iff.mpr (eq_i res_at (Term.int_eval (1)) rfl), trivial⟩ ⟨hq.1, hq.2.1, (hq.2.2.sift fun y hy => Or.inr (N y hy)).mono (by decide) (by decide)⟩⟩
theorem main_1_1 : Claimed_1_1 := comes_1 fun _ _ _ _ _ _ h hF => ⟨h.1, hF⟩
theorem main_1_2 : Claimed_1_2 := comes_1 fun _ _ _ _ _ _ h hF => ⟨h.2.1, hF⟩
end Jvm.Pilot.@@N@@
namespace Jvm.Pilot.@@N@@
open Jvm Jvm.ClassFile Sem Op Lib Jvm.Free Jvm.Stand Jvm.Pilot.@@N@@.Jvm.D
/-! MADE BY PROGRAM (witnessworld.py) out of the Statement's table words and the real class files: 12 classes; the members and pool entries that the words name. The judged class is class 1, her method 1. -/
namespace start1
open Jvm.ClassFile
def u (s : String) : CpInfo := .utf8 (stringToUtf16 s)
/-- a pool by its gaps: so many unusable entries, then the entry; so many at the end -/
def gap : Nat → List CpInfo → List CpInfo
  | 0, r => r
  | n + 1, r => .unusable :: gap n r
def poolList (es : List (Nat × CpInfo)) (last : Nat) : List CpInfo := es.foldr (fun e r => gap e.1 (e.2 :: r)) (gap last [])
def pool (es : List (Nat × CpInfo)) (last : Nat) : Array CpInfo := ⟨poolList es last⟩
def fileOf (pool : Array CpInfo) (this : Nat) (attrs : Array Attribute := #[]) (ms : Array MethodInfo := #[]) (fl : Nat := 33) (sup : Nat := 0) (ifs : Array Nat := #[]) (fds : Array FieldInfo := #[]) : ClassFile where
  minorVersion := 0
  majorVersion := 65
  constantPool := pool
  accessFlags := fl
  thisClass := this
  superClass := sup
  interfaces := ifs
  fields := fds
  methods := ms
  attributes := attrs
def plain (name : String) (sup : Option ClassId) : Class where
  name := name
  kind := .ordinary
  loader := none
  accessFlags := 33
  super := sup
  interfaces := #[]
  cf := none
  fields := #[]
  methods := #[]
  instanceTypes := #[]
  staticTypes := #[]
  resolved := #[]
  callSites := []
  init := .initialized
  statics := none
  mirror := none

def pool0 : Array CpInfo := pool [(5, u "<init>"), (0, u "()V"), (1, .class_ 10), (1, u "java/lang/Object")] 113

def k0m0 : Method := { name := "<init>", desc := "()V", sig := { parameters := [], returnType := none }, accessFlags := 1, code := none }
/-- java/lang/Object -/
def k0 : Class := { plain "java/lang/Object" none with
  accessFlags := 33
  interfaces := #[]
  cf := some (fileOf pool0 8 #[] #[{ accessFlags := 1, nameIndex := 5, descriptorIndex := 6, attributes := #[] }] 33 0 #[] #[])
  fields := #[]
  methods := #[k0m0]
  instanceTypes := #[]
  staticTypes := #[]
  resolved := Array.replicate 124 none
  statics := none }

def pool1 : Array CpInfo := pool [(2, .class_ 4), (1, u "java/lang/Object"), (0, u "<init>"), (0, u "()V"), (0, .integer 2147483647), (0, .fieldref 9 10), (0, .class_ 11), (0, .nameAndType 12 13), (0, u "com/example/navsim/navsim/Measure"), (0, u "NUM_Q"), (0, u "Lcom/example/navsim/navsim/Measure;"), (0, .fieldref 9 15), (0, .nameAndType 16 13), (0, u "NUM_RET"), (0, .fieldref 9 18), (0, .nameAndType 19 13), (0, u "NUM_REL"), (0, .fieldref 9 21), (0, .nameAndType 22 13), (0, u "NUM_REL_RET"), (0, .fieldref 9 24), (0, .nameAndType 25 13), (0, u "MAP"), (0, .fieldref 9 27), (0, .nameAndType 28 13), (0, u "GM_MAP"), (0, .fieldref 9 30), (0, .nameAndType 31 13), (0, u "P_5"), (0, .fieldref 9 33), (0, .nameAndType 34 13), (0, u "P_10"), (0, .fieldref 9 36), (0, .nameAndType 37 13), (0, u "P_20"), (0, .fieldref 9 39), (0, .nameAndType 40 13), (0, u "P_100"), (0, .fieldref 9 42), (0, .nameAndType 43 13), (0, u "RECALL_1000"), (0, .methodref 9 45), (0, .nameAndType 46 47), (0, u "printedPerTopic"), (0, u "()Z"), (0, .class_ 49), (0, u "com/example/navsim/navsim/MeasurePrintedPerTopicPinLaw"), (2, u "law"), (0, u "(I)Z")] 3

def k1m0 : Method := { name := "<init>", desc := "()V", sig := { parameters := [], returnType := none }, accessFlags := 2, code := none }
def k1c1 : Code := { maxStack := 2, maxLocals := 4, code := code, exceptionTable := #[], attributes := #[] }
def k1m1 : Method := { name := "law", desc := "(I)Z", sig := { parameters := [.int], returnType := some .boolean }, accessFlags := 9, code := some k1c1 }
/-- com/example/navsim/navsim/MeasurePrintedPerTopicPinLaw -/
def k1 : Class := { plain "com/example/navsim/navsim/MeasurePrintedPerTopicPinLaw" (some 0) with
  accessFlags := 49
  interfaces := #[]
  cf := some (fileOf pool1 48 #[] #[{ accessFlags := 2, nameIndex := 5, descriptorIndex := 6, attributes := #[] }, { accessFlags := 9, nameIndex := 52, descriptorIndex := 53, attributes := #[] }] 49 2 #[] #[])
  fields := #[]
  methods := #[k1m0, k1m1]
  instanceTypes := #[]
  staticTypes := #[]
  resolved := Array.replicate 57 none
  statics := none }

def pool2 : Array CpInfo := pool [(1, .class_ 2), (0, u "java/lang/constant/Constable"), (0, .class_ 4), (0, u "java/lang/Object")] 6

/-- java/lang/constant/Constable -/
def k2 : Class := { plain "java/lang/constant/Constable" (some 0) with
  accessFlags := 1537
  interfaces := #[]
  cf := some (fileOf pool2 1 #[] #[] 1537 3 #[] #[])
  fields := #[]
  methods := #[]
  instanceTypes := #[]
  staticTypes := #[]
  resolved := Array.replicate 11 none
  statics := none }

def pool3 : Array CpInfo := pool [(1, .class_ 2), (0, u "java/lang/Comparable"), (0, .class_ 4), (0, u "java/lang/Object")] 7

/-- java/lang/Comparable -/
def k3 : Class := { plain "java/lang/Comparable" (some 0) with
  accessFlags := 1537
  interfaces := #[]
  cf := some (fileOf pool3 1 #[] #[] 1537 3 #[] #[])
  fields := #[]
  methods := #[]
  instanceTypes := #[]
  staticTypes := #[]
  resolved := Array.replicate 12 none
  statics := none }

def pool4 : Array CpInfo := pool [(1, .class_ 2), (0, u "java/io/Serializable"), (0, .class_ 4), (0, u "java/lang/Object")] 2

/-- java/io/Serializable -/
def k4 : Class := { plain "java/io/Serializable" (some 0) with
  accessFlags := 1537
  interfaces := #[]
  cf := some (fileOf pool4 1 #[] #[] 1537 3 #[] #[])
  fields := #[]
  methods := #[]
  instanceTypes := #[]
  staticTypes := #[]
  resolved := Array.replicate 7 none
  statics := none }

def pool5 : Array CpInfo := pool [(2, .class_ 4), (1, u "java/lang/Enum"), (0, u "name"), (0, u "Ljava/lang/String;"), (2, u "ordinal"), (0, u "I"), (1, .class_ 14), (1, u "java/lang/Object"), (4, u "hash"), (86, .class_ 108), (1, u "java/lang/Enum$EnumDesc"), (2, .class_ 112), (0, u "java/lang/constant/Constable"), (0, .class_ 114), (0, u "java/lang/Comparable"), (0, .class_ 116), (0, u "java/io/Serializable")] 87

/-- java/lang/Enum -/
def k5 : Class := { plain "java/lang/Enum" (some 0) with
  accessFlags := 1057
  interfaces := #[2, 3, 4]
  cf := some (fileOf pool5 2 #[.nestMembers #[106]] #[] 1057 12 #[111, 113, 115] #[{ accessFlags := 18, nameIndex := 5, descriptorIndex := 6, attributes := #[] }, { accessFlags := 18, nameIndex := 9, descriptorIndex := 10, attributes := #[] }, { accessFlags := 2, nameIndex := 19, descriptorIndex := 10, attributes := #[] }])
  fields := #[{ name := "name", type := (.object "java/lang/String"), accessFlags := 18, slot := 0, constantValue := 0 }, { name := "ordinal", type := .int, accessFlags := 18, slot := 1, constantValue := 0 }, { name := "hash", type := .int, accessFlags := 2, slot := 2, constantValue := 0 }]
  methods := #[]
  instanceTypes := #[(.object "java/lang/String"), .int, .int]
  staticTypes := #[]
  resolved := Array.replicate 204 none
  statics := none }

def pool6 : Array CpInfo := pool [(1, .class_ 2), (0, u "com/example/navsim/navsim/Measure"), (0, .fieldref 1 4), (0, .nameAndType 5 6), (0, u "NUM_Q"), (0, u "Lcom/example/navsim/navsim/Measure;"), (2, u "NUM_RET"), (2, u "NUM_REL"), (2, u "NUM_REL_RET"), (2, u "MAP"), (0, .fieldref 1 20), (0, .nameAndType 21 6), (0, u "GM_MAP"), (2, u "P_5"), (2, u "P_10"), (2, u "P_20"), (2, u "P_100"), (2, u "RECALL_1000"), (2, u "$VALUES"), (0, u "[Lcom/example/navsim/navsim/Measure;"), (6, .class_ 49), (1, u "java/lang/Enum"), (8, u "label"), (0, u "Ljava/lang/String;"), (2, u "combination"), (0, u "Lcom/example/navsim/navsim/Measure$Combination;"), (2, u "topicValue"), (0, u "Ljava/util/function/ToDoubleFunction;"), (25, .class_ 95), (1, u "com/example/navsim/navsim/Measure$Combination"), (83, u "GEOMETRIC_MEAN_FLOOR"), (0, u "D"), (10, u "printedPerTopic"), (0, u "()Z")] 69

def k6c0 : Code := { maxStack := 2, maxLocals := 1, code := prog_18_method_5_code, exceptionTable := #[], attributes := #[] }
def k6m0 : Method := { name := "printedPerTopic", desc := "()Z", sig := { parameters := [], returnType := some .boolean }, accessFlags := 1, code := some k6c0 }
/-- com/example/navsim/navsim/Measure -/
def k6 : Class := { plain "com/example/navsim/navsim/Measure" (some 5) with
  accessFlags := 16433
  interfaces := #[]
  cf := some (fileOf pool6 1 #[.nestMembers #[93]] #[{ accessFlags := 1, nameIndex := 191, descriptorIndex := 192, attributes := #[] }] 16433 47 #[] #[{ accessFlags := 16409, nameIndex := 5, descriptorIndex := 6, attributes := #[] }, { accessFlags := 16409, nameIndex := 9, descriptorIndex := 6, attributes := #[] }, { accessFlags := 16409, nameIndex := 12, descriptorIndex := 6, attributes := #[] }, { accessFlags := 16409, nameIndex := 15, descriptorIndex := 6, attributes := #[] }, { accessFlags := 16409, nameIndex := 18, descriptorIndex := 6, attributes := #[] }, { accessFlags := 16409, nameIndex := 21, descriptorIndex := 6, attributes := #[] }, { accessFlags := 16409, nameIndex := 24, descriptorIndex := 6, attributes := #[] }, { accessFlags := 16409, nameIndex := 27, descriptorIndex := 6, attributes := #[] }, { accessFlags := 16409, nameIndex := 30, descriptorIndex := 6, attributes := #[] }, { accessFlags := 16409, nameIndex := 33, descriptorIndex := 6, attributes := #[] }, { accessFlags := 16409, nameIndex := 36, descriptorIndex := 6, attributes := #[] }, { accessFlags := 25, nameIndex := 179, descriptorIndex := 180, attributes := #[] }, { accessFlags := 18, nameIndex := 58, descriptorIndex := 59, attributes := #[] }, { accessFlags := 18, nameIndex := 62, descriptorIndex := 63, attributes := #[] }, { accessFlags := 18, nameIndex := 66, descriptorIndex := 67, attributes := #[] }, { accessFlags := 4122, nameIndex := 39, descriptorIndex := 40, attributes := #[] }])
  fields := #[{ name := "NUM_Q", type := (.object "com/example/navsim/navsim/Measure"), accessFlags := 16409, slot := 0, constantValue := 0 }, { name := "NUM_RET", type := (.object "com/example/navsim/navsim/Measure"), accessFlags := 16409, slot := 1, constantValue := 0 }, { name := "NUM_REL", type := (.object "com/example/navsim/navsim/Measure"), accessFlags := 16409, slot := 2, constantValue := 0 }, { name := "NUM_REL_RET", type := (.object "com/example/navsim/navsim/Measure"), accessFlags := 16409, slot := 3, constantValue := 0 }, { name := "MAP", type := (.object "com/example/navsim/navsim/Measure"), accessFlags := 16409, slot := 4, constantValue := 0 }, { name := "GM_MAP", type := (.object "com/example/navsim/navsim/Measure"), accessFlags := 16409, slot := 5, constantValue := 0 }, { name := "P_5", type := (.object "com/example/navsim/navsim/Measure"), accessFlags := 16409, slot := 6, constantValue := 0 }, { name := "P_10", type := (.object "com/example/navsim/navsim/Measure"), accessFlags := 16409, slot := 7, constantValue := 0 }, { name := "P_20", type := (.object "com/example/navsim/navsim/Measure"), accessFlags := 16409, slot := 8, constantValue := 0 }, { name := "P_100", type := (.object "com/example/navsim/navsim/Measure"), accessFlags := 16409, slot := 9, constantValue := 0 }, { name := "RECALL_1000", type := (.object "com/example/navsim/navsim/Measure"), accessFlags := 16409, slot := 10, constantValue := 0 }, { name := "GEOMETRIC_MEAN_FLOOR", type := .double, accessFlags := 25, slot := 11, constantValue := 0 }, { name := "label", type := (.object "java/lang/String"), accessFlags := 18, slot := 3, constantValue := 0 }, { name := "combination", type := (.object "com/example/navsim/navsim/Measure$Combination"), accessFlags := 18, slot := 4, constantValue := 0 }, { name := "topicValue", type := (.object "java/util/function/ToDoubleFunction"), accessFlags := 18, slot := 5, constantValue := 0 }, { name := "$VALUES", type := (.array (.object "com/example/navsim/navsim/Measure")), accessFlags := 4122, slot := 12, constantValue := 0 }]
  methods := #[k6m0]
  instanceTypes := #[(.object "java/lang/String"), .int, .int, (.object "java/lang/String"), (.object "com/example/navsim/navsim/Measure$Combination"), (.object "java/util/function/ToDoubleFunction")]
  staticTypes := #[(.object "com/example/navsim/navsim/Measure"), (.object "com/example/navsim/navsim/Measure"), (.object "com/example/navsim/navsim/Measure"), (.object "com/example/navsim/navsim/Measure"), (.object "com/example/navsim/navsim/Measure"), (.object "com/example/navsim/navsim/Measure"), (.object "com/example/navsim/navsim/Measure"), (.object "com/example/navsim/navsim/Measure"), (.object "com/example/navsim/navsim/Measure"), (.object "com/example/navsim/navsim/Measure"), (.object "com/example/navsim/navsim/Measure"), .double, (.array (.object "com/example/navsim/navsim/Measure"))]
  resolved := Array.replicate 262 none
  statics := some 0 }

def pool7 : Array CpInfo := pool [(1, u "java/lang/Cloneable"), (0, .class_ 1), (0, u "java/lang/Object"), (0, .class_ 3)] 3

/-- java/lang/Cloneable -/
def k7 : Class := { plain "java/lang/Cloneable" (some 0) with
  accessFlags := 1537
  interfaces := #[]
  cf := some (fileOf pool7 2 #[] #[] 1537 4 #[] #[])
  fields := #[]
  methods := #[]
  instanceTypes := #[]
  staticTypes := #[]
  resolved := Array.replicate 8 none
  statics := none }

/-- the primitive byte -/
def k8 : Class := { plain "byte" none with kind := .primitive 'B', accessFlags := 0x411 }
/-- [B -/
def k9 : Class := { plain "[B" (some 0) with kind := .array 8 .byte, interfaces := #[7, 4], accessFlags := 1041 }

/-- the primitive int -/
def k10 : Class := { plain "int" none with kind := .primitive 'I', accessFlags := 0x411 }
/-- [I -/
def k11 : Class := { plain "[I" (some 0) with kind := .array 10 .int, interfaces := #[7, 4], accessFlags := 1041 }

def heap : Heap := #[{ cls := 6, slots := #[.ref 1, .ref 2, .ref 3, .ref 4, .ref 5, .ref 6, .ref 7, .ref 8, .ref 9, .ref 10, .ref 11, .double 0, .null], vm := .statics 6 },
  { cls := 6, slots := #[.null, .int 0, .int 0, .null, .null, .null], vm := .none },
  { cls := 6, slots := #[.null, .int 1, .int 0, .null, .null, .null], vm := .none },
  { cls := 6, slots := #[.null, .int 2, .int 0, .null, .null, .null], vm := .none },
  { cls := 6, slots := #[.null, .int 3, .int 0, .null, .null, .null], vm := .none },
  { cls := 6, slots := #[.null, .int 4, .int 0, .null, .null, .null], vm := .none },
  { cls := 6, slots := #[.null, .int 5, .int 0, .null, .null, .null], vm := .none },
  { cls := 6, slots := #[.null, .int 6, .int 0, .null, .null, .null], vm := .none },
  { cls := 6, slots := #[.null, .int 7, .int 0, .null, .null, .null], vm := .none },
  { cls := 6, slots := #[.null, .int 8, .int 0, .null, .null, .null], vm := .none },
  { cls := 6, slots := #[.null, .int 9, .int 0, .null, .null, .null], vm := .none },
  { cls := 6, slots := #[.null, .int 10, .int 0, .null, .null, .null], vm := .none }]
def classes : Array Class := #[k0, k1, k2, k3, k4, k5, k6, k7, k8, k9, k10, k11]
def interned : List (Array UInt16 × Addr) := []
def slotsUsed : Nat := 79
def theMethod : MethodId := ⟨1, 1⟩
def args0 : Array Value := #[.int 5]
def aboutOver (below : List Frame) : State where
  vm := { classes := classes, interned := interned.toArray }
  heap := heap
  slotsUsed := slotsUsed
  threads := #[{ frames := .invoking theMethod args0 :: below }]
def below0 : List Frame := [.native { method := ⟨0, 0⟩, args := #[] }]
def about1 : State := aboutOver below0
def p0 : Program := .bare "" "" ""
def e0 : Env := launch0.env 0 0 0
theorem w_frames : about1.frames = Frame.invoking theMethod args0 :: below0 := rfl
set_option maxRecDepth 65536 in
theorem w_args : argsFit about1.vm theMethod args0 = true := by decide +kernel
set_option maxRecDepth 65536 in
theorem w_heap : heapFits about1 = true := by decide +kernel
set_option maxRecDepth 65536 in
theorem w_runnable : about1.curStatus? = some .runnable := by decide +kernel
set_option maxRecDepth 65536 in
theorem w_alone : about1.alone = true := by decide +kernel
set_option maxRecDepth 65536 in
theorem w_named : about1.methodNamed? x = some theMethod := by decide +kernel
set_option maxRecDepth 65536 in
theorem w_hears : about1.hears theMethod below0 = true := by decide +kernel
set_option maxRecDepth 65536 in
theorem w_ripe : about1.ripe theMethod args0 below0 = true := by decide +kernel
theorem w_running : about1.status = .running := rfl
set_option maxRecDepth 65536 in
theorem w_room : about1.hasRoom e0.platform room_1 = true :=
  launch0.hasRoom_least _ room_1 (by decide +kernel) (by decide +kernel) (by decide +kernel) (by decide +kernel) (by decide +kernel) (by decide +kernel)
theorem allAtoms_all (ts : List Jvm.Cond) (a : Array Jvm.Value) (st : Jvm.State) : (allAtoms ts).before a st = ts.all (fun c => c.before a st) := by
  induction ts with
  | nil => rfl
  | cons c t ih =>
    show (Jvm.Cond.and c (allAtoms t)).before a st = _
    rw [Jvm.Cond.before_and, ih, List.all_cons]
def words1 : List Jvm.Cond := Jvm.Cond.code x code maxLocals ret :: tables_1
/-- a 'code' word, met by the world's own term for the bytes: nothing is compared byte by byte -/
theorem code_word {y : MethodName} {bytes : ByteArray} {mx : Nat} {rt : Option FieldType} {a : Array Value} {s : State} {m : MethodId} {meth : Method} {c : Code} (h1 : s.methodNamed? y = some m) (h2 : s.vm.method? m = some meth) (h3 : meth.code = some c) (h4 : c.code = bytes)
    (h5 : (c.maxLocals == mx && c.exceptionTable.isEmpty && decide (c.maxStack ≤ mostOperands) && decide (meth.sig.returnType = rt) && !meth.locks && decide (parseMethodDescriptor y.desc = some meth.sig)) = true) : (Jvm.Cond.code y bytes mx rt).before a s = true := by
  simp only [Bool.and_eq_true, beq_iff_eq, Bool.not_eq_true', decide_eq_true_eq] at h5
  obtain ⟨⟨⟨⟨⟨g1, g2⟩, g3⟩, g4⟩, g5⟩, g6⟩ := h5
  simp [Cond.before, Cond.holds, Cond.value, h1, h2, h3, h4, g1, g2, g3, g4, g5, g6]
def isCode : Jvm.Cond → Bool
  | .code _ _ _ _ => true
  | _ => false
theorem all_split {L : List Jvm.Cond} {P : Jvm.Cond → Bool} (h1 : L.all (fun c => isCode c || P c) = true) (h2 : ∀ c ∈ L.filter isCode, P c = true) : L.all P = true := by
  refine List.all_eq_true.mpr fun c hc => ?_
  have h := List.all_eq_true.mp h1 c hc
  rcases Bool.eq_false_or_eq_true (isCode c) with hi | hi
  · exact h2 c (List.mem_filter.mpr ⟨hc, hi⟩)
  · simpa [hi] using h
set_option maxRecDepth 65536 in
theorem w_c0 : (Jvm.Cond.code x code maxLocals ret).before args0 about1 = true := code_word (m := ⟨1, 1⟩) (meth := k1m1) (c := k1c1) (by decide +kernel) rfl rfl rfl (by decide +kernel)
set_option maxRecDepth 65536 in
theorem w_c1 : (Jvm.Cond.code ({ cls := "com/example/navsim/navsim/Measure", name := "printedPerTopic", desc := "()Z" } : Jvm.MethodName) prog_18_method_5_code (1 : Nat) (Option.some Jvm.ClassFile.FieldType.boolean)).before args0 about1 = true := code_word (m := ⟨6, 0⟩) (meth := k6m0) (c := k6c0) (by decide +kernel) rfl rfl rfl (by decide +kernel)
def codes1 : List Jvm.Cond := [Jvm.Cond.code x code maxLocals ret, Jvm.Cond.code ({ cls := "com/example/navsim/navsim/Measure", name := "printedPerTopic", desc := "()Z" } : Jvm.MethodName) prog_18_method_5_code (1 : Nat) (Option.some Jvm.ClassFile.FieldType.boolean)]
set_option maxRecDepth 65536 in
theorem codes_eq : words1.filter isCode = codes1 := rfl
theorem w_codes : ∀ c ∈ words1.filter isCode, c.before args0 about1 = true := by
  rw [codes_eq]
  intro c hc
  simp only [codes1, List.mem_cons, List.not_mem_nil, or_false] at hc
  rcases hc with rfl | rfl
  · exact w_c0
  · exact w_c1
set_option maxRecDepth 65536 in
theorem w_t1 : (words1.take 24).all (fun c => isCode c || c.before args0 about1) = true := by decide +kernel
set_option maxRecDepth 65536 in
theorem w_t2 : (words1.drop 24).all (fun c => isCode c || c.before args0 about1) = true := by decide +kernel
theorem w_tables : (allAtoms (Jvm.Cond.code x code maxLocals ret :: tables_1)).before args0 about1 = true := by
  rw [allAtoms_all]
  show words1.all (fun c => c.before args0 about1) = true
  refine all_split ?_ w_codes
  rw [← List.take_append_drop 24 words1, List.all_append, w_t1, w_t2]
  rfl
set_option maxRecDepth 65536 in
theorem w_case : (Jvm.Cond.and given_1 narrow_1).before args0 about1 = true := by decide +kernel
theorem w_applies : (headSpec (Jvm.Cond.code x code maxLocals ret :: tables_1) room_1).applies x e0.platform about1 = true :=
  (Spec.applies_iff w_frames).mpr ⟨w_running, w_runnable, w_alone, w_named, w_hears, w_ripe, w_room, w_tables⟩
theorem atStart : AtStart classFile x code maxLocals ret World_1 tables_1 room_1 Calls_1 rest_1 Pre_1 launch0 p0 e0 about1 theMethod args0 below0 :=
  ⟨lists_1, trivial, launch0.admits_env _ _ _, launch0.least_env, fairChoices_fair.cas, fairChoices_fair.clock, w_frames, w_args, w_heap, w_applies, trivial, trivial, w_case⟩
end start1
theorem witness_1 : WitnessClaimed_1 := ⟨start1.p0, start1.e0, start1.about1, start1.theMethod, start1.args0, start1.below0, start1.atStart⟩
end Jvm.Pilot.@@N@@
