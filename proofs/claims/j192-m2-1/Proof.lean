import JvmDerived
import JvmDerived.Pilot.@@N@@Statement
import JvmDerived.Pilot.@@N@@Code
set_option linter.unusedVariables false
set_option linter.unusedSimpArgs false
namespace Jvm.Pilot.@@N@@
open Jvm Jvm.ClassFile Sem Op Lib Jvm.Free Jvm.Stand Jvm.LawKit Jvm.RoadKit Bundle Jvm.Pilot.@@N@@.Jvm.D
theorem own_fi {args : Array Value} {s : State} {t : Term} {C n d : String} {a : Addr} {i : Int32} (e : t.eval args s none [] s = some (.ref a)) (h : (Jvm.Cond.eq (.field t C n d) (.int i)).value args s none s [] = some true) : s.fieldOf? a C n d = some (.int i) := by
  obtain ⟨x, y, hx, hy, k1, k2⟩ := cmp_v (Or.inl h)
  have hy' : y = .int i := Option.some.inj (hy.symm.trans (Term.int_eval i))
  subst hy'
  obtain ⟨z, rfl⟩ := k2
  have q : z = i := gotT (Cond.eq_ints hx (Term.int_eval i)) h
  rw [fld_at e] at hx
  rw [hx, q]
theorem own_ne {args : Array Value} {s : State} {t u : Term} {C n d : String} {a b : Addr} {i j : Int32} (e1 : t.eval args s none [] s = some (.ref a)) (e2 : u.eval args s none [] s = some (.ref b)) (h1 : (Jvm.Cond.eq (.field t C n d) (.int i)).value args s none s [] = some true) (h2 : (Jvm.Cond.eq (.field u C n d) (.int j)).value args s none s [] = some true) (hij : i ≠ j) : a ≠ b := by
  intro q; subst q
  have g1 := own_fi e1 h1
  have g2 := own_fi e2 h2
  rw [g1] at g2
  exact hij (Value.int.inj (Option.some.inj g2))
def own_pk (wT wF wU : Addr) (k : Int32) : Addr := if k = 0 then wT else if k = 1 then wF else wU
def own_and (wT wF wU a b : Addr) : Addr := if a = wF then wF else if b = wF then wF else if a = wT then (if b = wT then wT else wU) else wU
def own_rank (wT wF wU a : Addr) : Int32 := if a = wF then 0 else if a = wU then 1 else if a = wT then 2 else -1
def own_min (a b : Int32) : Int32 := if b < a then b else a
theorem own_pk_or (wT wF wU : Addr) (k : Int32) : own_pk wT wF wU k = wT ∨ own_pk wT wF wU k = wF ∨ own_pk wT wF wU k = wU := by
  unfold own_pk
  split
  · exact Or.inl rfl
  · split
    · exact Or.inr (Or.inl rfl)
    · exact Or.inr (Or.inr rfl)
theorem own_fin {wT wF wU x y : Addr} (h1 : wT ≠ wF) (h2 : wT ≠ wU) (h3 : wF ≠ wU) (hx : x = wT ∨ x = wF ∨ x = wU) (hy : y = wT ∨ y = wF ∨ y = wU) :
    own_rank wT wF wU (own_and wT wF wU x y) = own_min (own_rank wT wF wU x) (own_rank wT wF wU y) := by
  have g1 := h1.symm
  have g2 := h2.symm
  have g3 := h3.symm
  rcases hx with rfl | rfl | rfl <;> rcases hy with rfl | rfl | rfl <;> simp [own_rank, own_and, own_min, h1, h2, h3, g1, g2, g3]
theorem d1_0 : decode method_2_code 0 = .ok (.iload_n 0, 1) := by decide +kernel
theorem d1_1 : decode method_2_code 1 = .ok (.ldc 7, 2) := by decide +kernel
theorem d1_3 : decode method_2_code 3 = .ok (.iand, 1) := by decide +kernel
theorem d1_4 : decode method_2_code 4 = .ok (.iconst 3, 1) := by decide +kernel
theorem d1_5 : decode method_2_code 5 = .ok (.irem, 1) := by decide +kernel
theorem d1_6 : decode method_2_code 6 = .ok (.istore_n 1, 1) := by decide +kernel
theorem d1_7 : decode method_2_code 7 = .ok (.iload_n 1, 1) := by decide +kernel
theorem d1_8 : decode method_2_code 8 = .ok (.ifCond .ne 7, 3) := by decide +kernel
theorem d1_11 : decode method_2_code 11 = .ok (.getstatic 8, 3) := by decide +kernel
theorem d1_14 : decode method_2_code 14 = .ok (.areturn, 1) := by decide +kernel
theorem d1_15 : decode method_2_code 15 = .ok (.iload_n 1, 1) := by decide +kernel
theorem d1_16 : decode method_2_code 16 = .ok (.iconst 1, 1) := by decide +kernel
theorem d1_17 : decode method_2_code 17 = .ok (.if_icmp .ne 7, 3) := by decide +kernel
theorem d1_20 : decode method_2_code 20 = .ok (.getstatic 14, 3) := by decide +kernel
theorem d1_23 : decode method_2_code 23 = .ok (.areturn, 1) := by decide +kernel
theorem d1_24 : decode method_2_code 24 = .ok (.getstatic 17, 3) := by decide +kernel
theorem d1_27 : decode method_2_code 27 = .ok (.areturn, 1) := by decide +kernel
theorem ef_1 (m : MethodId) (p0 : Int32) : entryFrame m #[(.int p0)] 2 = mkF m 0 #[.val (.int p0), .unset] [] := by first | (simp [entryFrame, mkF, argsToLocals, Value.category]; done) | rfl
theorem pn_0 : plainName "com/example/cimber/cimber/query/TruthAndPinLaw" = true := by first | (simp [plainName, overriddenIn]; done) | decide +kernel
def Q1 (Z : State) (p0 : Int32) (w_TRUE : Addr) (w_FALSE : Addr) (w_UNKNOWN : Addr) (r : Addr) (h0 : Heap) (n0 : Nat) (v : Option Value) (h : Heap) (L : List Loc) : Prop := v = some (.ref r) ∧ Fr n0 L ∧ h = h0
set_option maxRecDepth 65536 in
set_option maxHeartbeats 40000000 in
theorem rm1 (l : Launch) (Z : State) (a0 : Array Value) (hw : ∀ d ∈ tables_1, d.before a0 Z = true) (ws : List Jvm.Cond) (p0 : Int32) (w_TRUE : Addr) (w_FALSE : Addr) (w_UNKNOWN : Addr) (r : Addr) (h0 : Heap) (n0 : Nat) (Z0 : n0 ≤ h0.size) (S_TRUE : Sta Z h0 "com/example/cimber/cimber/query/Truth" "TRUE" "Lcom/example/cimber/cimber/query/Truth;" (.ref w_TRUE)) (S_FALSE : Sta Z h0 "com/example/cimber/cimber/query/Truth" "FALSE" "Lcom/example/cimber/cimber/query/Truth;" (.ref w_FALSE)) (S_UNKNOWN : Sta Z h0 "com/example/cimber/cimber/query/Truth" "UNKNOWN" "Lcom/example/cimber/cimber/query/Truth;" (.ref w_UNKNOWN)) (hpk : own_pk w_TRUE w_FALSE w_UNKNOWN ((p0 &&& (2147483647 : Int32)) % (3 : Int32)) = r) :
    MetFree l (⟨"com/example/cimber/cimber/query/TruthAndPinLaw", "pick", "(I)Lcom/example/cimber/cimber/query/Truth;"⟩ : MethodName) (head1 (Jvm.Cond.code (⟨"com/example/cimber/cimber/query/TruthAndPinLaw", "pick", "(I)Lcom/example/cimber/cimber/query/Truth;"⟩ : MethodName) method_2_code 2 (some (.object "com/example/cimber/cimber/query/Truth")) :: ws) ({ frames := 0, cells := 0, slots := 0, locals := 0 } : Room)) (fun a U => a = #[(.int p0)] ∧ Z.Warmed39 U.vm ∧ U.heap = h0) (fun _ _ _ _ _ => True) (fun _ U o U' => ∃ v L, o = .returned v ∧ Q1 Z p0 w_TRUE w_FALSE w_UNKNOWN r h0 n0 v U'.heap L ∧ FrameEnd U o U' L ({ frames := 0, cells := 0, slots := 0, locals := 0 } : Room).cells ({ frames := 0, cells := 0, slots := 0, locals := 0 } : Room).slots) := by
  refine MetFree.of_bodySF (plainFor_of_name pn_0) hisR ?_
  intro p e s m args below meth c s₁ Bd hml0 hP hK
  obtain ⟨rfl, hZ, hh⟩ := hP
  have hx := Bd.exec
  have hby := Bd.bytes
  have hml : c.maxLocals = 2 := hml0
  have hown : s.vm.findClass "com/example/cimber/cimber/query/TruthAndPinLaw" = some m.cls := findClass_of_methodNamed Bd.named
  have hnm := (name_of_methodNamed Bd.named Bd.method).1
  have X0 : Stand p l e ({ frames := 0, cells := 0, slots := 0, locals := 0 } : Room) s m #[(.int p0)] below meth c s₁ [] 0 0 := Stand.of_body Bd
  have e0 : s₁.heap = h0 := by rw [← hh, Bd.state]; rfl
  have N0 := Fr.nil n0
  have k0 : ∀ t, Steps p.tables e below (s₁.setTop (mkF m 0 #[.val (.int p0), .unset] [])) t → Steps p.tables e below (s₁.setTop (entryFrame m #[(.int p0)] 2)) t := fun t k => castTop (ef_1 m p0) k
  have k1 : ∀ t, Steps p.tables e below (s₁.setTop (mkF m 8 #[.val (.int p0), .val (.int ((p0 &&& (2147483647 : Int32)) % (3 : Int32)))] [(.int ((p0 &&& (2147483647 : Int32)) % (3 : Int32)))])) t → Steps p.tables e below (s₁.setTop (entryFrame m #[(.int p0)] 2)) t := fun t k => k0 t (by
      show Steps p.tables e below (s₁.setTop (mkF m 0 #[.val (.int p0), .unset] [])) _
      refine XS.iloadN X0.here hx rfl (hb hby d1_0) rfl ?_
      show Steps p.tables e below (s₁.setTop (mkF m 1 #[.val (.int p0), .unset] [(.int p0)])) _
      refine X0.ldcInt hx hown (mvT hZ (hw _ (List.mem_of_getElem? (i := 4) rfl))) (g := (mkF m 1 #[.val (.int p0), .unset] [(.int p0)])) rfl (hb hby d1_1) _ ?_
      show Steps p.tables e below (s₁.setTop (mkF m 3 #[.val (.int p0), .unset] [(.int (2147483647 : Int32)), (.int p0)])) _
      refine XS.iand X0.here hx rfl (hb hby d1_3) rfl ?_
      show Steps p.tables e below (s₁.setTop (mkF m 4 #[.val (.int p0), .unset] [(.int (p0 &&& (2147483647 : Int32)))])) _
      refine XS.iconst X0.here hx rfl (hb hby d1_4) ?_
      show Steps p.tables e below (s₁.setTop (mkF m 5 #[.val (.int p0), .unset] [(.int (3 : Int32)), (.int (p0 &&& (2147483647 : Int32)))])) _
      refine iremM X0 hx rfl (hb hby d1_5) rfl (by decide) ?_
      show Steps p.tables e below (s₁.setTop (mkF m 6 #[.val (.int p0), .unset] [(.int ((p0 &&& (2147483647 : Int32)) % (3 : Int32)))])) _
      refine XS.istoreN X0.here hx rfl (hb hby d1_6) rfl (l' := #[.val (.int p0), .val (.int ((p0 &&& (2147483647 : Int32)) % (3 : Int32)))]) rfl ?_
      show Steps p.tables e below (s₁.setTop (mkF m 7 #[.val (.int p0), .val (.int ((p0 &&& (2147483647 : Int32)) % (3 : Int32)))] [])) _
      refine XS.iloadN X0.here hx rfl (hb hby d1_7) rfl ?_
      exact k)
  by_cases hc8 : ((p0 &&& (2147483647 : Int32)) % (3 : Int32)) = (0 : Int32)
  · have k2 : ∀ t, Steps p.tables e below (s₁.setTop (mkF m 11 #[.val (.int p0), .val (.int ((p0 &&& (2147483647 : Int32)) % (3 : Int32)))] [])) t → Steps p.tables e below (s₁.setTop (entryFrame m #[(.int p0)] 2)) t := fun t k => k1 t (by
        show Steps p.tables e below (s₁.setTop (mkF m 8 #[.val (.int p0), .val (.int ((p0 &&& (2147483647 : Int32)) % (3 : Int32)))] [(.int ((p0 &&& (2147483647 : Int32)) % (3 : Int32)))])) _
        refine XS.ifNo X0.here hx rfl (hb hby d1_8) rfl ((if0 _ _).trans (teq hc8).2) ?_
        exact k)
    obtain ⟨T3, X3, e3, st3⟩ := getS2 X0 hx hZ hown (host := "") (Or.inl (hw _ (List.mem_of_getElem? (i := 5) rfl))) Via.refl e0 S_TRUE (g := (mkF m 11 #[.val (.int p0), .val (.int ((p0 &&& (2147483647 : Int32)) % (3 : Int32)))] [])) rfl (hb hby d1_11)
    have k4 : ∀ t, Steps p.tables e below (T3.setTop (mkF m 14 #[.val (.int p0), .val (.int ((p0 &&& (2147483647 : Int32)) % (3 : Int32)))] [(.ref w_TRUE)])) t → Steps p.tables e below (s₁.setTop (entryFrame m #[(.int p0)] 2)) t := fun t k => k2 t (st3 _ k)
    obtain ⟨fs, hr, hrun, hended, hW, hsame⟩ := X3.leave (v := (some (.ref w_TRUE))) (fun h => by rw [Bd.returns] at h; cases h)
    refine ⟨_, _, k4 _ ?_, hrun, hended, _, _, rfl, ?_, ⟨_, rfl⟩, hW, hsame.mono (by decide) (by decide)⟩
    · exact retOut X3 hx Bd.returns rfl (Or.inr (Or.inr (Or.inr (Or.inr ⟨rfl, rfl, rfl⟩)))) (hb hby d1_14) hr
    · show Q1 Z p0 w_TRUE w_FALSE w_UNKNOWN r h0 n0 _ T3.heap _
      rw [e3]
      exact ⟨congrArg (fun z => some (Value.ref z)) (by rw [← hpk]; unfold own_pk; rw [if_pos hc8]), N0, rfl⟩
  · have k5 : ∀ t, Steps p.tables e below (s₁.setTop (mkF m 17 #[.val (.int p0), .val (.int ((p0 &&& (2147483647 : Int32)) % (3 : Int32)))] [(.int (1 : Int32)), (.int ((p0 &&& (2147483647 : Int32)) % (3 : Int32)))])) t → Steps p.tables e below (s₁.setTop (entryFrame m #[(.int p0)] 2)) t := fun t k => k1 t (by
        show Steps p.tables e below (s₁.setTop (mkF m 8 #[.val (.int p0), .val (.int ((p0 &&& (2147483647 : Int32)) % (3 : Int32)))] [(.int ((p0 &&& (2147483647 : Int32)) % (3 : Int32)))])) _
        refine XS.ifYes X0.here hx rfl (pc0 := 8) (pc' := 15) rfl (hb hby d1_8) rfl ((if0 _ _).trans (feq hc8).2) (by decide) (by decide) ?_
        show Steps p.tables e below (s₁.setTop (mkF m 15 #[.val (.int p0), .val (.int ((p0 &&& (2147483647 : Int32)) % (3 : Int32)))] [])) _
        refine XS.iloadN X0.here hx rfl (hb hby d1_15) rfl ?_
        show Steps p.tables e below (s₁.setTop (mkF m 16 #[.val (.int p0), .val (.int ((p0 &&& (2147483647 : Int32)) % (3 : Int32)))] [(.int ((p0 &&& (2147483647 : Int32)) % (3 : Int32)))])) _
        refine XS.iconst X0.here hx rfl (hb hby d1_16) ?_
        exact k)
    by_cases hc17 : ((p0 &&& (2147483647 : Int32)) % (3 : Int32)) = (1 : Int32)
    · have k6 : ∀ t, Steps p.tables e below (s₁.setTop (mkF m 20 #[.val (.int p0), .val (.int ((p0 &&& (2147483647 : Int32)) % (3 : Int32)))] [])) t → Steps p.tables e below (s₁.setTop (entryFrame m #[(.int p0)] 2)) t := fun t k => k5 t (by
          show Steps p.tables e below (s₁.setTop (mkF m 17 #[.val (.int p0), .val (.int ((p0 &&& (2147483647 : Int32)) % (3 : Int32)))] [(.int (1 : Int32)), (.int ((p0 &&& (2147483647 : Int32)) % (3 : Int32)))])) _
          refine XS.icmpNo X0.here hx rfl (hb hby d1_17) rfl (teq hc17).2 ?_
          exact k)
      obtain ⟨T7, X7, e7, st7⟩ := getS2 X0 hx hZ hown (host := "") (Or.inl (hw _ (List.mem_of_getElem? (i := 19) rfl))) Via.refl e0 S_FALSE (g := (mkF m 20 #[.val (.int p0), .val (.int ((p0 &&& (2147483647 : Int32)) % (3 : Int32)))] [])) rfl (hb hby d1_20)
      have k8 : ∀ t, Steps p.tables e below (T7.setTop (mkF m 23 #[.val (.int p0), .val (.int ((p0 &&& (2147483647 : Int32)) % (3 : Int32)))] [(.ref w_FALSE)])) t → Steps p.tables e below (s₁.setTop (entryFrame m #[(.int p0)] 2)) t := fun t k => k6 t (st7 _ k)
      obtain ⟨fs, hr, hrun, hended, hW, hsame⟩ := X7.leave (v := (some (.ref w_FALSE))) (fun h => by rw [Bd.returns] at h; cases h)
      refine ⟨_, _, k8 _ ?_, hrun, hended, _, _, rfl, ?_, ⟨_, rfl⟩, hW, hsame.mono (by decide) (by decide)⟩
      · exact retOut X7 hx Bd.returns rfl (Or.inr (Or.inr (Or.inr (Or.inr ⟨rfl, rfl, rfl⟩)))) (hb hby d1_23) hr
      · show Q1 Z p0 w_TRUE w_FALSE w_UNKNOWN r h0 n0 _ T7.heap _
        rw [e7]
        exact ⟨congrArg (fun z => some (Value.ref z)) (by rw [← hpk]; unfold own_pk; rw [if_neg hc8, if_pos hc17]), N0, rfl⟩
    · have k9 : ∀ t, Steps p.tables e below (s₁.setTop (mkF m 24 #[.val (.int p0), .val (.int ((p0 &&& (2147483647 : Int32)) % (3 : Int32)))] [])) t → Steps p.tables e below (s₁.setTop (entryFrame m #[(.int p0)] 2)) t := fun t k => k5 t (by
          show Steps p.tables e below (s₁.setTop (mkF m 17 #[.val (.int p0), .val (.int ((p0 &&& (2147483647 : Int32)) % (3 : Int32)))] [(.int (1 : Int32)), (.int ((p0 &&& (2147483647 : Int32)) % (3 : Int32)))])) _
          refine XS.icmpYes X0.here hx rfl (pc0 := 17) (pc' := 24) rfl (hb hby d1_17) rfl (feq hc17).2 (by decide) (by decide) ?_
          exact k)
      obtain ⟨T10, X10, e10, st10⟩ := getS2 X0 hx hZ hown (host := "") (Or.inl (hw _ (List.mem_of_getElem? (i := 20) rfl))) Via.refl e0 S_UNKNOWN (g := (mkF m 24 #[.val (.int p0), .val (.int ((p0 &&& (2147483647 : Int32)) % (3 : Int32)))] [])) rfl (hb hby d1_24)
      have k11 : ∀ t, Steps p.tables e below (T10.setTop (mkF m 27 #[.val (.int p0), .val (.int ((p0 &&& (2147483647 : Int32)) % (3 : Int32)))] [(.ref w_UNKNOWN)])) t → Steps p.tables e below (s₁.setTop (entryFrame m #[(.int p0)] 2)) t := fun t k => k9 t (st10 _ k)
      obtain ⟨fs, hr, hrun, hended, hW, hsame⟩ := X10.leave (v := (some (.ref w_UNKNOWN))) (fun h => by rw [Bd.returns] at h; cases h)
      refine ⟨_, _, k11 _ ?_, hrun, hended, _, _, rfl, ?_, ⟨_, rfl⟩, hW, hsame.mono (by decide) (by decide)⟩
      · exact retOut X10 hx Bd.returns rfl (Or.inr (Or.inr (Or.inr (Or.inr ⟨rfl, rfl, rfl⟩)))) (hb hby d1_27) hr
      · show Q1 Z p0 w_TRUE w_FALSE w_UNKNOWN r h0 n0 _ T10.heap _
        rw [e10]
        exact ⟨congrArg (fun z => some (Value.ref z)) (by rw [← hpk]; unfold own_pk; rw [if_neg hc8, if_neg hc17]), N0, rfl⟩
theorem d2_0 : decode prog_31_method_6_code 0 = .ok (.aload_n 0, 1) := by decide +kernel
theorem d2_1 : decode prog_31_method_6_code 1 = .ok (.getstatic 7, 3) := by decide +kernel
theorem d2_4 : decode prog_31_method_6_code 4 = .ok (.if_acmp .eq 10, 3) := by decide +kernel
theorem d2_7 : decode prog_31_method_6_code 7 = .ok (.aload_n 1, 1) := by decide +kernel
theorem d2_8 : decode prog_31_method_6_code 8 = .ok (.getstatic 7, 3) := by decide +kernel
theorem d2_11 : decode prog_31_method_6_code 11 = .ok (.if_acmp .ne 10, 3) := by decide +kernel
theorem d2_14 : decode prog_31_method_6_code 14 = .ok (.getstatic 7, 3) := by decide +kernel
theorem d2_17 : decode prog_31_method_6_code 17 = .ok (.astore_n 2, 1) := by decide +kernel
theorem d2_18 : decode prog_31_method_6_code 18 = .ok (.goto 28, 3) := by decide +kernel
theorem d2_21 : decode prog_31_method_6_code 21 = .ok (.aload_n 0, 1) := by decide +kernel
theorem d2_22 : decode prog_31_method_6_code 22 = .ok (.getstatic 3, 3) := by decide +kernel
theorem d2_25 : decode prog_31_method_6_code 25 = .ok (.if_acmp .ne 17, 3) := by decide +kernel
theorem d2_28 : decode prog_31_method_6_code 28 = .ok (.aload_n 1, 1) := by decide +kernel
theorem d2_29 : decode prog_31_method_6_code 29 = .ok (.getstatic 3, 3) := by decide +kernel
theorem d2_32 : decode prog_31_method_6_code 32 = .ok (.if_acmp .ne 10, 3) := by decide +kernel
theorem d2_35 : decode prog_31_method_6_code 35 = .ok (.getstatic 3, 3) := by decide +kernel
theorem d2_38 : decode prog_31_method_6_code 38 = .ok (.astore_n 2, 1) := by decide +kernel
theorem d2_39 : decode prog_31_method_6_code 39 = .ok (.goto 7, 3) := by decide +kernel
theorem d2_42 : decode prog_31_method_6_code 42 = .ok (.getstatic 10, 3) := by decide +kernel
theorem d2_45 : decode prog_31_method_6_code 45 = .ok (.astore_n 2, 1) := by decide +kernel
theorem d2_46 : decode prog_31_method_6_code 46 = .ok (.aload_n 2, 1) := by decide +kernel
theorem d2_47 : decode prog_31_method_6_code 47 = .ok (.areturn, 1) := by decide +kernel
theorem ef_2 (m : MethodId) (r0 : Addr) (r1 : Addr) : entryFrame m #[(.ref r0), (.ref r1)] 3 = mkF m 0 #[.val (.ref r0), .val (.ref r1), .unset] [] := by first | (simp [entryFrame, mkF, argsToLocals, Value.category]; done) | rfl
theorem pn_1 : plainName "com/example/cimber/cimber/query/Truth" = true := by first | (simp [plainName, overriddenIn]; done) | decide +kernel
def Q2 (Z : State) (r0 : Addr) (r1 : Addr) (w_TRUE : Addr) (w_FALSE : Addr) (w_UNKNOWN : Addr) (r : Addr) (h0 : Heap) (n0 : Nat) (v : Option Value) (h : Heap) (L : List Loc) : Prop := v = some (.ref r) ∧ Fr n0 L ∧ h = h0
set_option maxRecDepth 65536 in
set_option maxHeartbeats 40000000 in
theorem rm2 (l : Launch) (Z : State) (a0 : Array Value) (hw : ∀ d ∈ tables_1, d.before a0 Z = true) (ws : List Jvm.Cond) (r0 : Addr) (r1 : Addr) (w_TRUE : Addr) (w_FALSE : Addr) (w_UNKNOWN : Addr) (r : Addr) (h0 : Heap) (n0 : Nat) (Z0 : n0 ≤ h0.size) (S_TRUE : Sta Z h0 "com/example/cimber/cimber/query/Truth" "TRUE" "Lcom/example/cimber/cimber/query/Truth;" (.ref w_TRUE)) (S_FALSE : Sta Z h0 "com/example/cimber/cimber/query/Truth" "FALSE" "Lcom/example/cimber/cimber/query/Truth;" (.ref w_FALSE)) (S_UNKNOWN : Sta Z h0 "com/example/cimber/cimber/query/Truth" "UNKNOWN" "Lcom/example/cimber/cimber/query/Truth;" (.ref w_UNKNOWN)) (hand : own_and w_TRUE w_FALSE w_UNKNOWN r0 r1 = r) :
    MetFree l (⟨"com/example/cimber/cimber/query/Truth", "and", "(Lcom/example/cimber/cimber/query/Truth;)Lcom/example/cimber/cimber/query/Truth;"⟩ : MethodName) (head1 (Jvm.Cond.code (⟨"com/example/cimber/cimber/query/Truth", "and", "(Lcom/example/cimber/cimber/query/Truth;)Lcom/example/cimber/cimber/query/Truth;"⟩ : MethodName) prog_31_method_6_code 3 (some (.object "com/example/cimber/cimber/query/Truth")) :: ws) ({ frames := 0, cells := 0, slots := 0, locals := 0 } : Room)) (fun a U => a = #[(.ref r0), (.ref r1)] ∧ Z.Warmed39 U.vm ∧ U.heap = h0) (fun _ _ _ _ _ => True) (fun _ U o U' => ∃ v L, o = .returned v ∧ Q2 Z r0 r1 w_TRUE w_FALSE w_UNKNOWN r h0 n0 v U'.heap L ∧ FrameEnd U o U' L ({ frames := 0, cells := 0, slots := 0, locals := 0 } : Room).cells ({ frames := 0, cells := 0, slots := 0, locals := 0 } : Room).slots) := by
  refine MetFree.of_bodySF (plainFor_of_name pn_1) hisR ?_
  intro p e s m args below meth c s₁ Bd hml0 hP hK
  obtain ⟨rfl, hZ, hh⟩ := hP
  have hx := Bd.exec
  have hby := Bd.bytes
  have hml : c.maxLocals = 3 := hml0
  have hown : s.vm.findClass "com/example/cimber/cimber/query/Truth" = some m.cls := findClass_of_methodNamed Bd.named
  have hnm := (name_of_methodNamed Bd.named Bd.method).1
  have X0 : Stand p l e ({ frames := 0, cells := 0, slots := 0, locals := 0 } : Room) s m #[(.ref r0), (.ref r1)] below meth c s₁ [] 0 0 := Stand.of_body Bd
  have e0 : s₁.heap = h0 := by rw [← hh, Bd.state]; rfl
  have N0 := Fr.nil n0
  have k0 : ∀ t, Steps p.tables e below (s₁.setTop (mkF m 0 #[.val (.ref r0), .val (.ref r1), .unset] [])) t → Steps p.tables e below (s₁.setTop (entryFrame m #[(.ref r0), (.ref r1)] 3)) t := fun t k => castTop (ef_2 m r0 r1) k
  have k1 : ∀ t, Steps p.tables e below (s₁.setTop (mkF m 1 #[.val (.ref r0), .val (.ref r1), .unset] [(.ref r0)])) t → Steps p.tables e below (s₁.setTop (entryFrame m #[(.ref r0), (.ref r1)] 3)) t := fun t k => k0 t (by
      show Steps p.tables e below (s₁.setTop (mkF m 0 #[.val (.ref r0), .val (.ref r1), .unset] [])) _
      refine XS.aloadN X0.here hx rfl (hb hby d2_0) rfl rfl ?_
      exact k)
  obtain ⟨T2, X2, e2, st2⟩ := getS2 X0 hx hZ hown (host := "") (Or.inl (hw _ (List.mem_of_getElem? (i := 13) rfl))) Via.refl e0 S_FALSE (g := (mkF m 1 #[.val (.ref r0), .val (.ref r1), .unset] [(.ref r0)])) rfl (hb hby d2_1)
  have k3 : ∀ t, Steps p.tables e below (T2.setTop (mkF m 4 #[.val (.ref r0), .val (.ref r1), .unset] [(.ref w_FALSE), (.ref r0)])) t → Steps p.tables e below (s₁.setTop (entryFrame m #[(.ref r0), (.ref r1)] 3)) t := fun t k => k1 t (st2 _ k)
  by_cases ha4 : r0 = w_FALSE
  · have k4 : ∀ t, Steps p.tables e below (T2.setTop (mkF m 14 #[.val (.ref r0), .val (.ref r1), .unset] [])) t → Steps p.tables e below (s₁.setTop (entryFrame m #[(.ref r0), (.ref r1)] 3)) t := fun t k => k3 t (by
        show Steps p.tables e below (T2.setTop (mkF m 4 #[.val (.ref r0), .val (.ref r1), .unset] [(.ref w_FALSE), (.ref r0)])) _
        refine Jvm.RoadKit.acmp (g := (mkF m 4 #[.val (.ref r0), .val (.ref r1), .unset] [(.ref w_FALSE), (.ref r0)])) X2 hx rfl rfl rfl (pc0 := 4) (pc' := 14) (same := true) rfl (hb hby d2_4) rfl (decide_eq_true (congrArg Value.ref ha4)) (by decide) (by decide) ?_
        exact k)
    obtain ⟨T5, X5, e5, st5⟩ := getS2 X2 hx hZ hown (host := "") (Or.inl (hw _ (List.mem_of_getElem? (i := 13) rfl))) Via.refl e2 S_FALSE (g := (mkF m 14 #[.val (.ref r0), .val (.ref r1), .unset] [])) rfl (hb hby d2_14)
    have k6 : ∀ t, Steps p.tables e below (T5.setTop (mkF m 17 #[.val (.ref r0), .val (.ref r1), .unset] [(.ref w_FALSE)])) t → Steps p.tables e below (s₁.setTop (entryFrame m #[(.ref r0), (.ref r1)] 3)) t := fun t k => k4 t (st5 _ k)
    have k7 : ∀ t, Steps p.tables e below (T5.setTop (mkF m 47 #[.val (.ref r0), .val (.ref r1), .val (.ref w_FALSE)] [(.ref w_FALSE)])) t → Steps p.tables e below (s₁.setTop (entryFrame m #[(.ref r0), (.ref r1)] 3)) t := fun t k => k6 t (by
        show Steps p.tables e below (T5.setTop (mkF m 17 #[.val (.ref r0), .val (.ref r1), .unset] [(.ref w_FALSE)])) _
        refine XS.astoreN X5.here hx rfl (hb hby d2_17) rfl rfl (l' := #[.val (.ref r0), .val (.ref r1), .val (.ref w_FALSE)]) rfl ?_
        show Steps p.tables e below (T5.setTop (mkF m 18 #[.val (.ref r0), .val (.ref r1), .val (.ref w_FALSE)] [])) _
        refine XS.goto X5.here hx rfl (pc0 := 18) (pc' := 46) rfl (hb hby d2_18) (by decide) (by decide) ?_
        show Steps p.tables e below (T5.setTop (mkF m 46 #[.val (.ref r0), .val (.ref r1), .val (.ref w_FALSE)] [])) _
        refine XS.aloadN X5.here hx rfl (hb hby d2_46) rfl rfl ?_
        exact k)
    obtain ⟨fs, hr, hrun, hended, hW, hsame⟩ := X5.leave (v := (some (.ref w_FALSE))) (fun h => by rw [Bd.returns] at h; cases h)
    refine ⟨_, _, k7 _ ?_, hrun, hended, _, _, rfl, ?_, ⟨_, rfl⟩, hW, hsame.mono (by decide) (by decide)⟩
    · exact retOut X5 hx Bd.returns rfl (Or.inr (Or.inr (Or.inr (Or.inr ⟨rfl, rfl, rfl⟩)))) (hb hby d2_47) hr
    · show Q2 Z r0 r1 w_TRUE w_FALSE w_UNKNOWN r h0 n0 _ T5.heap _
      rw [e5]
      exact ⟨congrArg (fun z => some (Value.ref z)) (by rw [← hand]; unfold own_and; rw [if_pos ha4]), N0, rfl⟩
  · have k8 : ∀ t, Steps p.tables e below (T2.setTop (mkF m 8 #[.val (.ref r0), .val (.ref r1), .unset] [(.ref r1)])) t → Steps p.tables e below (s₁.setTop (entryFrame m #[(.ref r0), (.ref r1)] 3)) t := fun t k => k3 t (by
        show Steps p.tables e below (T2.setTop (mkF m 4 #[.val (.ref r0), .val (.ref r1), .unset] [(.ref w_FALSE), (.ref r0)])) _
        refine Jvm.RoadKit.acmp (g := (mkF m 4 #[.val (.ref r0), .val (.ref r1), .unset] [(.ref w_FALSE), (.ref r0)])) X2 hx rfl rfl rfl (pc0 := 4) (pc' := 7) (same := false) rfl (hb hby d2_4) rfl (decide_eq_false fun q => ha4 (Value.ref.inj q)) (by decide) (by decide) ?_
        show Steps p.tables e below (T2.setTop (mkF m 7 #[.val (.ref r0), .val (.ref r1), .unset] [])) _
        refine XS.aloadN X2.here hx rfl (hb hby d2_7) rfl rfl ?_
        exact k)
    obtain ⟨T9, X9, e9, st9⟩ := getS2 X2 hx hZ hown (host := "") (Or.inl (hw _ (List.mem_of_getElem? (i := 13) rfl))) Via.refl e2 S_FALSE (g := (mkF m 8 #[.val (.ref r0), .val (.ref r1), .unset] [(.ref r1)])) rfl (hb hby d2_8)
    have k10 : ∀ t, Steps p.tables e below (T9.setTop (mkF m 11 #[.val (.ref r0), .val (.ref r1), .unset] [(.ref w_FALSE), (.ref r1)])) t → Steps p.tables e below (s₁.setTop (entryFrame m #[(.ref r0), (.ref r1)] 3)) t := fun t k => k8 t (st9 _ k)
    by_cases ha11 : r1 = w_FALSE
    · have k11 : ∀ t, Steps p.tables e below (T9.setTop (mkF m 14 #[.val (.ref r0), .val (.ref r1), .unset] [])) t → Steps p.tables e below (s₁.setTop (entryFrame m #[(.ref r0), (.ref r1)] 3)) t := fun t k => k10 t (by
          show Steps p.tables e below (T9.setTop (mkF m 11 #[.val (.ref r0), .val (.ref r1), .unset] [(.ref w_FALSE), (.ref r1)])) _
          refine Jvm.RoadKit.acmp (g := (mkF m 11 #[.val (.ref r0), .val (.ref r1), .unset] [(.ref w_FALSE), (.ref r1)])) X9 hx rfl rfl rfl (pc0 := 11) (pc' := 14) (same := true) rfl (hb hby d2_11) rfl (decide_eq_true (congrArg Value.ref ha11)) (by decide) (by decide) ?_
          exact k)
      obtain ⟨T12, X12, e12, st12⟩ := getS2 X9 hx hZ hown (host := "") (Or.inl (hw _ (List.mem_of_getElem? (i := 13) rfl))) Via.refl e9 S_FALSE (g := (mkF m 14 #[.val (.ref r0), .val (.ref r1), .unset] [])) rfl (hb hby d2_14)
      have k13 : ∀ t, Steps p.tables e below (T12.setTop (mkF m 17 #[.val (.ref r0), .val (.ref r1), .unset] [(.ref w_FALSE)])) t → Steps p.tables e below (s₁.setTop (entryFrame m #[(.ref r0), (.ref r1)] 3)) t := fun t k => k11 t (st12 _ k)
      have k14 : ∀ t, Steps p.tables e below (T12.setTop (mkF m 47 #[.val (.ref r0), .val (.ref r1), .val (.ref w_FALSE)] [(.ref w_FALSE)])) t → Steps p.tables e below (s₁.setTop (entryFrame m #[(.ref r0), (.ref r1)] 3)) t := fun t k => k13 t (by
          show Steps p.tables e below (T12.setTop (mkF m 17 #[.val (.ref r0), .val (.ref r1), .unset] [(.ref w_FALSE)])) _
          refine XS.astoreN X12.here hx rfl (hb hby d2_17) rfl rfl (l' := #[.val (.ref r0), .val (.ref r1), .val (.ref w_FALSE)]) rfl ?_
          show Steps p.tables e below (T12.setTop (mkF m 18 #[.val (.ref r0), .val (.ref r1), .val (.ref w_FALSE)] [])) _
          refine XS.goto X12.here hx rfl (pc0 := 18) (pc' := 46) rfl (hb hby d2_18) (by decide) (by decide) ?_
          show Steps p.tables e below (T12.setTop (mkF m 46 #[.val (.ref r0), .val (.ref r1), .val (.ref w_FALSE)] [])) _
          refine XS.aloadN X12.here hx rfl (hb hby d2_46) rfl rfl ?_
          exact k)
      obtain ⟨fs, hr, hrun, hended, hW, hsame⟩ := X12.leave (v := (some (.ref w_FALSE))) (fun h => by rw [Bd.returns] at h; cases h)
      refine ⟨_, _, k14 _ ?_, hrun, hended, _, _, rfl, ?_, ⟨_, rfl⟩, hW, hsame.mono (by decide) (by decide)⟩
      · exact retOut X12 hx Bd.returns rfl (Or.inr (Or.inr (Or.inr (Or.inr ⟨rfl, rfl, rfl⟩)))) (hb hby d2_47) hr
      · show Q2 Z r0 r1 w_TRUE w_FALSE w_UNKNOWN r h0 n0 _ T12.heap _
        rw [e12]
        exact ⟨congrArg (fun z => some (Value.ref z)) (by rw [← hand]; unfold own_and; rw [if_neg ha4, if_pos ha11]), N0, rfl⟩
    · have k15 : ∀ t, Steps p.tables e below (T9.setTop (mkF m 22 #[.val (.ref r0), .val (.ref r1), .unset] [(.ref r0)])) t → Steps p.tables e below (s₁.setTop (entryFrame m #[(.ref r0), (.ref r1)] 3)) t := fun t k => k10 t (by
          show Steps p.tables e below (T9.setTop (mkF m 11 #[.val (.ref r0), .val (.ref r1), .unset] [(.ref w_FALSE), (.ref r1)])) _
          refine Jvm.RoadKit.acmp (g := (mkF m 11 #[.val (.ref r0), .val (.ref r1), .unset] [(.ref w_FALSE), (.ref r1)])) X9 hx rfl rfl rfl (pc0 := 11) (pc' := 21) (same := false) rfl (hb hby d2_11) rfl (decide_eq_false fun q => ha11 (Value.ref.inj q)) (by decide) (by decide) ?_
          show Steps p.tables e below (T9.setTop (mkF m 21 #[.val (.ref r0), .val (.ref r1), .unset] [])) _
          refine XS.aloadN X9.here hx rfl (hb hby d2_21) rfl rfl ?_
          exact k)
      obtain ⟨T16, X16, e16, st16⟩ := getS2 X9 hx hZ hown (host := "") (Or.inl (hw _ (List.mem_of_getElem? (i := 15) rfl))) Via.refl e9 S_TRUE (g := (mkF m 22 #[.val (.ref r0), .val (.ref r1), .unset] [(.ref r0)])) rfl (hb hby d2_22)
      have k17 : ∀ t, Steps p.tables e below (T16.setTop (mkF m 25 #[.val (.ref r0), .val (.ref r1), .unset] [(.ref w_TRUE), (.ref r0)])) t → Steps p.tables e below (s₁.setTop (entryFrame m #[(.ref r0), (.ref r1)] 3)) t := fun t k => k15 t (st16 _ k)
      by_cases ha25 : r0 = w_TRUE
      · have k18 : ∀ t, Steps p.tables e below (T16.setTop (mkF m 29 #[.val (.ref r0), .val (.ref r1), .unset] [(.ref r1)])) t → Steps p.tables e below (s₁.setTop (entryFrame m #[(.ref r0), (.ref r1)] 3)) t := fun t k => k17 t (by
            show Steps p.tables e below (T16.setTop (mkF m 25 #[.val (.ref r0), .val (.ref r1), .unset] [(.ref w_TRUE), (.ref r0)])) _
            refine Jvm.RoadKit.acmp (g := (mkF m 25 #[.val (.ref r0), .val (.ref r1), .unset] [(.ref w_TRUE), (.ref r0)])) X16 hx rfl rfl rfl (pc0 := 25) (pc' := 28) (same := true) rfl (hb hby d2_25) rfl (decide_eq_true (congrArg Value.ref ha25)) (by decide) (by decide) ?_
            show Steps p.tables e below (T16.setTop (mkF m 28 #[.val (.ref r0), .val (.ref r1), .unset] [])) _
            refine XS.aloadN X16.here hx rfl (hb hby d2_28) rfl rfl ?_
            exact k)
        obtain ⟨T19, X19, e19, st19⟩ := getS2 X16 hx hZ hown (host := "") (Or.inl (hw _ (List.mem_of_getElem? (i := 15) rfl))) Via.refl e16 S_TRUE (g := (mkF m 29 #[.val (.ref r0), .val (.ref r1), .unset] [(.ref r1)])) rfl (hb hby d2_29)
        have k20 : ∀ t, Steps p.tables e below (T19.setTop (mkF m 32 #[.val (.ref r0), .val (.ref r1), .unset] [(.ref w_TRUE), (.ref r1)])) t → Steps p.tables e below (s₁.setTop (entryFrame m #[(.ref r0), (.ref r1)] 3)) t := fun t k => k18 t (st19 _ k)
        by_cases ha32 : r1 = w_TRUE
        · have k21 : ∀ t, Steps p.tables e below (T19.setTop (mkF m 35 #[.val (.ref r0), .val (.ref r1), .unset] [])) t → Steps p.tables e below (s₁.setTop (entryFrame m #[(.ref r0), (.ref r1)] 3)) t := fun t k => k20 t (by
              show Steps p.tables e below (T19.setTop (mkF m 32 #[.val (.ref r0), .val (.ref r1), .unset] [(.ref w_TRUE), (.ref r1)])) _
              refine Jvm.RoadKit.acmp (g := (mkF m 32 #[.val (.ref r0), .val (.ref r1), .unset] [(.ref w_TRUE), (.ref r1)])) X19 hx rfl rfl rfl (pc0 := 32) (pc' := 35) (same := true) rfl (hb hby d2_32) rfl (decide_eq_true (congrArg Value.ref ha32)) (by decide) (by decide) ?_
              exact k)
          obtain ⟨T22, X22, e22, st22⟩ := getS2 X19 hx hZ hown (host := "") (Or.inl (hw _ (List.mem_of_getElem? (i := 15) rfl))) Via.refl e19 S_TRUE (g := (mkF m 35 #[.val (.ref r0), .val (.ref r1), .unset] [])) rfl (hb hby d2_35)
          have k23 : ∀ t, Steps p.tables e below (T22.setTop (mkF m 38 #[.val (.ref r0), .val (.ref r1), .unset] [(.ref w_TRUE)])) t → Steps p.tables e below (s₁.setTop (entryFrame m #[(.ref r0), (.ref r1)] 3)) t := fun t k => k21 t (st22 _ k)
          have k24 : ∀ t, Steps p.tables e below (T22.setTop (mkF m 47 #[.val (.ref r0), .val (.ref r1), .val (.ref w_TRUE)] [(.ref w_TRUE)])) t → Steps p.tables e below (s₁.setTop (entryFrame m #[(.ref r0), (.ref r1)] 3)) t := fun t k => k23 t (by
              show Steps p.tables e below (T22.setTop (mkF m 38 #[.val (.ref r0), .val (.ref r1), .unset] [(.ref w_TRUE)])) _
              refine XS.astoreN X22.here hx rfl (hb hby d2_38) rfl rfl (l' := #[.val (.ref r0), .val (.ref r1), .val (.ref w_TRUE)]) rfl ?_
              show Steps p.tables e below (T22.setTop (mkF m 39 #[.val (.ref r0), .val (.ref r1), .val (.ref w_TRUE)] [])) _
              refine XS.goto X22.here hx rfl (pc0 := 39) (pc' := 46) rfl (hb hby d2_39) (by decide) (by decide) ?_
              show Steps p.tables e below (T22.setTop (mkF m 46 #[.val (.ref r0), .val (.ref r1), .val (.ref w_TRUE)] [])) _
              refine XS.aloadN X22.here hx rfl (hb hby d2_46) rfl rfl ?_
              exact k)
          obtain ⟨fs, hr, hrun, hended, hW, hsame⟩ := X22.leave (v := (some (.ref w_TRUE))) (fun h => by rw [Bd.returns] at h; cases h)
          refine ⟨_, _, k24 _ ?_, hrun, hended, _, _, rfl, ?_, ⟨_, rfl⟩, hW, hsame.mono (by decide) (by decide)⟩
          · exact retOut X22 hx Bd.returns rfl (Or.inr (Or.inr (Or.inr (Or.inr ⟨rfl, rfl, rfl⟩)))) (hb hby d2_47) hr
          · show Q2 Z r0 r1 w_TRUE w_FALSE w_UNKNOWN r h0 n0 _ T22.heap _
            rw [e22]
            exact ⟨congrArg (fun z => some (Value.ref z)) (by rw [← hand]; unfold own_and; rw [if_neg ha4, if_neg ha11, if_pos ha25, if_pos ha32]), N0, rfl⟩
        · have k25 : ∀ t, Steps p.tables e below (T19.setTop (mkF m 42 #[.val (.ref r0), .val (.ref r1), .unset] [])) t → Steps p.tables e below (s₁.setTop (entryFrame m #[(.ref r0), (.ref r1)] 3)) t := fun t k => k20 t (by
              show Steps p.tables e below (T19.setTop (mkF m 32 #[.val (.ref r0), .val (.ref r1), .unset] [(.ref w_TRUE), (.ref r1)])) _
              refine Jvm.RoadKit.acmp (g := (mkF m 32 #[.val (.ref r0), .val (.ref r1), .unset] [(.ref w_TRUE), (.ref r1)])) X19 hx rfl rfl rfl (pc0 := 32) (pc' := 42) (same := false) rfl (hb hby d2_32) rfl (decide_eq_false fun q => ha32 (Value.ref.inj q)) (by decide) (by decide) ?_
              exact k)
          obtain ⟨T26, X26, e26, st26⟩ := getS2 X19 hx hZ hown (host := "") (Or.inl (hw _ (List.mem_of_getElem? (i := 26) rfl))) Via.refl e19 S_UNKNOWN (g := (mkF m 42 #[.val (.ref r0), .val (.ref r1), .unset] [])) rfl (hb hby d2_42)
          have k27 : ∀ t, Steps p.tables e below (T26.setTop (mkF m 45 #[.val (.ref r0), .val (.ref r1), .unset] [(.ref w_UNKNOWN)])) t → Steps p.tables e below (s₁.setTop (entryFrame m #[(.ref r0), (.ref r1)] 3)) t := fun t k => k25 t (st26 _ k)
          have k28 : ∀ t, Steps p.tables e below (T26.setTop (mkF m 47 #[.val (.ref r0), .val (.ref r1), .val (.ref w_UNKNOWN)] [(.ref w_UNKNOWN)])) t → Steps p.tables e below (s₁.setTop (entryFrame m #[(.ref r0), (.ref r1)] 3)) t := fun t k => k27 t (by
              show Steps p.tables e below (T26.setTop (mkF m 45 #[.val (.ref r0), .val (.ref r1), .unset] [(.ref w_UNKNOWN)])) _
              refine XS.astoreN X26.here hx rfl (hb hby d2_45) rfl rfl (l' := #[.val (.ref r0), .val (.ref r1), .val (.ref w_UNKNOWN)]) rfl ?_
              show Steps p.tables e below (T26.setTop (mkF m 46 #[.val (.ref r0), .val (.ref r1), .val (.ref w_UNKNOWN)] [])) _
              refine XS.aloadN X26.here hx rfl (hb hby d2_46) rfl rfl ?_
              exact k)
          obtain ⟨fs, hr, hrun, hended, hW, hsame⟩ := X26.leave (v := (some (.ref w_UNKNOWN))) (fun h => by rw [Bd.returns] at h; cases h)
          refine ⟨_, _, k28 _ ?_, hrun, hended, _, _, rfl, ?_, ⟨_, rfl⟩, hW, hsame.mono (by decide) (by decide)⟩
          · exact retOut X26 hx Bd.returns rfl (Or.inr (Or.inr (Or.inr (Or.inr ⟨rfl, rfl, rfl⟩)))) (hb hby d2_47) hr
          · show Q2 Z r0 r1 w_TRUE w_FALSE w_UNKNOWN r h0 n0 _ T26.heap _
            rw [e26]
            exact ⟨congrArg (fun z => some (Value.ref z)) (by rw [← hand]; unfold own_and; rw [if_neg ha4, if_neg ha11, if_pos ha25, if_neg ha32]), N0, rfl⟩
      · have k29 : ∀ t, Steps p.tables e below (T16.setTop (mkF m 42 #[.val (.ref r0), .val (.ref r1), .unset] [])) t → Steps p.tables e below (s₁.setTop (entryFrame m #[(.ref r0), (.ref r1)] 3)) t := fun t k => k17 t (by
            show Steps p.tables e below (T16.setTop (mkF m 25 #[.val (.ref r0), .val (.ref r1), .unset] [(.ref w_TRUE), (.ref r0)])) _
            refine Jvm.RoadKit.acmp (g := (mkF m 25 #[.val (.ref r0), .val (.ref r1), .unset] [(.ref w_TRUE), (.ref r0)])) X16 hx rfl rfl rfl (pc0 := 25) (pc' := 42) (same := false) rfl (hb hby d2_25) rfl (decide_eq_false fun q => ha25 (Value.ref.inj q)) (by decide) (by decide) ?_
            exact k)
        obtain ⟨T30, X30, e30, st30⟩ := getS2 X16 hx hZ hown (host := "") (Or.inl (hw _ (List.mem_of_getElem? (i := 26) rfl))) Via.refl e16 S_UNKNOWN (g := (mkF m 42 #[.val (.ref r0), .val (.ref r1), .unset] [])) rfl (hb hby d2_42)
        have k31 : ∀ t, Steps p.tables e below (T30.setTop (mkF m 45 #[.val (.ref r0), .val (.ref r1), .unset] [(.ref w_UNKNOWN)])) t → Steps p.tables e below (s₁.setTop (entryFrame m #[(.ref r0), (.ref r1)] 3)) t := fun t k => k29 t (st30 _ k)
        have k32 : ∀ t, Steps p.tables e below (T30.setTop (mkF m 47 #[.val (.ref r0), .val (.ref r1), .val (.ref w_UNKNOWN)] [(.ref w_UNKNOWN)])) t → Steps p.tables e below (s₁.setTop (entryFrame m #[(.ref r0), (.ref r1)] 3)) t := fun t k => k31 t (by
            show Steps p.tables e below (T30.setTop (mkF m 45 #[.val (.ref r0), .val (.ref r1), .unset] [(.ref w_UNKNOWN)])) _
            refine XS.astoreN X30.here hx rfl (hb hby d2_45) rfl rfl (l' := #[.val (.ref r0), .val (.ref r1), .val (.ref w_UNKNOWN)]) rfl ?_
            show Steps p.tables e below (T30.setTop (mkF m 46 #[.val (.ref r0), .val (.ref r1), .val (.ref w_UNKNOWN)] [])) _
            refine XS.aloadN X30.here hx rfl (hb hby d2_46) rfl rfl ?_
            exact k)
        obtain ⟨fs, hr, hrun, hended, hW, hsame⟩ := X30.leave (v := (some (.ref w_UNKNOWN))) (fun h => by rw [Bd.returns] at h; cases h)
        refine ⟨_, _, k32 _ ?_, hrun, hended, _, _, rfl, ?_, ⟨_, rfl⟩, hW, hsame.mono (by decide) (by decide)⟩
        · exact retOut X30 hx Bd.returns rfl (Or.inr (Or.inr (Or.inr (Or.inr ⟨rfl, rfl, rfl⟩)))) (hb hby d2_47) hr
        · show Q2 Z r0 r1 w_TRUE w_FALSE w_UNKNOWN r h0 n0 _ T30.heap _
          rw [e30]
          exact ⟨congrArg (fun z => some (Value.ref z)) (by rw [← hand]; unfold own_and; rw [if_neg ha4, if_neg ha11, if_neg ha25]), N0, rfl⟩
theorem d3_0 : decode method_3_code 0 = .ok (.aload_n 0, 1) := by decide +kernel
theorem d3_1 : decode method_3_code 1 = .ok (.getstatic 14, 3) := by decide +kernel
theorem d3_4 : decode method_3_code 4 = .ok (.if_acmp .ne 5, 3) := by decide +kernel
theorem d3_7 : decode method_3_code 7 = .ok (.iconst 0, 1) := by decide +kernel
theorem d3_8 : decode method_3_code 8 = .ok (.ireturn, 1) := by decide +kernel
theorem d3_9 : decode method_3_code 9 = .ok (.aload_n 0, 1) := by decide +kernel
theorem d3_10 : decode method_3_code 10 = .ok (.getstatic 17, 3) := by decide +kernel
theorem d3_13 : decode method_3_code 13 = .ok (.if_acmp .ne 5, 3) := by decide +kernel
theorem d3_16 : decode method_3_code 16 = .ok (.iconst 1, 1) := by decide +kernel
theorem d3_17 : decode method_3_code 17 = .ok (.ireturn, 1) := by decide +kernel
theorem d3_18 : decode method_3_code 18 = .ok (.aload_n 0, 1) := by decide +kernel
theorem d3_19 : decode method_3_code 19 = .ok (.getstatic 8, 3) := by decide +kernel
theorem d3_22 : decode method_3_code 22 = .ok (.if_acmp .ne 5, 3) := by decide +kernel
theorem d3_25 : decode method_3_code 25 = .ok (.iconst 2, 1) := by decide +kernel
theorem d3_26 : decode method_3_code 26 = .ok (.ireturn, 1) := by decide +kernel
theorem d3_27 : decode method_3_code 27 = .ok (.iconst (-1), 1) := by decide +kernel
theorem d3_28 : decode method_3_code 28 = .ok (.ireturn, 1) := by decide +kernel
theorem ef_3 (m : MethodId) (r0 : Addr) : entryFrame m #[(.ref r0)] 1 = mkF m 0 #[.val (.ref r0)] [] := by first | (simp [entryFrame, mkF, argsToLocals, Value.category]; done) | rfl
def Q3 (Z : State) (r0 : Addr) (w_TRUE : Addr) (w_FALSE : Addr) (w_UNKNOWN : Addr) (h0 : Heap) (n0 : Nat) (v : Option Value) (h : Heap) (L : List Loc) : Prop := v = some (.int (own_rank w_TRUE w_FALSE w_UNKNOWN r0)) ∧ Fr n0 L ∧ h = h0
set_option maxRecDepth 65536 in
set_option maxHeartbeats 40000000 in
theorem rm3 (l : Launch) (Z : State) (a0 : Array Value) (hw : ∀ d ∈ tables_1, d.before a0 Z = true) (ws : List Jvm.Cond) (r0 : Addr) (w_TRUE : Addr) (w_FALSE : Addr) (w_UNKNOWN : Addr) (h0 : Heap) (n0 : Nat) (Z0 : n0 ≤ h0.size) (S_TRUE : Sta Z h0 "com/example/cimber/cimber/query/Truth" "TRUE" "Lcom/example/cimber/cimber/query/Truth;" (.ref w_TRUE)) (S_FALSE : Sta Z h0 "com/example/cimber/cimber/query/Truth" "FALSE" "Lcom/example/cimber/cimber/query/Truth;" (.ref w_FALSE)) (S_UNKNOWN : Sta Z h0 "com/example/cimber/cimber/query/Truth" "UNKNOWN" "Lcom/example/cimber/cimber/query/Truth;" (.ref w_UNKNOWN)) :
    MetFree l (⟨"com/example/cimber/cimber/query/TruthAndPinLaw", "rank", "(Lcom/example/cimber/cimber/query/Truth;)I"⟩ : MethodName) (head1 (Jvm.Cond.code (⟨"com/example/cimber/cimber/query/TruthAndPinLaw", "rank", "(Lcom/example/cimber/cimber/query/Truth;)I"⟩ : MethodName) method_3_code 1 (some .int) :: ws) ({ frames := 0, cells := 0, slots := 0, locals := 0 } : Room)) (fun a U => a = #[(.ref r0)] ∧ Z.Warmed39 U.vm ∧ U.heap = h0) (fun _ _ _ _ _ => True) (fun _ U o U' => ∃ v L, o = .returned v ∧ Q3 Z r0 w_TRUE w_FALSE w_UNKNOWN h0 n0 v U'.heap L ∧ FrameEnd U o U' L ({ frames := 0, cells := 0, slots := 0, locals := 0 } : Room).cells ({ frames := 0, cells := 0, slots := 0, locals := 0 } : Room).slots) := by
  refine MetFree.of_bodySF (plainFor_of_name pn_0) hisR ?_
  intro p e s m args below meth c s₁ Bd hml0 hP hK
  obtain ⟨rfl, hZ, hh⟩ := hP
  have hx := Bd.exec
  have hby := Bd.bytes
  have hml : c.maxLocals = 1 := hml0
  have hown : s.vm.findClass "com/example/cimber/cimber/query/TruthAndPinLaw" = some m.cls := findClass_of_methodNamed Bd.named
  have hnm := (name_of_methodNamed Bd.named Bd.method).1
  have X0 : Stand p l e ({ frames := 0, cells := 0, slots := 0, locals := 0 } : Room) s m #[(.ref r0)] below meth c s₁ [] 0 0 := Stand.of_body Bd
  have e0 : s₁.heap = h0 := by rw [← hh, Bd.state]; rfl
  have N0 := Fr.nil n0
  have k0 : ∀ t, Steps p.tables e below (s₁.setTop (mkF m 0 #[.val (.ref r0)] [])) t → Steps p.tables e below (s₁.setTop (entryFrame m #[(.ref r0)] 1)) t := fun t k => castTop (ef_3 m r0) k
  have k1 : ∀ t, Steps p.tables e below (s₁.setTop (mkF m 1 #[.val (.ref r0)] [(.ref r0)])) t → Steps p.tables e below (s₁.setTop (entryFrame m #[(.ref r0)] 1)) t := fun t k => k0 t (by
      show Steps p.tables e below (s₁.setTop (mkF m 0 #[.val (.ref r0)] [])) _
      refine XS.aloadN X0.here hx rfl (hb hby d3_0) rfl rfl ?_
      exact k)
  obtain ⟨T2, X2, e2, st2⟩ := getS2 X0 hx hZ hown (host := "") (Or.inl (hw _ (List.mem_of_getElem? (i := 19) rfl))) Via.refl e0 S_FALSE (g := (mkF m 1 #[.val (.ref r0)] [(.ref r0)])) rfl (hb hby d3_1)
  have k3 : ∀ t, Steps p.tables e below (T2.setTop (mkF m 4 #[.val (.ref r0)] [(.ref w_FALSE), (.ref r0)])) t → Steps p.tables e below (s₁.setTop (entryFrame m #[(.ref r0)] 1)) t := fun t k => k1 t (st2 _ k)
  by_cases ha4 : r0 = w_FALSE
  · have k4 : ∀ t, Steps p.tables e below (T2.setTop (mkF m 8 #[.val (.ref r0)] [(.int (0 : Int32))])) t → Steps p.tables e below (s₁.setTop (entryFrame m #[(.ref r0)] 1)) t := fun t k => k3 t (by
        show Steps p.tables e below (T2.setTop (mkF m 4 #[.val (.ref r0)] [(.ref w_FALSE), (.ref r0)])) _
        refine Jvm.RoadKit.acmp (g := (mkF m 4 #[.val (.ref r0)] [(.ref w_FALSE), (.ref r0)])) X2 hx rfl rfl rfl (pc0 := 4) (pc' := 7) (same := true) rfl (hb hby d3_4) rfl (decide_eq_true (congrArg Value.ref ha4)) (by decide) (by decide) ?_
        show Steps p.tables e below (T2.setTop (mkF m 7 #[.val (.ref r0)] [])) _
        refine XS.iconst X2.here hx rfl (hb hby d3_7) ?_
        exact k)
    obtain ⟨fs, hr, hrun, hended, hW, hsame⟩ := X2.leave (v := (some (.int (0 : Int32)))) (fun h => by rw [Bd.returns] at h; cases h)
    refine ⟨_, _, k4 _ ?_, hrun, hended, _, _, rfl, ?_, ⟨_, rfl⟩, hW, hsame.mono (by decide) (by decide)⟩
    · exact retOut X2 hx Bd.returns rfl (Or.inl ⟨rfl, Or.inl rfl, _, rfl⟩) (hb hby d3_8) hr
    · show Q3 Z r0 w_TRUE w_FALSE w_UNKNOWN h0 n0 _ T2.heap _
      rw [e2]
      exact ⟨congrArg (fun z => some (Value.int z)) (by unfold own_rank; rw [if_pos ha4]), N0, rfl⟩
  · have k5 : ∀ t, Steps p.tables e below (T2.setTop (mkF m 10 #[.val (.ref r0)] [(.ref r0)])) t → Steps p.tables e below (s₁.setTop (entryFrame m #[(.ref r0)] 1)) t := fun t k => k3 t (by
        show Steps p.tables e below (T2.setTop (mkF m 4 #[.val (.ref r0)] [(.ref w_FALSE), (.ref r0)])) _
        refine Jvm.RoadKit.acmp (g := (mkF m 4 #[.val (.ref r0)] [(.ref w_FALSE), (.ref r0)])) X2 hx rfl rfl rfl (pc0 := 4) (pc' := 9) (same := false) rfl (hb hby d3_4) rfl (decide_eq_false fun q => ha4 (Value.ref.inj q)) (by decide) (by decide) ?_
        show Steps p.tables e below (T2.setTop (mkF m 9 #[.val (.ref r0)] [])) _
        refine XS.aloadN X2.here hx rfl (hb hby d3_9) rfl rfl ?_
        exact k)
    obtain ⟨T6, X6, e6, st6⟩ := getS2 X2 hx hZ hown (host := "") (Or.inl (hw _ (List.mem_of_getElem? (i := 20) rfl))) Via.refl e2 S_UNKNOWN (g := (mkF m 10 #[.val (.ref r0)] [(.ref r0)])) rfl (hb hby d3_10)
    have k7 : ∀ t, Steps p.tables e below (T6.setTop (mkF m 13 #[.val (.ref r0)] [(.ref w_UNKNOWN), (.ref r0)])) t → Steps p.tables e below (s₁.setTop (entryFrame m #[(.ref r0)] 1)) t := fun t k => k5 t (st6 _ k)
    by_cases ha13 : r0 = w_UNKNOWN
    · have k8 : ∀ t, Steps p.tables e below (T6.setTop (mkF m 17 #[.val (.ref r0)] [(.int (1 : Int32))])) t → Steps p.tables e below (s₁.setTop (entryFrame m #[(.ref r0)] 1)) t := fun t k => k7 t (by
          show Steps p.tables e below (T6.setTop (mkF m 13 #[.val (.ref r0)] [(.ref w_UNKNOWN), (.ref r0)])) _
          refine Jvm.RoadKit.acmp (g := (mkF m 13 #[.val (.ref r0)] [(.ref w_UNKNOWN), (.ref r0)])) X6 hx rfl rfl rfl (pc0 := 13) (pc' := 16) (same := true) rfl (hb hby d3_13) rfl (decide_eq_true (congrArg Value.ref ha13)) (by decide) (by decide) ?_
          show Steps p.tables e below (T6.setTop (mkF m 16 #[.val (.ref r0)] [])) _
          refine XS.iconst X6.here hx rfl (hb hby d3_16) ?_
          exact k)
      obtain ⟨fs, hr, hrun, hended, hW, hsame⟩ := X6.leave (v := (some (.int (1 : Int32)))) (fun h => by rw [Bd.returns] at h; cases h)
      refine ⟨_, _, k8 _ ?_, hrun, hended, _, _, rfl, ?_, ⟨_, rfl⟩, hW, hsame.mono (by decide) (by decide)⟩
      · exact retOut X6 hx Bd.returns rfl (Or.inl ⟨rfl, Or.inl rfl, _, rfl⟩) (hb hby d3_17) hr
      · show Q3 Z r0 w_TRUE w_FALSE w_UNKNOWN h0 n0 _ T6.heap _
        rw [e6]
        exact ⟨congrArg (fun z => some (Value.int z)) (by unfold own_rank; rw [if_neg ha4, if_pos ha13]), N0, rfl⟩
    · have k9 : ∀ t, Steps p.tables e below (T6.setTop (mkF m 19 #[.val (.ref r0)] [(.ref r0)])) t → Steps p.tables e below (s₁.setTop (entryFrame m #[(.ref r0)] 1)) t := fun t k => k7 t (by
          show Steps p.tables e below (T6.setTop (mkF m 13 #[.val (.ref r0)] [(.ref w_UNKNOWN), (.ref r0)])) _
          refine Jvm.RoadKit.acmp (g := (mkF m 13 #[.val (.ref r0)] [(.ref w_UNKNOWN), (.ref r0)])) X6 hx rfl rfl rfl (pc0 := 13) (pc' := 18) (same := false) rfl (hb hby d3_13) rfl (decide_eq_false fun q => ha13 (Value.ref.inj q)) (by decide) (by decide) ?_
          show Steps p.tables e below (T6.setTop (mkF m 18 #[.val (.ref r0)] [])) _
          refine XS.aloadN X6.here hx rfl (hb hby d3_18) rfl rfl ?_
          exact k)
      obtain ⟨T10, X10, e10, st10⟩ := getS2 X6 hx hZ hown (host := "") (Or.inl (hw _ (List.mem_of_getElem? (i := 5) rfl))) Via.refl e6 S_TRUE (g := (mkF m 19 #[.val (.ref r0)] [(.ref r0)])) rfl (hb hby d3_19)
      have k11 : ∀ t, Steps p.tables e below (T10.setTop (mkF m 22 #[.val (.ref r0)] [(.ref w_TRUE), (.ref r0)])) t → Steps p.tables e below (s₁.setTop (entryFrame m #[(.ref r0)] 1)) t := fun t k => k9 t (st10 _ k)
      by_cases ha22 : r0 = w_TRUE
      · have k12 : ∀ t, Steps p.tables e below (T10.setTop (mkF m 26 #[.val (.ref r0)] [(.int (2 : Int32))])) t → Steps p.tables e below (s₁.setTop (entryFrame m #[(.ref r0)] 1)) t := fun t k => k11 t (by
            show Steps p.tables e below (T10.setTop (mkF m 22 #[.val (.ref r0)] [(.ref w_TRUE), (.ref r0)])) _
            refine Jvm.RoadKit.acmp (g := (mkF m 22 #[.val (.ref r0)] [(.ref w_TRUE), (.ref r0)])) X10 hx rfl rfl rfl (pc0 := 22) (pc' := 25) (same := true) rfl (hb hby d3_22) rfl (decide_eq_true (congrArg Value.ref ha22)) (by decide) (by decide) ?_
            show Steps p.tables e below (T10.setTop (mkF m 25 #[.val (.ref r0)] [])) _
            refine XS.iconst X10.here hx rfl (hb hby d3_25) ?_
            exact k)
        obtain ⟨fs, hr, hrun, hended, hW, hsame⟩ := X10.leave (v := (some (.int (2 : Int32)))) (fun h => by rw [Bd.returns] at h; cases h)
        refine ⟨_, _, k12 _ ?_, hrun, hended, _, _, rfl, ?_, ⟨_, rfl⟩, hW, hsame.mono (by decide) (by decide)⟩
        · exact retOut X10 hx Bd.returns rfl (Or.inl ⟨rfl, Or.inl rfl, _, rfl⟩) (hb hby d3_26) hr
        · show Q3 Z r0 w_TRUE w_FALSE w_UNKNOWN h0 n0 _ T10.heap _
          rw [e10]
          exact ⟨congrArg (fun z => some (Value.int z)) (by unfold own_rank; rw [if_neg ha4, if_neg ha13, if_pos ha22]), N0, rfl⟩
      · have k13 : ∀ t, Steps p.tables e below (T10.setTop (mkF m 28 #[.val (.ref r0)] [(.int (-1 : Int32))])) t → Steps p.tables e below (s₁.setTop (entryFrame m #[(.ref r0)] 1)) t := fun t k => k11 t (by
            show Steps p.tables e below (T10.setTop (mkF m 22 #[.val (.ref r0)] [(.ref w_TRUE), (.ref r0)])) _
            refine Jvm.RoadKit.acmp (g := (mkF m 22 #[.val (.ref r0)] [(.ref w_TRUE), (.ref r0)])) X10 hx rfl rfl rfl (pc0 := 22) (pc' := 27) (same := false) rfl (hb hby d3_22) rfl (decide_eq_false fun q => ha22 (Value.ref.inj q)) (by decide) (by decide) ?_
            show Steps p.tables e below (T10.setTop (mkF m 27 #[.val (.ref r0)] [])) _
            refine XS.iconst X10.here hx rfl (hb hby d3_27) ?_
            exact k)
        obtain ⟨fs, hr, hrun, hended, hW, hsame⟩ := X10.leave (v := (some (.int (-1 : Int32)))) (fun h => by rw [Bd.returns] at h; cases h)
        refine ⟨_, _, k13 _ ?_, hrun, hended, _, _, rfl, ?_, ⟨_, rfl⟩, hW, hsame.mono (by decide) (by decide)⟩
        · exact retOut X10 hx Bd.returns rfl (Or.inl ⟨rfl, Or.inl rfl, _, rfl⟩) (hb hby d3_28) hr
        · show Q3 Z r0 w_TRUE w_FALSE w_UNKNOWN h0 n0 _ T10.heap _
          rw [e10]
          exact ⟨congrArg (fun z => some (Value.int z)) (by unfold own_rank; rw [if_neg ha4, if_neg ha13, if_neg ha22]), N0, rfl⟩
theorem d4_0 : decode jdk_29_method_69_code 0 = .ok (.iload_n 0, 1) := by decide +kernel
theorem d4_1 : decode jdk_29_method_69_code 1 = .ok (.iload_n 1, 1) := by decide +kernel
theorem d4_2 : decode jdk_29_method_69_code 2 = .ok (.if_icmp .gt 7, 3) := by decide +kernel
theorem d4_5 : decode jdk_29_method_69_code 5 = .ok (.iload_n 0, 1) := by decide +kernel
theorem d4_6 : decode jdk_29_method_69_code 6 = .ok (.goto 4, 3) := by decide +kernel
theorem d4_9 : decode jdk_29_method_69_code 9 = .ok (.iload_n 1, 1) := by decide +kernel
theorem d4_10 : decode jdk_29_method_69_code 10 = .ok (.ireturn, 1) := by decide +kernel
theorem ef_4 (m : MethodId) (p0 : Int32) (p1 : Int32) : entryFrame m #[(.int p0), (.int p1)] 2 = mkF m 0 #[.val (.int p0), .val (.int p1)] [] := by first | (simp [entryFrame, mkF, argsToLocals, Value.category]; done) | rfl
def Q4 (Z : State) (p0 : Int32) (p1 : Int32) (h0 : Heap) (n0 : Nat) (v : Option Value) (h : Heap) (L : List Loc) : Prop := v = some (.int (own_min p0 p1)) ∧ Fr n0 L ∧ h = h0
set_option maxRecDepth 65536 in
set_option maxHeartbeats 40000000 in
theorem rm4 (l : Launch) (Z : State) (a0 : Array Value) (hw : ∀ d ∈ tables_1, d.before a0 Z = true) (ws : List Jvm.Cond) (p0 : Int32) (p1 : Int32) (h0 : Heap) (n0 : Nat) (Z0 : n0 ≤ h0.size) :
    MetFree l (⟨"java/lang/Math", "min", "(II)I"⟩ : MethodName) (head1 (Jvm.Cond.code (⟨"java/lang/Math", "min", "(II)I"⟩ : MethodName) jdk_29_method_69_code 2 (some .int) :: ws) ({ frames := 0, cells := 0, slots := 0, locals := 0 } : Room)) (fun a U => a = #[(.int p0), (.int p1)] ∧ Z.Warmed39 U.vm ∧ U.heap = h0) (fun _ _ _ _ _ => True) (fun _ U o U' => ∃ v L, o = .returned v ∧ Q4 Z p0 p1 h0 n0 v U'.heap L ∧ FrameEnd U o U' L ({ frames := 0, cells := 0, slots := 0, locals := 0 } : Room).cells ({ frames := 0, cells := 0, slots := 0, locals := 0 } : Room).slots) := by
  refine MetFree.of_bodySF (Jvm.Free.JP.mathPlain rfl (by decide +kernel)) hisR ?_
  intro p e s m args below meth c s₁ Bd hml0 hP hK
  obtain ⟨rfl, hZ, hh⟩ := hP
  have hx := Bd.exec
  have hby := Bd.bytes
  have hml : c.maxLocals = 2 := hml0
  have hown : s.vm.findClass "java/lang/Math" = some m.cls := findClass_of_methodNamed Bd.named
  have hnm := (name_of_methodNamed Bd.named Bd.method).1
  have X0 : Stand p l e ({ frames := 0, cells := 0, slots := 0, locals := 0 } : Room) s m #[(.int p0), (.int p1)] below meth c s₁ [] 0 0 := Stand.of_body Bd
  have e0 : s₁.heap = h0 := by rw [← hh, Bd.state]; rfl
  have N0 := Fr.nil n0
  have k0 : ∀ t, Steps p.tables e below (s₁.setTop (mkF m 0 #[.val (.int p0), .val (.int p1)] [])) t → Steps p.tables e below (s₁.setTop (entryFrame m #[(.int p0), (.int p1)] 2)) t := fun t k => castTop (ef_4 m p0 p1) k
  have k1 : ∀ t, Steps p.tables e below (s₁.setTop (mkF m 2 #[.val (.int p0), .val (.int p1)] [(.int p1), (.int p0)])) t → Steps p.tables e below (s₁.setTop (entryFrame m #[(.int p0), (.int p1)] 2)) t := fun t k => k0 t (by
      show Steps p.tables e below (s₁.setTop (mkF m 0 #[.val (.int p0), .val (.int p1)] [])) _
      refine XS.iloadN X0.here hx rfl (hb hby d4_0) rfl ?_
      show Steps p.tables e below (s₁.setTop (mkF m 1 #[.val (.int p0), .val (.int p1)] [(.int p0)])) _
      refine XS.iloadN X0.here hx rfl (hb hby d4_1) rfl ?_
      exact k)
  by_cases hc2 : p1 < p0
  · have k2 : ∀ t, Steps p.tables e below (s₁.setTop (mkF m 10 #[.val (.int p0), .val (.int p1)] [(.int p1)])) t → Steps p.tables e below (s₁.setTop (entryFrame m #[(.int p0), (.int p1)] 2)) t := fun t k => k1 t (by
        show Steps p.tables e below (s₁.setTop (mkF m 2 #[.val (.int p0), .val (.int p1)] [(.int p1), (.int p0)])) _
        refine XS.icmpYes X0.here hx rfl (pc0 := 2) (pc' := 9) rfl (hb hby d4_2) rfl (tlt hc2).2.2.1 (by decide) (by decide) ?_
        show Steps p.tables e below (s₁.setTop (mkF m 9 #[.val (.int p0), .val (.int p1)] [])) _
        refine XS.iloadN X0.here hx rfl (hb hby d4_9) rfl ?_
        exact k)
    obtain ⟨fs, hr, hrun, hended, hW, hsame⟩ := X0.leave (v := (some (.int p1))) (fun h => by rw [Bd.returns] at h; cases h)
    refine ⟨_, _, k2 _ ?_, hrun, hended, _, _, rfl, ?_, ⟨_, rfl⟩, hW, hsame.mono (by decide) (by decide)⟩
    · exact retOut X0 hx Bd.returns rfl (Or.inl ⟨rfl, Or.inl rfl, _, rfl⟩) (hb hby d4_10) hr
    · show Q4 Z p0 p1 h0 n0 _ s₁.heap _
      rw [e0]
      exact ⟨congrArg (fun z => some (Value.int z)) (by unfold own_min; rw [if_pos hc2]), N0, rfl⟩
  · have k3 : ∀ t, Steps p.tables e below (s₁.setTop (mkF m 10 #[.val (.int p0), .val (.int p1)] [(.int p0)])) t → Steps p.tables e below (s₁.setTop (entryFrame m #[(.int p0), (.int p1)] 2)) t := fun t k => k1 t (by
        show Steps p.tables e below (s₁.setTop (mkF m 2 #[.val (.int p0), .val (.int p1)] [(.int p1), (.int p0)])) _
        refine XS.icmpNo X0.here hx rfl (hb hby d4_2) rfl (flt hc2).2.2.1 ?_
        show Steps p.tables e below (s₁.setTop (mkF m 5 #[.val (.int p0), .val (.int p1)] [])) _
        refine XS.iloadN X0.here hx rfl (hb hby d4_5) rfl ?_
        show Steps p.tables e below (s₁.setTop (mkF m 6 #[.val (.int p0), .val (.int p1)] [(.int p0)])) _
        refine XS.goto X0.here hx rfl (pc0 := 6) (pc' := 10) rfl (hb hby d4_6) (by decide) (by decide) ?_
        exact k)
    obtain ⟨fs, hr, hrun, hended, hW, hsame⟩ := X0.leave (v := (some (.int p0))) (fun h => by rw [Bd.returns] at h; cases h)
    refine ⟨_, _, k3 _ ?_, hrun, hended, _, _, rfl, ?_, ⟨_, rfl⟩, hW, hsame.mono (by decide) (by decide)⟩
    · exact retOut X0 hx Bd.returns rfl (Or.inl ⟨rfl, Or.inl rfl, _, rfl⟩) (hb hby d4_10) hr
    · show Q4 Z p0 p1 h0 n0 _ s₁.heap _
      rw [e0]
      exact ⟨congrArg (fun z => some (Value.int z)) (by unfold own_min; rw [if_neg hc2]), N0, rfl⟩
theorem ef_0 (m : MethodId) (p0 : Int32) (p1 : Int32) : entryFrame m #[(.int p0), (.int p1)] maxLocals = mkF m 0 #[.val (.int p0), .val (.int p1), .unset, .unset, .unset, .unset] [] := by first | (simp [entryFrame, mkF, argsToLocals, Value.category, maxLocals]; done) | rfl
theorem pd_0 : parseMethodDescriptor "(I)Lcom/example/cimber/cimber/query/Truth;" = some ⟨[.int], some (.object "com/example/cimber/cimber/query/Truth")⟩ := by decide +kernel
theorem pd_1 : parseMethodDescriptor "(Lcom/example/cimber/cimber/query/Truth;)Lcom/example/cimber/cimber/query/Truth;" = some ⟨[(.object "com/example/cimber/cimber/query/Truth")], some (.object "com/example/cimber/cimber/query/Truth")⟩ := by decide +kernel
theorem pd_2 : parseMethodDescriptor "(Lcom/example/cimber/cimber/query/Truth;)I" = some ⟨[(.object "com/example/cimber/cimber/query/Truth")], some .int⟩ := by decide +kernel
theorem pd_3 : parseMethodDescriptor "(II)I" = some ⟨[.int, .int], some .int⟩ := by decide +kernel
def Q0 (Z : State) (p0 : Int32) (p1 : Int32) (w_TRUE : Addr) (w_FALSE : Addr) (w_UNKNOWN : Addr) (rx : Addr) (ry : Addr) (rr : Addr) (h0 : Heap) (n0 : Nat) (v : Option Value) (h : Heap) (L : List Loc) : Prop := v = some (.int (1 : Int32)) ∧ Fr n0 L
set_option maxRecDepth 65536 in
set_option maxHeartbeats 40000000 in
theorem rm0 (l : Launch) (Z : State) (a0 : Array Value) (hw : ∀ d ∈ tables_1, d.before a0 Z = true) (ws : List Jvm.Cond) (p0 : Int32) (p1 : Int32) (w_TRUE : Addr) (w_FALSE : Addr) (w_UNKNOWN : Addr) (rx : Addr) (ry : Addr) (rr : Addr) (h0 : Heap) (n0 : Nat) (Z0 : n0 ≤ h0.size) (S_TRUE : Sta Z h0 "com/example/cimber/cimber/query/Truth" "TRUE" "Lcom/example/cimber/cimber/query/Truth;" (.ref w_TRUE)) (S_FALSE : Sta Z h0 "com/example/cimber/cimber/query/Truth" "FALSE" "Lcom/example/cimber/cimber/query/Truth;" (.ref w_FALSE)) (S_UNKNOWN : Sta Z h0 "com/example/cimber/cimber/query/Truth" "UNKNOWN" "Lcom/example/cimber/cimber/query/Truth;" (.ref w_UNKNOWN)) (E_rx : Exa Z h0 rx "com/example/cimber/cimber/query/Truth") (hrx : own_pk w_TRUE w_FALSE w_UNKNOWN ((p0 &&& (2147483647 : Int32)) % (3 : Int32)) = rx) (hry : own_pk w_TRUE w_FALSE w_UNKNOWN ((p1 &&& (2147483647 : Int32)) % (3 : Int32)) = ry) (hrr : own_and w_TRUE w_FALSE w_UNKNOWN rx ry = rr) (hfin : own_rank w_TRUE w_FALSE w_UNKNOWN rr = own_min (own_rank w_TRUE w_FALSE w_UNKNOWN rx) (own_rank w_TRUE w_FALSE w_UNKNOWN ry)) :
    MetFree l x (head1 (Jvm.Cond.code x code maxLocals ret :: ws) room_1) (fun a U => a = #[(.int p0), (.int p1)] ∧ Z.Warmed39 U.vm ∧ U.heap = h0) (fun _ _ _ _ _ => True) (fun _ U o U' => ∃ v L, o = .returned v ∧ Q0 Z p0 p1 w_TRUE w_FALSE w_UNKNOWN rx ry rr h0 n0 v U'.heap L ∧ FrameEnd U o U' L 0 0) := by
  refine MetFree.of_bodySF (plainFor_of_name pn_0) hisR ?_
  intro p e s m args below meth c s₁ Bd hml0 hP hK
  obtain ⟨rfl, hZ, hh⟩ := hP
  have hx := Bd.exec
  have hby := Bd.bytes
  have hml : c.maxLocals = 6 := hml0
  have hown : s.vm.findClass "com/example/cimber/cimber/query/TruthAndPinLaw" = some m.cls := findClass_of_methodNamed Bd.named
  have hnm := (name_of_methodNamed Bd.named Bd.method).1
  have X0 : Stand p l e room_1 s m #[(.int p0), (.int p1)] below meth c s₁ [] 0 0 := Stand.of_body Bd
  have e0 : s₁.heap = h0 := by rw [← hh, Bd.state]; rfl
  have N0 := Fr.nil n0
  have k0 : ∀ t, Steps p.tables e below (s₁.setTop (mkF m 0 #[.val (.int p0), .val (.int p1), .unset, .unset, .unset, .unset] [])) t → Steps p.tables e below (s₁.setTop (entryFrame m #[(.int p0), (.int p1)] maxLocals)) t := fun t k => castTop (ef_0 m p0 p1) k
  have k1 : ∀ t, Steps p.tables e below (s₁.setTop (mkF m 1 #[.val (.int p0), .val (.int p1), .unset, .unset, .unset, .unset] [(.int p0)])) t → Steps p.tables e below (s₁.setTop (entryFrame m #[(.int p0), (.int p1)] maxLocals)) t := fun t k => k0 t (by
      show Steps p.tables e below (s₁.setTop (mkF m 0 #[.val (.int p0), .val (.int p1), .unset, .unset, .unset, .unset] [])) _
      refine XS.iloadN X0.here hx rfl (hb hby at_0) rfl ?_
      exact k)
  obtain ⟨_, _, ⟨T2, L2, kq2, n2⟩, -, X2, ⟨Lc2, hQ2, l2, y2, z2⟩, st2⟩ := Jvm.LawKit.callS X0 hx (y := (⟨"com/example/cimber/cimber/query/TruthAndPinLaw", "pick", "(I)Lcom/example/cimber/cimber/query/Truth;"⟩ : MethodName)) hown (mvT hZ (hw _ (List.mem_of_getElem? (i := 0) rfl))) (mvT hZ (hw _ (List.mem_of_getElem? (i := 1) rfl))) (mvT hZ (hw _ (List.mem_of_getElem? (i := 2) rfl))) (mvT hZ (hw _ (List.mem_of_getElem? (i := 3) rfl))) (by decide) (backOf (W := 0) (rm1 l Z a0 hw [] p0 w_TRUE w_FALSE w_UNKNOWN rx h0 n0 Z0 S_TRUE S_FALSE S_UNKNOWN hrx) hZ (hw _ (List.mem_of_getElem? (i := 3) rfl)) (hw _ (List.mem_of_getElem? (i := 2) rfl)) (by decide) (by decide)) (g := (mkF m 1 #[.val (.int p0), .val (.int p1), .unset, .unset, .unset, .unset] [(.int p0)])) rfl (by rw [hml]; rfl) (argsL := [(.int p0)]) (rest := []) (lenOf pd_0 rfl) rfl (by show 2 * 0 + _ ≤ _; exact Nat.le_of_eq rfl) (hb hby at_1) (fun _ _ => ⟨rfl, e0, (by decide : 0 + 0 ≤ _), (by decide : 0 + 0 ≤ _)⟩)
  dsimp only [Pt.U, Pt.locs, Pt.cells, Pt.slots] at X2 l2 y2 z2 st2 hQ2
  subst l2 y2 z2
  obtain ⟨rfl, N2q, e2⟩ := hQ2
  have N2 := Fr.app N0 N2q
  have k3 : ∀ t, Steps p.tables e below (T2.setTop (mkF m 4 #[.val (.int p0), .val (.int p1), .unset, .unset, .unset, .unset] [(.ref rx)])) t → Steps p.tables e below (s₁.setTop (entryFrame m #[(.int p0), (.int p1)] maxLocals)) t := fun t k => k1 t (st2 _ k)
  have k4 : ∀ t, Steps p.tables e below (T2.setTop (mkF m 6 #[.val (.int p0), .val (.int p1), .val (.ref rx), .unset, .unset, .unset] [(.int p1)])) t → Steps p.tables e below (s₁.setTop (entryFrame m #[(.int p0), (.int p1)] maxLocals)) t := fun t k => k3 t (by
      show Steps p.tables e below (T2.setTop (mkF m 4 #[.val (.int p0), .val (.int p1), .unset, .unset, .unset, .unset] [(.ref rx)])) _
      refine XS.astoreN X2.here hx rfl (hb hby at_4) rfl rfl (l' := #[.val (.int p0), .val (.int p1), .val (.ref rx), .unset, .unset, .unset]) rfl ?_
      show Steps p.tables e below (T2.setTop (mkF m 5 #[.val (.int p0), .val (.int p1), .val (.ref rx), .unset, .unset, .unset] [])) _
      refine XS.iloadN X2.here hx rfl (hb hby at_5) rfl ?_
      exact k)
  obtain ⟨_, _, ⟨T5, L5, kq5, n5⟩, -, X5, ⟨Lc5, hQ5, l5, y5, z5⟩, st5⟩ := Jvm.LawKit.callS X2 hx (y := (⟨"com/example/cimber/cimber/query/TruthAndPinLaw", "pick", "(I)Lcom/example/cimber/cimber/query/Truth;"⟩ : MethodName)) hown (mvT hZ (hw _ (List.mem_of_getElem? (i := 0) rfl))) (mvT hZ (hw _ (List.mem_of_getElem? (i := 1) rfl))) (mvT hZ (hw _ (List.mem_of_getElem? (i := 2) rfl))) (mvT hZ (hw _ (List.mem_of_getElem? (i := 3) rfl))) (by decide) (backOf (W := 0) (rm1 l Z a0 hw [] p1 w_TRUE w_FALSE w_UNKNOWN ry h0 n0 Z0 S_TRUE S_FALSE S_UNKNOWN hry) hZ (hw _ (List.mem_of_getElem? (i := 3) rfl)) (hw _ (List.mem_of_getElem? (i := 2) rfl)) (by decide) (by decide)) (g := (mkF m 6 #[.val (.int p0), .val (.int p1), .val (.ref rx), .unset, .unset, .unset] [(.int p1)])) rfl (by rw [hml]; rfl) (argsL := [(.int p1)]) (rest := []) (lenOf pd_0 rfl) rfl (by show 2 * 0 + _ ≤ _; exact Nat.le_of_eq rfl) (hb hby at_6) (fun _ _ => ⟨rfl, e2, (by decide : 0 + 0 ≤ _), (by decide : 0 + 0 ≤ _)⟩)
  dsimp only [Pt.U, Pt.locs, Pt.cells, Pt.slots] at X5 l5 y5 z5 st5 hQ5
  subst l5 y5 z5
  obtain ⟨rfl, N5q, e5⟩ := hQ5
  have N5 := Fr.app N2 N5q
  have k6 : ∀ t, Steps p.tables e below (T5.setTop (mkF m 9 #[.val (.int p0), .val (.int p1), .val (.ref rx), .unset, .unset, .unset] [(.ref ry)])) t → Steps p.tables e below (s₁.setTop (entryFrame m #[(.int p0), (.int p1)] maxLocals)) t := fun t k => k4 t (st5 _ k)
  have k7 : ∀ t, Steps p.tables e below (T5.setTop (mkF m 12 #[.val (.int p0), .val (.int p1), .val (.ref rx), .val (.ref ry), .unset, .unset] [(.ref ry), (.ref rx)])) t → Steps p.tables e below (s₁.setTop (entryFrame m #[(.int p0), (.int p1)] maxLocals)) t := fun t k => k6 t (by
      show Steps p.tables e below (T5.setTop (mkF m 9 #[.val (.int p0), .val (.int p1), .val (.ref rx), .unset, .unset, .unset] [(.ref ry)])) _
      refine XS.astoreN X5.here hx rfl (hb hby at_9) rfl rfl (l' := #[.val (.int p0), .val (.int p1), .val (.ref rx), .val (.ref ry), .unset, .unset]) rfl ?_
      show Steps p.tables e below (T5.setTop (mkF m 10 #[.val (.int p0), .val (.int p1), .val (.ref rx), .val (.ref ry), .unset, .unset] [])) _
      refine XS.aloadN X5.here hx rfl (hb hby at_10) rfl rfl ?_
      show Steps p.tables e below (T5.setTop (mkF m 11 #[.val (.int p0), .val (.int p1), .val (.ref rx), .val (.ref ry), .unset, .unset] [(.ref rx)])) _
      refine XS.aloadN X5.here hx rfl (hb hby at_11) rfl rfl ?_
      exact k)
  obtain ⟨cq8, kcq8, q8a, q8b, q8c⟩ := isOf hZ e5 E_rx
  obtain ⟨_, _, ⟨T8, L8, kq8, n8⟩, -, X8, ⟨Lc8, hQ8, l8, y8, z8⟩, st8⟩ := X5.virtualBack hx (y := (⟨"com/example/cimber/cimber/query/Truth", "and", "(Lcom/example/cimber/cimber/query/Truth;)Lcom/example/cimber/cimber/query/Truth;"⟩ : MethodName)) (z := (⟨"com/example/cimber/cimber/query/Truth", "and", "(Lcom/example/cimber/cimber/query/Truth;)Lcom/example/cimber/cimber/query/Truth;"⟩ : MethodName)) hown (mvT hZ (hw _ (List.mem_of_getElem? (i := 8) rfl))) (mvT hZ (hw _ (List.mem_of_getElem? (i := 9) rfl))) (notFace_of_selects (args := #[]) (mvT hZ (hw _ (List.mem_of_getElem? (i := 11) rfl)))) (mvT hZ (hw _ (List.mem_of_getElem? (i := 11) rfl))) (mvT hZ (hw _ (List.mem_of_getElem? (i := 10) rfl))) (by decide) (backOf (W := 0) (rm2 l Z a0 hw [] rx ry w_TRUE w_FALSE w_UNKNOWN rr h0 n0 Z0 S_TRUE S_FALSE S_UNKNOWN hrr) hZ (hw _ (List.mem_of_getElem? (i := 12) rfl)) (hw _ (List.mem_of_getElem? (i := 6) rfl)) (by decide) (by decide)) q8a q8c (g := (mkF m 12 #[.val (.int p0), .val (.int p1), .val (.ref rx), .val (.ref ry), .unset, .unset] [(.ref ry), (.ref rx)])) rfl (by rw [hml]; rfl) (Steps.refl _) (argsL := [(.ref ry)]) (rest := []) (lenOf pd_1 rfl) rfl (by show 2 * 0 + _ ≤ _; exact Nat.le_of_eq rfl) (hb hby at_12) (fun _ _ => ⟨rfl, e5, (by decide : 0 + 0 ≤ _), (by decide : 0 + 0 ≤ _)⟩)
  dsimp only [Pt.U, Pt.locs, Pt.cells, Pt.slots] at X8 l8 y8 z8 st8 hQ8
  subst l8 y8 z8
  obtain ⟨rfl, N8q, e8⟩ := hQ8
  have N8 := Fr.app N5 N8q
  have k9 : ∀ t, Steps p.tables e below (T8.setTop (mkF m 15 #[.val (.int p0), .val (.int p1), .val (.ref rx), .val (.ref ry), .unset, .unset] [(.ref rr)])) t → Steps p.tables e below (s₁.setTop (entryFrame m #[(.int p0), (.int p1)] maxLocals)) t := fun t k => k7 t (st8.trans k)
  have k10 : ∀ t, Steps p.tables e below (T8.setTop (mkF m 18 #[.val (.int p0), .val (.int p1), .val (.ref rx), .val (.ref ry), .val (.ref rr), .unset] [(.ref rx)])) t → Steps p.tables e below (s₁.setTop (entryFrame m #[(.int p0), (.int p1)] maxLocals)) t := fun t k => k9 t (by
      show Steps p.tables e below (T8.setTop (mkF m 15 #[.val (.int p0), .val (.int p1), .val (.ref rx), .val (.ref ry), .unset, .unset] [(.ref rr)])) _
      refine XS.astore X8.here hx rfl (hb hby at_15) rfl rfl (l' := #[.val (.int p0), .val (.int p1), .val (.ref rx), .val (.ref ry), .val (.ref rr), .unset]) rfl ?_
      show Steps p.tables e below (T8.setTop (mkF m 17 #[.val (.int p0), .val (.int p1), .val (.ref rx), .val (.ref ry), .val (.ref rr), .unset] [])) _
      refine XS.aloadN X8.here hx rfl (hb hby at_17) rfl rfl ?_
      exact k)
  obtain ⟨_, _, ⟨T11, L11, kq11, n11⟩, -, X11, ⟨Lc11, hQ11, l11, y11, z11⟩, st11⟩ := Jvm.LawKit.callS X8 hx (y := (⟨"com/example/cimber/cimber/query/TruthAndPinLaw", "rank", "(Lcom/example/cimber/cimber/query/Truth;)I"⟩ : MethodName)) hown (mvT hZ (hw _ (List.mem_of_getElem? (i := 16) rfl))) (mvT hZ (hw _ (List.mem_of_getElem? (i := 17) rfl))) (mvT hZ (hw _ (List.mem_of_getElem? (i := 2) rfl))) (mvT hZ (hw _ (List.mem_of_getElem? (i := 18) rfl))) (by decide) (backOf (W := 0) (rm3 l Z a0 hw [] rx w_TRUE w_FALSE w_UNKNOWN h0 n0 Z0 S_TRUE S_FALSE S_UNKNOWN) hZ (hw _ (List.mem_of_getElem? (i := 18) rfl)) (hw _ (List.mem_of_getElem? (i := 2) rfl)) (by decide) (by decide)) (g := (mkF m 18 #[.val (.int p0), .val (.int p1), .val (.ref rx), .val (.ref ry), .val (.ref rr), .unset] [(.ref rx)])) rfl (by rw [hml]; rfl) (argsL := [(.ref rx)]) (rest := []) (lenOf pd_2 rfl) rfl (by show 2 * 0 + _ ≤ _; exact Nat.le_of_eq rfl) (hb hby at_18) (fun _ _ => ⟨rfl, e8, (by decide : 0 + 0 ≤ _), (by decide : 0 + 0 ≤ _)⟩)
  dsimp only [Pt.U, Pt.locs, Pt.cells, Pt.slots] at X11 l11 y11 z11 st11 hQ11
  subst l11 y11 z11
  obtain ⟨rfl, N11q, e11⟩ := hQ11
  have N11 := Fr.app N8 N11q
  have k12 : ∀ t, Steps p.tables e below (T11.setTop (mkF m 21 #[.val (.int p0), .val (.int p1), .val (.ref rx), .val (.ref ry), .val (.ref rr), .unset] [(.int (own_rank w_TRUE w_FALSE w_UNKNOWN rx))])) t → Steps p.tables e below (s₁.setTop (entryFrame m #[(.int p0), (.int p1)] maxLocals)) t := fun t k => k10 t (st11 _ k)
  have k13 : ∀ t, Steps p.tables e below (T11.setTop (mkF m 22 #[.val (.int p0), .val (.int p1), .val (.ref rx), .val (.ref ry), .val (.ref rr), .unset] [(.ref ry), (.int (own_rank w_TRUE w_FALSE w_UNKNOWN rx))])) t → Steps p.tables e below (s₁.setTop (entryFrame m #[(.int p0), (.int p1)] maxLocals)) t := fun t k => k12 t (by
      show Steps p.tables e below (T11.setTop (mkF m 21 #[.val (.int p0), .val (.int p1), .val (.ref rx), .val (.ref ry), .val (.ref rr), .unset] [(.int (own_rank w_TRUE w_FALSE w_UNKNOWN rx))])) _
      refine XS.aloadN X11.here hx rfl (hb hby at_21) rfl rfl ?_
      exact k)
  obtain ⟨_, _, ⟨T14, L14, kq14, n14⟩, -, X14, ⟨Lc14, hQ14, l14, y14, z14⟩, st14⟩ := Jvm.LawKit.callS X11 hx (y := (⟨"com/example/cimber/cimber/query/TruthAndPinLaw", "rank", "(Lcom/example/cimber/cimber/query/Truth;)I"⟩ : MethodName)) hown (mvT hZ (hw _ (List.mem_of_getElem? (i := 16) rfl))) (mvT hZ (hw _ (List.mem_of_getElem? (i := 17) rfl))) (mvT hZ (hw _ (List.mem_of_getElem? (i := 2) rfl))) (mvT hZ (hw _ (List.mem_of_getElem? (i := 18) rfl))) (by decide) (backOf (W := 1) (rm3 l Z a0 hw [] ry w_TRUE w_FALSE w_UNKNOWN h0 n0 Z0 S_TRUE S_FALSE S_UNKNOWN) hZ (hw _ (List.mem_of_getElem? (i := 18) rfl)) (hw _ (List.mem_of_getElem? (i := 2) rfl)) (by decide) (by decide)) (g := (mkF m 22 #[.val (.int p0), .val (.int p1), .val (.ref rx), .val (.ref ry), .val (.ref rr), .unset] [(.ref ry), (.int (own_rank w_TRUE w_FALSE w_UNKNOWN rx))])) rfl (by rw [hml]; rfl) (argsL := [(.ref ry)]) (rest := [(.int (own_rank w_TRUE w_FALSE w_UNKNOWN rx))]) (lenOf pd_2 rfl) rfl (by show 2 * 0 + _ ≤ _; exact Nat.le_of_eq rfl) (hb hby at_22) (fun _ _ => ⟨rfl, e11, (by decide : 0 + 0 ≤ _), (by decide : 0 + 0 ≤ _)⟩)
  dsimp only [Pt.U, Pt.locs, Pt.cells, Pt.slots] at X14 l14 y14 z14 st14 hQ14
  subst l14 y14 z14
  obtain ⟨rfl, N14q, e14⟩ := hQ14
  have N14 := Fr.app N11 N14q
  have k15 : ∀ t, Steps p.tables e below (T14.setTop (mkF m 25 #[.val (.int p0), .val (.int p1), .val (.ref rx), .val (.ref ry), .val (.ref rr), .unset] [(.int (own_rank w_TRUE w_FALSE w_UNKNOWN ry)), (.int (own_rank w_TRUE w_FALSE w_UNKNOWN rx))])) t → Steps p.tables e below (s₁.setTop (entryFrame m #[(.int p0), (.int p1)] maxLocals)) t := fun t k => k13 t (st14 _ k)
  obtain ⟨_, _, ⟨T16, L16, kq16, n16⟩, -, X16, ⟨Lc16, hQ16, l16, y16, z16⟩, st16⟩ := Jvm.LawKit.callS X14 hx (y := (⟨"java/lang/Math", "min", "(II)I"⟩ : MethodName)) hown (mvT hZ (hw _ (List.mem_of_getElem? (i := 22) rfl))) (mvT hZ (hw _ (List.mem_of_getElem? (i := 23) rfl))) (mvT hZ (hw _ (List.mem_of_getElem? (i := 24) rfl))) (mvT hZ (hw _ (List.mem_of_getElem? (i := 25) rfl))) (by decide) (backOf (W := 0) (rm4 l Z a0 hw [] (own_rank w_TRUE w_FALSE w_UNKNOWN rx) (own_rank w_TRUE w_FALSE w_UNKNOWN ry) h0 n0 Z0) hZ (hw _ (List.mem_of_getElem? (i := 25) rfl)) (hw _ (List.mem_of_getElem? (i := 24) rfl)) (by decide) (by decide)) (g := (mkF m 25 #[.val (.int p0), .val (.int p1), .val (.ref rx), .val (.ref ry), .val (.ref rr), .unset] [(.int (own_rank w_TRUE w_FALSE w_UNKNOWN ry)), (.int (own_rank w_TRUE w_FALSE w_UNKNOWN rx))])) rfl (by rw [hml]; rfl) (argsL := [(.int (own_rank w_TRUE w_FALSE w_UNKNOWN rx)), (.int (own_rank w_TRUE w_FALSE w_UNKNOWN ry))]) (rest := []) (lenOf pd_3 rfl) rfl (by show 2 * 0 + _ ≤ _; exact Nat.le_of_eq rfl) (hb hby at_25) (fun _ _ => ⟨rfl, e14, (by decide : 0 + 0 ≤ _), (by decide : 0 + 0 ≤ _)⟩)
  dsimp only [Pt.U, Pt.locs, Pt.cells, Pt.slots] at X16 l16 y16 z16 st16 hQ16
  subst l16 y16 z16
  obtain ⟨rfl, N16q, e16⟩ := hQ16
  have N16 := Fr.app N14 N16q
  have k17 : ∀ t, Steps p.tables e below (T16.setTop (mkF m 28 #[.val (.int p0), .val (.int p1), .val (.ref rx), .val (.ref ry), .val (.ref rr), .unset] [(.int (own_min (own_rank w_TRUE w_FALSE w_UNKNOWN rx) (own_rank w_TRUE w_FALSE w_UNKNOWN ry)))])) t → Steps p.tables e below (s₁.setTop (entryFrame m #[(.int p0), (.int p1)] maxLocals)) t := fun t k => k15 t (st16 _ k)
  have k18 : ∀ t, Steps p.tables e below (T16.setTop (mkF m 32 #[.val (.int p0), .val (.int p1), .val (.ref rx), .val (.ref ry), .val (.ref rr), .val (.int (own_min (own_rank w_TRUE w_FALSE w_UNKNOWN rx) (own_rank w_TRUE w_FALSE w_UNKNOWN ry)))] [(.ref rr)])) t → Steps p.tables e below (s₁.setTop (entryFrame m #[(.int p0), (.int p1)] maxLocals)) t := fun t k => k17 t (by
      show Steps p.tables e below (T16.setTop (mkF m 28 #[.val (.int p0), .val (.int p1), .val (.ref rx), .val (.ref ry), .val (.ref rr), .unset] [(.int (own_min (own_rank w_TRUE w_FALSE w_UNKNOWN rx) (own_rank w_TRUE w_FALSE w_UNKNOWN ry)))])) _
      refine XS.istore X16.here hx rfl (hb hby at_28) rfl (l' := #[.val (.int p0), .val (.int p1), .val (.ref rx), .val (.ref ry), .val (.ref rr), .val (.int (own_min (own_rank w_TRUE w_FALSE w_UNKNOWN rx) (own_rank w_TRUE w_FALSE w_UNKNOWN ry)))]) rfl ?_
      show Steps p.tables e below (T16.setTop (mkF m 30 #[.val (.int p0), .val (.int p1), .val (.ref rx), .val (.ref ry), .val (.ref rr), .val (.int (own_min (own_rank w_TRUE w_FALSE w_UNKNOWN rx) (own_rank w_TRUE w_FALSE w_UNKNOWN ry)))] [])) _
      refine XS.aload X16.here hx rfl (hb hby at_30) rfl rfl ?_
      exact k)
  obtain ⟨_, _, ⟨T19, L19, kq19, n19⟩, -, X19, ⟨Lc19, hQ19, l19, y19, z19⟩, st19⟩ := Jvm.LawKit.callS X16 hx (y := (⟨"com/example/cimber/cimber/query/TruthAndPinLaw", "rank", "(Lcom/example/cimber/cimber/query/Truth;)I"⟩ : MethodName)) hown (mvT hZ (hw _ (List.mem_of_getElem? (i := 16) rfl))) (mvT hZ (hw _ (List.mem_of_getElem? (i := 17) rfl))) (mvT hZ (hw _ (List.mem_of_getElem? (i := 2) rfl))) (mvT hZ (hw _ (List.mem_of_getElem? (i := 18) rfl))) (by decide) (backOf (W := 0) (rm3 l Z a0 hw [] rr w_TRUE w_FALSE w_UNKNOWN h0 n0 Z0 S_TRUE S_FALSE S_UNKNOWN) hZ (hw _ (List.mem_of_getElem? (i := 18) rfl)) (hw _ (List.mem_of_getElem? (i := 2) rfl)) (by decide) (by decide)) (g := (mkF m 32 #[.val (.int p0), .val (.int p1), .val (.ref rx), .val (.ref ry), .val (.ref rr), .val (.int (own_min (own_rank w_TRUE w_FALSE w_UNKNOWN rx) (own_rank w_TRUE w_FALSE w_UNKNOWN ry)))] [(.ref rr)])) rfl (by rw [hml]; rfl) (argsL := [(.ref rr)]) (rest := []) (lenOf pd_2 rfl) rfl (by show 2 * 0 + _ ≤ _; exact Nat.le_of_eq rfl) (hb hby at_32) (fun _ _ => ⟨rfl, e16, (by decide : 0 + 0 ≤ _), (by decide : 0 + 0 ≤ _)⟩)
  dsimp only [Pt.U, Pt.locs, Pt.cells, Pt.slots] at X19 l19 y19 z19 st19 hQ19
  subst l19 y19 z19
  obtain ⟨rfl, N19q, e19⟩ := hQ19
  have N19 := Fr.app N16 N19q
  have k20 : ∀ t, Steps p.tables e below (T19.setTop (mkF m 35 #[.val (.int p0), .val (.int p1), .val (.ref rx), .val (.ref ry), .val (.ref rr), .val (.int (own_min (own_rank w_TRUE w_FALSE w_UNKNOWN rx) (own_rank w_TRUE w_FALSE w_UNKNOWN ry)))] [(.int (own_rank w_TRUE w_FALSE w_UNKNOWN rr))])) t → Steps p.tables e below (s₁.setTop (entryFrame m #[(.int p0), (.int p1)] maxLocals)) t := fun t k => k18 t (st19 _ k)
  have hc37 : (own_rank w_TRUE w_FALSE w_UNKNOWN rr) = (own_min (own_rank w_TRUE w_FALSE w_UNKNOWN rx) (own_rank w_TRUE w_FALSE w_UNKNOWN ry)) := hfin
  have k21 : ∀ t, Steps p.tables e below (T19.setTop (mkF m 45 #[.val (.int p0), .val (.int p1), .val (.ref rx), .val (.ref ry), .val (.ref rr), .val (.int (own_min (own_rank w_TRUE w_FALSE w_UNKNOWN rx) (own_rank w_TRUE w_FALSE w_UNKNOWN ry)))] [(.int (1 : Int32))])) t → Steps p.tables e below (s₁.setTop (entryFrame m #[(.int p0), (.int p1)] maxLocals)) t := fun t k => k20 t (by
      show Steps p.tables e below (T19.setTop (mkF m 35 #[.val (.int p0), .val (.int p1), .val (.ref rx), .val (.ref ry), .val (.ref rr), .val (.int (own_min (own_rank w_TRUE w_FALSE w_UNKNOWN rx) (own_rank w_TRUE w_FALSE w_UNKNOWN ry)))] [(.int (own_rank w_TRUE w_FALSE w_UNKNOWN rr))])) _
      refine XS.iload X19.here hx rfl (hb hby at_35) rfl ?_
      show Steps p.tables e below (T19.setTop (mkF m 37 #[.val (.int p0), .val (.int p1), .val (.ref rx), .val (.ref ry), .val (.ref rr), .val (.int (own_min (own_rank w_TRUE w_FALSE w_UNKNOWN rx) (own_rank w_TRUE w_FALSE w_UNKNOWN ry)))] [(.int (own_min (own_rank w_TRUE w_FALSE w_UNKNOWN rx) (own_rank w_TRUE w_FALSE w_UNKNOWN ry))), (.int (own_rank w_TRUE w_FALSE w_UNKNOWN rr))])) _
      refine XS.icmpNo X19.here hx rfl (hb hby at_37) rfl (teq hc37).2 ?_
      show Steps p.tables e below (T19.setTop (mkF m 40 #[.val (.int p0), .val (.int p1), .val (.ref rx), .val (.ref ry), .val (.ref rr), .val (.int (own_min (own_rank w_TRUE w_FALSE w_UNKNOWN rx) (own_rank w_TRUE w_FALSE w_UNKNOWN ry)))] [])) _
      refine XS.iconst X19.here hx rfl (hb hby at_40) ?_
      show Steps p.tables e below (T19.setTop (mkF m 41 #[.val (.int p0), .val (.int p1), .val (.ref rx), .val (.ref ry), .val (.ref rr), .val (.int (own_min (own_rank w_TRUE w_FALSE w_UNKNOWN rx) (own_rank w_TRUE w_FALSE w_UNKNOWN ry)))] [(.int (1 : Int32))])) _
      refine XS.goto X19.here hx rfl (pc0 := 41) (pc' := 45) rfl (hb hby at_41) (by decide) (by decide) ?_
      exact k)
  obtain ⟨fs, hr, hrun, hended, hW, hsame⟩ := X19.leave (v := (some (.int (1 : Int32)))) (fun h => by rw [Bd.returns] at h; cases h)
  refine ⟨_, _, k21 _ ?_, hrun, hended, _, _, rfl, ?_, ⟨_, rfl⟩, hW, hsame.mono (by decide) (by decide)⟩
  · exact retN X19 hx (t := .boolean) Bd.returns (by simp) (hb hby at_45) hr
  · show Q0 Z p0 p1 w_TRUE w_FALSE w_UNKNOWN rx ry rr h0 n0 _ T19.heap _
    rw [e19]
    exact ⟨rfl, N19⟩
set_option maxRecDepth 65536 in
set_option maxHeartbeats 40000000 in
theorem comes_1 {Post : Tables → Env → Array Value → State → Outcome → State → Prop} (hpost : ∀ tb e args s v u, (limb_1_1.after args s (.returned v) u = true ∧ limb_1_2.after args s (.returned v) u = true ∧ True) → FrameEnd s (.returned v) u (Jvm.fieldLocs frame_1_writes args s ++ Jvm.arrayLocs frame_1_arrays args s ++ Jvm.staticLocs frame_1_statics s) 0 0 → Post tb e args s (.returned v) u) :
    ArmFor flags0 classFile x code maxLocals ret World_1 tables_1 room_1 Calls_1 rest_1 Pre_1 Post := by
  intro l hfl _ _ p e ha hc hk s m args below hf hA hF happ hP
  obtain ⟨hcalls, hrest, hpre⟩ := hP
  obtain ⟨-, -, -, hnamed, -, -, -, hat⟩ := (Spec.applies_iff hf).mp happ
  obtain ⟨hg, hn⟩ := and_e (Cond.before_iff.mp (show (Jvm.Cond.and given_1 narrow_1).before args s = true from hpre))
  obtain ⟨hcount, hgs⟩ := and_e hg
  obtain ⟨w0, w1, rfl⟩ : ∃ w0 w1 : Value, args = #[w0, w1] := by
    have hs : args.size = 2 := by simpa [Cond.value, given_1] using hcount
    obtain ⟨L⟩ := args
    match L, hs with
    | [w0, w1], _ => exact ⟨w0, w1, rfl⟩
  have hw := fun d (hd : d ∈ tables_1) => atoms_spec (ws := Jvm.Cond.code x code maxLocals ret :: tables_1) hat d (List.mem_cons_of_mem _ hd)
  obtain ⟨hg0, hgr0⟩ := and_e hgs
  obtain ⟨i0, ei0⟩ := is_v hg0
  obtain rfl : w0 = (.int i0) := Option.some.inj ei0
  obtain ⟨i1, ei1⟩ := is_v hgr0
  obtain rfl : w1 = (.int i1) := Option.some.inj ei1
  obtain ⟨hn1, hn2⟩ := and_e hn
  obtain ⟨hn3, hn4⟩ := and_e hn2
  obtain ⟨hn5, hn6⟩ := and_e hn4
  obtain ⟨hn7, hn8⟩ := and_e hn6
  obtain ⟨hn9, hn10⟩ := and_e hn8
  obtain ⟨w_TRUE, es_TRUE⟩ := exa_v hn1
  have S_TRUE := Sta.start es_TRUE (Or.inr ⟨(hw _ (List.mem_of_getElem? (i := 6) rfl)), (hw _ (List.mem_of_getElem? (i := 7) rfl))⟩)
  have E_w_TRUE := Exa.start es_TRUE hn1
  obtain ⟨w_FALSE, es_FALSE⟩ := exa_v hn3
  have S_FALSE := Sta.start es_FALSE (Or.inr ⟨(hw _ (List.mem_of_getElem? (i := 6) rfl)), (hw _ (List.mem_of_getElem? (i := 14) rfl))⟩)
  have E_w_FALSE := Exa.start es_FALSE hn3
  obtain ⟨w_UNKNOWN, es_UNKNOWN⟩ := exa_v hn9
  have S_UNKNOWN := Sta.start es_UNKNOWN (Or.inr ⟨(hw _ (List.mem_of_getElem? (i := 6) rfl)), (hw _ (List.mem_of_getElem? (i := 21) rfl))⟩)
  have E_w_UNKNOWN := Exa.start es_UNKNOWN hn9
  have ox := own_pk_or w_TRUE w_FALSE w_UNKNOWN ((i0 &&& (2147483647 : Int32)) % (3 : Int32))
  have oy := own_pk_or w_TRUE w_FALSE w_UNKNOWN ((i1 &&& (2147483647 : Int32)) % (3 : Int32))
  have E_rx : Exa s s.heap (own_pk w_TRUE w_FALSE w_UNKNOWN ((i0 &&& (2147483647 : Int32)) % (3 : Int32))) "com/example/cimber/cimber/query/Truth" := by rcases ox with q | q | q <;> rw [q] <;> assumption
  obtain ⟨n, o, h1, h2, h3, _, L, rfl, ⟨rfl, N⟩, hq⟩ := rm0 l s _ hw tables_1 i0 i1 w_TRUE w_FALSE w_UNKNOWN (own_pk w_TRUE w_FALSE w_UNKNOWN ((i0 &&& (2147483647 : Int32)) % (3 : Int32))) (own_pk w_TRUE w_FALSE w_UNKNOWN ((i1 &&& (2147483647 : Int32)) % (3 : Int32))) _ s.heap s.heap.size (Nat.le_refl _) S_TRUE S_FALSE S_UNKNOWN E_rx rfl rfl rfl (own_fin (own_ne es_TRUE es_FALSE hn5 hn7 (by decide)) (own_ne es_TRUE es_UNKNOWN hn5 hn10 (by decide)) (own_ne es_FALSE es_UNKNOWN hn7 hn10 (by decide)) ox oy) p e ha hc hk s m _ below hf ((Spec.applies_iff_loose hf).mp happ).1 ⟨rfl, State.Warmed39.refl s, rfl⟩ trivial
  refine ⟨n, _, h1, h2, h3, hpost _ _ _ _ _ _ ⟨Cond.after_iff.mpr rfl, Cond.after_iff.mpr (eq_i res_at (Term.int_eval (1)) rfl), trivial⟩ ⟨hq.1, hq.2.1, (hq.2.2.sift fun y hy => Or.inr (N y hy)).mono (by decide) (by decide)⟩⟩
theorem main_1_1 : Claimed_1_1 := comes_1 fun _ _ _ _ _ _ h hF => ⟨h.1, hF⟩
theorem main_1_2 : Claimed_1_2 := comes_1 fun _ _ _ _ _ _ h hF => ⟨h.2.1, hF⟩
end Jvm.Pilot.@@N@@
namespace Jvm.Pilot.@@N@@
open Jvm Jvm.ClassFile Sem Op Lib Jvm.Free Jvm.Stand Jvm.Pilot.@@N@@.Jvm.D
/-! MADE BY PROGRAM (witnessworld.py) out of the Statement's table words and the real class files: 13 classes; the members and pool entries that the words name. The judged class is class 1, her method 3. -/
namespace start1
open Jvm.ClassFile
def u (s : String) : CpInfo := .utf8 (stringToUtf16 s)
/-- a pool by its gaps: so many unusable entries, then the entry; so many at the end -/
def gap : Nat → List CpInfo → List CpInfo
  | 0, r => r
  | n + 1, r => .unusable :: gap n r
def poolList (es : List (Nat × CpInfo)) (last : Nat) : List CpInfo := es.foldr (fun e r => gap e.1 (e.2 :: r)) (gap last [])
def pool (es : List (Nat × CpInfo)) (last : Nat) : Array CpInfo := ⟨poolList es last⟩
def fileOf (pool : Array CpInfo) (this : Nat) (attrs : Array Attribute := #[]) (ms : Array MethodInfo := #[]) (fl : Nat := 33) (sup : Nat := 0) (ifs : Array Nat := #[]) (fds : Array FieldInfo := #[]) : ClassFile where
  minorVersion := 0
  majorVersion := 65
  constantPool := pool
  accessFlags := fl
  thisClass := this
  superClass := sup
  interfaces := ifs
  fields := fds
  methods := ms
  attributes := attrs
def plain (name : String) (sup : Option ClassId) : Class where
  name := name
  kind := .ordinary
  loader := none
  accessFlags := 33
  super := sup
  interfaces := #[]
  cf := none
  fields := #[]
  methods := #[]
  instanceTypes := #[]
  staticTypes := #[]
  resolved := #[]
  callSites := []
  init := .initialized
  statics := none
  mirror := none

def pool0 : Array CpInfo := pool [(5, u "<init>"), (0, u "()V"), (1, .class_ 10), (1, u "java/lang/Object")] 113

def k0m0 : Method := { name := "<init>", desc := "()V", sig := { parameters := [], returnType := none }, accessFlags := 1, code := none }
/-- java/lang/Object -/
def k0 : Class := { plain "java/lang/Object" none with
  accessFlags := 33
  interfaces := #[]
  cf := some (fileOf pool0 8 #[] #[{ accessFlags := 1, nameIndex := 5, descriptorIndex := 6, attributes := #[] }] 33 0 #[] #[])
  fields := #[]
  methods := #[k0m0]
  instanceTypes := #[]
  staticTypes := #[]
  resolved := Array.replicate 124 none
  statics := none }

def pool1 : Array CpInfo := pool [(2, .class_ 4), (1, u "java/lang/Object"), (0, u "<init>"), (0, u "()V"), (0, .integer 2147483647), (0, .fieldref 9 10), (0, .class_ 11), (0, .nameAndType 12 13), (0, u "com/example/cimber/cimber/query/Truth"), (0, u "TRUE"), (0, u "Lcom/example/cimber/cimber/query/Truth;"), (0, .fieldref 9 15), (0, .nameAndType 16 13), (0, u "FALSE"), (0, .fieldref 9 18), (0, .nameAndType 19 13), (0, u "UNKNOWN"), (0, .methodref 21 22), (0, .class_ 23), (0, .nameAndType 24 25), (0, u "com/example/cimber/cimber/query/TruthAndPinLaw"), (0, u "pick"), (0, u "(I)Lcom/example/cimber/cimber/query/Truth;"), (0, .methodref 9 27), (0, .nameAndType 28 29), (0, u "and"), (0, u "(Lcom/example/cimber/cimber/query/Truth;)Lcom/example/cimber/cimber/query/Truth;"), (0, .methodref 21 31), (0, .nameAndType 32 33), (0, u "rank"), (0, u "(Lcom/example/cimber/cimber/query/Truth;)I"), (0, .methodref 35 36), (0, .class_ 37), (0, .nameAndType 38 39), (0, u "java/lang/Math"), (0, u "min"), (0, u "(II)I"), (3, u "law"), (0, u "(II)Z")] 2

def k1m0 : Method := { name := "<init>", desc := "()V", sig := { parameters := [], returnType := none }, accessFlags := 1, code := none }
def k1c1 : Code := { maxStack := 2, maxLocals := 2, code := method_2_code, exceptionTable := #[], attributes := #[] }
def k1m1 : Method := { name := "pick", desc := "(I)Lcom/example/cimber/cimber/query/Truth;", sig := { parameters := [.int], returnType := some (.object "com/example/cimber/cimber/query/Truth") }, accessFlags := 10, code := some k1c1 }
def k1c2 : Code := { maxStack := 2, maxLocals := 1, code := method_3_code, exceptionTable := #[], attributes := #[] }
def k1m2 : Method := { name := "rank", desc := "(Lcom/example/cimber/cimber/query/Truth;)I", sig := { parameters := [(.object "com/example/cimber/cimber/query/Truth")], returnType := some .int }, accessFlags := 10, code := some k1c2 }
def k1c3 : Code := { maxStack := 2, maxLocals := 6, code := code, exceptionTable := #[], attributes := #[] }
def k1m3 : Method := { name := "law", desc := "(II)Z", sig := { parameters := [.int, .int], returnType := some .boolean }, accessFlags := 9, code := some k1c3 }
/-- com/example/cimber/cimber/query/TruthAndPinLaw -/
def k1 : Class := { plain "com/example/cimber/cimber/query/TruthAndPinLaw" (some 0) with
  accessFlags := 49
  interfaces := #[]
  cf := some (fileOf pool1 21 #[] #[{ accessFlags := 1, nameIndex := 5, descriptorIndex := 6, attributes := #[] }, { accessFlags := 10, nameIndex := 24, descriptorIndex := 25, attributes := #[] }, { accessFlags := 10, nameIndex := 32, descriptorIndex := 33, attributes := #[] }, { accessFlags := 9, nameIndex := 43, descriptorIndex := 44, attributes := #[] }] 49 2 #[] #[])
  fields := #[]
  methods := #[k1m0, k1m1, k1m2, k1m3]
  instanceTypes := #[]
  staticTypes := #[]
  resolved := Array.replicate 47 none
  statics := none }

def pool2 : Array CpInfo := pool [(1, .class_ 2), (0, u "java/lang/constant/Constable"), (0, .class_ 4), (0, u "java/lang/Object")] 6

/-- java/lang/constant/Constable -/
def k2 : Class := { plain "java/lang/constant/Constable" (some 0) with
  accessFlags := 1537
  interfaces := #[]
  cf := some (fileOf pool2 1 #[] #[] 1537 3 #[] #[])
  fields := #[]
  methods := #[]
  instanceTypes := #[]
  staticTypes := #[]
  resolved := Array.replicate 11 none
  statics := none }

def pool3 : Array CpInfo := pool [(1, .class_ 2), (0, u "java/lang/Comparable"), (0, .class_ 4), (0, u "java/lang/Object")] 7

/-- java/lang/Comparable -/
def k3 : Class := { plain "java/lang/Comparable" (some 0) with
  accessFlags := 1537
  interfaces := #[]
  cf := some (fileOf pool3 1 #[] #[] 1537 3 #[] #[])
  fields := #[]
  methods := #[]
  instanceTypes := #[]
  staticTypes := #[]
  resolved := Array.replicate 12 none
  statics := none }

def pool4 : Array CpInfo := pool [(1, .class_ 2), (0, u "java/io/Serializable"), (0, .class_ 4), (0, u "java/lang/Object")] 2

/-- java/io/Serializable -/
def k4 : Class := { plain "java/io/Serializable" (some 0) with
  accessFlags := 1537
  interfaces := #[]
  cf := some (fileOf pool4 1 #[] #[] 1537 3 #[] #[])
  fields := #[]
  methods := #[]
  instanceTypes := #[]
  staticTypes := #[]
  resolved := Array.replicate 7 none
  statics := none }

def pool5 : Array CpInfo := pool [(2, .class_ 4), (1, u "java/lang/Enum"), (0, u "name"), (0, u "Ljava/lang/String;"), (2, u "ordinal"), (0, u "I"), (1, .class_ 14), (1, u "java/lang/Object"), (4, u "hash"), (86, .class_ 108), (1, u "java/lang/Enum$EnumDesc"), (2, .class_ 112), (0, u "java/lang/constant/Constable"), (0, .class_ 114), (0, u "java/lang/Comparable"), (0, .class_ 116), (0, u "java/io/Serializable")] 87

/-- java/lang/Enum -/
def k5 : Class := { plain "java/lang/Enum" (some 0) with
  accessFlags := 1057
  interfaces := #[2, 3, 4]
  cf := some (fileOf pool5 2 #[.nestMembers #[106]] #[] 1057 12 #[111, 113, 115] #[{ accessFlags := 18, nameIndex := 5, descriptorIndex := 6, attributes := #[] }, { accessFlags := 18, nameIndex := 9, descriptorIndex := 10, attributes := #[] }, { accessFlags := 2, nameIndex := 19, descriptorIndex := 10, attributes := #[] }])
  fields := #[{ name := "name", type := (.object "java/lang/String"), accessFlags := 18, slot := 0, constantValue := 0 }, { name := "ordinal", type := .int, accessFlags := 18, slot := 1, constantValue := 0 }, { name := "hash", type := .int, accessFlags := 2, slot := 2, constantValue := 0 }]
  methods := #[]
  instanceTypes := #[(.object "java/lang/String"), .int, .int]
  staticTypes := #[]
  resolved := Array.replicate 204 none
  statics := none }

def pool6 : Array CpInfo := pool [(1, .class_ 2), (0, u "com/example/cimber/cimber/query/Truth"), (0, .fieldref 1 4), (0, .nameAndType 5 6), (0, u "TRUE"), (0, u "Lcom/example/cimber/cimber/query/Truth;"), (0, .fieldref 1 8), (0, .nameAndType 9 6), (0, u "FALSE"), (0, .fieldref 1 11), (0, .nameAndType 12 6), (0, u "UNKNOWN"), (2, u "$VALUES"), (0, u "[Lcom/example/cimber/cimber/query/Truth;"), (6, .class_ 25), (1, u "java/lang/Enum"), (12, u "and"), (0, u "(Lcom/example/cimber/cimber/query/Truth;)Lcom/example/cimber/cimber/query/Truth;")] 23

def k6c0 : Code := { maxStack := 2, maxLocals := 3, code := prog_31_method_6_code, exceptionTable := #[], attributes := #[] }
def k6m0 : Method := { name := "and", desc := "(Lcom/example/cimber/cimber/query/Truth;)Lcom/example/cimber/cimber/query/Truth;", sig := { parameters := [(.object "com/example/cimber/cimber/query/Truth")], returnType := some (.object "com/example/cimber/cimber/query/Truth") }, accessFlags := 0, code := some k6c0 }
/-- com/example/cimber/cimber/query/Truth -/
def k6 : Class := { plain "com/example/cimber/cimber/query/Truth" (some 5) with
  accessFlags := 16432
  interfaces := #[]
  cf := some (fileOf pool6 1 #[] #[{ accessFlags := 0, nameIndex := 38, descriptorIndex := 39, attributes := #[] }] 16432 23 #[] #[{ accessFlags := 16409, nameIndex := 5, descriptorIndex := 6, attributes := #[] }, { accessFlags := 16409, nameIndex := 9, descriptorIndex := 6, attributes := #[] }, { accessFlags := 16409, nameIndex := 12, descriptorIndex := 6, attributes := #[] }, { accessFlags := 4122, nameIndex := 15, descriptorIndex := 16, attributes := #[] }])
  fields := #[{ name := "TRUE", type := (.object "com/example/cimber/cimber/query/Truth"), accessFlags := 16409, slot := 0, constantValue := 0 }, { name := "FALSE", type := (.object "com/example/cimber/cimber/query/Truth"), accessFlags := 16409, slot := 1, constantValue := 0 }, { name := "UNKNOWN", type := (.object "com/example/cimber/cimber/query/Truth"), accessFlags := 16409, slot := 2, constantValue := 0 }, { name := "$VALUES", type := (.array (.object "com/example/cimber/cimber/query/Truth")), accessFlags := 4122, slot := 3, constantValue := 0 }]
  methods := #[k6m0]
  instanceTypes := #[(.object "java/lang/String"), .int, .int]
  staticTypes := #[(.object "com/example/cimber/cimber/query/Truth"), (.object "com/example/cimber/cimber/query/Truth"), (.object "com/example/cimber/cimber/query/Truth"), (.array (.object "com/example/cimber/cimber/query/Truth"))]
  resolved := Array.replicate 63 none
  statics := some 0 }

def pool7 : Array CpInfo := pool [(1, .class_ 2), (0, u "java/lang/Math"), (1, .class_ 6), (1, u "java/lang/Object"), (0, u "<init>"), (0, u "()V"), (89, .class_ 100), (1, u "java/lang/Math$RandomNumberGeneratorHolder"), (71, u "negativeZeroFloatBits"), (0, u "J"), (2, u "negativeZeroDoubleBits"), (24, u "min"), (43, u "$assertionsDisabled"), (0, u "Z"), (88, u "(II)I"), (2, u "twoToTheDoubleScaleDown"), (0, u "D"), (4, u "twoToTheDoubleScaleUp"), (9, u "E"), (3, u "PI"), (2, u "TAU"), (2, u "DEGREES_TO_RADIANS"), (0, u "RADIANS_TO_DEGREES")] 94

def k7m0 : Method := { name := "<init>", desc := "()V", sig := { parameters := [], returnType := none }, accessFlags := 2, code := none }
def k7c1 : Code := { maxStack := 2, maxLocals := 2, code := jdk_29_method_69_code, exceptionTable := #[], attributes := #[] }
def k7m1 : Method := { name := "min", desc := "(II)I", sig := { parameters := [.int, .int], returnType := some .int }, accessFlags := 9, code := some k7c1 }
/-- java/lang/Math -/
def k7 : Class := { plain "java/lang/Math" (some 0) with
  accessFlags := 49
  interfaces := #[]
  cf := some (fileOf pool7 1 #[.nestMembers #[98]] #[{ accessFlags := 2, nameIndex := 7, descriptorIndex := 8, attributes := #[] }, { accessFlags := 9, nameIndex := 201, descriptorIndex := 335, attributes := #[] }] 49 4 #[] #[{ accessFlags := 25, nameIndex := 354, descriptorIndex := 339, attributes := #[] }, { accessFlags := 25, nameIndex := 358, descriptorIndex := 339, attributes := #[] }, { accessFlags := 25, nameIndex := 361, descriptorIndex := 339, attributes := #[] }, { accessFlags := 26, nameIndex := 364, descriptorIndex := 339, attributes := #[] }, { accessFlags := 26, nameIndex := 365, descriptorIndex := 339, attributes := #[] }, { accessFlags := 26, nameIndex := 172, descriptorIndex := 173, attributes := #[] }, { accessFlags := 26, nameIndex := 176, descriptorIndex := 173, attributes := #[] }, { accessFlags := 8, nameIndex := 344, descriptorIndex := 339, attributes := #[] }, { accessFlags := 8, nameIndex := 338, descriptorIndex := 339, attributes := #[] }, { accessFlags := 4120, nameIndex := 245, descriptorIndex := 246, attributes := #[] }])
  fields := #[{ name := "E", type := .double, accessFlags := 25, slot := 0, constantValue := 0 }, { name := "PI", type := .double, accessFlags := 25, slot := 1, constantValue := 0 }, { name := "TAU", type := .double, accessFlags := 25, slot := 2, constantValue := 0 }, { name := "DEGREES_TO_RADIANS", type := .double, accessFlags := 26, slot := 3, constantValue := 0 }, { name := "RADIANS_TO_DEGREES", type := .double, accessFlags := 26, slot := 4, constantValue := 0 }, { name := "negativeZeroFloatBits", type := .long, accessFlags := 26, slot := 5, constantValue := 0 }, { name := "negativeZeroDoubleBits", type := .long, accessFlags := 26, slot := 6, constantValue := 0 }, { name := "twoToTheDoubleScaleUp", type := .double, accessFlags := 8, slot := 7, constantValue := 0 }, { name := "twoToTheDoubleScaleDown", type := .double, accessFlags := 8, slot := 8, constantValue := 0 }, { name := "$assertionsDisabled", type := .boolean, accessFlags := 4120, slot := 9, constantValue := 0 }]
  methods := #[k7m0, k7m1]
  instanceTypes := #[]
  staticTypes := #[.double, .double, .double, .double, .double, .long, .long, .double, .double, .boolean]
  resolved := Array.replicate 460 none
  statics := none }

def pool8 : Array CpInfo := pool [(1, u "java/lang/Cloneable"), (0, .class_ 1), (0, u "java/lang/Object"), (0, .class_ 3)] 3

/-- java/lang/Cloneable -/
def k8 : Class := { plain "java/lang/Cloneable" (some 0) with
  accessFlags := 1537
  interfaces := #[]
  cf := some (fileOf pool8 2 #[] #[] 1537 4 #[] #[])
  fields := #[]
  methods := #[]
  instanceTypes := #[]
  staticTypes := #[]
  resolved := Array.replicate 8 none
  statics := none }

/-- the primitive byte -/
def k9 : Class := { plain "byte" none with kind := .primitive 'B', accessFlags := 0x411 }
/-- [B -/
def k10 : Class := { plain "[B" (some 0) with kind := .array 9 .byte, interfaces := #[8, 4], accessFlags := 1041 }

/-- the primitive int -/
def k11 : Class := { plain "int" none with kind := .primitive 'I', accessFlags := 0x411 }
/-- [I -/
def k12 : Class := { plain "[I" (some 0) with kind := .array 11 .int, interfaces := #[8, 4], accessFlags := 1041 }

def heap : Heap := #[{ cls := 6, slots := #[.ref 1, .ref 2, .ref 3, .null], vm := .statics 6 },
  { cls := 6, slots := #[.null, .int 0, .int 0], vm := .none },
  { cls := 6, slots := #[.null, .int 1, .int 0], vm := .none },
  { cls := 6, slots := #[.null, .int 2, .int 0], vm := .none }]
def classes : Array Class := #[k0, k1, k2, k3, k4, k5, k6, k7, k8, k9, k10, k11, k12]
def interned : List (Array UInt16 × Addr) := []
def slotsUsed : Nat := 13
def theMethod : MethodId := ⟨1, 3⟩
def args0 : Array Value := #[.int 5, .int 7]
def aboutOver (below : List Frame) : State where
  vm := { classes := classes, interned := interned.toArray }
  heap := heap
  slotsUsed := slotsUsed
  threads := #[{ frames := .invoking theMethod args0 :: below }]
def below0 : List Frame := [.native { method := ⟨0, 0⟩, args := #[] }]
def about1 : State := aboutOver below0
def p0 : Program := .bare "" "" ""
def e0 : Env := launch0.env 0 0 0
theorem w_frames : about1.frames = Frame.invoking theMethod args0 :: below0 := rfl
set_option maxRecDepth 65536 in
theorem w_args : argsFit about1.vm theMethod args0 = true := by decide +kernel
set_option maxRecDepth 65536 in
theorem w_heap : heapFits about1 = true := by decide +kernel
set_option maxRecDepth 65536 in
theorem w_runnable : about1.curStatus? = some .runnable := by decide +kernel
set_option maxRecDepth 65536 in
theorem w_alone : about1.alone = true := by decide +kernel
set_option maxRecDepth 65536 in
theorem w_named : about1.methodNamed? x = some theMethod := by decide +kernel
set_option maxRecDepth 65536 in
theorem w_hears : about1.hears theMethod below0 = true := by decide +kernel
set_option maxRecDepth 65536 in
theorem w_ripe : about1.ripe theMethod args0 below0 = true := by decide +kernel
theorem w_running : about1.status = .running := rfl
set_option maxRecDepth 65536 in
theorem w_room : about1.hasRoom e0.platform room_1 = true :=
  launch0.hasRoom_least _ room_1 (by decide +kernel) (by decide +kernel) (by decide +kernel) (by decide +kernel) (by decide +kernel) (by decide +kernel)
theorem allAtoms_all (ts : List Jvm.Cond) (a : Array Jvm.Value) (st : Jvm.State) : (allAtoms ts).before a st = ts.all (fun c => c.before a st) := by
  induction ts with
  | nil => rfl
  | cons c t ih =>
    show (Jvm.Cond.and c (allAtoms t)).before a st = _
    rw [Jvm.Cond.before_and, ih, List.all_cons]
def words1 : List Jvm.Cond := Jvm.Cond.code x code maxLocals ret :: tables_1
/-- a 'code' word, met by the world's own term for the bytes: nothing is compared byte by byte -/
theorem code_word {y : MethodName} {bytes : ByteArray} {mx : Nat} {rt : Option FieldType} {a : Array Value} {s : State} {m : MethodId} {meth : Method} {c : Code} (h1 : s.methodNamed? y = some m) (h2 : s.vm.method? m = some meth) (h3 : meth.code = some c) (h4 : c.code = bytes)
    (h5 : (c.maxLocals == mx && c.exceptionTable.isEmpty && decide (c.maxStack ≤ mostOperands) && decide (meth.sig.returnType = rt) && !meth.locks && decide (parseMethodDescriptor y.desc = some meth.sig)) = true) : (Jvm.Cond.code y bytes mx rt).before a s = true := by
  simp only [Bool.and_eq_true, beq_iff_eq, Bool.not_eq_true', decide_eq_true_eq] at h5
  obtain ⟨⟨⟨⟨⟨g1, g2⟩, g3⟩, g4⟩, g5⟩, g6⟩ := h5
  simp [Cond.before, Cond.holds, Cond.value, h1, h2, h3, h4, g1, g2, g3, g4, g5, g6]
def isCode : Jvm.Cond → Bool
  | .code _ _ _ _ => true
  | _ => false
theorem all_split {L : List Jvm.Cond} {P : Jvm.Cond → Bool} (h1 : L.all (fun c => isCode c || P c) = true) (h2 : ∀ c ∈ L.filter isCode, P c = true) : L.all P = true := by
  refine List.all_eq_true.mpr fun c hc => ?_
  have h := List.all_eq_true.mp h1 c hc
  rcases Bool.eq_false_or_eq_true (isCode c) with hi | hi
  · exact h2 c (List.mem_filter.mpr ⟨hc, hi⟩)
  · simpa [hi] using h
set_option maxRecDepth 65536 in
theorem w_c0 : (Jvm.Cond.code x code maxLocals ret).before args0 about1 = true := code_word (m := ⟨1, 3⟩) (meth := k1m3) (c := k1c3) (by decide +kernel) rfl rfl rfl (by decide +kernel)
set_option maxRecDepth 65536 in
theorem w_c1 : (Jvm.Cond.code ({ cls := "com/example/cimber/cimber/query/TruthAndPinLaw", name := "pick", desc := "(I)Lcom/example/cimber/cimber/query/Truth;" } : Jvm.MethodName) method_2_code (2 : Nat) (Option.some (Jvm.ClassFile.FieldType.object "com/example/cimber/cimber/query/Truth"))).before args0 about1 = true := code_word (m := ⟨1, 1⟩) (meth := k1m1) (c := k1c1) (by decide +kernel) rfl rfl rfl (by decide +kernel)
set_option maxRecDepth 65536 in
theorem w_c2 : (Jvm.Cond.code ({ cls := "com/example/cimber/cimber/query/Truth", name := "and", desc := "(Lcom/example/cimber/cimber/query/Truth;)Lcom/example/cimber/cimber/query/Truth;" } : Jvm.MethodName) prog_31_method_6_code (3 : Nat) (Option.some (Jvm.ClassFile.FieldType.object "com/example/cimber/cimber/query/Truth"))).before args0 about1 = true := code_word (m := ⟨6, 0⟩) (meth := k6m0) (c := k6c0) (by decide +kernel) rfl rfl rfl (by decide +kernel)
set_option maxRecDepth 65536 in
theorem w_c3 : (Jvm.Cond.code ({ cls := "com/example/cimber/cimber/query/TruthAndPinLaw", name := "rank", desc := "(Lcom/example/cimber/cimber/query/Truth;)I" } : Jvm.MethodName) method_3_code (1 : Nat) (Option.some Jvm.ClassFile.FieldType.int)).before args0 about1 = true := code_word (m := ⟨1, 2⟩) (meth := k1m2) (c := k1c2) (by decide +kernel) rfl rfl rfl (by decide +kernel)
set_option maxRecDepth 65536 in
theorem w_c4 : (Jvm.Cond.code ({ cls := "java/lang/Math", name := "min", desc := "(II)I" } : Jvm.MethodName) jdk_29_method_69_code (2 : Nat) (Option.some Jvm.ClassFile.FieldType.int)).before args0 about1 = true := code_word (m := ⟨7, 1⟩) (meth := k7m1) (c := k7c1) (by decide +kernel) rfl rfl rfl (by decide +kernel)
def codes1 : List Jvm.Cond := [Jvm.Cond.code x code maxLocals ret, Jvm.Cond.code ({ cls := "com/example/cimber/cimber/query/TruthAndPinLaw", name := "pick", desc := "(I)Lcom/example/cimber/cimber/query/Truth;" } : Jvm.MethodName) method_2_code (2 : Nat) (Option.some (Jvm.ClassFile.FieldType.object "com/example/cimber/cimber/query/Truth")), Jvm.Cond.code ({ cls := "com/example/cimber/cimber/query/Truth", name := "and", desc := "(Lcom/example/cimber/cimber/query/Truth;)Lcom/example/cimber/cimber/query/Truth;" } : Jvm.MethodName) prog_31_method_6_code (3 : Nat) (Option.some (Jvm.ClassFile.FieldType.object "com/example/cimber/cimber/query/Truth")), Jvm.Cond.code ({ cls := "com/example/cimber/cimber/query/TruthAndPinLaw", name := "rank", desc := "(Lcom/example/cimber/cimber/query/Truth;)I" } : Jvm.MethodName) method_3_code (1 : Nat) (Option.some Jvm.ClassFile.FieldType.int), Jvm.Cond.code ({ cls := "java/lang/Math", name := "min", desc := "(II)I" } : Jvm.MethodName) jdk_29_method_69_code (2 : Nat) (Option.some Jvm.ClassFile.FieldType.int)]
set_option maxRecDepth 65536 in
theorem codes_eq : words1.filter isCode = codes1 := rfl
theorem w_codes : ∀ c ∈ words1.filter isCode, c.before args0 about1 = true := by
  rw [codes_eq]
  intro c hc
  simp only [codes1, List.mem_cons, List.not_mem_nil, or_false] at hc
  rcases hc with rfl | rfl | rfl | rfl | rfl
  · exact w_c0
  · exact w_c1
  · exact w_c2
  · exact w_c3
  · exact w_c4
set_option maxRecDepth 65536 in
theorem w_t1 : (words1.take 24).all (fun c => isCode c || c.before args0 about1) = true := by decide +kernel
set_option maxRecDepth 65536 in
theorem w_t2 : (words1.drop 24).all (fun c => isCode c || c.before args0 about1) = true := by decide +kernel
theorem w_tables : (allAtoms (Jvm.Cond.code x code maxLocals ret :: tables_1)).before args0 about1 = true := by
  rw [allAtoms_all]
  show words1.all (fun c => c.before args0 about1) = true
  refine all_split ?_ w_codes
  rw [← List.take_append_drop 24 words1, List.all_append, w_t1, w_t2]
  rfl
set_option maxRecDepth 65536 in
theorem w_case : (Jvm.Cond.and given_1 narrow_1).before args0 about1 = true := by decide +kernel
theorem w_applies : (headSpec (Jvm.Cond.code x code maxLocals ret :: tables_1) room_1).applies x e0.platform about1 = true :=
  (Spec.applies_iff w_frames).mpr ⟨w_running, w_runnable, w_alone, w_named, w_hears, w_ripe, w_room, w_tables⟩
theorem atStart : AtStart classFile x code maxLocals ret World_1 tables_1 room_1 Calls_1 rest_1 Pre_1 launch0 p0 e0 about1 theMethod args0 below0 :=
  ⟨lists_1, trivial, launch0.admits_env _ _ _, launch0.least_env, fairChoices_fair.cas, fairChoices_fair.clock, w_frames, w_args, w_heap, w_applies, trivial, trivial, w_case⟩
end start1
theorem witness_1 : WitnessClaimed_1 := ⟨start1.p0, start1.e0, start1.about1, start1.theMethod, start1.args0, start1.below0, start1.atStart⟩
end Jvm.Pilot.@@N@@
