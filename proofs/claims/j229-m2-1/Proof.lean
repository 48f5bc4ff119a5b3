import JvmDerived
import JvmDerived.Pilot.@@N@@Statement
import JvmDerived.Pilot.@@N@@Code
set_option linter.unusedVariables false
set_option linter.unusedSimpArgs false
@@BLOCK:NumsL.lean.txt@@
namespace Jvm.Pilot.@@N@@
open Jvm Jvm.ClassFile Sem Op Lib Jvm.Free Jvm.Stand Jvm.LawKit Jvm.RoadKit Bundle Jvm.Pilot.@@N@@.Jvm.D
def own_bI (P : Prop) [Decidable P] : Int32 := if P then 1 else 0
theorem own_bI_t {P : Prop} [Decidable P] (h : P) : own_bI P = 1 := if_pos h
theorem own_bI_f {P : Prop} [Decidable P] (h : ¬ P) : own_bI P = 0 := if_neg h
theorem own_bI_eq0 {P : Prop} [Decidable P] : own_bI P = 0 ↔ ¬ P := by
  by_cases h : P
  · rw [own_bI_t h]; exact ⟨fun q => absurd q (by decide), fun q => absurd h q⟩
  · rw [own_bI_f h]; exact ⟨fun _ => h, fun _ => rfl⟩
theorem own_bI_eq1 {P : Prop} [Decidable P] : own_bI P = 1 ↔ P := by
  by_cases h : P
  · rw [own_bI_t h]; exact ⟨fun _ => h, fun _ => rfl⟩
  · rw [own_bI_f h]; exact ⟨fun q => absurd q (by decide), fun q => absurd q h⟩
theorem own_fi {args : Array Value} {s : State} {t : Term} {C n d : String} {a : Addr} {i : Int32} (e : t.eval args s none [] s = some (.ref a)) (h : (Jvm.Cond.eq (.field t C n d) (.int i)).value args s none s [] = some true) : s.fieldOf? a C n d = some (.int i) := by
  obtain ⟨x, y, hx, hy, k1, k2⟩ := cmp_v (Or.inl h)
  have hy' : y = .int i := Option.some.inj (hy.symm.trans (Term.int_eval i))
  subst hy'
  obtain ⟨z, rfl⟩ := k2
  have q : z = i := gotT (Cond.eq_ints hx (Term.int_eval i)) h
  rw [fld_at e] at hx
  rw [hx, q]
theorem own_ne {args : Array Value} {s : State} {t u : Term} {C n d : String} {a b : Addr} {i j : Int32} (e1 : t.eval args s none [] s = some (.ref a)) (e2 : u.eval args s none [] s = some (.ref b)) (h1 : (Jvm.Cond.eq (.field t C n d) (.int i)).value args s none s [] = some true) (h2 : (Jvm.Cond.eq (.field u C n d) (.int j)).value args s none s [] = some true) (hij : i ≠ j) : a ≠ b := by
  intro q; subst q
  have g1 := own_fi e1 h1
  have g2 := own_fi e2 h2
  rw [g1] at g2
  exact hij (Value.int.inj (Option.some.inj g2))
theorem own_sta_keep {Z : State} {h h' : Heap} {C n d : String} {v : Value} (F : Sta Z h C n d v) (K : Keep h h' []) : Sta Z h' C n d v := by
  obtain ⟨cf, i, k, f, st, cell, h1, h2, h3, h4, h5, r⟩ := F
  exact ⟨cf, i, k, f, st, cell, h1, h2, h3, h4, K.2.1 _ _ h5 (by simp), r⟩
def own_k (x : Int32) : Int32 := (x &&& (2147483647 : Int32)) % (18 : Int32)
theorem own_k_r (x : Int32) : 0 ≤ (own_k x).toInt ∧ (own_k x).toInt < 18 := by
  have e : (x &&& (2147483647 : Int32)).toInt = x.toInt % 2 ^ 31 := Jvm.Kit.i32_mask x 2147483647 (k := 31) (by decide) (by decide)
  unfold own_k
  rw [Jvm.Kit.i32_rem_nonneg (by omega)]
  simp only [Int32.reduceToInt]
  omega
theorem own_sel {P : Value → Int32 → Prop} {k : Int32} (h0 : 0 ≤ k.toInt) (h1 : k.toInt < 18) {w0 w1 w2 w3 w4 w5 w6 w7 w8 w9 w10 w11 w12 w13 w14 w15 w16 w17 : Addr}
    (p0 : P (.ref w0) (100 : Int32)) (p1 : P (.ref w1) (101 : Int32)) (p2 : P (.ref w2) (102 : Int32)) (p3 : P (.ref w3) (103 : Int32)) (p4 : P (.ref w4) (200 : Int32)) (p5 : P (.ref w5) (201 : Int32)) (p6 : P (.ref w6) (202 : Int32)) (p7 : P (.ref w7) (203 : Int32)) (p8 : P (.ref w8) (300 : Int32)) (p9 : P (.ref w9) (301 : Int32)) (p10 : P (.ref w10) (302 : Int32)) (p11 : P (.ref w11) (303 : Int32)) (p12 : P (.ref w12) (304 : Int32)) (p13 : P (.ref w13) (305 : Int32)) (p14 : P (.ref w14) (306 : Int32)) (p15 : P (.ref w15) (307 : Int32)) (p16 : P (.ref w16) (308 : Int32)) (p17 : P (.ref w17) (400 : Int32)) :
    ∃ (r : Addr) (nn : Int32), [.ref w0, .ref w1, .ref w2, .ref w3, .ref w4, .ref w5, .ref w6, .ref w7, .ref w8, .ref w9, .ref w10, .ref w11, .ref w12, .ref w13, .ref w14, .ref w15, .ref w16, .ref w17].getD k.toNatClampNeg Value.null = .ref r ∧ P (.ref r) nn ∧ ((200 ≤ nn.toInt ∧ nn.toInt ≤ 308) ↔ (4 ≤ k.toInt ∧ k.toInt ≤ 16)) := by
  have hk : k.toNatClampNeg = k.toInt.toNat := rfl
  rw [hk]
  have c : k.toInt = 0 ∨ k.toInt = 1 ∨ k.toInt = 2 ∨ k.toInt = 3 ∨ k.toInt = 4 ∨ k.toInt = 5 ∨ k.toInt = 6 ∨ k.toInt = 7 ∨ k.toInt = 8 ∨ k.toInt = 9 ∨ k.toInt = 10 ∨ k.toInt = 11 ∨ k.toInt = 12 ∨ k.toInt = 13 ∨ k.toInt = 14 ∨ k.toInt = 15 ∨ k.toInt = 16 ∨ k.toInt = 17 := by omega
  rcases c with q | q | q | q | q | q | q | q | q | q | q | q | q | q | q | q | q | q
  · exact ⟨w0, 100, by rw [q]; rfl, p0, by rw [q]; decide⟩
  · exact ⟨w1, 101, by rw [q]; rfl, p1, by rw [q]; decide⟩
  · exact ⟨w2, 102, by rw [q]; rfl, p2, by rw [q]; decide⟩
  · exact ⟨w3, 103, by rw [q]; rfl, p3, by rw [q]; decide⟩
  · exact ⟨w4, 200, by rw [q]; rfl, p4, by rw [q]; decide⟩
  · exact ⟨w5, 201, by rw [q]; rfl, p5, by rw [q]; decide⟩
  · exact ⟨w6, 202, by rw [q]; rfl, p6, by rw [q]; decide⟩
  · exact ⟨w7, 203, by rw [q]; rfl, p7, by rw [q]; decide⟩
  · exact ⟨w8, 300, by rw [q]; rfl, p8, by rw [q]; decide⟩
  · exact ⟨w9, 301, by rw [q]; rfl, p9, by rw [q]; decide⟩
  · exact ⟨w10, 302, by rw [q]; rfl, p10, by rw [q]; decide⟩
  · exact ⟨w11, 303, by rw [q]; rfl, p11, by rw [q]; decide⟩
  · exact ⟨w12, 304, by rw [q]; rfl, p12, by rw [q]; decide⟩
  · exact ⟨w13, 305, by rw [q]; rfl, p13, by rw [q]; decide⟩
  · exact ⟨w14, 306, by rw [q]; rfl, p14, by rw [q]; decide⟩
  · exact ⟨w15, 307, by rw [q]; rfl, p15, by rw [q]; decide⟩
  · exact ⟨w16, 308, by rw [q]; rfl, p16, by rw [q]; decide⟩
  · exact ⟨w17, 400, by rw [q]; rfl, p17, by rw [q]; decide⟩
theorem d1_0 : decode prog_29_method_6_code 0 = .ok (.aload_n 0, 1) := by decide +kernel
theorem d1_1 : decode prog_29_method_6_code 1 = .ok (.getfield 77, 3) := by decide +kernel
theorem d1_4 : decode prog_29_method_6_code 4 = .ok (.sipush 200, 3) := by decide +kernel
theorem d1_7 : decode prog_29_method_6_code 7 = .ok (.if_icmp .lt 17, 3) := by decide +kernel
theorem d1_10 : decode prog_29_method_6_code 10 = .ok (.aload_n 0, 1) := by decide +kernel
theorem d1_11 : decode prog_29_method_6_code 11 = .ok (.getfield 77, 3) := by decide +kernel
theorem d1_14 : decode prog_29_method_6_code 14 = .ok (.sipush 308, 3) := by decide +kernel
theorem d1_17 : decode prog_29_method_6_code 17 = .ok (.if_icmp .gt 7, 3) := by decide +kernel
theorem d1_20 : decode prog_29_method_6_code 20 = .ok (.iconst 1, 1) := by decide +kernel
theorem d1_21 : decode prog_29_method_6_code 21 = .ok (.goto 4, 3) := by decide +kernel
theorem d1_24 : decode prog_29_method_6_code 24 = .ok (.iconst 0, 1) := by decide +kernel
theorem d1_25 : decode prog_29_method_6_code 25 = .ok (.ireturn, 1) := by decide +kernel
theorem ef_1 (m : MethodId) (r0 : Addr) : entryFrame m #[(.ref r0)] 1 = mkF m 0 #[.val (.ref r0)] [] := by first | (simp [entryFrame, mkF, argsToLocals, Value.category]; done) | rfl
theorem pn_0 : plainName "com/example/caseway/caseway/ErrorCode" = true := by first | (simp [plainName, overriddenIn]; done) | decide +kernel
def Q1 (Z : State) (r0 : Addr) (nn : Int32) (h0 : Heap) (n0 : Nat) (v : Option Value) (h : Heap) (L : List Loc) : Prop := v = some (.int (own_bI (200 ≤ nn.toInt ∧ nn.toInt ≤ 308))) ∧ Fr n0 L ∧ h = h0
set_option maxRecDepth 65536 in
set_option maxHeartbeats 40000000 in
theorem rm1 (l : Launch) (Z : State) (a0 : Array Value) (hw : ∀ d ∈ tables_1, d.before a0 Z = true) (ws : List Jvm.Cond) (r0 : Addr) (nn : Int32) (h0 : Heap) (n0 : Nat) (Z0 : n0 ≤ h0.size) (F_number_r0 : Fld Z h0 r0 "com/example/caseway/caseway/ErrorCode" "number" "I" (.int nn)) :
    MetFree l (⟨"com/example/caseway/caseway/ErrorCode", "rejects", "()Z"⟩ : MethodName) (head1 (Jvm.Cond.code (⟨"com/example/caseway/caseway/ErrorCode", "rejects", "()Z"⟩ : MethodName) prog_29_method_6_code 1 (some .boolean) :: ws) ({ frames := 0, cells := 0, slots := 0, locals := 0 } : Room)) (fun a U => a = #[(.ref r0)] ∧ Z.Warmed39 U.vm ∧ U.heap = h0) (fun _ _ _ _ _ => True) (fun _ U o U' => ∃ v L, o = .returned v ∧ Q1 Z r0 nn h0 n0 v U'.heap L ∧ FrameEnd U o U' L ({ frames := 0, cells := 0, slots := 0, locals := 0 } : Room).cells ({ frames := 0, cells := 0, slots := 0, locals := 0 } : Room).slots) := by
  refine MetFree.of_bodySF (plainFor_of_name pn_0) hisR ?_
  intro p e s m args below meth c s₁ Bd hml0 hP hK
  obtain ⟨rfl, hZ, hh⟩ := hP
  have hx := Bd.exec
  have hby := Bd.bytes
  have hml : c.maxLocals = 1 := hml0
  have hown : s.vm.findClass "com/example/caseway/caseway/ErrorCode" = some m.cls := findClass_of_methodNamed Bd.named
  have hnm := (name_of_methodNamed Bd.named Bd.method).1
  have X0 : Stand p l e ({ frames := 0, cells := 0, slots := 0, locals := 0 } : Room) s m #[(.ref r0)] below meth c s₁ [] 0 0 := Stand.of_body Bd
  have e0 : s₁.heap = h0 := by rw [← hh, Bd.state]; rfl
  have N0 := Fr.nil n0
  have k0 : ∀ t, Steps p.tables e below (s₁.setTop (mkF m 0 #[.val (.ref r0)] [])) t → Steps p.tables e below (s₁.setTop (entryFrame m #[(.ref r0)] 1)) t := fun t k => castTop (ef_1 m r0) k
  have k1 : ∀ t, Steps p.tables e below (s₁.setTop (mkF m 1 #[.val (.ref r0)] [(.ref r0)])) t → Steps p.tables e below (s₁.setTop (entryFrame m #[(.ref r0)] 1)) t := fun t k => k0 t (by
      show Steps p.tables e below (s₁.setTop (mkF m 0 #[.val (.ref r0)] [])) _
      refine XS.aloadN X0.here hx rfl (hb hby d1_0) rfl rfl ?_
      exact k)
  obtain ⟨T2, X2, e2, st2⟩ := getF X0 hx hZ hown (host := "") (Or.inl (hw _ (List.mem_of_getElem? (i := 46) rfl))) Via.refl e0 F_number_r0 (g := (mkF m 1 #[.val (.ref r0)] [(.ref r0)])) rfl rfl (hb hby d1_1)
  have k3 : ∀ t, Steps p.tables e below (T2.setTop (mkF m 4 #[.val (.ref r0)] [(.int nn)])) t → Steps p.tables e below (s₁.setTop (entryFrame m #[(.ref r0)] 1)) t := fun t k => k1 t (st2 _ k)
  have k4 : ∀ t, Steps p.tables e below (T2.setTop (mkF m 7 #[.val (.ref r0)] [(.int (200 : Int32)), (.int nn)])) t → Steps p.tables e below (s₁.setTop (entryFrame m #[(.ref r0)] 1)) t := fun t k => k3 t (by
      show Steps p.tables e below (T2.setTop (mkF m 4 #[.val (.ref r0)] [(.int nn)])) _
      refine XS.sipush X2.here hx rfl (hb hby d1_4) ?_
      exact k)
  by_cases hc7 : nn < (200 : Int32)
  · have k5 : ∀ t, Steps p.tables e below (T2.setTop (mkF m 25 #[.val (.ref r0)] [(.int (0 : Int32))])) t → Steps p.tables e below (s₁.setTop (entryFrame m #[(.ref r0)] 1)) t := fun t k => k4 t (by
        show Steps p.tables e below (T2.setTop (mkF m 7 #[.val (.ref r0)] [(.int (200 : Int32)), (.int nn)])) _
        refine XS.icmpYes X2.here hx rfl (pc0 := 7) (pc' := 24) rfl (hb hby d1_7) rfl (tlt hc7).1 (by decide) (by decide) ?_
        show Steps p.tables e below (T2.setTop (mkF m 24 #[.val (.ref r0)] [])) _
        refine XS.iconst X2.here hx rfl (hb hby d1_24) ?_
        exact k)
    obtain ⟨fs, hr, hrun, hended, hW, hsame⟩ := X2.leave (v := (some (.int (0 : Int32)))) (fun h => by rw [Bd.returns] at h; cases h)
    refine ⟨_, _, k5 _ ?_, hrun, hended, _, _, rfl, ?_, ⟨_, rfl⟩, hW, hsame.mono (by decide) (by decide)⟩
    · exact retN X2 hx (t := .boolean) Bd.returns (by simp) (hb hby d1_25) hr
    · show Q1 Z r0 nn h0 n0 _ T2.heap _
      rw [e2]
      exact ⟨congrArg (fun z => some (Value.int z)) (own_bI_f (by simp only [Int32.lt_iff_toInt_lt, ← Int32.toInt_inj, Int32.reduceToInt] at hc7; omega)).symm, N0, rfl⟩
  · have k6 : ∀ t, Steps p.tables e below (T2.setTop (mkF m 11 #[.val (.ref r0)] [(.ref r0)])) t → Steps p.tables e below (s₁.setTop (entryFrame m #[(.ref r0)] 1)) t := fun t k => k4 t (by
        show Steps p.tables e below (T2.setTop (mkF m 7 #[.val (.ref r0)] [(.int (200 : Int32)), (.int nn)])) _
        refine XS.icmpNo X2.here hx rfl (hb hby d1_7) rfl (flt hc7).1 ?_
        show Steps p.tables e below (T2.setTop (mkF m 10 #[.val (.ref r0)] [])) _
        refine XS.aloadN X2.here hx rfl (hb hby d1_10) rfl rfl ?_
        exact k)
    obtain ⟨T7, X7, e7, st7⟩ := getF X2 hx hZ hown (host := "") (Or.inl (hw _ (List.mem_of_getElem? (i := 46) rfl))) Via.refl e2 F_number_r0 (g := (mkF m 11 #[.val (.ref r0)] [(.ref r0)])) rfl rfl (hb hby d1_11)
    have k8 : ∀ t, Steps p.tables e below (T7.setTop (mkF m 14 #[.val (.ref r0)] [(.int nn)])) t → Steps p.tables e below (s₁.setTop (entryFrame m #[(.ref r0)] 1)) t := fun t k => k6 t (st7 _ k)
    have k9 : ∀ t, Steps p.tables e below (T7.setTop (mkF m 17 #[.val (.ref r0)] [(.int (308 : Int32)), (.int nn)])) t → Steps p.tables e below (s₁.setTop (entryFrame m #[(.ref r0)] 1)) t := fun t k => k8 t (by
        show Steps p.tables e below (T7.setTop (mkF m 14 #[.val (.ref r0)] [(.int nn)])) _
        refine XS.sipush X7.here hx rfl (hb hby d1_14) ?_
        exact k)
    by_cases hc17 : (308 : Int32) < nn
    · have k10 : ∀ t, Steps p.tables e below (T7.setTop (mkF m 25 #[.val (.ref r0)] [(.int (0 : Int32))])) t → Steps p.tables e below (s₁.setTop (entryFrame m #[(.ref r0)] 1)) t := fun t k => k9 t (by
          show Steps p.tables e below (T7.setTop (mkF m 17 #[.val (.ref r0)] [(.int (308 : Int32)), (.int nn)])) _
          refine XS.icmpYes X7.here hx rfl (pc0 := 17) (pc' := 24) rfl (hb hby d1_17) rfl (tlt hc17).2.2.1 (by decide) (by decide) ?_
          show Steps p.tables e below (T7.setTop (mkF m 24 #[.val (.ref r0)] [])) _
          refine XS.iconst X7.here hx rfl (hb hby d1_24) ?_
          exact k)
      obtain ⟨fs, hr, hrun, hended, hW, hsame⟩ := X7.leave (v := (some (.int (0 : Int32)))) (fun h => by rw [Bd.returns] at h; cases h)
      refine ⟨_, _, k10 _ ?_, hrun, hended, _, _, rfl, ?_, ⟨_, rfl⟩, hW, hsame.mono (by decide) (by decide)⟩
      · exact retN X7 hx (t := .boolean) Bd.returns (by simp) (hb hby d1_25) hr
      · show Q1 Z r0 nn h0 n0 _ T7.heap _
        rw [e7]
        exact ⟨congrArg (fun z => some (Value.int z)) (own_bI_f (by simp only [Int32.lt_iff_toInt_lt, ← Int32.toInt_inj, Int32.reduceToInt] at hc7 hc17; omega)).symm, N0, rfl⟩
    · have k11 : ∀ t, Steps p.tables e below (T7.setTop (mkF m 25 #[.val (.ref r0)] [(.int (1 : Int32))])) t → Steps p.tables e below (s₁.setTop (entryFrame m #[(.ref r0)] 1)) t := fun t k => k9 t (by
          show Steps p.tables e below (T7.setTop (mkF m 17 #[.val (.ref r0)] [(.int (308 : Int32)), (.int nn)])) _
          refine XS.icmpNo X7.here hx rfl (hb hby d1_17) rfl (flt hc17).2.2.1 ?_
          show Steps p.tables e below (T7.setTop (mkF m 20 #[.val (.ref r0)] [])) _
          refine XS.iconst X7.here hx rfl (hb hby d1_20) ?_
          show Steps p.tables e below (T7.setTop (mkF m 21 #[.val (.ref r0)] [(.int (1 : Int32))])) _
          refine XS.goto X7.here hx rfl (pc0 := 21) (pc' := 25) rfl (hb hby d1_21) (by decide) (by decide) ?_
          exact k)
      obtain ⟨fs, hr, hrun, hended, hW, hsame⟩ := X7.leave (v := (some (.int (1 : Int32)))) (fun h => by rw [Bd.returns] at h; cases h)
      refine ⟨_, _, k11 _ ?_, hrun, hended, _, _, rfl, ?_, ⟨_, rfl⟩, hW, hsame.mono (by decide) (by decide)⟩
      · exact retN X7 hx (t := .boolean) Bd.returns (by simp) (hb hby d1_25) hr
      · show Q1 Z r0 nn h0 n0 _ T7.heap _
        rw [e7]
        exact ⟨congrArg (fun z => some (Value.int z)) (own_bI_t (by simp only [Int32.lt_iff_toInt_lt, ← Int32.toInt_inj, Int32.reduceToInt] at hc7 hc17; omega)).symm, N0, rfl⟩
theorem ef_0 (m : MethodId) (p0 : Int32) : entryFrame m #[(.int p0)] maxLocals = mkF m 0 #[.val (.int p0), .unset, .unset, .unset] [] := by first | (simp [entryFrame, mkF, argsToLocals, Value.category, maxLocals]; done) | rfl
theorem pn_1 : plainName "com/example/caseway/caseway/ErrorCodeRejectsPinLaw" = true := by first | (simp [plainName, overriddenIn]; done) | decide +kernel
theorem pd_0 : parseMethodDescriptor "()Z" = some ⟨[], some .boolean⟩ := by decide +kernel
def Q0 (Z : State) (p0 : Int32) (w_SEGMENT_SEQUENCE_ERROR : Addr) (w_REQUIRED_FIELD_MISSING : Addr) (w_DATA_TYPE_ERROR : Addr) (w_TABLE_VALUE_NOT_FOUND : Addr) (w_UNSUPPORTED_MESSAGE_TYPE : Addr) (w_UNSUPPORTED_EVENT_CODE : Addr) (w_UNSUPPORTED_PROCESSING_ID : Addr) (w_UNSUPPORTED_VERSION_ID : Addr) (w_INVALID_XML : Addr) (w_XML_NAMESPACE_ISSUE : Addr) (w_SCHEMA_VALIDATION_ERROR : Addr) (w_INVALID_MSH3_FORMAT : Addr) (w_MESSAGE_TYPE_MISMATCH : Addr) (w_INVALID_REF_RRI_MESSAGE_TYPE : Addr) (w_INVALID_HOSPITAL_FORMAT : Addr) (w_INVALID_AGENCY_FORMAT : Addr) (w_INVALID_PRACTICE_ID_FORMAT : Addr) (w_GENERAL_MESSAGE_EXCEPTION : Addr) (h0 : Heap) (n0 : Nat) (v : Option Value) (h : Heap) (L : List Loc) : Prop := v = some (.int (1 : Int32)) ∧ Fr n0 L
set_option maxRecDepth 65536 in
set_option maxHeartbeats 40000000 in
theorem rm0 (l : Launch) (Z : State) (a0 : Array Value) (hw : ∀ d ∈ tables_1, d.before a0 Z = true) (ws : List Jvm.Cond) (p0 : Int32) (w_SEGMENT_SEQUENCE_ERROR : Addr) (w_REQUIRED_FIELD_MISSING : Addr) (w_DATA_TYPE_ERROR : Addr) (w_TABLE_VALUE_NOT_FOUND : Addr) (w_UNSUPPORTED_MESSAGE_TYPE : Addr) (w_UNSUPPORTED_EVENT_CODE : Addr) (w_UNSUPPORTED_PROCESSING_ID : Addr) (w_UNSUPPORTED_VERSION_ID : Addr) (w_INVALID_XML : Addr) (w_XML_NAMESPACE_ISSUE : Addr) (w_SCHEMA_VALIDATION_ERROR : Addr) (w_INVALID_MSH3_FORMAT : Addr) (w_MESSAGE_TYPE_MISMATCH : Addr) (w_INVALID_REF_RRI_MESSAGE_TYPE : Addr) (w_INVALID_HOSPITAL_FORMAT : Addr) (w_INVALID_AGENCY_FORMAT : Addr) (w_INVALID_PRACTICE_ID_FORMAT : Addr) (w_GENERAL_MESSAGE_EXCEPTION : Addr) (h0 : Heap) (n0 : Nat) (Z0 : n0 ≤ h0.size) (S_SEGMENT_SEQUENCE_ERROR : Sta Z h0 "com/example/caseway/caseway/ErrorCode" "SEGMENT_SEQUENCE_ERROR" "Lcom/example/caseway/caseway/ErrorCode;" (.ref w_SEGMENT_SEQUENCE_ERROR)) (S_REQUIRED_FIELD_MISSING : Sta Z h0 "com/example/caseway/caseway/ErrorCode" "REQUIRED_FIELD_MISSING" "Lcom/example/caseway/caseway/ErrorCode;" (.ref w_REQUIRED_FIELD_MISSING)) (S_DATA_TYPE_ERROR : Sta Z h0 "com/example/caseway/caseway/ErrorCode" "DATA_TYPE_ERROR" "Lcom/example/caseway/caseway/ErrorCode;" (.ref w_DATA_TYPE_ERROR)) (S_TABLE_VALUE_NOT_FOUND : Sta Z h0 "com/example/caseway/caseway/ErrorCode" "TABLE_VALUE_NOT_FOUND" "Lcom/example/caseway/caseway/ErrorCode;" (.ref w_TABLE_VALUE_NOT_FOUND)) (S_UNSUPPORTED_MESSAGE_TYPE : Sta Z h0 "com/example/caseway/caseway/ErrorCode" "UNSUPPORTED_MESSAGE_TYPE" "Lcom/example/caseway/caseway/ErrorCode;" (.ref w_UNSUPPORTED_MESSAGE_TYPE)) (S_UNSUPPORTED_EVENT_CODE : Sta Z h0 "com/example/caseway/caseway/ErrorCode" "UNSUPPORTED_EVENT_CODE" "Lcom/example/caseway/caseway/ErrorCode;" (.ref w_UNSUPPORTED_EVENT_CODE)) (S_UNSUPPORTED_PROCESSING_ID : Sta Z h0 "com/example/caseway/caseway/ErrorCode" "UNSUPPORTED_PROCESSING_ID" "Lcom/example/caseway/caseway/ErrorCode;" (.ref w_UNSUPPORTED_PROCESSING_ID)) (S_UNSUPPORTED_VERSION_ID : Sta Z h0 "com/example/caseway/caseway/ErrorCode" "UNSUPPORTED_VERSION_ID" "Lcom/example/caseway/caseway/ErrorCode;" (.ref w_UNSUPPORTED_VERSION_ID)) (S_INVALID_XML : Sta Z h0 "com/example/caseway/caseway/ErrorCode" "INVALID_XML" "Lcom/example/caseway/caseway/ErrorCode;" (.ref w_INVALID_XML)) (S_XML_NAMESPACE_ISSUE : Sta Z h0 "com/example/caseway/caseway/ErrorCode" "XML_NAMESPACE_ISSUE" "Lcom/example/caseway/caseway/ErrorCode;" (.ref w_XML_NAMESPACE_ISSUE)) (S_SCHEMA_VALIDATION_ERROR : Sta Z h0 "com/example/caseway/caseway/ErrorCode" "SCHEMA_VALIDATION_ERROR" "Lcom/example/caseway/caseway/ErrorCode;" (.ref w_SCHEMA_VALIDATION_ERROR)) (S_INVALID_MSH3_FORMAT : Sta Z h0 "com/example/caseway/caseway/ErrorCode" "INVALID_MSH3_FORMAT" "Lcom/example/caseway/caseway/ErrorCode;" (.ref w_INVALID_MSH3_FORMAT)) (S_MESSAGE_TYPE_MISMATCH : Sta Z h0 "com/example/caseway/caseway/ErrorCode" "MESSAGE_TYPE_MISMATCH" "Lcom/example/caseway/caseway/ErrorCode;" (.ref w_MESSAGE_TYPE_MISMATCH)) (S_INVALID_REF_RRI_MESSAGE_TYPE : Sta Z h0 "com/example/caseway/caseway/ErrorCode" "INVALID_REF_RRI_MESSAGE_TYPE" "Lcom/example/caseway/caseway/ErrorCode;" (.ref w_INVALID_REF_RRI_MESSAGE_TYPE)) (S_INVALID_HOSPITAL_FORMAT : Sta Z h0 "com/example/caseway/caseway/ErrorCode" "INVALID_HOSPITAL_FORMAT" "Lcom/example/caseway/caseway/ErrorCode;" (.ref w_INVALID_HOSPITAL_FORMAT)) (S_INVALID_AGENCY_FORMAT : Sta Z h0 "com/example/caseway/caseway/ErrorCode" "INVALID_AGENCY_FORMAT" "Lcom/example/caseway/caseway/ErrorCode;" (.ref w_INVALID_AGENCY_FORMAT)) (S_INVALID_PRACTICE_ID_FORMAT : Sta Z h0 "com/example/caseway/caseway/ErrorCode" "INVALID_PRACTICE_ID_FORMAT" "Lcom/example/caseway/caseway/ErrorCode;" (.ref w_INVALID_PRACTICE_ID_FORMAT)) (S_GENERAL_MESSAGE_EXCEPTION : Sta Z h0 "com/example/caseway/caseway/ErrorCode" "GENERAL_MESSAGE_EXCEPTION" "Lcom/example/caseway/caseway/ErrorCode;" (.ref w_GENERAL_MESSAGE_EXCEPTION)) (E_w_SEGMENT_SEQUENCE_ERROR : Exa Z h0 w_SEGMENT_SEQUENCE_ERROR "com/example/caseway/caseway/ErrorCode") (E_w_REQUIRED_FIELD_MISSING : Exa Z h0 w_REQUIRED_FIELD_MISSING "com/example/caseway/caseway/ErrorCode") (E_w_DATA_TYPE_ERROR : Exa Z h0 w_DATA_TYPE_ERROR "com/example/caseway/caseway/ErrorCode") (E_w_TABLE_VALUE_NOT_FOUND : Exa Z h0 w_TABLE_VALUE_NOT_FOUND "com/example/caseway/caseway/ErrorCode") (E_w_UNSUPPORTED_MESSAGE_TYPE : Exa Z h0 w_UNSUPPORTED_MESSAGE_TYPE "com/example/caseway/caseway/ErrorCode") (E_w_UNSUPPORTED_EVENT_CODE : Exa Z h0 w_UNSUPPORTED_EVENT_CODE "com/example/caseway/caseway/ErrorCode") (E_w_UNSUPPORTED_PROCESSING_ID : Exa Z h0 w_UNSUPPORTED_PROCESSING_ID "com/example/caseway/caseway/ErrorCode") (E_w_UNSUPPORTED_VERSION_ID : Exa Z h0 w_UNSUPPORTED_VERSION_ID "com/example/caseway/caseway/ErrorCode") (E_w_INVALID_XML : Exa Z h0 w_INVALID_XML "com/example/caseway/caseway/ErrorCode") (E_w_XML_NAMESPACE_ISSUE : Exa Z h0 w_XML_NAMESPACE_ISSUE "com/example/caseway/caseway/ErrorCode") (E_w_SCHEMA_VALIDATION_ERROR : Exa Z h0 w_SCHEMA_VALIDATION_ERROR "com/example/caseway/caseway/ErrorCode") (E_w_INVALID_MSH3_FORMAT : Exa Z h0 w_INVALID_MSH3_FORMAT "com/example/caseway/caseway/ErrorCode") (E_w_MESSAGE_TYPE_MISMATCH : Exa Z h0 w_MESSAGE_TYPE_MISMATCH "com/example/caseway/caseway/ErrorCode") (E_w_INVALID_REF_RRI_MESSAGE_TYPE : Exa Z h0 w_INVALID_REF_RRI_MESSAGE_TYPE "com/example/caseway/caseway/ErrorCode") (E_w_INVALID_HOSPITAL_FORMAT : Exa Z h0 w_INVALID_HOSPITAL_FORMAT "com/example/caseway/caseway/ErrorCode") (E_w_INVALID_AGENCY_FORMAT : Exa Z h0 w_INVALID_AGENCY_FORMAT "com/example/caseway/caseway/ErrorCode") (E_w_INVALID_PRACTICE_ID_FORMAT : Exa Z h0 w_INVALID_PRACTICE_ID_FORMAT "com/example/caseway/caseway/ErrorCode") (E_w_GENERAL_MESSAGE_EXCEPTION : Exa Z h0 w_GENERAL_MESSAGE_EXCEPTION "com/example/caseway/caseway/ErrorCode") (F_w_SEGMENT_SEQUENCE_ERROR : Fld Z h0 w_SEGMENT_SEQUENCE_ERROR "com/example/caseway/caseway/ErrorCode" "number" "I" (.int (100 : Int32))) (F_w_REQUIRED_FIELD_MISSING : Fld Z h0 w_REQUIRED_FIELD_MISSING "com/example/caseway/caseway/ErrorCode" "number" "I" (.int (101 : Int32))) (F_w_DATA_TYPE_ERROR : Fld Z h0 w_DATA_TYPE_ERROR "com/example/caseway/caseway/ErrorCode" "number" "I" (.int (102 : Int32))) (F_w_TABLE_VALUE_NOT_FOUND : Fld Z h0 w_TABLE_VALUE_NOT_FOUND "com/example/caseway/caseway/ErrorCode" "number" "I" (.int (103 : Int32))) (F_w_UNSUPPORTED_MESSAGE_TYPE : Fld Z h0 w_UNSUPPORTED_MESSAGE_TYPE "com/example/caseway/caseway/ErrorCode" "number" "I" (.int (200 : Int32))) (F_w_UNSUPPORTED_EVENT_CODE : Fld Z h0 w_UNSUPPORTED_EVENT_CODE "com/example/caseway/caseway/ErrorCode" "number" "I" (.int (201 : Int32))) (F_w_UNSUPPORTED_PROCESSING_ID : Fld Z h0 w_UNSUPPORTED_PROCESSING_ID "com/example/caseway/caseway/ErrorCode" "number" "I" (.int (202 : Int32))) (F_w_UNSUPPORTED_VERSION_ID : Fld Z h0 w_UNSUPPORTED_VERSION_ID "com/example/caseway/caseway/ErrorCode" "number" "I" (.int (203 : Int32))) (F_w_INVALID_XML : Fld Z h0 w_INVALID_XML "com/example/caseway/caseway/ErrorCode" "number" "I" (.int (300 : Int32))) (F_w_XML_NAMESPACE_ISSUE : Fld Z h0 w_XML_NAMESPACE_ISSUE "com/example/caseway/caseway/ErrorCode" "number" "I" (.int (301 : Int32))) (F_w_SCHEMA_VALIDATION_ERROR : Fld Z h0 w_SCHEMA_VALIDATION_ERROR "com/example/caseway/caseway/ErrorCode" "number" "I" (.int (302 : Int32))) (F_w_INVALID_MSH3_FORMAT : Fld Z h0 w_INVALID_MSH3_FORMAT "com/example/caseway/caseway/ErrorCode" "number" "I" (.int (303 : Int32))) (F_w_MESSAGE_TYPE_MISMATCH : Fld Z h0 w_MESSAGE_TYPE_MISMATCH "com/example/caseway/caseway/ErrorCode" "number" "I" (.int (304 : Int32))) (F_w_INVALID_REF_RRI_MESSAGE_TYPE : Fld Z h0 w_INVALID_REF_RRI_MESSAGE_TYPE "com/example/caseway/caseway/ErrorCode" "number" "I" (.int (305 : Int32))) (F_w_INVALID_HOSPITAL_FORMAT : Fld Z h0 w_INVALID_HOSPITAL_FORMAT "com/example/caseway/caseway/ErrorCode" "number" "I" (.int (306 : Int32))) (F_w_INVALID_AGENCY_FORMAT : Fld Z h0 w_INVALID_AGENCY_FORMAT "com/example/caseway/caseway/ErrorCode" "number" "I" (.int (307 : Int32))) (F_w_INVALID_PRACTICE_ID_FORMAT : Fld Z h0 w_INVALID_PRACTICE_ID_FORMAT "com/example/caseway/caseway/ErrorCode" "number" "I" (.int (308 : Int32))) (F_w_GENERAL_MESSAGE_EXCEPTION : Fld Z h0 w_GENERAL_MESSAGE_EXCEPTION "com/example/caseway/caseway/ErrorCode" "number" "I" (.int (400 : Int32))) :
    MetFree l x (head1 (Jvm.Cond.code x code maxLocals ret :: ws) room_1) (fun a U => a = #[(.int p0)] ∧ Z.Warmed39 U.vm ∧ U.heap = h0) (fun _ _ _ _ _ => True) (fun _ U o U' => ∃ v L, o = .returned v ∧ Q0 Z p0 w_SEGMENT_SEQUENCE_ERROR w_REQUIRED_FIELD_MISSING w_DATA_TYPE_ERROR w_TABLE_VALUE_NOT_FOUND w_UNSUPPORTED_MESSAGE_TYPE w_UNSUPPORTED_EVENT_CODE w_UNSUPPORTED_PROCESSING_ID w_UNSUPPORTED_VERSION_ID w_INVALID_XML w_XML_NAMESPACE_ISSUE w_SCHEMA_VALIDATION_ERROR w_INVALID_MSH3_FORMAT w_MESSAGE_TYPE_MISMATCH w_INVALID_REF_RRI_MESSAGE_TYPE w_INVALID_HOSPITAL_FORMAT w_INVALID_AGENCY_FORMAT w_INVALID_PRACTICE_ID_FORMAT w_GENERAL_MESSAGE_EXCEPTION h0 n0 v U'.heap L ∧ FrameEnd U o U' L 1 18) := by
  refine MetFree.of_bodySF (plainFor_of_name pn_1) hisR ?_
  intro p e s m args below meth c s₁ Bd hml0 hP hK
  obtain ⟨rfl, hZ, hh⟩ := hP
  have hx := Bd.exec
  have hby := Bd.bytes
  have hml : c.maxLocals = 4 := hml0
  have hown : s.vm.findClass "com/example/caseway/caseway/ErrorCodeRejectsPinLaw" = some m.cls := findClass_of_methodNamed Bd.named
  have hnm := (name_of_methodNamed Bd.named Bd.method).1
  have X0 : Stand p l e room_1 s m #[(.int p0)] below meth c s₁ [] 0 0 := Stand.of_body Bd
  have e0 : s₁.heap = h0 := by rw [← hh, Bd.state]; rfl
  have N0 := Fr.nil n0
  have k0 : ∀ t, Steps p.tables e below (s₁.setTop (mkF m 0 #[.val (.int p0), .unset, .unset, .unset] [])) t → Steps p.tables e below (s₁.setTop (entryFrame m #[(.int p0)] maxLocals)) t := fun t k => castTop (ef_0 m p0) k
  have k1 : ∀ t, Steps p.tables e below (s₁.setTop (mkF m 2 #[.val (.int p0), .unset, .unset, .unset] [(.int (18 : Int32))])) t → Steps p.tables e below (s₁.setTop (entryFrame m #[(.int p0)] maxLocals)) t := fun t k => k0 t (by
      show Steps p.tables e below (s₁.setTop (mkF m 0 #[.val (.int p0), .unset, .unset, .unset] [])) _
      refine XS.bipush X0.here hx rfl (hb hby at_0) ?_
      exact k)
  obtain ⟨T2, h2, ka2, X2, e2, E2, A2, O2, st2⟩ := newR X0 hx hZ hown (hw _ (List.mem_of_getElem? (i := 0) rfl)) (hw _ (List.mem_of_getElem? (i := 1) rfl)) e0 (g := (mkF m 2 #[.val (.int p0), .unset, .unset, .unset] [(.int (18 : Int32))])) rfl (hb hby at_2) rfl (by decide) (cap := 18) (by decide) (by decide) (by decide) (by decide)
  obtain ⟨b2, g2⟩ : ∃ z, z = h0.size := ⟨_, rfl⟩
  rw [← g2] at A2 st2
  have V_b2_0 : Arv Z h2 b2 ka2 (.object "com/example/caseway/caseway/ErrorCode") (18 : Int32) [.null, .null, .null, .null, .null, .null, .null, .null, .null, .null, .null, .null, .null, .null, .null, .null, .null, .null] .null := (Arv.new A2 (by decide)).pad (pad_rep [] .null 18)
  have g_b2 : n0 ≤ b2 := Nat.le_trans Z0 (Nat.le_of_eq g2.symm)
  have sz_b2 : h0.size ≤ b2 := Nat.le_of_eq g2.symm
  have K2 : Keep h0 h2 [] := (Keep.refl h0 []).ext E2
  have Zs2 : n0 ≤ h2.size := Nat.le_trans Z0 E2.1
  have k3 : ∀ t, Steps p.tables e below (T2.setTop (mkF m 5 #[.val (.int p0), .unset, .unset, .unset] [(.ref b2)])) t → Steps p.tables e below (s₁.setTop (entryFrame m #[(.int p0)] maxLocals)) t := fun t k => k1 t (st2 _ k)
  have k4 : ∀ t, Steps p.tables e below (T2.setTop (mkF m 7 #[.val (.int p0), .unset, .unset, .unset] [(.int (0 : Int32)), (.ref b2), (.ref b2)])) t → Steps p.tables e below (s₁.setTop (entryFrame m #[(.int p0)] maxLocals)) t := fun t k => k3 t (by
      show Steps p.tables e below (T2.setTop (mkF m 5 #[.val (.int p0), .unset, .unset, .unset] [(.ref b2)])) _
      refine XS.dup X2.here hx rfl (hb hby at_5) rfl rfl ?_
      show Steps p.tables e below (T2.setTop (mkF m 6 #[.val (.int p0), .unset, .unset, .unset] [(.ref b2), (.ref b2)])) _
      refine XS.iconst X2.here hx rfl (hb hby at_6) ?_
      exact k)
  obtain ⟨T5, X5, e5, st5⟩ := getS2 X2 hx hZ hown (host := "") (Or.inl (hw _ (List.mem_of_getElem? (i := 2) rfl))) Via.refl e2 (own_sta_keep S_SEGMENT_SEQUENCE_ERROR K2) (g := (mkF m 7 #[.val (.int p0), .unset, .unset, .unset] [(.int (0 : Int32)), (.ref b2), (.ref b2)])) rfl (hb hby at_7)
  have k6 : ∀ t, Steps p.tables e below (T5.setTop (mkF m 10 #[.val (.int p0), .unset, .unset, .unset] [(.ref w_SEGMENT_SEQUENCE_ERROR), (.int (0 : Int32)), (.ref b2), (.ref b2)])) t → Steps p.tables e below (s₁.setTop (entryFrame m #[(.int p0)] maxLocals)) t := fun t k => k4 t (st5 _ k)
  obtain ⟨cl_b2_10, Ar_b2_10, q_b2_10, S_b2_10, N_b2_10, H_b2_10, G_b2_10⟩ := V_b2_0
  have hin_b2_10 : ¬ ((0 : Int32) < 0 ∨ cl_b2_10.slots.size ≤ ((0 : Int32)).toNatClampNeg) := inb_of S_b2_10 ⟨by decide, by decide⟩
  obtain ⟨T7, h7, X7, e7, W7, st7⟩ := stR X5 hx hZ e5 Ar_b2_10 (j := (0 : Int32)) hin_b2_10 rfl (Sto.ofV Ar_b2_10 q_b2_10 O2 (Ins.self (E_w_SEGMENT_SEQUENCE_ERROR.keep K2))) (g := (mkF m 10 #[.val (.int p0), .unset, .unset, .unset] [(.ref w_SEGMENT_SEQUENCE_ERROR), (.int (0 : Int32)), (.ref b2), (.ref b2)])) rfl rfl (hb hby at_10)
  have V_b2_10 : Arv Z h7 b2 ka2 (.object "com/example/caseway/caseway/ErrorCode") (18 : Int32) [(.ref w_SEGMENT_SEQUENCE_ERROR), .null, .null, .null, .null, .null, .null, .null, .null, .null, .null, .null, .null, .null, .null, .null, .null, .null] .null := Arv.set Ar_b2_10 q_b2_10 S_b2_10 N_b2_10 H_b2_10 G_b2_10 rfl W7 0 rfl (Nat.le_of_ble_eq_true rfl)
  have K7 : Keep h0 h7 [] := K2.wr W7 (Or.inr sz_b2)
  have N7 := Fr.snoc X7 N0 g_b2
  have Zs7 : n0 ≤ h7.size := Nat.le_trans Zs2 (Keep.of_wr W7).1
  have k8 : ∀ t, Steps p.tables e below (T7.setTop (mkF m 11 #[.val (.int p0), .unset, .unset, .unset] [(.ref b2)])) t → Steps p.tables e below (s₁.setTop (entryFrame m #[(.int p0)] maxLocals)) t := fun t k => k6 t (st7 _ k)
  have k9 : ∀ t, Steps p.tables e below (T7.setTop (mkF m 13 #[.val (.int p0), .unset, .unset, .unset] [(.int (1 : Int32)), (.ref b2), (.ref b2)])) t → Steps p.tables e below (s₁.setTop (entryFrame m #[(.int p0)] maxLocals)) t := fun t k => k8 t (by
      show Steps p.tables e below (T7.setTop (mkF m 11 #[.val (.int p0), .unset, .unset, .unset] [(.ref b2)])) _
      refine XS.dup X7.here hx rfl (hb hby at_11) rfl rfl ?_
      show Steps p.tables e below (T7.setTop (mkF m 12 #[.val (.int p0), .unset, .unset, .unset] [(.ref b2), (.ref b2)])) _
      refine XS.iconst X7.here hx rfl (hb hby at_12) ?_
      exact k)
  obtain ⟨T10, X10, e10, st10⟩ := getS2 X7 hx hZ hown (host := "") (Or.inl (hw _ (List.mem_of_getElem? (i := 6) rfl))) Via.refl e7 (own_sta_keep S_REQUIRED_FIELD_MISSING K7) (g := (mkF m 13 #[.val (.int p0), .unset, .unset, .unset] [(.int (1 : Int32)), (.ref b2), (.ref b2)])) rfl (hb hby at_13)
  have k11 : ∀ t, Steps p.tables e below (T10.setTop (mkF m 16 #[.val (.int p0), .unset, .unset, .unset] [(.ref w_REQUIRED_FIELD_MISSING), (.int (1 : Int32)), (.ref b2), (.ref b2)])) t → Steps p.tables e below (s₁.setTop (entryFrame m #[(.int p0)] maxLocals)) t := fun t k => k9 t (st10 _ k)
  obtain ⟨cl_b2_16, Ar_b2_16, q_b2_16, S_b2_16, N_b2_16, H_b2_16, G_b2_16⟩ := V_b2_10
  have hin_b2_16 : ¬ ((1 : Int32) < 0 ∨ cl_b2_16.slots.size ≤ ((1 : Int32)).toNatClampNeg) := inb_of S_b2_16 ⟨by decide, by decide⟩
  obtain ⟨T12, h12, X12, e12, W12, st12⟩ := stR X10 hx hZ e10 Ar_b2_16 (j := (1 : Int32)) hin_b2_16 rfl (Sto.ofV Ar_b2_16 q_b2_16 O2 (Ins.self (E_w_REQUIRED_FIELD_MISSING.keep K7))) (g := (mkF m 16 #[.val (.int p0), .unset, .unset, .unset] [(.ref w_REQUIRED_FIELD_MISSING), (.int (1 : Int32)), (.ref b2), (.ref b2)])) rfl rfl (hb hby at_16)
  have V_b2_16 : Arv Z h12 b2 ka2 (.object "com/example/caseway/caseway/ErrorCode") (18 : Int32) [(.ref w_SEGMENT_SEQUENCE_ERROR), (.ref w_REQUIRED_FIELD_MISSING), .null, .null, .null, .null, .null, .null, .null, .null, .null, .null, .null, .null, .null, .null, .null, .null] .null := Arv.set Ar_b2_16 q_b2_16 S_b2_16 N_b2_16 H_b2_16 G_b2_16 rfl W12 1 rfl (Nat.le_of_ble_eq_true rfl)
  have K12 : Keep h0 h12 [] := K7.wr W12 (Or.inr sz_b2)
  have N12 := Fr.snoc X12 N7 g_b2
  have Zs12 : n0 ≤ h12.size := Nat.le_trans Zs7 (Keep.of_wr W12).1
  have k13 : ∀ t, Steps p.tables e below (T12.setTop (mkF m 17 #[.val (.int p0), .unset, .unset, .unset] [(.ref b2)])) t → Steps p.tables e below (s₁.setTop (entryFrame m #[(.int p0)] maxLocals)) t := fun t k => k11 t (st12 _ k)
  have k14 : ∀ t, Steps p.tables e below (T12.setTop (mkF m 19 #[.val (.int p0), .unset, .unset, .unset] [(.int (2 : Int32)), (.ref b2), (.ref b2)])) t → Steps p.tables e below (s₁.setTop (entryFrame m #[(.int p0)] maxLocals)) t := fun t k => k13 t (by
      show Steps p.tables e below (T12.setTop (mkF m 17 #[.val (.int p0), .unset, .unset, .unset] [(.ref b2)])) _
      refine XS.dup X12.here hx rfl (hb hby at_17) rfl rfl ?_
      show Steps p.tables e below (T12.setTop (mkF m 18 #[.val (.int p0), .unset, .unset, .unset] [(.ref b2), (.ref b2)])) _
      refine XS.iconst X12.here hx rfl (hb hby at_18) ?_
      exact k)
  obtain ⟨T15, X15, e15, st15⟩ := getS2 X12 hx hZ hown (host := "") (Or.inl (hw _ (List.mem_of_getElem? (i := 8) rfl))) Via.refl e12 (own_sta_keep S_DATA_TYPE_ERROR K12) (g := (mkF m 19 #[.val (.int p0), .unset, .unset, .unset] [(.int (2 : Int32)), (.ref b2), (.ref b2)])) rfl (hb hby at_19)
  have k16 : ∀ t, Steps p.tables e below (T15.setTop (mkF m 22 #[.val (.int p0), .unset, .unset, .unset] [(.ref w_DATA_TYPE_ERROR), (.int (2 : Int32)), (.ref b2), (.ref b2)])) t → Steps p.tables e below (s₁.setTop (entryFrame m #[(.int p0)] maxLocals)) t := fun t k => k14 t (st15 _ k)
  obtain ⟨cl_b2_22, Ar_b2_22, q_b2_22, S_b2_22, N_b2_22, H_b2_22, G_b2_22⟩ := V_b2_16
  have hin_b2_22 : ¬ ((2 : Int32) < 0 ∨ cl_b2_22.slots.size ≤ ((2 : Int32)).toNatClampNeg) := inb_of S_b2_22 ⟨by decide, by decide⟩
  obtain ⟨T17, h17, X17, e17, W17, st17⟩ := stR X15 hx hZ e15 Ar_b2_22 (j := (2 : Int32)) hin_b2_22 rfl (Sto.ofV Ar_b2_22 q_b2_22 O2 (Ins.self (E_w_DATA_TYPE_ERROR.keep K12))) (g := (mkF m 22 #[.val (.int p0), .unset, .unset, .unset] [(.ref w_DATA_TYPE_ERROR), (.int (2 : Int32)), (.ref b2), (.ref b2)])) rfl rfl (hb hby at_22)
  have V_b2_22 : Arv Z h17 b2 ka2 (.object "com/example/caseway/caseway/ErrorCode") (18 : Int32) [(.ref w_SEGMENT_SEQUENCE_ERROR), (.ref w_REQUIRED_FIELD_MISSING), (.ref w_DATA_TYPE_ERROR), .null, .null, .null, .null, .null, .null, .null, .null, .null, .null, .null, .null, .null, .null, .null] .null := Arv.set Ar_b2_22 q_b2_22 S_b2_22 N_b2_22 H_b2_22 G_b2_22 rfl W17 2 rfl (Nat.le_of_ble_eq_true rfl)
  have K17 : Keep h0 h17 [] := K12.wr W17 (Or.inr sz_b2)
  have N17 := Fr.snoc X17 N12 g_b2
  have Zs17 : n0 ≤ h17.size := Nat.le_trans Zs12 (Keep.of_wr W17).1
  have k18 : ∀ t, Steps p.tables e below (T17.setTop (mkF m 23 #[.val (.int p0), .unset, .unset, .unset] [(.ref b2)])) t → Steps p.tables e below (s₁.setTop (entryFrame m #[(.int p0)] maxLocals)) t := fun t k => k16 t (st17 _ k)
  have k19 : ∀ t, Steps p.tables e below (T17.setTop (mkF m 25 #[.val (.int p0), .unset, .unset, .unset] [(.int (3 : Int32)), (.ref b2), (.ref b2)])) t → Steps p.tables e below (s₁.setTop (entryFrame m #[(.int p0)] maxLocals)) t := fun t k => k18 t (by
      show Steps p.tables e below (T17.setTop (mkF m 23 #[.val (.int p0), .unset, .unset, .unset] [(.ref b2)])) _
      refine XS.dup X17.here hx rfl (hb hby at_23) rfl rfl ?_
      show Steps p.tables e below (T17.setTop (mkF m 24 #[.val (.int p0), .unset, .unset, .unset] [(.ref b2), (.ref b2)])) _
      refine XS.iconst X17.here hx rfl (hb hby at_24) ?_
      exact k)
  obtain ⟨T20, X20, e20, st20⟩ := getS2 X17 hx hZ hown (host := "") (Or.inl (hw _ (List.mem_of_getElem? (i := 10) rfl))) Via.refl e17 (own_sta_keep S_TABLE_VALUE_NOT_FOUND K17) (g := (mkF m 25 #[.val (.int p0), .unset, .unset, .unset] [(.int (3 : Int32)), (.ref b2), (.ref b2)])) rfl (hb hby at_25)
  have k21 : ∀ t, Steps p.tables e below (T20.setTop (mkF m 28 #[.val (.int p0), .unset, .unset, .unset] [(.ref w_TABLE_VALUE_NOT_FOUND), (.int (3 : Int32)), (.ref b2), (.ref b2)])) t → Steps p.tables e below (s₁.setTop (entryFrame m #[(.int p0)] maxLocals)) t := fun t k => k19 t (st20 _ k)
  obtain ⟨cl_b2_28, Ar_b2_28, q_b2_28, S_b2_28, N_b2_28, H_b2_28, G_b2_28⟩ := V_b2_22
  have hin_b2_28 : ¬ ((3 : Int32) < 0 ∨ cl_b2_28.slots.size ≤ ((3 : Int32)).toNatClampNeg) := inb_of S_b2_28 ⟨by decide, by decide⟩
  obtain ⟨T22, h22, X22, e22, W22, st22⟩ := stR X20 hx hZ e20 Ar_b2_28 (j := (3 : Int32)) hin_b2_28 rfl (Sto.ofV Ar_b2_28 q_b2_28 O2 (Ins.self (E_w_TABLE_VALUE_NOT_FOUND.keep K17))) (g := (mkF m 28 #[.val (.int p0), .unset, .unset, .unset] [(.ref w_TABLE_VALUE_NOT_FOUND), (.int (3 : Int32)), (.ref b2), (.ref b2)])) rfl rfl (hb hby at_28)
  have V_b2_28 : Arv Z h22 b2 ka2 (.object "com/example/caseway/caseway/ErrorCode") (18 : Int32) [(.ref w_SEGMENT_SEQUENCE_ERROR), (.ref w_REQUIRED_FIELD_MISSING), (.ref w_DATA_TYPE_ERROR), (.ref w_TABLE_VALUE_NOT_FOUND), .null, .null, .null, .null, .null, .null, .null, .null, .null, .null, .null, .null, .null, .null] .null := Arv.set Ar_b2_28 q_b2_28 S_b2_28 N_b2_28 H_b2_28 G_b2_28 rfl W22 3 rfl (Nat.le_of_ble_eq_true rfl)
  have K22 : Keep h0 h22 [] := K17.wr W22 (Or.inr sz_b2)
  have N22 := Fr.snoc X22 N17 g_b2
  have Zs22 : n0 ≤ h22.size := Nat.le_trans Zs17 (Keep.of_wr W22).1
  have k23 : ∀ t, Steps p.tables e below (T22.setTop (mkF m 29 #[.val (.int p0), .unset, .unset, .unset] [(.ref b2)])) t → Steps p.tables e below (s₁.setTop (entryFrame m #[(.int p0)] maxLocals)) t := fun t k => k21 t (st22 _ k)
  have k24 : ∀ t, Steps p.tables e below (T22.setTop (mkF m 31 #[.val (.int p0), .unset, .unset, .unset] [(.int (4 : Int32)), (.ref b2), (.ref b2)])) t → Steps p.tables e below (s₁.setTop (entryFrame m #[(.int p0)] maxLocals)) t := fun t k => k23 t (by
      show Steps p.tables e below (T22.setTop (mkF m 29 #[.val (.int p0), .unset, .unset, .unset] [(.ref b2)])) _
      refine XS.dup X22.here hx rfl (hb hby at_29) rfl rfl ?_
      show Steps p.tables e below (T22.setTop (mkF m 30 #[.val (.int p0), .unset, .unset, .unset] [(.ref b2), (.ref b2)])) _
      refine XS.iconst X22.here hx rfl (hb hby at_30) ?_
      exact k)
  obtain ⟨T25, X25, e25, st25⟩ := getS2 X22 hx hZ hown (host := "") (Or.inl (hw _ (List.mem_of_getElem? (i := 12) rfl))) Via.refl e22 (own_sta_keep S_UNSUPPORTED_MESSAGE_TYPE K22) (g := (mkF m 31 #[.val (.int p0), .unset, .unset, .unset] [(.int (4 : Int32)), (.ref b2), (.ref b2)])) rfl (hb hby at_31)
  have k26 : ∀ t, Steps p.tables e below (T25.setTop (mkF m 34 #[.val (.int p0), .unset, .unset, .unset] [(.ref w_UNSUPPORTED_MESSAGE_TYPE), (.int (4 : Int32)), (.ref b2), (.ref b2)])) t → Steps p.tables e below (s₁.setTop (entryFrame m #[(.int p0)] maxLocals)) t := fun t k => k24 t (st25 _ k)
  obtain ⟨cl_b2_34, Ar_b2_34, q_b2_34, S_b2_34, N_b2_34, H_b2_34, G_b2_34⟩ := V_b2_28
  have hin_b2_34 : ¬ ((4 : Int32) < 0 ∨ cl_b2_34.slots.size ≤ ((4 : Int32)).toNatClampNeg) := inb_of S_b2_34 ⟨by decide, by decide⟩
  obtain ⟨T27, h27, X27, e27, W27, st27⟩ := stR X25 hx hZ e25 Ar_b2_34 (j := (4 : Int32)) hin_b2_34 rfl (Sto.ofV Ar_b2_34 q_b2_34 O2 (Ins.self (E_w_UNSUPPORTED_MESSAGE_TYPE.keep K22))) (g := (mkF m 34 #[.val (.int p0), .unset, .unset, .unset] [(.ref w_UNSUPPORTED_MESSAGE_TYPE), (.int (4 : Int32)), (.ref b2), (.ref b2)])) rfl rfl (hb hby at_34)
  have V_b2_34 : Arv Z h27 b2 ka2 (.object "com/example/caseway/caseway/ErrorCode") (18 : Int32) [(.ref w_SEGMENT_SEQUENCE_ERROR), (.ref w_REQUIRED_FIELD_MISSING), (.ref w_DATA_TYPE_ERROR), (.ref w_TABLE_VALUE_NOT_FOUND), (.ref w_UNSUPPORTED_MESSAGE_TYPE), .null, .null, .null, .null, .null, .null, .null, .null, .null, .null, .null, .null, .null] .null := Arv.set Ar_b2_34 q_b2_34 S_b2_34 N_b2_34 H_b2_34 G_b2_34 rfl W27 4 rfl (Nat.le_of_ble_eq_true rfl)
  have K27 : Keep h0 h27 [] := K22.wr W27 (Or.inr sz_b2)
  have N27 := Fr.snoc X27 N22 g_b2
  have Zs27 : n0 ≤ h27.size := Nat.le_trans Zs22 (Keep.of_wr W27).1
  have k28 : ∀ t, Steps p.tables e below (T27.setTop (mkF m 35 #[.val (.int p0), .unset, .unset, .unset] [(.ref b2)])) t → Steps p.tables e below (s₁.setTop (entryFrame m #[(.int p0)] maxLocals)) t := fun t k => k26 t (st27 _ k)
  have k29 : ∀ t, Steps p.tables e below (T27.setTop (mkF m 37 #[.val (.int p0), .unset, .unset, .unset] [(.int (5 : Int32)), (.ref b2), (.ref b2)])) t → Steps p.tables e below (s₁.setTop (entryFrame m #[(.int p0)] maxLocals)) t := fun t k => k28 t (by
      show Steps p.tables e below (T27.setTop (mkF m 35 #[.val (.int p0), .unset, .unset, .unset] [(.ref b2)])) _
      refine XS.dup X27.here hx rfl (hb hby at_35) rfl rfl ?_
      show Steps p.tables e below (T27.setTop (mkF m 36 #[.val (.int p0), .unset, .unset, .unset] [(.ref b2), (.ref b2)])) _
      refine XS.iconst X27.here hx rfl (hb hby at_36) ?_
      exact k)
  obtain ⟨T30, X30, e30, st30⟩ := getS2 X27 hx hZ hown (host := "") (Or.inl (hw _ (List.mem_of_getElem? (i := 14) rfl))) Via.refl e27 (own_sta_keep S_UNSUPPORTED_EVENT_CODE K27) (g := (mkF m 37 #[.val (.int p0), .unset, .unset, .unset] [(.int (5 : Int32)), (.ref b2), (.ref b2)])) rfl (hb hby at_37)
  have k31 : ∀ t, Steps p.tables e below (T30.setTop (mkF m 40 #[.val (.int p0), .unset, .unset, .unset] [(.ref w_UNSUPPORTED_EVENT_CODE), (.int (5 : Int32)), (.ref b2), (.ref b2)])) t → Steps p.tables e below (s₁.setTop (entryFrame m #[(.int p0)] maxLocals)) t := fun t k => k29 t (st30 _ k)
  obtain ⟨cl_b2_40, Ar_b2_40, q_b2_40, S_b2_40, N_b2_40, H_b2_40, G_b2_40⟩ := V_b2_34
  have hin_b2_40 : ¬ ((5 : Int32) < 0 ∨ cl_b2_40.slots.size ≤ ((5 : Int32)).toNatClampNeg) := inb_of S_b2_40 ⟨by decide, by decide⟩
  obtain ⟨T32, h32, X32, e32, W32, st32⟩ := stR X30 hx hZ e30 Ar_b2_40 (j := (5 : Int32)) hin_b2_40 rfl (Sto.ofV Ar_b2_40 q_b2_40 O2 (Ins.self (E_w_UNSUPPORTED_EVENT_CODE.keep K27))) (g := (mkF m 40 #[.val (.int p0), .unset, .unset, .unset] [(.ref w_UNSUPPORTED_EVENT_CODE), (.int (5 : Int32)), (.ref b2), (.ref b2)])) rfl rfl (hb hby at_40)
  have V_b2_40 : Arv Z h32 b2 ka2 (.object "com/example/caseway/caseway/ErrorCode") (18 : Int32) [(.ref w_SEGMENT_SEQUENCE_ERROR), (.ref w_REQUIRED_FIELD_MISSING), (.ref w_DATA_TYPE_ERROR), (.ref w_TABLE_VALUE_NOT_FOUND), (.ref w_UNSUPPORTED_MESSAGE_TYPE), (.ref w_UNSUPPORTED_EVENT_CODE), .null, .null, .null, .null, .null, .null, .null, .null, .null, .null, .null, .null] .null := Arv.set Ar_b2_40 q_b2_40 S_b2_40 N_b2_40 H_b2_40 G_b2_40 rfl W32 5 rfl (Nat.le_of_ble_eq_true rfl)
  have K32 : Keep h0 h32 [] := K27.wr W32 (Or.inr sz_b2)
  have N32 := Fr.snoc X32 N27 g_b2
  have Zs32 : n0 ≤ h32.size := Nat.le_trans Zs27 (Keep.of_wr W32).1
  have k33 : ∀ t, Steps p.tables e below (T32.setTop (mkF m 41 #[.val (.int p0), .unset, .unset, .unset] [(.ref b2)])) t → Steps p.tables e below (s₁.setTop (entryFrame m #[(.int p0)] maxLocals)) t := fun t k => k31 t (st32 _ k)
  have k34 : ∀ t, Steps p.tables e below (T32.setTop (mkF m 44 #[.val (.int p0), .unset, .unset, .unset] [(.int (6 : Int32)), (.ref b2), (.ref b2)])) t → Steps p.tables e below (s₁.setTop (entryFrame m #[(.int p0)] maxLocals)) t := fun t k => k33 t (by
      show Steps p.tables e below (T32.setTop (mkF m 41 #[.val (.int p0), .unset, .unset, .unset] [(.ref b2)])) _
      refine XS.dup X32.here hx rfl (hb hby at_41) rfl rfl ?_
      show Steps p.tables e below (T32.setTop (mkF m 42 #[.val (.int p0), .unset, .unset, .unset] [(.ref b2), (.ref b2)])) _
      refine XS.bipush X32.here hx rfl (hb hby at_42) ?_
      exact k)
  obtain ⟨T35, X35, e35, st35⟩ := getS2 X32 hx hZ hown (host := "") (Or.inl (hw _ (List.mem_of_getElem? (i := 16) rfl))) Via.refl e32 (own_sta_keep S_UNSUPPORTED_PROCESSING_ID K32) (g := (mkF m 44 #[.val (.int p0), .unset, .unset, .unset] [(.int (6 : Int32)), (.ref b2), (.ref b2)])) rfl (hb hby at_44)
  have k36 : ∀ t, Steps p.tables e below (T35.setTop (mkF m 47 #[.val (.int p0), .unset, .unset, .unset] [(.ref w_UNSUPPORTED_PROCESSING_ID), (.int (6 : Int32)), (.ref b2), (.ref b2)])) t → Steps p.tables e below (s₁.setTop (entryFrame m #[(.int p0)] maxLocals)) t := fun t k => k34 t (st35 _ k)
  obtain ⟨cl_b2_47, Ar_b2_47, q_b2_47, S_b2_47, N_b2_47, H_b2_47, G_b2_47⟩ := V_b2_40
  have hin_b2_47 : ¬ ((6 : Int32) < 0 ∨ cl_b2_47.slots.size ≤ ((6 : Int32)).toNatClampNeg) := inb_of S_b2_47 ⟨by decide, by decide⟩
  obtain ⟨T37, h37, X37, e37, W37, st37⟩ := stR X35 hx hZ e35 Ar_b2_47 (j := (6 : Int32)) hin_b2_47 rfl (Sto.ofV Ar_b2_47 q_b2_47 O2 (Ins.self (E_w_UNSUPPORTED_PROCESSING_ID.keep K32))) (g := (mkF m 47 #[.val (.int p0), .unset, .unset, .unset] [(.ref w_UNSUPPORTED_PROCESSING_ID), (.int (6 : Int32)), (.ref b2), (.ref b2)])) rfl rfl (hb hby at_47)
  have V_b2_47 : Arv Z h37 b2 ka2 (.object "com/example/caseway/caseway/ErrorCode") (18 : Int32) [(.ref w_SEGMENT_SEQUENCE_ERROR), (.ref w_REQUIRED_FIELD_MISSING), (.ref w_DATA_TYPE_ERROR), (.ref w_TABLE_VALUE_NOT_FOUND), (.ref w_UNSUPPORTED_MESSAGE_TYPE), (.ref w_UNSUPPORTED_EVENT_CODE), (.ref w_UNSUPPORTED_PROCESSING_ID), .null, .null, .null, .null, .null, .null, .null, .null, .null, .null, .null] .null := Arv.set Ar_b2_47 q_b2_47 S_b2_47 N_b2_47 H_b2_47 G_b2_47 rfl W37 6 rfl (Nat.le_of_ble_eq_true rfl)
  have K37 : Keep h0 h37 [] := K32.wr W37 (Or.inr sz_b2)
  have N37 := Fr.snoc X37 N32 g_b2
  have Zs37 : n0 ≤ h37.size := Nat.le_trans Zs32 (Keep.of_wr W37).1
  have k38 : ∀ t, Steps p.tables e below (T37.setTop (mkF m 48 #[.val (.int p0), .unset, .unset, .unset] [(.ref b2)])) t → Steps p.tables e below (s₁.setTop (entryFrame m #[(.int p0)] maxLocals)) t := fun t k => k36 t (st37 _ k)
  have k39 : ∀ t, Steps p.tables e below (T37.setTop (mkF m 51 #[.val (.int p0), .unset, .unset, .unset] [(.int (7 : Int32)), (.ref b2), (.ref b2)])) t → Steps p.tables e below (s₁.setTop (entryFrame m #[(.int p0)] maxLocals)) t := fun t k => k38 t (by
      show Steps p.tables e below (T37.setTop (mkF m 48 #[.val (.int p0), .unset, .unset, .unset] [(.ref b2)])) _
      refine XS.dup X37.here hx rfl (hb hby at_48) rfl rfl ?_
      show Steps p.tables e below (T37.setTop (mkF m 49 #[.val (.int p0), .unset, .unset, .unset] [(.ref b2), (.ref b2)])) _
      refine XS.bipush X37.here hx rfl (hb hby at_49) ?_
      exact k)
  obtain ⟨T40, X40, e40, st40⟩ := getS2 X37 hx hZ hown (host := "") (Or.inl (hw _ (List.mem_of_getElem? (i := 18) rfl))) Via.refl e37 (own_sta_keep S_UNSUPPORTED_VERSION_ID K37) (g := (mkF m 51 #[.val (.int p0), .unset, .unset, .unset] [(.int (7 : Int32)), (.ref b2), (.ref b2)])) rfl (hb hby at_51)
  have k41 : ∀ t, Steps p.tables e below (T40.setTop (mkF m 54 #[.val (.int p0), .unset, .unset, .unset] [(.ref w_UNSUPPORTED_VERSION_ID), (.int (7 : Int32)), (.ref b2), (.ref b2)])) t → Steps p.tables e below (s₁.setTop (entryFrame m #[(.int p0)] maxLocals)) t := fun t k => k39 t (st40 _ k)
  obtain ⟨cl_b2_54, Ar_b2_54, q_b2_54, S_b2_54, N_b2_54, H_b2_54, G_b2_54⟩ := V_b2_47
  have hin_b2_54 : ¬ ((7 : Int32) < 0 ∨ cl_b2_54.slots.size ≤ ((7 : Int32)).toNatClampNeg) := inb_of S_b2_54 ⟨by decide, by decide⟩
  obtain ⟨T42, h42, X42, e42, W42, st42⟩ := stR X40 hx hZ e40 Ar_b2_54 (j := (7 : Int32)) hin_b2_54 rfl (Sto.ofV Ar_b2_54 q_b2_54 O2 (Ins.self (E_w_UNSUPPORTED_VERSION_ID.keep K37))) (g := (mkF m 54 #[.val (.int p0), .unset, .unset, .unset] [(.ref w_UNSUPPORTED_VERSION_ID), (.int (7 : Int32)), (.ref b2), (.ref b2)])) rfl rfl (hb hby at_54)
  have V_b2_54 : Arv Z h42 b2 ka2 (.object "com/example/caseway/caseway/ErrorCode") (18 : Int32) [(.ref w_SEGMENT_SEQUENCE_ERROR), (.ref w_REQUIRED_FIELD_MISSING), (.ref w_DATA_TYPE_ERROR), (.ref w_TABLE_VALUE_NOT_FOUND), (.ref w_UNSUPPORTED_MESSAGE_TYPE), (.ref w_UNSUPPORTED_EVENT_CODE), (.ref w_UNSUPPORTED_PROCESSING_ID), (.ref w_UNSUPPORTED_VERSION_ID), .null, .null, .null, .null, .null, .null, .null, .null, .null, .null] .null := Arv.set Ar_b2_54 q_b2_54 S_b2_54 N_b2_54 H_b2_54 G_b2_54 rfl W42 7 rfl (Nat.le_of_ble_eq_true rfl)
  have K42 : Keep h0 h42 [] := K37.wr W42 (Or.inr sz_b2)
  have N42 := Fr.snoc X42 N37 g_b2
  have Zs42 : n0 ≤ h42.size := Nat.le_trans Zs37 (Keep.of_wr W42).1
  have k43 : ∀ t, Steps p.tables e below (T42.setTop (mkF m 55 #[.val (.int p0), .unset, .unset, .unset] [(.ref b2)])) t → Steps p.tables e below (s₁.setTop (entryFrame m #[(.int p0)] maxLocals)) t := fun t k => k41 t (st42 _ k)
  have k44 : ∀ t, Steps p.tables e below (T42.setTop (mkF m 58 #[.val (.int p0), .unset, .unset, .unset] [(.int (8 : Int32)), (.ref b2), (.ref b2)])) t → Steps p.tables e below (s₁.setTop (entryFrame m #[(.int p0)] maxLocals)) t := fun t k => k43 t (by
      show Steps p.tables e below (T42.setTop (mkF m 55 #[.val (.int p0), .unset, .unset, .unset] [(.ref b2)])) _
      refine XS.dup X42.here hx rfl (hb hby at_55) rfl rfl ?_
      show Steps p.tables e below (T42.setTop (mkF m 56 #[.val (.int p0), .unset, .unset, .unset] [(.ref b2), (.ref b2)])) _
      refine XS.bipush X42.here hx rfl (hb hby at_56) ?_
      exact k)
  obtain ⟨T45, X45, e45, st45⟩ := getS2 X42 hx hZ hown (host := "") (Or.inl (hw _ (List.mem_of_getElem? (i := 20) rfl))) Via.refl e42 (own_sta_keep S_INVALID_XML K42) (g := (mkF m 58 #[.val (.int p0), .unset, .unset, .unset] [(.int (8 : Int32)), (.ref b2), (.ref b2)])) rfl (hb hby at_58)
  have k46 : ∀ t, Steps p.tables e below (T45.setTop (mkF m 61 #[.val (.int p0), .unset, .unset, .unset] [(.ref w_INVALID_XML), (.int (8 : Int32)), (.ref b2), (.ref b2)])) t → Steps p.tables e below (s₁.setTop (entryFrame m #[(.int p0)] maxLocals)) t := fun t k => k44 t (st45 _ k)
  obtain ⟨cl_b2_61, Ar_b2_61, q_b2_61, S_b2_61, N_b2_61, H_b2_61, G_b2_61⟩ := V_b2_54
  have hin_b2_61 : ¬ ((8 : Int32) < 0 ∨ cl_b2_61.slots.size ≤ ((8 : Int32)).toNatClampNeg) := inb_of S_b2_61 ⟨by decide, by decide⟩
  obtain ⟨T47, h47, X47, e47, W47, st47⟩ := stR X45 hx hZ e45 Ar_b2_61 (j := (8 : Int32)) hin_b2_61 rfl (Sto.ofV Ar_b2_61 q_b2_61 O2 (Ins.self (E_w_INVALID_XML.keep K42))) (g := (mkF m 61 #[.val (.int p0), .unset, .unset, .unset] [(.ref w_INVALID_XML), (.int (8 : Int32)), (.ref b2), (.ref b2)])) rfl rfl (hb hby at_61)
  have V_b2_61 : Arv Z h47 b2 ka2 (.object "com/example/caseway/caseway/ErrorCode") (18 : Int32) [(.ref w_SEGMENT_SEQUENCE_ERROR), (.ref w_REQUIRED_FIELD_MISSING), (.ref w_DATA_TYPE_ERROR), (.ref w_TABLE_VALUE_NOT_FOUND), (.ref w_UNSUPPORTED_MESSAGE_TYPE), (.ref w_UNSUPPORTED_EVENT_CODE), (.ref w_UNSUPPORTED_PROCESSING_ID), (.ref w_UNSUPPORTED_VERSION_ID), (.ref w_INVALID_XML), .null, .null, .null, .null, .null, .null, .null, .null, .null] .null := Arv.set Ar_b2_61 q_b2_61 S_b2_61 N_b2_61 H_b2_61 G_b2_61 rfl W47 8 rfl (Nat.le_of_ble_eq_true rfl)
  have K47 : Keep h0 h47 [] := K42.wr W47 (Or.inr sz_b2)
  have N47 := Fr.snoc X47 N42 g_b2
  have Zs47 : n0 ≤ h47.size := Nat.le_trans Zs42 (Keep.of_wr W47).1
  have k48 : ∀ t, Steps p.tables e below (T47.setTop (mkF m 62 #[.val (.int p0), .unset, .unset, .unset] [(.ref b2)])) t → Steps p.tables e below (s₁.setTop (entryFrame m #[(.int p0)] maxLocals)) t := fun t k => k46 t (st47 _ k)
  have k49 : ∀ t, Steps p.tables e below (T47.setTop (mkF m 65 #[.val (.int p0), .unset, .unset, .unset] [(.int (9 : Int32)), (.ref b2), (.ref b2)])) t → Steps p.tables e below (s₁.setTop (entryFrame m #[(.int p0)] maxLocals)) t := fun t k => k48 t (by
      show Steps p.tables e below (T47.setTop (mkF m 62 #[.val (.int p0), .unset, .unset, .unset] [(.ref b2)])) _
      refine XS.dup X47.here hx rfl (hb hby at_62) rfl rfl ?_
      show Steps p.tables e below (T47.setTop (mkF m 63 #[.val (.int p0), .unset, .unset, .unset] [(.ref b2), (.ref b2)])) _
      refine XS.bipush X47.here hx rfl (hb hby at_63) ?_
      exact k)
  obtain ⟨T50, X50, e50, st50⟩ := getS2 X47 hx hZ hown (host := "") (Or.inl (hw _ (List.mem_of_getElem? (i := 22) rfl))) Via.refl e47 (own_sta_keep S_XML_NAMESPACE_ISSUE K47) (g := (mkF m 65 #[.val (.int p0), .unset, .unset, .unset] [(.int (9 : Int32)), (.ref b2), (.ref b2)])) rfl (hb hby at_65)
  have k51 : ∀ t, Steps p.tables e below (T50.setTop (mkF m 68 #[.val (.int p0), .unset, .unset, .unset] [(.ref w_XML_NAMESPACE_ISSUE), (.int (9 : Int32)), (.ref b2), (.ref b2)])) t → Steps p.tables e below (s₁.setTop (entryFrame m #[(.int p0)] maxLocals)) t := fun t k => k49 t (st50 _ k)
  obtain ⟨cl_b2_68, Ar_b2_68, q_b2_68, S_b2_68, N_b2_68, H_b2_68, G_b2_68⟩ := V_b2_61
  have hin_b2_68 : ¬ ((9 : Int32) < 0 ∨ cl_b2_68.slots.size ≤ ((9 : Int32)).toNatClampNeg) := inb_of S_b2_68 ⟨by decide, by decide⟩
  obtain ⟨T52, h52, X52, e52, W52, st52⟩ := stR X50 hx hZ e50 Ar_b2_68 (j := (9 : Int32)) hin_b2_68 rfl (Sto.ofV Ar_b2_68 q_b2_68 O2 (Ins.self (E_w_XML_NAMESPACE_ISSUE.keep K47))) (g := (mkF m 68 #[.val (.int p0), .unset, .unset, .unset] [(.ref w_XML_NAMESPACE_ISSUE), (.int (9 : Int32)), (.ref b2), (.ref b2)])) rfl rfl (hb hby at_68)
  have V_b2_68 : Arv Z h52 b2 ka2 (.object "com/example/caseway/caseway/ErrorCode") (18 : Int32) [(.ref w_SEGMENT_SEQUENCE_ERROR), (.ref w_REQUIRED_FIELD_MISSING), (.ref w_DATA_TYPE_ERROR), (.ref w_TABLE_VALUE_NOT_FOUND), (.ref w_UNSUPPORTED_MESSAGE_TYPE), (.ref w_UNSUPPORTED_EVENT_CODE), (.ref w_UNSUPPORTED_PROCESSING_ID), (.ref w_UNSUPPORTED_VERSION_ID), (.ref w_INVALID_XML), (.ref w_XML_NAMESPACE_ISSUE), .null, .null, .null, .null, .null, .null, .null, .null] .null := Arv.set Ar_b2_68 q_b2_68 S_b2_68 N_b2_68 H_b2_68 G_b2_68 rfl W52 9 rfl (Nat.le_of_ble_eq_true rfl)
  have K52 : Keep h0 h52 [] := K47.wr W52 (Or.inr sz_b2)
  have N52 := Fr.snoc X52 N47 g_b2
  have Zs52 : n0 ≤ h52.size := Nat.le_trans Zs47 (Keep.of_wr W52).1
  have k53 : ∀ t, Steps p.tables e below (T52.setTop (mkF m 69 #[.val (.int p0), .unset, .unset, .unset] [(.ref b2)])) t → Steps p.tables e below (s₁.setTop (entryFrame m #[(.int p0)] maxLocals)) t := fun t k => k51 t (st52 _ k)
  have k54 : ∀ t, Steps p.tables e below (T52.setTop (mkF m 72 #[.val (.int p0), .unset, .unset, .unset] [(.int (10 : Int32)), (.ref b2), (.ref b2)])) t → Steps p.tables e below (s₁.setTop (entryFrame m #[(.int p0)] maxLocals)) t := fun t k => k53 t (by
      show Steps p.tables e below (T52.setTop (mkF m 69 #[.val (.int p0), .unset, .unset, .unset] [(.ref b2)])) _
      refine XS.dup X52.here hx rfl (hb hby at_69) rfl rfl ?_
      show Steps p.tables e below (T52.setTop (mkF m 70 #[.val (.int p0), .unset, .unset, .unset] [(.ref b2), (.ref b2)])) _
      refine XS.bipush X52.here hx rfl (hb hby at_70) ?_
      exact k)
  obtain ⟨T55, X55, e55, st55⟩ := getS2 X52 hx hZ hown (host := "") (Or.inl (hw _ (List.mem_of_getElem? (i := 24) rfl))) Via.refl e52 (own_sta_keep S_SCHEMA_VALIDATION_ERROR K52) (g := (mkF m 72 #[.val (.int p0), .unset, .unset, .unset] [(.int (10 : Int32)), (.ref b2), (.ref b2)])) rfl (hb hby at_72)
  have k56 : ∀ t, Steps p.tables e below (T55.setTop (mkF m 75 #[.val (.int p0), .unset, .unset, .unset] [(.ref w_SCHEMA_VALIDATION_ERROR), (.int (10 : Int32)), (.ref b2), (.ref b2)])) t → Steps p.tables e below (s₁.setTop (entryFrame m #[(.int p0)] maxLocals)) t := fun t k => k54 t (st55 _ k)
  obtain ⟨cl_b2_75, Ar_b2_75, q_b2_75, S_b2_75, N_b2_75, H_b2_75, G_b2_75⟩ := V_b2_68
  have hin_b2_75 : ¬ ((10 : Int32) < 0 ∨ cl_b2_75.slots.size ≤ ((10 : Int32)).toNatClampNeg) := inb_of S_b2_75 ⟨by decide, by decide⟩
  obtain ⟨T57, h57, X57, e57, W57, st57⟩ := stR X55 hx hZ e55 Ar_b2_75 (j := (10 : Int32)) hin_b2_75 rfl (Sto.ofV Ar_b2_75 q_b2_75 O2 (Ins.self (E_w_SCHEMA_VALIDATION_ERROR.keep K52))) (g := (mkF m 75 #[.val (.int p0), .unset, .unset, .unset] [(.ref w_SCHEMA_VALIDATION_ERROR), (.int (10 : Int32)), (.ref b2), (.ref b2)])) rfl rfl (hb hby at_75)
  have V_b2_75 : Arv Z h57 b2 ka2 (.object "com/example/caseway/caseway/ErrorCode") (18 : Int32) [(.ref w_SEGMENT_SEQUENCE_ERROR), (.ref w_REQUIRED_FIELD_MISSING), (.ref w_DATA_TYPE_ERROR), (.ref w_TABLE_VALUE_NOT_FOUND), (.ref w_UNSUPPORTED_MESSAGE_TYPE), (.ref w_UNSUPPORTED_EVENT_CODE), (.ref w_UNSUPPORTED_PROCESSING_ID), (.ref w_UNSUPPORTED_VERSION_ID), (.ref w_INVALID_XML), (.ref w_XML_NAMESPACE_ISSUE), (.ref w_SCHEMA_VALIDATION_ERROR), .null, .null, .null, .null, .null, .null, .null] .null := Arv.set Ar_b2_75 q_b2_75 S_b2_75 N_b2_75 H_b2_75 G_b2_75 rfl W57 10 rfl (Nat.le_of_ble_eq_true rfl)
  have K57 : Keep h0 h57 [] := K52.wr W57 (Or.inr sz_b2)
  have N57 := Fr.snoc X57 N52 g_b2
  have Zs57 : n0 ≤ h57.size := Nat.le_trans Zs52 (Keep.of_wr W57).1
  have k58 : ∀ t, Steps p.tables e below (T57.setTop (mkF m 76 #[.val (.int p0), .unset, .unset, .unset] [(.ref b2)])) t → Steps p.tables e below (s₁.setTop (entryFrame m #[(.int p0)] maxLocals)) t := fun t k => k56 t (st57 _ k)
  have k59 : ∀ t, Steps p.tables e below (T57.setTop (mkF m 79 #[.val (.int p0), .unset, .unset, .unset] [(.int (11 : Int32)), (.ref b2), (.ref b2)])) t → Steps p.tables e below (s₁.setTop (entryFrame m #[(.int p0)] maxLocals)) t := fun t k => k58 t (by
      show Steps p.tables e below (T57.setTop (mkF m 76 #[.val (.int p0), .unset, .unset, .unset] [(.ref b2)])) _
      refine XS.dup X57.here hx rfl (hb hby at_76) rfl rfl ?_
      show Steps p.tables e below (T57.setTop (mkF m 77 #[.val (.int p0), .unset, .unset, .unset] [(.ref b2), (.ref b2)])) _
      refine XS.bipush X57.here hx rfl (hb hby at_77) ?_
      exact k)
  obtain ⟨T60, X60, e60, st60⟩ := getS2 X57 hx hZ hown (host := "") (Or.inl (hw _ (List.mem_of_getElem? (i := 26) rfl))) Via.refl e57 (own_sta_keep S_INVALID_MSH3_FORMAT K57) (g := (mkF m 79 #[.val (.int p0), .unset, .unset, .unset] [(.int (11 : Int32)), (.ref b2), (.ref b2)])) rfl (hb hby at_79)
  have k61 : ∀ t, Steps p.tables e below (T60.setTop (mkF m 82 #[.val (.int p0), .unset, .unset, .unset] [(.ref w_INVALID_MSH3_FORMAT), (.int (11 : Int32)), (.ref b2), (.ref b2)])) t → Steps p.tables e below (s₁.setTop (entryFrame m #[(.int p0)] maxLocals)) t := fun t k => k59 t (st60 _ k)
  obtain ⟨cl_b2_82, Ar_b2_82, q_b2_82, S_b2_82, N_b2_82, H_b2_82, G_b2_82⟩ := V_b2_75
  have hin_b2_82 : ¬ ((11 : Int32) < 0 ∨ cl_b2_82.slots.size ≤ ((11 : Int32)).toNatClampNeg) := inb_of S_b2_82 ⟨by decide, by decide⟩
  obtain ⟨T62, h62, X62, e62, W62, st62⟩ := stR X60 hx hZ e60 Ar_b2_82 (j := (11 : Int32)) hin_b2_82 rfl (Sto.ofV Ar_b2_82 q_b2_82 O2 (Ins.self (E_w_INVALID_MSH3_FORMAT.keep K57))) (g := (mkF m 82 #[.val (.int p0), .unset, .unset, .unset] [(.ref w_INVALID_MSH3_FORMAT), (.int (11 : Int32)), (.ref b2), (.ref b2)])) rfl rfl (hb hby at_82)
  have V_b2_82 : Arv Z h62 b2 ka2 (.object "com/example/caseway/caseway/ErrorCode") (18 : Int32) [(.ref w_SEGMENT_SEQUENCE_ERROR), (.ref w_REQUIRED_FIELD_MISSING), (.ref w_DATA_TYPE_ERROR), (.ref w_TABLE_VALUE_NOT_FOUND), (.ref w_UNSUPPORTED_MESSAGE_TYPE), (.ref w_UNSUPPORTED_EVENT_CODE), (.ref w_UNSUPPORTED_PROCESSING_ID), (.ref w_UNSUPPORTED_VERSION_ID), (.ref w_INVALID_XML), (.ref w_XML_NAMESPACE_ISSUE), (.ref w_SCHEMA_VALIDATION_ERROR), (.ref w_INVALID_MSH3_FORMAT), .null, .null, .null, .null, .null, .null] .null := Arv.set Ar_b2_82 q_b2_82 S_b2_82 N_b2_82 H_b2_82 G_b2_82 rfl W62 11 rfl (Nat.le_of_ble_eq_true rfl)
  have K62 : Keep h0 h62 [] := K57.wr W62 (Or.inr sz_b2)
  have N62 := Fr.snoc X62 N57 g_b2
  have Zs62 : n0 ≤ h62.size := Nat.le_trans Zs57 (Keep.of_wr W62).1
  have k63 : ∀ t, Steps p.tables e below (T62.setTop (mkF m 83 #[.val (.int p0), .unset, .unset, .unset] [(.ref b2)])) t → Steps p.tables e below (s₁.setTop (entryFrame m #[(.int p0)] maxLocals)) t := fun t k => k61 t (st62 _ k)
  have k64 : ∀ t, Steps p.tables e below (T62.setTop (mkF m 86 #[.val (.int p0), .unset, .unset, .unset] [(.int (12 : Int32)), (.ref b2), (.ref b2)])) t → Steps p.tables e below (s₁.setTop (entryFrame m #[(.int p0)] maxLocals)) t := fun t k => k63 t (by
      show Steps p.tables e below (T62.setTop (mkF m 83 #[.val (.int p0), .unset, .unset, .unset] [(.ref b2)])) _
      refine XS.dup X62.here hx rfl (hb hby at_83) rfl rfl ?_
      show Steps p.tables e below (T62.setTop (mkF m 84 #[.val (.int p0), .unset, .unset, .unset] [(.ref b2), (.ref b2)])) _
      refine XS.bipush X62.here hx rfl (hb hby at_84) ?_
      exact k)
  obtain ⟨T65, X65, e65, st65⟩ := getS2 X62 hx hZ hown (host := "") (Or.inl (hw _ (List.mem_of_getElem? (i := 28) rfl))) Via.refl e62 (own_sta_keep S_MESSAGE_TYPE_MISMATCH K62) (g := (mkF m 86 #[.val (.int p0), .unset, .unset, .unset] [(.int (12 : Int32)), (.ref b2), (.ref b2)])) rfl (hb hby at_86)
  have k66 : ∀ t, Steps p.tables e below (T65.setTop (mkF m 89 #[.val (.int p0), .unset, .unset, .unset] [(.ref w_MESSAGE_TYPE_MISMATCH), (.int (12 : Int32)), (.ref b2), (.ref b2)])) t → Steps p.tables e below (s₁.setTop (entryFrame m #[(.int p0)] maxLocals)) t := fun t k => k64 t (st65 _ k)
  obtain ⟨cl_b2_89, Ar_b2_89, q_b2_89, S_b2_89, N_b2_89, H_b2_89, G_b2_89⟩ := V_b2_82
  have hin_b2_89 : ¬ ((12 : Int32) < 0 ∨ cl_b2_89.slots.size ≤ ((12 : Int32)).toNatClampNeg) := inb_of S_b2_89 ⟨by decide, by decide⟩
  obtain ⟨T67, h67, X67, e67, W67, st67⟩ := stR X65 hx hZ e65 Ar_b2_89 (j := (12 : Int32)) hin_b2_89 rfl (Sto.ofV Ar_b2_89 q_b2_89 O2 (Ins.self (E_w_MESSAGE_TYPE_MISMATCH.keep K62))) (g := (mkF m 89 #[.val (.int p0), .unset, .unset, .unset] [(.ref w_MESSAGE_TYPE_MISMATCH), (.int (12 : Int32)), (.ref b2), (.ref b2)])) rfl rfl (hb hby at_89)
  have V_b2_89 : Arv Z h67 b2 ka2 (.object "com/example/caseway/caseway/ErrorCode") (18 : Int32) [(.ref w_SEGMENT_SEQUENCE_ERROR), (.ref w_REQUIRED_FIELD_MISSING), (.ref w_DATA_TYPE_ERROR), (.ref w_TABLE_VALUE_NOT_FOUND), (.ref w_UNSUPPORTED_MESSAGE_TYPE), (.ref w_UNSUPPORTED_EVENT_CODE), (.ref w_UNSUPPORTED_PROCESSING_ID), (.ref w_UNSUPPORTED_VERSION_ID), (.ref w_INVALID_XML), (.ref w_XML_NAMESPACE_ISSUE), (.ref w_SCHEMA_VALIDATION_ERROR), (.ref w_INVALID_MSH3_FORMAT), (.ref w_MESSAGE_TYPE_MISMATCH), .null, .null, .null, .null, .null] .null := Arv.set Ar_b2_89 q_b2_89 S_b2_89 N_b2_89 H_b2_89 G_b2_89 rfl W67 12 rfl (Nat.le_of_ble_eq_true rfl)
  have K67 : Keep h0 h67 [] := K62.wr W67 (Or.inr sz_b2)
  have N67 := Fr.snoc X67 N62 g_b2
  have Zs67 : n0 ≤ h67.size := Nat.le_trans Zs62 (Keep.of_wr W67).1
  have k68 : ∀ t, Steps p.tables e below (T67.setTop (mkF m 90 #[.val (.int p0), .unset, .unset, .unset] [(.ref b2)])) t → Steps p.tables e below (s₁.setTop (entryFrame m #[(.int p0)] maxLocals)) t := fun t k => k66 t (st67 _ k)
  have k69 : ∀ t, Steps p.tables e below (T67.setTop (mkF m 93 #[.val (.int p0), .unset, .unset, .unset] [(.int (13 : Int32)), (.ref b2), (.ref b2)])) t → Steps p.tables e below (s₁.setTop (entryFrame m #[(.int p0)] maxLocals)) t := fun t k => k68 t (by
      show Steps p.tables e below (T67.setTop (mkF m 90 #[.val (.int p0), .unset, .unset, .unset] [(.ref b2)])) _
      refine XS.dup X67.here hx rfl (hb hby at_90) rfl rfl ?_
      show Steps p.tables e below (T67.setTop (mkF m 91 #[.val (.int p0), .unset, .unset, .unset] [(.ref b2), (.ref b2)])) _
      refine XS.bipush X67.here hx rfl (hb hby at_91) ?_
      exact k)
  obtain ⟨T70, X70, e70, st70⟩ := getS2 X67 hx hZ hown (host := "") (Or.inl (hw _ (List.mem_of_getElem? (i := 30) rfl))) Via.refl e67 (own_sta_keep S_INVALID_REF_RRI_MESSAGE_TYPE K67) (g := (mkF m 93 #[.val (.int p0), .unset, .unset, .unset] [(.int (13 : Int32)), (.ref b2), (.ref b2)])) rfl (hb hby at_93)
  have k71 : ∀ t, Steps p.tables e below (T70.setTop (mkF m 96 #[.val (.int p0), .unset, .unset, .unset] [(.ref w_INVALID_REF_RRI_MESSAGE_TYPE), (.int (13 : Int32)), (.ref b2), (.ref b2)])) t → Steps p.tables e below (s₁.setTop (entryFrame m #[(.int p0)] maxLocals)) t := fun t k => k69 t (st70 _ k)
  obtain ⟨cl_b2_96, Ar_b2_96, q_b2_96, S_b2_96, N_b2_96, H_b2_96, G_b2_96⟩ := V_b2_89
  have hin_b2_96 : ¬ ((13 : Int32) < 0 ∨ cl_b2_96.slots.size ≤ ((13 : Int32)).toNatClampNeg) := inb_of S_b2_96 ⟨by decide, by decide⟩
  obtain ⟨T72, h72, X72, e72, W72, st72⟩ := stR X70 hx hZ e70 Ar_b2_96 (j := (13 : Int32)) hin_b2_96 rfl (Sto.ofV Ar_b2_96 q_b2_96 O2 (Ins.self (E_w_INVALID_REF_RRI_MESSAGE_TYPE.keep K67))) (g := (mkF m 96 #[.val (.int p0), .unset, .unset, .unset] [(.ref w_INVALID_REF_RRI_MESSAGE_TYPE), (.int (13 : Int32)), (.ref b2), (.ref b2)])) rfl rfl (hb hby at_96)
  have V_b2_96 : Arv Z h72 b2 ka2 (.object "com/example/caseway/caseway/ErrorCode") (18 : Int32) [(.ref w_SEGMENT_SEQUENCE_ERROR), (.ref w_REQUIRED_FIELD_MISSING), (.ref w_DATA_TYPE_ERROR), (.ref w_TABLE_VALUE_NOT_FOUND), (.ref w_UNSUPPORTED_MESSAGE_TYPE), (.ref w_UNSUPPORTED_EVENT_CODE), (.ref w_UNSUPPORTED_PROCESSING_ID), (.ref w_UNSUPPORTED_VERSION_ID), (.ref w_INVALID_XML), (.ref w_XML_NAMESPACE_ISSUE), (.ref w_SCHEMA_VALIDATION_ERROR), (.ref w_INVALID_MSH3_FORMAT), (.ref w_MESSAGE_TYPE_MISMATCH), (.ref w_INVALID_REF_RRI_MESSAGE_TYPE), .null, .null, .null, .null] .null := Arv.set Ar_b2_96 q_b2_96 S_b2_96 N_b2_96 H_b2_96 G_b2_96 rfl W72 13 rfl (Nat.le_of_ble_eq_true rfl)
  have K72 : Keep h0 h72 [] := K67.wr W72 (Or.inr sz_b2)
  have N72 := Fr.snoc X72 N67 g_b2
  have Zs72 : n0 ≤ h72.size := Nat.le_trans Zs67 (Keep.of_wr W72).1
  have k73 : ∀ t, Steps p.tables e below (T72.setTop (mkF m 97 #[.val (.int p0), .unset, .unset, .unset] [(.ref b2)])) t → Steps p.tables e below (s₁.setTop (entryFrame m #[(.int p0)] maxLocals)) t := fun t k => k71 t (st72 _ k)
  have k74 : ∀ t, Steps p.tables e below (T72.setTop (mkF m 100 #[.val (.int p0), .unset, .unset, .unset] [(.int (14 : Int32)), (.ref b2), (.ref b2)])) t → Steps p.tables e below (s₁.setTop (entryFrame m #[(.int p0)] maxLocals)) t := fun t k => k73 t (by
      show Steps p.tables e below (T72.setTop (mkF m 97 #[.val (.int p0), .unset, .unset, .unset] [(.ref b2)])) _
      refine XS.dup X72.here hx rfl (hb hby at_97) rfl rfl ?_
      show Steps p.tables e below (T72.setTop (mkF m 98 #[.val (.int p0), .unset, .unset, .unset] [(.ref b2), (.ref b2)])) _
      refine XS.bipush X72.here hx rfl (hb hby at_98) ?_
      exact k)
  obtain ⟨T75, X75, e75, st75⟩ := getS2 X72 hx hZ hown (host := "") (Or.inl (hw _ (List.mem_of_getElem? (i := 32) rfl))) Via.refl e72 (own_sta_keep S_INVALID_HOSPITAL_FORMAT K72) (g := (mkF m 100 #[.val (.int p0), .unset, .unset, .unset] [(.int (14 : Int32)), (.ref b2), (.ref b2)])) rfl (hb hby at_100)
  have k76 : ∀ t, Steps p.tables e below (T75.setTop (mkF m 103 #[.val (.int p0), .unset, .unset, .unset] [(.ref w_INVALID_HOSPITAL_FORMAT), (.int (14 : Int32)), (.ref b2), (.ref b2)])) t → Steps p.tables e below (s₁.setTop (entryFrame m #[(.int p0)] maxLocals)) t := fun t k => k74 t (st75 _ k)
  obtain ⟨cl_b2_103, Ar_b2_103, q_b2_103, S_b2_103, N_b2_103, H_b2_103, G_b2_103⟩ := V_b2_96
  have hin_b2_103 : ¬ ((14 : Int32) < 0 ∨ cl_b2_103.slots.size ≤ ((14 : Int32)).toNatClampNeg) := inb_of S_b2_103 ⟨by decide, by decide⟩
  obtain ⟨T77, h77, X77, e77, W77, st77⟩ := stR X75 hx hZ e75 Ar_b2_103 (j := (14 : Int32)) hin_b2_103 rfl (Sto.ofV Ar_b2_103 q_b2_103 O2 (Ins.self (E_w_INVALID_HOSPITAL_FORMAT.keep K72))) (g := (mkF m 103 #[.val (.int p0), .unset, .unset, .unset] [(.ref w_INVALID_HOSPITAL_FORMAT), (.int (14 : Int32)), (.ref b2), (.ref b2)])) rfl rfl (hb hby at_103)
  have V_b2_103 : Arv Z h77 b2 ka2 (.object "com/example/caseway/caseway/ErrorCode") (18 : Int32) [(.ref w_SEGMENT_SEQUENCE_ERROR), (.ref w_REQUIRED_FIELD_MISSING), (.ref w_DATA_TYPE_ERROR), (.ref w_TABLE_VALUE_NOT_FOUND), (.ref w_UNSUPPORTED_MESSAGE_TYPE), (.ref w_UNSUPPORTED_EVENT_CODE), (.ref w_UNSUPPORTED_PROCESSING_ID), (.ref w_UNSUPPORTED_VERSION_ID), (.ref w_INVALID_XML), (.ref w_XML_NAMESPACE_ISSUE), (.ref w_SCHEMA_VALIDATION_ERROR), (.ref w_INVALID_MSH3_FORMAT), (.ref w_MESSAGE_TYPE_MISMATCH), (.ref w_INVALID_REF_RRI_MESSAGE_TYPE), (.ref w_INVALID_HOSPITAL_FORMAT), .null, .null, .null] .null := Arv.set Ar_b2_103 q_b2_103 S_b2_103 N_b2_103 H_b2_103 G_b2_103 rfl W77 14 rfl (Nat.le_of_ble_eq_true rfl)
  have K77 : Keep h0 h77 [] := K72.wr W77 (Or.inr sz_b2)
  have N77 := Fr.snoc X77 N72 g_b2
  have Zs77 : n0 ≤ h77.size := Nat.le_trans Zs72 (Keep.of_wr W77).1
  have k78 : ∀ t, Steps p.tables e below (T77.setTop (mkF m 104 #[.val (.int p0), .unset, .unset, .unset] [(.ref b2)])) t → Steps p.tables e below (s₁.setTop (entryFrame m #[(.int p0)] maxLocals)) t := fun t k => k76 t (st77 _ k)
  have k79 : ∀ t, Steps p.tables e below (T77.setTop (mkF m 107 #[.val (.int p0), .unset, .unset, .unset] [(.int (15 : Int32)), (.ref b2), (.ref b2)])) t → Steps p.tables e below (s₁.setTop (entryFrame m #[(.int p0)] maxLocals)) t := fun t k => k78 t (by
      show Steps p.tables e below (T77.setTop (mkF m 104 #[.val (.int p0), .unset, .unset, .unset] [(.ref b2)])) _
      refine XS.dup X77.here hx rfl (hb hby at_104) rfl rfl ?_
      show Steps p.tables e below (T77.setTop (mkF m 105 #[.val (.int p0), .unset, .unset, .unset] [(.ref b2), (.ref b2)])) _
      refine XS.bipush X77.here hx rfl (hb hby at_105) ?_
      exact k)
  obtain ⟨T80, X80, e80, st80⟩ := getS2 X77 hx hZ hown (host := "") (Or.inl (hw _ (List.mem_of_getElem? (i := 34) rfl))) Via.refl e77 (own_sta_keep S_INVALID_AGENCY_FORMAT K77) (g := (mkF m 107 #[.val (.int p0), .unset, .unset, .unset] [(.int (15 : Int32)), (.ref b2), (.ref b2)])) rfl (hb hby at_107)
  have k81 : ∀ t, Steps p.tables e below (T80.setTop (mkF m 110 #[.val (.int p0), .unset, .unset, .unset] [(.ref w_INVALID_AGENCY_FORMAT), (.int (15 : Int32)), (.ref b2), (.ref b2)])) t → Steps p.tables e below (s₁.setTop (entryFrame m #[(.int p0)] maxLocals)) t := fun t k => k79 t (st80 _ k)
  obtain ⟨cl_b2_110, Ar_b2_110, q_b2_110, S_b2_110, N_b2_110, H_b2_110, G_b2_110⟩ := V_b2_103
  have hin_b2_110 : ¬ ((15 : Int32) < 0 ∨ cl_b2_110.slots.size ≤ ((15 : Int32)).toNatClampNeg) := inb_of S_b2_110 ⟨by decide, by decide⟩
  obtain ⟨T82, h82, X82, e82, W82, st82⟩ := stR X80 hx hZ e80 Ar_b2_110 (j := (15 : Int32)) hin_b2_110 rfl (Sto.ofV Ar_b2_110 q_b2_110 O2 (Ins.self (E_w_INVALID_AGENCY_FORMAT.keep K77))) (g := (mkF m 110 #[.val (.int p0), .unset, .unset, .unset] [(.ref w_INVALID_AGENCY_FORMAT), (.int (15 : Int32)), (.ref b2), (.ref b2)])) rfl rfl (hb hby at_110)
  have V_b2_110 : Arv Z h82 b2 ka2 (.object "com/example/caseway/caseway/ErrorCode") (18 : Int32) [(.ref w_SEGMENT_SEQUENCE_ERROR), (.ref w_REQUIRED_FIELD_MISSING), (.ref w_DATA_TYPE_ERROR), (.ref w_TABLE_VALUE_NOT_FOUND), (.ref w_UNSUPPORTED_MESSAGE_TYPE), (.ref w_UNSUPPORTED_EVENT_CODE), (.ref w_UNSUPPORTED_PROCESSING_ID), (.ref w_UNSUPPORTED_VERSION_ID), (.ref w_INVALID_XML), (.ref w_XML_NAMESPACE_ISSUE), (.ref w_SCHEMA_VALIDATION_ERROR), (.ref w_INVALID_MSH3_FORMAT), (.ref w_MESSAGE_TYPE_MISMATCH), (.ref w_INVALID_REF_RRI_MESSAGE_TYPE), (.ref w_INVALID_HOSPITAL_FORMAT), (.ref w_INVALID_AGENCY_FORMAT), .null, .null] .null := Arv.set Ar_b2_110 q_b2_110 S_b2_110 N_b2_110 H_b2_110 G_b2_110 rfl W82 15 rfl (Nat.le_of_ble_eq_true rfl)
  have K82 : Keep h0 h82 [] := K77.wr W82 (Or.inr sz_b2)
  have N82 := Fr.snoc X82 N77 g_b2
  have Zs82 : n0 ≤ h82.size := Nat.le_trans Zs77 (Keep.of_wr W82).1
  have k83 : ∀ t, Steps p.tables e below (T82.setTop (mkF m 111 #[.val (.int p0), .unset, .unset, .unset] [(.ref b2)])) t → Steps p.tables e below (s₁.setTop (entryFrame m #[(.int p0)] maxLocals)) t := fun t k => k81 t (st82 _ k)
  have k84 : ∀ t, Steps p.tables e below (T82.setTop (mkF m 114 #[.val (.int p0), .unset, .unset, .unset] [(.int (16 : Int32)), (.ref b2), (.ref b2)])) t → Steps p.tables e below (s₁.setTop (entryFrame m #[(.int p0)] maxLocals)) t := fun t k => k83 t (by
      show Steps p.tables e below (T82.setTop (mkF m 111 #[.val (.int p0), .unset, .unset, .unset] [(.ref b2)])) _
      refine XS.dup X82.here hx rfl (hb hby at_111) rfl rfl ?_
      show Steps p.tables e below (T82.setTop (mkF m 112 #[.val (.int p0), .unset, .unset, .unset] [(.ref b2), (.ref b2)])) _
      refine XS.bipush X82.here hx rfl (hb hby at_112) ?_
      exact k)
  obtain ⟨T85, X85, e85, st85⟩ := getS2 X82 hx hZ hown (host := "") (Or.inl (hw _ (List.mem_of_getElem? (i := 36) rfl))) Via.refl e82 (own_sta_keep S_INVALID_PRACTICE_ID_FORMAT K82) (g := (mkF m 114 #[.val (.int p0), .unset, .unset, .unset] [(.int (16 : Int32)), (.ref b2), (.ref b2)])) rfl (hb hby at_114)
  have k86 : ∀ t, Steps p.tables e below (T85.setTop (mkF m 117 #[.val (.int p0), .unset, .unset, .unset] [(.ref w_INVALID_PRACTICE_ID_FORMAT), (.int (16 : Int32)), (.ref b2), (.ref b2)])) t → Steps p.tables e below (s₁.setTop (entryFrame m #[(.int p0)] maxLocals)) t := fun t k => k84 t (st85 _ k)
  obtain ⟨cl_b2_117, Ar_b2_117, q_b2_117, S_b2_117, N_b2_117, H_b2_117, G_b2_117⟩ := V_b2_110
  have hin_b2_117 : ¬ ((16 : Int32) < 0 ∨ cl_b2_117.slots.size ≤ ((16 : Int32)).toNatClampNeg) := inb_of S_b2_117 ⟨by decide, by decide⟩
  obtain ⟨T87, h87, X87, e87, W87, st87⟩ := stR X85 hx hZ e85 Ar_b2_117 (j := (16 : Int32)) hin_b2_117 rfl (Sto.ofV Ar_b2_117 q_b2_117 O2 (Ins.self (E_w_INVALID_PRACTICE_ID_FORMAT.keep K82))) (g := (mkF m 117 #[.val (.int p0), .unset, .unset, .unset] [(.ref w_INVALID_PRACTICE_ID_FORMAT), (.int (16 : Int32)), (.ref b2), (.ref b2)])) rfl rfl (hb hby at_117)
  have V_b2_117 : Arv Z h87 b2 ka2 (.object "com/example/caseway/caseway/ErrorCode") (18 : Int32) [(.ref w_SEGMENT_SEQUENCE_ERROR), (.ref w_REQUIRED_FIELD_MISSING), (.ref w_DATA_TYPE_ERROR), (.ref w_TABLE_VALUE_NOT_FOUND), (.ref w_UNSUPPORTED_MESSAGE_TYPE), (.ref w_UNSUPPORTED_EVENT_CODE), (.ref w_UNSUPPORTED_PROCESSING_ID), (.ref w_UNSUPPORTED_VERSION_ID), (.ref w_INVALID_XML), (.ref w_XML_NAMESPACE_ISSUE), (.ref w_SCHEMA_VALIDATION_ERROR), (.ref w_INVALID_MSH3_FORMAT), (.ref w_MESSAGE_TYPE_MISMATCH), (.ref w_INVALID_REF_RRI_MESSAGE_TYPE), (.ref w_INVALID_HOSPITAL_FORMAT), (.ref w_INVALID_AGENCY_FORMAT), (.ref w_INVALID_PRACTICE_ID_FORMAT), .null] .null := Arv.set Ar_b2_117 q_b2_117 S_b2_117 N_b2_117 H_b2_117 G_b2_117 rfl W87 16 rfl (Nat.le_of_ble_eq_true rfl)
  have K87 : Keep h0 h87 [] := K82.wr W87 (Or.inr sz_b2)
  have N87 := Fr.snoc X87 N82 g_b2
  have Zs87 : n0 ≤ h87.size := Nat.le_trans Zs82 (Keep.of_wr W87).1
  have k88 : ∀ t, Steps p.tables e below (T87.setTop (mkF m 118 #[.val (.int p0), .unset, .unset, .unset] [(.ref b2)])) t → Steps p.tables e below (s₁.setTop (entryFrame m #[(.int p0)] maxLocals)) t := fun t k => k86 t (st87 _ k)
  have k89 : ∀ t, Steps p.tables e below (T87.setTop (mkF m 121 #[.val (.int p0), .unset, .unset, .unset] [(.int (17 : Int32)), (.ref b2), (.ref b2)])) t → Steps p.tables e below (s₁.setTop (entryFrame m #[(.int p0)] maxLocals)) t := fun t k => k88 t (by
      show Steps p.tables e below (T87.setTop (mkF m 118 #[.val (.int p0), .unset, .unset, .unset] [(.ref b2)])) _
      refine XS.dup X87.here hx rfl (hb hby at_118) rfl rfl ?_
      show Steps p.tables e below (T87.setTop (mkF m 119 #[.val (.int p0), .unset, .unset, .unset] [(.ref b2), (.ref b2)])) _
      refine XS.bipush X87.here hx rfl (hb hby at_119) ?_
      exact k)
  obtain ⟨T90, X90, e90, st90⟩ := getS2 X87 hx hZ hown (host := "") (Or.inl (hw _ (List.mem_of_getElem? (i := 38) rfl))) Via.refl e87 (own_sta_keep S_GENERAL_MESSAGE_EXCEPTION K87) (g := (mkF m 121 #[.val (.int p0), .unset, .unset, .unset] [(.int (17 : Int32)), (.ref b2), (.ref b2)])) rfl (hb hby at_121)
  have k91 : ∀ t, Steps p.tables e below (T90.setTop (mkF m 124 #[.val (.int p0), .unset, .unset, .unset] [(.ref w_GENERAL_MESSAGE_EXCEPTION), (.int (17 : Int32)), (.ref b2), (.ref b2)])) t → Steps p.tables e below (s₁.setTop (entryFrame m #[(.int p0)] maxLocals)) t := fun t k => k89 t (st90 _ k)
  obtain ⟨cl_b2_124, Ar_b2_124, q_b2_124, S_b2_124, N_b2_124, H_b2_124, G_b2_124⟩ := V_b2_117
  have hin_b2_124 : ¬ ((17 : Int32) < 0 ∨ cl_b2_124.slots.size ≤ ((17 : Int32)).toNatClampNeg) := inb_of S_b2_124 ⟨by decide, by decide⟩
  obtain ⟨T92, h92, X92, e92, W92, st92⟩ := stR X90 hx hZ e90 Ar_b2_124 (j := (17 : Int32)) hin_b2_124 rfl (Sto.ofV Ar_b2_124 q_b2_124 O2 (Ins.self (E_w_GENERAL_MESSAGE_EXCEPTION.keep K87))) (g := (mkF m 124 #[.val (.int p0), .unset, .unset, .unset] [(.ref w_GENERAL_MESSAGE_EXCEPTION), (.int (17 : Int32)), (.ref b2), (.ref b2)])) rfl rfl (hb hby at_124)
  have V_b2_124 : Arv Z h92 b2 ka2 (.object "com/example/caseway/caseway/ErrorCode") (18 : Int32) [(.ref w_SEGMENT_SEQUENCE_ERROR), (.ref w_REQUIRED_FIELD_MISSING), (.ref w_DATA_TYPE_ERROR), (.ref w_TABLE_VALUE_NOT_FOUND), (.ref w_UNSUPPORTED_MESSAGE_TYPE), (.ref w_UNSUPPORTED_EVENT_CODE), (.ref w_UNSUPPORTED_PROCESSING_ID), (.ref w_UNSUPPORTED_VERSION_ID), (.ref w_INVALID_XML), (.ref w_XML_NAMESPACE_ISSUE), (.ref w_SCHEMA_VALIDATION_ERROR), (.ref w_INVALID_MSH3_FORMAT), (.ref w_MESSAGE_TYPE_MISMATCH), (.ref w_INVALID_REF_RRI_MESSAGE_TYPE), (.ref w_INVALID_HOSPITAL_FORMAT), (.ref w_INVALID_AGENCY_FORMAT), (.ref w_INVALID_PRACTICE_ID_FORMAT), (.ref w_GENERAL_MESSAGE_EXCEPTION)] .null := Arv.set Ar_b2_124 q_b2_124 S_b2_124 N_b2_124 H_b2_124 G_b2_124 rfl W92 17 rfl (Nat.le_of_ble_eq_true rfl)
  have K92 : Keep h0 h92 [] := K87.wr W92 (Or.inr sz_b2)
  have N92 := Fr.snoc X92 N87 g_b2
  have Zs92 : n0 ≤ h92.size := Nat.le_trans Zs87 (Keep.of_wr W92).1
  have k93 : ∀ t, Steps p.tables e below (T92.setTop (mkF m 125 #[.val (.int p0), .unset, .unset, .unset] [(.ref b2)])) t → Steps p.tables e below (s₁.setTop (entryFrame m #[(.int p0)] maxLocals)) t := fun t k => k91 t (st92 _ k)
  have k94 : ∀ t, Steps p.tables e below (T92.setTop (mkF m 136 #[.val (.int p0), .val (.ref b2), .val (.int (own_k p0)), .unset] [(.int (4 : Int32)), (.int (own_k p0))])) t → Steps p.tables e below (s₁.setTop (entryFrame m #[(.int p0)] maxLocals)) t := fun t k => k93 t (by
      show Steps p.tables e below (T92.setTop (mkF m 125 #[.val (.int p0), .unset, .unset, .unset] [(.ref b2)])) _
      refine XS.astoreN X92.here hx rfl (hb hby at_125) rfl rfl (l' := #[.val (.int p0), .val (.ref b2), .unset, .unset]) rfl ?_
      show Steps p.tables e below (T92.setTop (mkF m 126 #[.val (.int p0), .val (.ref b2), .unset, .unset] [])) _
      refine XS.iloadN X92.here hx rfl (hb hby at_126) rfl ?_
      show Steps p.tables e below (T92.setTop (mkF m 127 #[.val (.int p0), .val (.ref b2), .unset, .unset] [(.int p0)])) _
      refine X92.ldcInt hx hown (mvT hZ (hw _ (List.mem_of_getElem? (i := 40) rfl))) (g := (mkF m 127 #[.val (.int p0), .val (.ref b2), .unset, .unset] [(.int p0)])) rfl (hb hby at_127) _ ?_
      show Steps p.tables e below (T92.setTop (mkF m 129 #[.val (.int p0), .val (.ref b2), .unset, .unset] [(.int (2147483647 : Int32)), (.int p0)])) _
      refine XS.iand X92.here hx rfl (hb hby at_129) rfl ?_
      show Steps p.tables e below (T92.setTop (mkF m 130 #[.val (.int p0), .val (.ref b2), .unset, .unset] [(.int (p0 &&& (2147483647 : Int32)))])) _
      refine XS.bipush X92.here hx rfl (hb hby at_130) ?_
      show Steps p.tables e below (T92.setTop (mkF m 132 #[.val (.int p0), .val (.ref b2), .unset, .unset] [(.int (18 : Int32)), (.int (p0 &&& (2147483647 : Int32)))])) _
      refine iremM X92 hx rfl (hb hby at_132) rfl (by decide) ?_
      show Steps p.tables e below (T92.setTop (mkF m 133 #[.val (.int p0), .val (.ref b2), .unset, .unset] [(.int (own_k p0))])) _
      refine XS.istoreN X92.here hx rfl (hb hby at_133) rfl (l' := #[.val (.int p0), .val (.ref b2), .val (.int (own_k p0)), .unset]) rfl ?_
      show Steps p.tables e below (T92.setTop (mkF m 134 #[.val (.int p0), .val (.ref b2), .val (.int (own_k p0)), .unset] [])) _
      refine XS.iloadN X92.here hx rfl (hb hby at_134) rfl ?_
      show Steps p.tables e below (T92.setTop (mkF m 135 #[.val (.int p0), .val (.ref b2), .val (.int (own_k p0)), .unset] [(.int (own_k p0))])) _
      refine XS.iconst X92.here hx rfl (hb hby at_135) ?_
      exact k)
  by_cases hc136 : (own_k p0) < (4 : Int32)
  · have k95 : ∀ t, Steps p.tables e below (T92.setTop (mkF m 153 #[.val (.int p0), .val (.ref b2), .val (.int (own_k p0)), .val (.int (0 : Int32))] [(.int (own_k p0)), (.ref b2)])) t → Steps p.tables e below (s₁.setTop (entryFrame m #[(.int p0)] maxLocals)) t := fun t k => k94 t (by
        show Steps p.tables e below (T92.setTop (mkF m 136 #[.val (.int p0), .val (.ref b2), .val (.int (own_k p0)), .unset] [(.int (4 : Int32)), (.int (own_k p0))])) _
        refine XS.icmpYes X92.here hx rfl (pc0 := 136) (pc' := 149) rfl (hb hby at_136) rfl (tlt hc136).1 (by decide) (by decide) ?_
        show Steps p.tables e below (T92.setTop (mkF m 149 #[.val (.int p0), .val (.ref b2), .val (.int (own_k p0)), .unset] [])) _
        refine XS.iconst X92.here hx rfl (hb hby at_149) ?_
        show Steps p.tables e below (T92.setTop (mkF m 150 #[.val (.int p0), .val (.ref b2), .val (.int (own_k p0)), .unset] [(.int (0 : Int32))])) _
        refine XS.istoreN X92.here hx rfl (hb hby at_150) rfl (l' := #[.val (.int p0), .val (.ref b2), .val (.int (own_k p0)), .val (.int (0 : Int32))]) rfl ?_
        show Steps p.tables e below (T92.setTop (mkF m 151 #[.val (.int p0), .val (.ref b2), .val (.int (own_k p0)), .val (.int (0 : Int32))] [])) _
        refine XS.aloadN X92.here hx rfl (hb hby at_151) rfl rfl ?_
        show Steps p.tables e below (T92.setTop (mkF m 152 #[.val (.int p0), .val (.ref b2), .val (.int (own_k p0)), .val (.int (0 : Int32))] [(.ref b2)])) _
        refine XS.iloadN X92.here hx rfl (hb hby at_152) rfl ?_
        exact k)
    obtain ⟨clz, Arz, qz, Sz, Nz, Hz, Gz⟩ := V_b2_124
    have rk := own_k_r p0
    have hinz : ¬ (own_k p0 < 0 ∨ clz.slots.size ≤ (own_k p0).toNatClampNeg) := inb_of Sz ⟨by rw [Int32.lt_iff_toInt_lt]; simp only [Int32.reduceToInt]; omega, by rw [Int32.lt_iff_toInt_lt]; simp only [Int32.reduceToInt]; omega⟩
    obtain ⟨r, nn, hget, hP, hiff⟩ := own_sel (P := fun v nn => ∀ r, v = .ref r → Exa Z h92 r "com/example/caseway/caseway/ErrorCode" ∧ Fld Z h92 r "com/example/caseway/caseway/ErrorCode" "number" "I" (.int nn)) rk.1 rk.2 (fun r hr => by cases hr; exact ⟨E_w_SEGMENT_SEQUENCE_ERROR.keep K92, F_w_SEGMENT_SEQUENCE_ERROR.keep K92 (by simp)⟩) (fun r hr => by cases hr; exact ⟨E_w_REQUIRED_FIELD_MISSING.keep K92, F_w_REQUIRED_FIELD_MISSING.keep K92 (by simp)⟩) (fun r hr => by cases hr; exact ⟨E_w_DATA_TYPE_ERROR.keep K92, F_w_DATA_TYPE_ERROR.keep K92 (by simp)⟩) (fun r hr => by cases hr; exact ⟨E_w_TABLE_VALUE_NOT_FOUND.keep K92, F_w_TABLE_VALUE_NOT_FOUND.keep K92 (by simp)⟩) (fun r hr => by cases hr; exact ⟨E_w_UNSUPPORTED_MESSAGE_TYPE.keep K92, F_w_UNSUPPORTED_MESSAGE_TYPE.keep K92 (by simp)⟩) (fun r hr => by cases hr; exact ⟨E_w_UNSUPPORTED_EVENT_CODE.keep K92, F_w_UNSUPPORTED_EVENT_CODE.keep K92 (by simp)⟩) (fun r hr => by cases hr; exact ⟨E_w_UNSUPPORTED_PROCESSING_ID.keep K92, F_w_UNSUPPORTED_PROCESSING_ID.keep K92 (by simp)⟩) (fun r hr => by cases hr; exact ⟨E_w_UNSUPPORTED_VERSION_ID.keep K92, F_w_UNSUPPORTED_VERSION_ID.keep K92 (by simp)⟩) (fun r hr => by cases hr; exact ⟨E_w_INVALID_XML.keep K92, F_w_INVALID_XML.keep K92 (by simp)⟩) (fun r hr => by cases hr; exact ⟨E_w_XML_NAMESPACE_ISSUE.keep K92, F_w_XML_NAMESPACE_ISSUE.keep K92 (by simp)⟩) (fun r hr => by cases hr; exact ⟨E_w_SCHEMA_VALIDATION_ERROR.keep K92, F_w_SCHEMA_VALIDATION_ERROR.keep K92 (by simp)⟩) (fun r hr => by cases hr; exact ⟨E_w_INVALID_MSH3_FORMAT.keep K92, F_w_INVALID_MSH3_FORMAT.keep K92 (by simp)⟩) (fun r hr => by cases hr; exact ⟨E_w_MESSAGE_TYPE_MISMATCH.keep K92, F_w_MESSAGE_TYPE_MISMATCH.keep K92 (by simp)⟩) (fun r hr => by cases hr; exact ⟨E_w_INVALID_REF_RRI_MESSAGE_TYPE.keep K92, F_w_INVALID_REF_RRI_MESSAGE_TYPE.keep K92 (by simp)⟩) (fun r hr => by cases hr; exact ⟨E_w_INVALID_HOSPITAL_FORMAT.keep K92, F_w_INVALID_HOSPITAL_FORMAT.keep K92 (by simp)⟩) (fun r hr => by cases hr; exact ⟨E_w_INVALID_AGENCY_FORMAT.keep K92, F_w_INVALID_AGENCY_FORMAT.keep K92 (by simp)⟩) (fun r hr => by cases hr; exact ⟨E_w_INVALID_PRACTICE_ID_FORMAT.keep K92, F_w_INVALID_PRACTICE_ID_FORMAT.keep K92 (by simp)⟩) (fun r hr => by cases hr; exact ⟨E_w_GENERAL_MESSAGE_EXCEPTION.keep K92, F_w_GENERAL_MESSAGE_EXCEPTION.keep K92 (by simp)⟩)
    obtain ⟨E_r, F_r⟩ := hP r rfl
    have hat : clz.slots[(own_k p0).toNatClampNeg]? = some (.ref r) := Has.at Hz hinz hget
    have k96 : ∀ t, Steps p.tables e below (T92.setTop (mkF m 154 #[.val (.int p0), .val (.ref b2), .val (.int (own_k p0)), .val (.int (0 : Int32))] [(.ref r)])) t → Steps p.tables e below (s₁.setTop (entryFrame m #[(.int p0)] maxLocals)) t := fun t k => k95 t (by
        show Steps p.tables e below (T92.setTop (mkF m 153 #[.val (.int p0), .val (.ref b2), .val (.int (own_k p0)), .val (.int (0 : Int32))] [(.int (own_k p0)), (.ref b2)])) _
        refine X92.aaload hx (j := own_k p0) (v := .ref r) (by rw [e92]; exact Arz.1) (State.isArrayOf_alike hZ.alike Arz.2.1) rfl Arz.2.2 hinz hat (g := (mkF m 153 #[.val (.int p0), .val (.ref b2), .val (.int (own_k p0)), .val (.int (0 : Int32))] [(.int (own_k p0)), (.ref b2)])) rfl rfl (hb hby at_153) _ ?_
        exact k)
    obtain ⟨cq97, kcq97, q97a, q97b, q97c⟩ := isOf hZ e92 E_r
    obtain ⟨_, _, ⟨T97, L97, kq97, n97⟩, -, X97, ⟨Lc97, hQ97, l97, y97, z97⟩, st97⟩ := X92.virtualBack hx (y := (⟨"com/example/caseway/caseway/ErrorCode", "rejects", "()Z"⟩ : MethodName)) (z := (⟨"com/example/caseway/caseway/ErrorCode", "rejects", "()Z"⟩ : MethodName)) hown (mvT hZ (hw _ (List.mem_of_getElem? (i := 41) rfl))) (mvT hZ (hw _ (List.mem_of_getElem? (i := 42) rfl))) (notFace_of_selects (args := #[]) (mvT hZ (hw _ (List.mem_of_getElem? (i := 44) rfl)))) (mvT hZ (hw _ (List.mem_of_getElem? (i := 44) rfl))) (mvT hZ (hw _ (List.mem_of_getElem? (i := 43) rfl))) (by decide) (backOf (W := 0) (rm1 l Z a0 hw [] r nn h92 n0 Zs92 F_r) hZ (hw _ (List.mem_of_getElem? (i := 45) rfl)) (hw _ (List.mem_of_getElem? (i := 3) rfl)) (by decide) (by decide)) q97a q97c (g := (mkF m 154 #[.val (.int p0), .val (.ref b2), .val (.int (own_k p0)), .val (.int (0 : Int32))] [(.ref r)])) rfl (by rw [hml]; rfl) (Steps.refl _) (argsL := []) (rest := []) (lenOf pd_0 rfl) rfl (by show 2 * 0 + _ ≤ _; exact Nat.le_of_eq rfl) (hb hby at_154) (fun _ _ => ⟨rfl, e92, (by decide : 1 + 0 ≤ _), (by decide : 18 + 0 ≤ _)⟩)
    dsimp only [Pt.U, Pt.locs, Pt.cells, Pt.slots] at X97 l97 y97 z97 st97 hQ97
    subst l97 y97 z97
    obtain ⟨rfl, N97q, e97⟩ := hQ97
    have N97 := Fr.app N92 N97q
    have k98 : ∀ t, Steps p.tables e below (T97.setTop (mkF m 157 #[.val (.int p0), .val (.ref b2), .val (.int (own_k p0)), .val (.int (0 : Int32))] [(.int (own_bI (200 ≤ nn.toInt ∧ nn.toInt ≤ 308)))])) t → Steps p.tables e below (s₁.setTop (entryFrame m #[(.int p0)] maxLocals)) t := fun t k => k96 t (st97.trans k)
    have hc158 : (own_bI (200 ≤ nn.toInt ∧ nn.toInt ≤ 308)) = (0 : Int32) := own_bI_f (by simp only [Int32.lt_iff_toInt_lt, Int32.reduceToInt] at hc136; omega)
    have k99 : ∀ t, Steps p.tables e below (T97.setTop (mkF m 166 #[.val (.int p0), .val (.ref b2), .val (.int (own_k p0)), .val (.int (0 : Int32))] [(.int (1 : Int32))])) t → Steps p.tables e below (s₁.setTop (entryFrame m #[(.int p0)] maxLocals)) t := fun t k => k98 t (by
        show Steps p.tables e below (T97.setTop (mkF m 157 #[.val (.int p0), .val (.ref b2), .val (.int (own_k p0)), .val (.int (0 : Int32))] [(.int (own_bI (200 ≤ nn.toInt ∧ nn.toInt ≤ 308)))])) _
        refine XS.iloadN X97.here hx rfl (hb hby at_157) rfl ?_
        show Steps p.tables e below (T97.setTop (mkF m 158 #[.val (.int p0), .val (.ref b2), .val (.int (own_k p0)), .val (.int (0 : Int32))] [(.int (0 : Int32)), (.int (own_bI (200 ≤ nn.toInt ∧ nn.toInt ≤ 308)))])) _
        refine XS.icmpNo X97.here hx rfl (hb hby at_158) rfl (teq hc158).2 ?_
        show Steps p.tables e below (T97.setTop (mkF m 161 #[.val (.int p0), .val (.ref b2), .val (.int (own_k p0)), .val (.int (0 : Int32))] [])) _
        refine XS.iconst X97.here hx rfl (hb hby at_161) ?_
        show Steps p.tables e below (T97.setTop (mkF m 162 #[.val (.int p0), .val (.ref b2), .val (.int (own_k p0)), .val (.int (0 : Int32))] [(.int (1 : Int32))])) _
        refine XS.goto X97.here hx rfl (pc0 := 162) (pc' := 166) rfl (hb hby at_162) (by decide) (by decide) ?_
        exact k)
    obtain ⟨fs, hr, hrun, hended, hW, hsame⟩ := X97.leave (v := (some (.int (1 : Int32)))) (fun h => by rw [Bd.returns] at h; cases h)
    refine ⟨_, _, k99 _ ?_, hrun, hended, _, _, rfl, ?_, ⟨_, rfl⟩, hW, hsame.mono (by decide) (by decide)⟩
    · exact retN X97 hx (t := .boolean) Bd.returns (by simp) (hb hby at_166) hr
    · show Q0 Z p0 w_SEGMENT_SEQUENCE_ERROR w_REQUIRED_FIELD_MISSING w_DATA_TYPE_ERROR w_TABLE_VALUE_NOT_FOUND w_UNSUPPORTED_MESSAGE_TYPE w_UNSUPPORTED_EVENT_CODE w_UNSUPPORTED_PROCESSING_ID w_UNSUPPORTED_VERSION_ID w_INVALID_XML w_XML_NAMESPACE_ISSUE w_SCHEMA_VALIDATION_ERROR w_INVALID_MSH3_FORMAT w_MESSAGE_TYPE_MISMATCH w_INVALID_REF_RRI_MESSAGE_TYPE w_INVALID_HOSPITAL_FORMAT w_INVALID_AGENCY_FORMAT w_INVALID_PRACTICE_ID_FORMAT w_GENERAL_MESSAGE_EXCEPTION h0 n0 _ T97.heap _
      rw [e97]
      exact ⟨rfl, N97⟩
  · have k100 : ∀ t, Steps p.tables e below (T92.setTop (mkF m 142 #[.val (.int p0), .val (.ref b2), .val (.int (own_k p0)), .unset] [(.int (16 : Int32)), (.int (own_k p0))])) t → Steps p.tables e below (s₁.setTop (entryFrame m #[(.int p0)] maxLocals)) t := fun t k => k94 t (by
        show Steps p.tables e below (T92.setTop (mkF m 136 #[.val (.int p0), .val (.ref b2), .val (.int (own_k p0)), .unset] [(.int (4 : Int32)), (.int (own_k p0))])) _
        refine XS.icmpNo X92.here hx rfl (hb hby at_136) rfl (flt hc136).1 ?_
        show Steps p.tables e below (T92.setTop (mkF m 139 #[.val (.int p0), .val (.ref b2), .val (.int (own_k p0)), .unset] [])) _
        refine XS.iloadN X92.here hx rfl (hb hby at_139) rfl ?_
        show Steps p.tables e below (T92.setTop (mkF m 140 #[.val (.int p0), .val (.ref b2), .val (.int (own_k p0)), .unset] [(.int (own_k p0))])) _
        refine XS.bipush X92.here hx rfl (hb hby at_140) ?_
        exact k)
    by_cases hc142 : (16 : Int32) < (own_k p0)
    · have k101 : ∀ t, Steps p.tables e below (T92.setTop (mkF m 153 #[.val (.int p0), .val (.ref b2), .val (.int (own_k p0)), .val (.int (0 : Int32))] [(.int (own_k p0)), (.ref b2)])) t → Steps p.tables e below (s₁.setTop (entryFrame m #[(.int p0)] maxLocals)) t := fun t k => k100 t (by
          show Steps p.tables e below (T92.setTop (mkF m 142 #[.val (.int p0), .val (.ref b2), .val (.int (own_k p0)), .unset] [(.int (16 : Int32)), (.int (own_k p0))])) _
          refine XS.icmpYes X92.here hx rfl (pc0 := 142) (pc' := 149) rfl (hb hby at_142) rfl (tlt hc142).2.2.1 (by decide) (by decide) ?_
          show Steps p.tables e below (T92.setTop (mkF m 149 #[.val (.int p0), .val (.ref b2), .val (.int (own_k p0)), .unset] [])) _
          refine XS.iconst X92.here hx rfl (hb hby at_149) ?_
          show Steps p.tables e below (T92.setTop (mkF m 150 #[.val (.int p0), .val (.ref b2), .val (.int (own_k p0)), .unset] [(.int (0 : Int32))])) _
          refine XS.istoreN X92.here hx rfl (hb hby at_150) rfl (l' := #[.val (.int p0), .val (.ref b2), .val (.int (own_k p0)), .val (.int (0 : Int32))]) rfl ?_
          show Steps p.tables e below (T92.setTop (mkF m 151 #[.val (.int p0), .val (.ref b2), .val (.int (own_k p0)), .val (.int (0 : Int32))] [])) _
          refine XS.aloadN X92.here hx rfl (hb hby at_151) rfl rfl ?_
          show Steps p.tables e below (T92.setTop (mkF m 152 #[.val (.int p0), .val (.ref b2), .val (.int (own_k p0)), .val (.int (0 : Int32))] [(.ref b2)])) _
          refine XS.iloadN X92.here hx rfl (hb hby at_152) rfl ?_
          exact k)
      obtain ⟨clz, Arz, qz, Sz, Nz, Hz, Gz⟩ := V_b2_124
      have rk := own_k_r p0
      have hinz : ¬ (own_k p0 < 0 ∨ clz.slots.size ≤ (own_k p0).toNatClampNeg) := inb_of Sz ⟨by rw [Int32.lt_iff_toInt_lt]; simp only [Int32.reduceToInt]; omega, by rw [Int32.lt_iff_toInt_lt]; simp only [Int32.reduceToInt]; omega⟩
      obtain ⟨r, nn, hget, hP, hiff⟩ := own_sel (P := fun v nn => ∀ r, v = .ref r → Exa Z h92 r "com/example/caseway/caseway/ErrorCode" ∧ Fld Z h92 r "com/example/caseway/caseway/ErrorCode" "number" "I" (.int nn)) rk.1 rk.2 (fun r hr => by cases hr; exact ⟨E_w_SEGMENT_SEQUENCE_ERROR.keep K92, F_w_SEGMENT_SEQUENCE_ERROR.keep K92 (by simp)⟩) (fun r hr => by cases hr; exact ⟨E_w_REQUIRED_FIELD_MISSING.keep K92, F_w_REQUIRED_FIELD_MISSING.keep K92 (by simp)⟩) (fun r hr => by cases hr; exact ⟨E_w_DATA_TYPE_ERROR.keep K92, F_w_DATA_TYPE_ERROR.keep K92 (by simp)⟩) (fun r hr => by cases hr; exact ⟨E_w_TABLE_VALUE_NOT_FOUND.keep K92, F_w_TABLE_VALUE_NOT_FOUND.keep K92 (by simp)⟩) (fun r hr => by cases hr; exact ⟨E_w_UNSUPPORTED_MESSAGE_TYPE.keep K92, F_w_UNSUPPORTED_MESSAGE_TYPE.keep K92 (by simp)⟩) (fun r hr => by cases hr; exact ⟨E_w_UNSUPPORTED_EVENT_CODE.keep K92, F_w_UNSUPPORTED_EVENT_CODE.keep K92 (by simp)⟩) (fun r hr => by cases hr; exact ⟨E_w_UNSUPPORTED_PROCESSING_ID.keep K92, F_w_UNSUPPORTED_PROCESSING_ID.keep K92 (by simp)⟩) (fun r hr => by cases hr; exact ⟨E_w_UNSUPPORTED_VERSION_ID.keep K92, F_w_UNSUPPORTED_VERSION_ID.keep K92 (by simp)⟩) (fun r hr => by cases hr; exact ⟨E_w_INVALID_XML.keep K92, F_w_INVALID_XML.keep K92 (by simp)⟩) (fun r hr => by cases hr; exact ⟨E_w_XML_NAMESPACE_ISSUE.keep K92, F_w_XML_NAMESPACE_ISSUE.keep K92 (by simp)⟩) (fun r hr => by cases hr; exact ⟨E_w_SCHEMA_VALIDATION_ERROR.keep K92, F_w_SCHEMA_VALIDATION_ERROR.keep K92 (by simp)⟩) (fun r hr => by cases hr; exact ⟨E_w_INVALID_MSH3_FORMAT.keep K92, F_w_INVALID_MSH3_FORMAT.keep K92 (by simp)⟩) (fun r hr => by cases hr; exact ⟨E_w_MESSAGE_TYPE_MISMATCH.keep K92, F_w_MESSAGE_TYPE_MISMATCH.keep K92 (by simp)⟩) (fun r hr => by cases hr; exact ⟨E_w_INVALID_REF_RRI_MESSAGE_TYPE.keep K92, F_w_INVALID_REF_RRI_MESSAGE_TYPE.keep K92 (by simp)⟩) (fun r hr => by cases hr; exact ⟨E_w_INVALID_HOSPITAL_FORMAT.keep K92, F_w_INVALID_HOSPITAL_FORMAT.keep K92 (by simp)⟩) (fun r hr => by cases hr; exact ⟨E_w_INVALID_AGENCY_FORMAT.keep K92, F_w_INVALID_AGENCY_FORMAT.keep K92 (by simp)⟩) (fun r hr => by cases hr; exact ⟨E_w_INVALID_PRACTICE_ID_FORMAT.keep K92, F_w_INVALID_PRACTICE_ID_FORMAT.keep K92 (by simp)⟩) (fun r hr => by cases hr; exact ⟨E_w_GENERAL_MESSAGE_EXCEPTION.keep K92, F_w_GENERAL_MESSAGE_EXCEPTION.keep K92 (by simp)⟩)
      obtain ⟨E_r, F_r⟩ := hP r rfl
      have hat : clz.slots[(own_k p0).toNatClampNeg]? = some (.ref r) := Has.at Hz hinz hget
      have k102 : ∀ t, Steps p.tables e below (T92.setTop (mkF m 154 #[.val (.int p0), .val (.ref b2), .val (.int (own_k p0)), .val (.int (0 : Int32))] [(.ref r)])) t → Steps p.tables e below (s₁.setTop (entryFrame m #[(.int p0)] maxLocals)) t := fun t k => k101 t (by
          show Steps p.tables e below (T92.setTop (mkF m 153 #[.val (.int p0), .val (.ref b2), .val (.int (own_k p0)), .val (.int (0 : Int32))] [(.int (own_k p0)), (.ref b2)])) _
          refine X92.aaload hx (j := own_k p0) (v := .ref r) (by rw [e92]; exact Arz.1) (State.isArrayOf_alike hZ.alike Arz.2.1) rfl Arz.2.2 hinz hat (g := (mkF m 153 #[.val (.int p0), .val (.ref b2), .val (.int (own_k p0)), .val (.int (0 : Int32))] [(.int (own_k p0)), (.ref b2)])) rfl rfl (hb hby at_153) _ ?_
          exact k)
      obtain ⟨cq103, kcq103, q103a, q103b, q103c⟩ := isOf hZ e92 E_r
      obtain ⟨_, _, ⟨T103, L103, kq103, n103⟩, -, X103, ⟨Lc103, hQ103, l103, y103, z103⟩, st103⟩ := X92.virtualBack hx (y := (⟨"com/example/caseway/caseway/ErrorCode", "rejects", "()Z"⟩ : MethodName)) (z := (⟨"com/example/caseway/caseway/ErrorCode", "rejects", "()Z"⟩ : MethodName)) hown (mvT hZ (hw _ (List.mem_of_getElem? (i := 41) rfl))) (mvT hZ (hw _ (List.mem_of_getElem? (i := 42) rfl))) (notFace_of_selects (args := #[]) (mvT hZ (hw _ (List.mem_of_getElem? (i := 44) rfl)))) (mvT hZ (hw _ (List.mem_of_getElem? (i := 44) rfl))) (mvT hZ (hw _ (List.mem_of_getElem? (i := 43) rfl))) (by decide) (backOf (W := 0) (rm1 l Z a0 hw [] r nn h92 n0 Zs92 F_r) hZ (hw _ (List.mem_of_getElem? (i := 45) rfl)) (hw _ (List.mem_of_getElem? (i := 3) rfl)) (by decide) (by decide)) q103a q103c (g := (mkF m 154 #[.val (.int p0), .val (.ref b2), .val (.int (own_k p0)), .val (.int (0 : Int32))] [(.ref r)])) rfl (by rw [hml]; rfl) (Steps.refl _) (argsL := []) (rest := []) (lenOf pd_0 rfl) rfl (by show 2 * 0 + _ ≤ _; exact Nat.le_of_eq rfl) (hb hby at_154) (fun _ _ => ⟨rfl, e92, (by decide : 1 + 0 ≤ _), (by decide : 18 + 0 ≤ _)⟩)
      dsimp only [Pt.U, Pt.locs, Pt.cells, Pt.slots] at X103 l103 y103 z103 st103 hQ103
      subst l103 y103 z103
      obtain ⟨rfl, N103q, e103⟩ := hQ103
      have N103 := Fr.app N92 N103q
      have k104 : ∀ t, Steps p.tables e below (T103.setTop (mkF m 157 #[.val (.int p0), .val (.ref b2), .val (.int (own_k p0)), .val (.int (0 : Int32))] [(.int (own_bI (200 ≤ nn.toInt ∧ nn.toInt ≤ 308)))])) t → Steps p.tables e below (s₁.setTop (entryFrame m #[(.int p0)] maxLocals)) t := fun t k => k102 t (st103.trans k)
      have hc158 : (own_bI (200 ≤ nn.toInt ∧ nn.toInt ≤ 308)) = (0 : Int32) := own_bI_f (by simp only [Int32.lt_iff_toInt_lt, Int32.reduceToInt] at hc136 hc142; omega)
      have k105 : ∀ t, Steps p.tables e below (T103.setTop (mkF m 166 #[.val (.int p0), .val (.ref b2), .val (.int (own_k p0)), .val (.int (0 : Int32))] [(.int (1 : Int32))])) t → Steps p.tables e below (s₁.setTop (entryFrame m #[(.int p0)] maxLocals)) t := fun t k => k104 t (by
          show Steps p.tables e below (T103.setTop (mkF m 157 #[.val (.int p0), .val (.ref b2), .val (.int (own_k p0)), .val (.int (0 : Int32))] [(.int (own_bI (200 ≤ nn.toInt ∧ nn.toInt ≤ 308)))])) _
          refine XS.iloadN X103.here hx rfl (hb hby at_157) rfl ?_
          show Steps p.tables e below (T103.setTop (mkF m 158 #[.val (.int p0), .val (.ref b2), .val (.int (own_k p0)), .val (.int (0 : Int32))] [(.int (0 : Int32)), (.int (own_bI (200 ≤ nn.toInt ∧ nn.toInt ≤ 308)))])) _
          refine XS.icmpNo X103.here hx rfl (hb hby at_158) rfl (teq hc158).2 ?_
          show Steps p.tables e below (T103.setTop (mkF m 161 #[.val (.int p0), .val (.ref b2), .val (.int (own_k p0)), .val (.int (0 : Int32))] [])) _
          refine XS.iconst X103.here hx rfl (hb hby at_161) ?_
          show Steps p.tables e below (T103.setTop (mkF m 162 #[.val (.int p0), .val (.ref b2), .val (.int (own_k p0)), .val (.int (0 : Int32))] [(.int (1 : Int32))])) _
          refine XS.goto X103.here hx rfl (pc0 := 162) (pc' := 166) rfl (hb hby at_162) (by decide) (by decide) ?_
          exact k)
      obtain ⟨fs, hr, hrun, hended, hW, hsame⟩ := X103.leave (v := (some (.int (1 : Int32)))) (fun h => by rw [Bd.returns] at h; cases h)
      refine ⟨_, _, k105 _ ?_, hrun, hended, _, _, rfl, ?_, ⟨_, rfl⟩, hW, hsame.mono (by decide) (by decide)⟩
      · exact retN X103 hx (t := .boolean) Bd.returns (by simp) (hb hby at_166) hr
      · show Q0 Z p0 w_SEGMENT_SEQUENCE_ERROR w_REQUIRED_FIELD_MISSING w_DATA_TYPE_ERROR w_TABLE_VALUE_NOT_FOUND w_UNSUPPORTED_MESSAGE_TYPE w_UNSUPPORTED_EVENT_CODE w_UNSUPPORTED_PROCESSING_ID w_UNSUPPORTED_VERSION_ID w_INVALID_XML w_XML_NAMESPACE_ISSUE w_SCHEMA_VALIDATION_ERROR w_INVALID_MSH3_FORMAT w_MESSAGE_TYPE_MISMATCH w_INVALID_REF_RRI_MESSAGE_TYPE w_INVALID_HOSPITAL_FORMAT w_INVALID_AGENCY_FORMAT w_INVALID_PRACTICE_ID_FORMAT w_GENERAL_MESSAGE_EXCEPTION h0 n0 _ T103.heap _
        rw [e103]
        exact ⟨rfl, N103⟩
    · have k106 : ∀ t, Steps p.tables e below (T92.setTop (mkF m 153 #[.val (.int p0), .val (.ref b2), .val (.int (own_k p0)), .val (.int (1 : Int32))] [(.int (own_k p0)), (.ref b2)])) t → Steps p.tables e below (s₁.setTop (entryFrame m #[(.int p0)] maxLocals)) t := fun t k => k100 t (by
          show Steps p.tables e below (T92.setTop (mkF m 142 #[.val (.int p0), .val (.ref b2), .val (.int (own_k p0)), .unset] [(.int (16 : Int32)), (.int (own_k p0))])) _
          refine XS.icmpNo X92.here hx rfl (hb hby at_142) rfl (flt hc142).2.2.1 ?_
          show Steps p.tables e below (T92.setTop (mkF m 145 #[.val (.int p0), .val (.ref b2), .val (.int (own_k p0)), .unset] [])) _
          refine XS.iconst X92.here hx rfl (hb hby at_145) ?_
          show Steps p.tables e below (T92.setTop (mkF m 146 #[.val (.int p0), .val (.ref b2), .val (.int (own_k p0)), .unset] [(.int (1 : Int32))])) _
          refine XS.goto X92.here hx rfl (pc0 := 146) (pc' := 150) rfl (hb hby at_146) (by decide) (by decide) ?_
          show Steps p.tables e below (T92.setTop (mkF m 150 #[.val (.int p0), .val (.ref b2), .val (.int (own_k p0)), .unset] [(.int (1 : Int32))])) _
          refine XS.istoreN X92.here hx rfl (hb hby at_150) rfl (l' := #[.val (.int p0), .val (.ref b2), .val (.int (own_k p0)), .val (.int (1 : Int32))]) rfl ?_
          show Steps p.tables e below (T92.setTop (mkF m 151 #[.val (.int p0), .val (.ref b2), .val (.int (own_k p0)), .val (.int (1 : Int32))] [])) _
          refine XS.aloadN X92.here hx rfl (hb hby at_151) rfl rfl ?_
          show Steps p.tables e below (T92.setTop (mkF m 152 #[.val (.int p0), .val (.ref b2), .val (.int (own_k p0)), .val (.int (1 : Int32))] [(.ref b2)])) _
          refine XS.iloadN X92.here hx rfl (hb hby at_152) rfl ?_
          exact k)
      obtain ⟨clz, Arz, qz, Sz, Nz, Hz, Gz⟩ := V_b2_124
      have rk := own_k_r p0
      have hinz : ¬ (own_k p0 < 0 ∨ clz.slots.size ≤ (own_k p0).toNatClampNeg) := inb_of Sz ⟨by rw [Int32.lt_iff_toInt_lt]; simp only [Int32.reduceToInt]; omega, by rw [Int32.lt_iff_toInt_lt]; simp only [Int32.reduceToInt]; omega⟩
      obtain ⟨r, nn, hget, hP, hiff⟩ := own_sel (P := fun v nn => ∀ r, v = .ref r → Exa Z h92 r "com/example/caseway/caseway/ErrorCode" ∧ Fld Z h92 r "com/example/caseway/caseway/ErrorCode" "number" "I" (.int nn)) rk.1 rk.2 (fun r hr => by cases hr; exact ⟨E_w_SEGMENT_SEQUENCE_ERROR.keep K92, F_w_SEGMENT_SEQUENCE_ERROR.keep K92 (by simp)⟩) (fun r hr => by cases hr; exact ⟨E_w_REQUIRED_FIELD_MISSING.keep K92, F_w_REQUIRED_FIELD_MISSING.keep K92 (by simp)⟩) (fun r hr => by cases hr; exact ⟨E_w_DATA_TYPE_ERROR.keep K92, F_w_DATA_TYPE_ERROR.keep K92 (by simp)⟩) (fun r hr => by cases hr; exact ⟨E_w_TABLE_VALUE_NOT_FOUND.keep K92, F_w_TABLE_VALUE_NOT_FOUND.keep K92 (by simp)⟩) (fun r hr => by cases hr; exact ⟨E_w_UNSUPPORTED_MESSAGE_TYPE.keep K92, F_w_UNSUPPORTED_MESSAGE_TYPE.keep K92 (by simp)⟩) (fun r hr => by cases hr; exact ⟨E_w_UNSUPPORTED_EVENT_CODE.keep K92, F_w_UNSUPPORTED_EVENT_CODE.keep K92 (by simp)⟩) (fun r hr => by cases hr; exact ⟨E_w_UNSUPPORTED_PROCESSING_ID.keep K92, F_w_UNSUPPORTED_PROCESSING_ID.keep K92 (by simp)⟩) (fun r hr => by cases hr; exact ⟨E_w_UNSUPPORTED_VERSION_ID.keep K92, F_w_UNSUPPORTED_VERSION_ID.keep K92 (by simp)⟩) (fun r hr => by cases hr; exact ⟨E_w_INVALID_XML.keep K92, F_w_INVALID_XML.keep K92 (by simp)⟩) (fun r hr => by cases hr; exact ⟨E_w_XML_NAMESPACE_ISSUE.keep K92, F_w_XML_NAMESPACE_ISSUE.keep K92 (by simp)⟩) (fun r hr => by cases hr; exact ⟨E_w_SCHEMA_VALIDATION_ERROR.keep K92, F_w_SCHEMA_VALIDATION_ERROR.keep K92 (by simp)⟩) (fun r hr => by cases hr; exact ⟨E_w_INVALID_MSH3_FORMAT.keep K92, F_w_INVALID_MSH3_FORMAT.keep K92 (by simp)⟩) (fun r hr => by cases hr; exact ⟨E_w_MESSAGE_TYPE_MISMATCH.keep K92, F_w_MESSAGE_TYPE_MISMATCH.keep K92 (by simp)⟩) (fun r hr => by cases hr; exact ⟨E_w_INVALID_REF_RRI_MESSAGE_TYPE.keep K92, F_w_INVALID_REF_RRI_MESSAGE_TYPE.keep K92 (by simp)⟩) (fun r hr => by cases hr; exact ⟨E_w_INVALID_HOSPITAL_FORMAT.keep K92, F_w_INVALID_HOSPITAL_FORMAT.keep K92 (by simp)⟩) (fun r hr => by cases hr; exact ⟨E_w_INVALID_AGENCY_FORMAT.keep K92, F_w_INVALID_AGENCY_FORMAT.keep K92 (by simp)⟩) (fun r hr => by cases hr; exact ⟨E_w_INVALID_PRACTICE_ID_FORMAT.keep K92, F_w_INVALID_PRACTICE_ID_FORMAT.keep K92 (by simp)⟩) (fun r hr => by cases hr; exact ⟨E_w_GENERAL_MESSAGE_EXCEPTION.keep K92, F_w_GENERAL_MESSAGE_EXCEPTION.keep K92 (by simp)⟩)
      obtain ⟨E_r, F_r⟩ := hP r rfl
      have hat : clz.slots[(own_k p0).toNatClampNeg]? = some (.ref r) := Has.at Hz hinz hget
      have k107 : ∀ t, Steps p.tables e below (T92.setTop (mkF m 154 #[.val (.int p0), .val (.ref b2), .val (.int (own_k p0)), .val (.int (1 : Int32))] [(.ref r)])) t → Steps p.tables e below (s₁.setTop (entryFrame m #[(.int p0)] maxLocals)) t := fun t k => k106 t (by
          show Steps p.tables e below (T92.setTop (mkF m 153 #[.val (.int p0), .val (.ref b2), .val (.int (own_k p0)), .val (.int (1 : Int32))] [(.int (own_k p0)), (.ref b2)])) _
          refine X92.aaload hx (j := own_k p0) (v := .ref r) (by rw [e92]; exact Arz.1) (State.isArrayOf_alike hZ.alike Arz.2.1) rfl Arz.2.2 hinz hat (g := (mkF m 153 #[.val (.int p0), .val (.ref b2), .val (.int (own_k p0)), .val (.int (1 : Int32))] [(.int (own_k p0)), (.ref b2)])) rfl rfl (hb hby at_153) _ ?_
          exact k)
      obtain ⟨cq108, kcq108, q108a, q108b, q108c⟩ := isOf hZ e92 E_r
      obtain ⟨_, _, ⟨T108, L108, kq108, n108⟩, -, X108, ⟨Lc108, hQ108, l108, y108, z108⟩, st108⟩ := X92.virtualBack hx (y := (⟨"com/example/caseway/caseway/ErrorCode", "rejects", "()Z"⟩ : MethodName)) (z := (⟨"com/example/caseway/caseway/ErrorCode", "rejects", "()Z"⟩ : MethodName)) hown (mvT hZ (hw _ (List.mem_of_getElem? (i := 41) rfl))) (mvT hZ (hw _ (List.mem_of_getElem? (i := 42) rfl))) (notFace_of_selects (args := #[]) (mvT hZ (hw _ (List.mem_of_getElem? (i := 44) rfl)))) (mvT hZ (hw _ (List.mem_of_getElem? (i := 44) rfl))) (mvT hZ (hw _ (List.mem_of_getElem? (i := 43) rfl))) (by decide) (backOf (W := 0) (rm1 l Z a0 hw [] r nn h92 n0 Zs92 F_r) hZ (hw _ (List.mem_of_getElem? (i := 45) rfl)) (hw _ (List.mem_of_getElem? (i := 3) rfl)) (by decide) (by decide)) q108a q108c (g := (mkF m 154 #[.val (.int p0), .val (.ref b2), .val (.int (own_k p0)), .val (.int (1 : Int32))] [(.ref r)])) rfl (by rw [hml]; rfl) (Steps.refl _) (argsL := []) (rest := []) (lenOf pd_0 rfl) rfl (by show 2 * 0 + _ ≤ _; exact Nat.le_of_eq rfl) (hb hby at_154) (fun _ _ => ⟨rfl, e92, (by decide : 1 + 0 ≤ _), (by decide : 18 + 0 ≤ _)⟩)
      dsimp only [Pt.U, Pt.locs, Pt.cells, Pt.slots] at X108 l108 y108 z108 st108 hQ108
      subst l108 y108 z108
      obtain ⟨rfl, N108q, e108⟩ := hQ108
      have N108 := Fr.app N92 N108q
      have k109 : ∀ t, Steps p.tables e below (T108.setTop (mkF m 157 #[.val (.int p0), .val (.ref b2), .val (.int (own_k p0)), .val (.int (1 : Int32))] [(.int (own_bI (200 ≤ nn.toInt ∧ nn.toInt ≤ 308)))])) t → Steps p.tables e below (s₁.setTop (entryFrame m #[(.int p0)] maxLocals)) t := fun t k => k107 t (st108.trans k)
      have hc158 : (own_bI (200 ≤ nn.toInt ∧ nn.toInt ≤ 308)) = (1 : Int32) := own_bI_t (by simp only [Int32.lt_iff_toInt_lt, Int32.reduceToInt] at hc136 hc142; omega)
      have k110 : ∀ t, Steps p.tables e below (T108.setTop (mkF m 166 #[.val (.int p0), .val (.ref b2), .val (.int (own_k p0)), .val (.int (1 : Int32))] [(.int (1 : Int32))])) t → Steps p.tables e below (s₁.setTop (entryFrame m #[(.int p0)] maxLocals)) t := fun t k => k109 t (by
          show Steps p.tables e below (T108.setTop (mkF m 157 #[.val (.int p0), .val (.ref b2), .val (.int (own_k p0)), .val (.int (1 : Int32))] [(.int (own_bI (200 ≤ nn.toInt ∧ nn.toInt ≤ 308)))])) _
          refine XS.iloadN X108.here hx rfl (hb hby at_157) rfl ?_
          show Steps p.tables e below (T108.setTop (mkF m 158 #[.val (.int p0), .val (.ref b2), .val (.int (own_k p0)), .val (.int (1 : Int32))] [(.int (1 : Int32)), (.int (own_bI (200 ≤ nn.toInt ∧ nn.toInt ≤ 308)))])) _
          refine XS.icmpNo X108.here hx rfl (hb hby at_158) rfl (teq hc158).2 ?_
          show Steps p.tables e below (T108.setTop (mkF m 161 #[.val (.int p0), .val (.ref b2), .val (.int (own_k p0)), .val (.int (1 : Int32))] [])) _
          refine XS.iconst X108.here hx rfl (hb hby at_161) ?_
          show Steps p.tables e below (T108.setTop (mkF m 162 #[.val (.int p0), .val (.ref b2), .val (.int (own_k p0)), .val (.int (1 : Int32))] [(.int (1 : Int32))])) _
          refine XS.goto X108.here hx rfl (pc0 := 162) (pc' := 166) rfl (hb hby at_162) (by decide) (by decide) ?_
          exact k)
      obtain ⟨fs, hr, hrun, hended, hW, hsame⟩ := X108.leave (v := (some (.int (1 : Int32)))) (fun h => by rw [Bd.returns] at h; cases h)
      refine ⟨_, _, k110 _ ?_, hrun, hended, _, _, rfl, ?_, ⟨_, rfl⟩, hW, hsame.mono (by decide) (by decide)⟩
      · exact retN X108 hx (t := .boolean) Bd.returns (by simp) (hb hby at_166) hr
      · show Q0 Z p0 w_SEGMENT_SEQUENCE_ERROR w_REQUIRED_FIELD_MISSING w_DATA_TYPE_ERROR w_TABLE_VALUE_NOT_FOUND w_UNSUPPORTED_MESSAGE_TYPE w_UNSUPPORTED_EVENT_CODE w_UNSUPPORTED_PROCESSING_ID w_UNSUPPORTED_VERSION_ID w_INVALID_XML w_XML_NAMESPACE_ISSUE w_SCHEMA_VALIDATION_ERROR w_INVALID_MSH3_FORMAT w_MESSAGE_TYPE_MISMATCH w_INVALID_REF_RRI_MESSAGE_TYPE w_INVALID_HOSPITAL_FORMAT w_INVALID_AGENCY_FORMAT w_INVALID_PRACTICE_ID_FORMAT w_GENERAL_MESSAGE_EXCEPTION h0 n0 _ T108.heap _
        rw [e108]
        exact ⟨rfl, N108⟩
set_option maxRecDepth 65536 in
set_option maxHeartbeats 40000000 in
theorem comes_1 {Post : Tables → Env → Array Value → State → Outcome → State → Prop} (hpost : ∀ tb e args s v u, (limb_1_1.after args s (.returned v) u = true ∧ limb_1_2.after args s (.returned v) u = true ∧ True) → FrameEnd s (.returned v) u (Jvm.fieldLocs frame_1_writes args s ++ Jvm.arrayLocs frame_1_arrays args s ++ Jvm.staticLocs frame_1_statics s) 16 128 → Post tb e args s (.returned v) u) :
    ArmFor flags0 classFile x code maxLocals ret World_1 tables_1 room_1 Calls_1 rest_1 Pre_1 Post := by
  intro l hfl _ _ p e ha hc hk s m args below hf hA hF happ hP
  obtain ⟨hcalls, hrest, hpre⟩ := hP
  obtain ⟨-, -, -, hnamed, -, -, -, hat⟩ := (Spec.applies_iff hf).mp happ
  obtain ⟨hg, hn⟩ := and_e (Cond.before_iff.mp (show (Jvm.Cond.and given_1 narrow_1).before args s = true from hpre))
  obtain ⟨hcount, hgs⟩ := and_e hg
  obtain ⟨w0, rfl⟩ : ∃ w0 : Value, args = #[w0] := by
    have hs : args.size = 1 := by simpa [Cond.value, given_1] using hcount
    obtain ⟨L⟩ := args
    match L, hs with
    | [w0], _ => exact ⟨w0, rfl⟩
  have hw := fun d (hd : d ∈ tables_1) => atoms_spec (ws := Jvm.Cond.code x code maxLocals ret :: tables_1) hat d (List.mem_cons_of_mem _ hd)
  obtain ⟨i0, ei0⟩ := is_v hgs
  obtain rfl : w0 = (.int i0) := Option.some.inj ei0
  obtain ⟨hn1, hn2⟩ := and_e hn
  obtain ⟨hn3, hn4⟩ := and_e hn2
  obtain ⟨hn5, hn6⟩ := and_e hn4
  obtain ⟨hn7, hn8⟩ := and_e hn6
  obtain ⟨hn9, hn10⟩ := and_e hn8
  obtain ⟨hn11, hn12⟩ := and_e hn10
  obtain ⟨hn13, hn14⟩ := and_e hn12
  obtain ⟨hn15, hn16⟩ := and_e hn14
  obtain ⟨hn17, hn18⟩ := and_e hn16
  obtain ⟨hn19, hn20⟩ := and_e hn18
  obtain ⟨hn21, hn22⟩ := and_e hn20
  obtain ⟨hn23, hn24⟩ := and_e hn22
  obtain ⟨hn25, hn26⟩ := and_e hn24
  obtain ⟨hn27, hn28⟩ := and_e hn26
  obtain ⟨hn29, hn30⟩ := and_e hn28
  obtain ⟨hn31, hn32⟩ := and_e hn30
  obtain ⟨hn33, hn34⟩ := and_e hn32
  obtain ⟨hn35, hn36⟩ := and_e hn34
  obtain ⟨hn37, hn38⟩ := and_e hn36
  obtain ⟨hn39, hn40⟩ := and_e hn38
  obtain ⟨hn41, hn42⟩ := and_e hn40
  obtain ⟨hn43, hn44⟩ := and_e hn42
  obtain ⟨hn45, hn46⟩ := and_e hn44
  obtain ⟨hn47, hn48⟩ := and_e hn46
  obtain ⟨hn49, hn50⟩ := and_e hn48
  obtain ⟨hn51, hn52⟩ := and_e hn50
  obtain ⟨hn53, hn54⟩ := and_e hn52
  obtain ⟨hn55, hn56⟩ := and_e hn54
  obtain ⟨hn57, hn58⟩ := and_e hn56
  obtain ⟨hn59, hn60⟩ := and_e hn58
  obtain ⟨hn61, hn62⟩ := and_e hn60
  obtain ⟨hn63, hn64⟩ := and_e hn62
  obtain ⟨hn65, hn66⟩ := and_e hn64
  obtain ⟨hn67, hn68⟩ := and_e hn66
  obtain ⟨hn69, hn70⟩ := and_e hn68
  obtain ⟨w_SEGMENT_SEQUENCE_ERROR, es_SEGMENT_SEQUENCE_ERROR⟩ := exa_v hn1
  have S_SEGMENT_SEQUENCE_ERROR := Sta.start es_SEGMENT_SEQUENCE_ERROR (Or.inr ⟨(hw _ (List.mem_of_getElem? (i := 3) rfl)), (hw _ (List.mem_of_getElem? (i := 4) rfl))⟩)
  have E_w_SEGMENT_SEQUENCE_ERROR := Exa.start es_SEGMENT_SEQUENCE_ERROR hn1
  obtain ⟨w_REQUIRED_FIELD_MISSING, es_REQUIRED_FIELD_MISSING⟩ := exa_v hn3
  have S_REQUIRED_FIELD_MISSING := Sta.start es_REQUIRED_FIELD_MISSING (Or.inr ⟨(hw _ (List.mem_of_getElem? (i := 3) rfl)), (hw _ (List.mem_of_getElem? (i := 7) rfl))⟩)
  have E_w_REQUIRED_FIELD_MISSING := Exa.start es_REQUIRED_FIELD_MISSING hn3
  obtain ⟨w_DATA_TYPE_ERROR, es_DATA_TYPE_ERROR⟩ := exa_v hn5
  have S_DATA_TYPE_ERROR := Sta.start es_DATA_TYPE_ERROR (Or.inr ⟨(hw _ (List.mem_of_getElem? (i := 3) rfl)), (hw _ (List.mem_of_getElem? (i := 9) rfl))⟩)
  have E_w_DATA_TYPE_ERROR := Exa.start es_DATA_TYPE_ERROR hn5
  obtain ⟨w_TABLE_VALUE_NOT_FOUND, es_TABLE_VALUE_NOT_FOUND⟩ := exa_v hn7
  have S_TABLE_VALUE_NOT_FOUND := Sta.start es_TABLE_VALUE_NOT_FOUND (Or.inr ⟨(hw _ (List.mem_of_getElem? (i := 3) rfl)), (hw _ (List.mem_of_getElem? (i := 11) rfl))⟩)
  have E_w_TABLE_VALUE_NOT_FOUND := Exa.start es_TABLE_VALUE_NOT_FOUND hn7
  obtain ⟨w_UNSUPPORTED_MESSAGE_TYPE, es_UNSUPPORTED_MESSAGE_TYPE⟩ := exa_v hn9
  have S_UNSUPPORTED_MESSAGE_TYPE := Sta.start es_UNSUPPORTED_MESSAGE_TYPE (Or.inr ⟨(hw _ (List.mem_of_getElem? (i := 3) rfl)), (hw _ (List.mem_of_getElem? (i := 13) rfl))⟩)
  have E_w_UNSUPPORTED_MESSAGE_TYPE := Exa.start es_UNSUPPORTED_MESSAGE_TYPE hn9
  obtain ⟨w_UNSUPPORTED_EVENT_CODE, es_UNSUPPORTED_EVENT_CODE⟩ := exa_v hn11
  have S_UNSUPPORTED_EVENT_CODE := Sta.start es_UNSUPPORTED_EVENT_CODE (Or.inr ⟨(hw _ (List.mem_of_getElem? (i := 3) rfl)), (hw _ (List.mem_of_getElem? (i := 15) rfl))⟩)
  have E_w_UNSUPPORTED_EVENT_CODE := Exa.start es_UNSUPPORTED_EVENT_CODE hn11
  obtain ⟨w_UNSUPPORTED_PROCESSING_ID, es_UNSUPPORTED_PROCESSING_ID⟩ := exa_v hn13
  have S_UNSUPPORTED_PROCESSING_ID := Sta.start es_UNSUPPORTED_PROCESSING_ID (Or.inr ⟨(hw _ (List.mem_of_getElem? (i := 3) rfl)), (hw _ (List.mem_of_getElem? (i := 17) rfl))⟩)
  have E_w_UNSUPPORTED_PROCESSING_ID := Exa.start es_UNSUPPORTED_PROCESSING_ID hn13
  obtain ⟨w_UNSUPPORTED_VERSION_ID, es_UNSUPPORTED_VERSION_ID⟩ := exa_v hn15
  have S_UNSUPPORTED_VERSION_ID := Sta.start es_UNSUPPORTED_VERSION_ID (Or.inr ⟨(hw _ (List.mem_of_getElem? (i := 3) rfl)), (hw _ (List.mem_of_getElem? (i := 19) rfl))⟩)
  have E_w_UNSUPPORTED_VERSION_ID := Exa.start es_UNSUPPORTED_VERSION_ID hn15
  obtain ⟨w_INVALID_XML, es_INVALID_XML⟩ := exa_v hn17
  have S_INVALID_XML := Sta.start es_INVALID_XML (Or.inr ⟨(hw _ (List.mem_of_getElem? (i := 3) rfl)), (hw _ (List.mem_of_getElem? (i := 21) rfl))⟩)
  have E_w_INVALID_XML := Exa.start es_INVALID_XML hn17
  obtain ⟨w_XML_NAMESPACE_ISSUE, es_XML_NAMESPACE_ISSUE⟩ := exa_v hn19
  have S_XML_NAMESPACE_ISSUE := Sta.start es_XML_NAMESPACE_ISSUE (Or.inr ⟨(hw _ (List.mem_of_getElem? (i := 3) rfl)), (hw _ (List.mem_of_getElem? (i := 23) rfl))⟩)
  have E_w_XML_NAMESPACE_ISSUE := Exa.start es_XML_NAMESPACE_ISSUE hn19
  obtain ⟨w_SCHEMA_VALIDATION_ERROR, es_SCHEMA_VALIDATION_ERROR⟩ := exa_v hn21
  have S_SCHEMA_VALIDATION_ERROR := Sta.start es_SCHEMA_VALIDATION_ERROR (Or.inr ⟨(hw _ (List.mem_of_getElem? (i := 3) rfl)), (hw _ (List.mem_of_getElem? (i := 25) rfl))⟩)
  have E_w_SCHEMA_VALIDATION_ERROR := Exa.start es_SCHEMA_VALIDATION_ERROR hn21
  obtain ⟨w_INVALID_MSH3_FORMAT, es_INVALID_MSH3_FORMAT⟩ := exa_v hn23
  have S_INVALID_MSH3_FORMAT := Sta.start es_INVALID_MSH3_FORMAT (Or.inr ⟨(hw _ (List.mem_of_getElem? (i := 3) rfl)), (hw _ (List.mem_of_getElem? (i := 27) rfl))⟩)
  have E_w_INVALID_MSH3_FORMAT := Exa.start es_INVALID_MSH3_FORMAT hn23
  obtain ⟨w_MESSAGE_TYPE_MISMATCH, es_MESSAGE_TYPE_MISMATCH⟩ := exa_v hn25
  have S_MESSAGE_TYPE_MISMATCH := Sta.start es_MESSAGE_TYPE_MISMATCH (Or.inr ⟨(hw _ (List.mem_of_getElem? (i := 3) rfl)), (hw _ (List.mem_of_getElem? (i := 29) rfl))⟩)
  have E_w_MESSAGE_TYPE_MISMATCH := Exa.start es_MESSAGE_TYPE_MISMATCH hn25
  obtain ⟨w_INVALID_REF_RRI_MESSAGE_TYPE, es_INVALID_REF_RRI_MESSAGE_TYPE⟩ := exa_v hn27
  have S_INVALID_REF_RRI_MESSAGE_TYPE := Sta.start es_INVALID_REF_RRI_MESSAGE_TYPE (Or.inr ⟨(hw _ (List.mem_of_getElem? (i := 3) rfl)), (hw _ (List.mem_of_getElem? (i := 31) rfl))⟩)
  have E_w_INVALID_REF_RRI_MESSAGE_TYPE := Exa.start es_INVALID_REF_RRI_MESSAGE_TYPE hn27
  obtain ⟨w_INVALID_HOSPITAL_FORMAT, es_INVALID_HOSPITAL_FORMAT⟩ := exa_v hn29
  have S_INVALID_HOSPITAL_FORMAT := Sta.start es_INVALID_HOSPITAL_FORMAT (Or.inr ⟨(hw _ (List.mem_of_getElem? (i := 3) rfl)), (hw _ (List.mem_of_getElem? (i := 33) rfl))⟩)
  have E_w_INVALID_HOSPITAL_FORMAT := Exa.start es_INVALID_HOSPITAL_FORMAT hn29
  obtain ⟨w_INVALID_AGENCY_FORMAT, es_INVALID_AGENCY_FORMAT⟩ := exa_v hn31
  have S_INVALID_AGENCY_FORMAT := Sta.start es_INVALID_AGENCY_FORMAT (Or.inr ⟨(hw _ (List.mem_of_getElem? (i := 3) rfl)), (hw _ (List.mem_of_getElem? (i := 35) rfl))⟩)
  have E_w_INVALID_AGENCY_FORMAT := Exa.start es_INVALID_AGENCY_FORMAT hn31
  obtain ⟨w_INVALID_PRACTICE_ID_FORMAT, es_INVALID_PRACTICE_ID_FORMAT⟩ := exa_v hn33
  have S_INVALID_PRACTICE_ID_FORMAT := Sta.start es_INVALID_PRACTICE_ID_FORMAT (Or.inr ⟨(hw _ (List.mem_of_getElem? (i := 3) rfl)), (hw _ (List.mem_of_getElem? (i := 37) rfl))⟩)
  have E_w_INVALID_PRACTICE_ID_FORMAT := Exa.start es_INVALID_PRACTICE_ID_FORMAT hn33
  obtain ⟨w_GENERAL_MESSAGE_EXCEPTION, es_GENERAL_MESSAGE_EXCEPTION⟩ := exa_v hn35
  have S_GENERAL_MESSAGE_EXCEPTION := Sta.start es_GENERAL_MESSAGE_EXCEPTION (Or.inr ⟨(hw _ (List.mem_of_getElem? (i := 3) rfl)), (hw _ (List.mem_of_getElem? (i := 39) rfl))⟩)
  have E_w_GENERAL_MESSAGE_EXCEPTION := Exa.start es_GENERAL_MESSAGE_EXCEPTION hn35
  have F_w_SEGMENT_SEQUENCE_ERROR := Fld.start (own_fi es_SEGMENT_SEQUENCE_ERROR hn37)
  have F_w_REQUIRED_FIELD_MISSING := Fld.start (own_fi es_REQUIRED_FIELD_MISSING hn43)
  have F_w_DATA_TYPE_ERROR := Fld.start (own_fi es_DATA_TYPE_ERROR hn41)
  have F_w_TABLE_VALUE_NOT_FOUND := Fld.start (own_fi es_TABLE_VALUE_NOT_FOUND hn39)
  have F_w_UNSUPPORTED_MESSAGE_TYPE := Fld.start (own_fi es_UNSUPPORTED_MESSAGE_TYPE hn49)
  have F_w_UNSUPPORTED_EVENT_CODE := Fld.start (own_fi es_UNSUPPORTED_EVENT_CODE hn69)
  have F_w_UNSUPPORTED_PROCESSING_ID := Fld.start (own_fi es_UNSUPPORTED_PROCESSING_ID hn63)
  have F_w_UNSUPPORTED_VERSION_ID := Fld.start (own_fi es_UNSUPPORTED_VERSION_ID hn45)
  have F_w_INVALID_XML := Fld.start (own_fi es_INVALID_XML hn51)
  have F_w_XML_NAMESPACE_ISSUE := Fld.start (own_fi es_XML_NAMESPACE_ISSUE hn70)
  have F_w_SCHEMA_VALIDATION_ERROR := Fld.start (own_fi es_SCHEMA_VALIDATION_ERROR hn59)
  have F_w_INVALID_MSH3_FORMAT := Fld.start (own_fi es_INVALID_MSH3_FORMAT hn47)
  have F_w_MESSAGE_TYPE_MISMATCH := Fld.start (own_fi es_MESSAGE_TYPE_MISMATCH hn53)
  have F_w_INVALID_REF_RRI_MESSAGE_TYPE := Fld.start (own_fi es_INVALID_REF_RRI_MESSAGE_TYPE hn61)
  have F_w_INVALID_HOSPITAL_FORMAT := Fld.start (own_fi es_INVALID_HOSPITAL_FORMAT hn67)
  have F_w_INVALID_AGENCY_FORMAT := Fld.start (own_fi es_INVALID_AGENCY_FORMAT hn57)
  have F_w_INVALID_PRACTICE_ID_FORMAT := Fld.start (own_fi es_INVALID_PRACTICE_ID_FORMAT hn55)
  have F_w_GENERAL_MESSAGE_EXCEPTION := Fld.start (own_fi es_GENERAL_MESSAGE_EXCEPTION hn65)
  obtain ⟨n, o, h1, h2, h3, _, L, rfl, ⟨rfl, N⟩, hq⟩ := rm0 l s _ hw tables_1 i0 w_SEGMENT_SEQUENCE_ERROR w_REQUIRED_FIELD_MISSING w_DATA_TYPE_ERROR w_TABLE_VALUE_NOT_FOUND w_UNSUPPORTED_MESSAGE_TYPE w_UNSUPPORTED_EVENT_CODE w_UNSUPPORTED_PROCESSING_ID w_UNSUPPORTED_VERSION_ID w_INVALID_XML w_XML_NAMESPACE_ISSUE w_SCHEMA_VALIDATION_ERROR w_INVALID_MSH3_FORMAT w_MESSAGE_TYPE_MISMATCH w_INVALID_REF_RRI_MESSAGE_TYPE w_INVALID_HOSPITAL_FORMAT w_INVALID_AGENCY_FORMAT w_INVALID_PRACTICE_ID_FORMAT w_GENERAL_MESSAGE_EXCEPTION s.heap s.heap.size (Nat.le_refl _) S_SEGMENT_SEQUENCE_ERROR S_REQUIRED_FIELD_MISSING S_DATA_TYPE_ERROR S_TABLE_VALUE_NOT_FOUND S_UNSUPPORTED_MESSAGE_TYPE S_UNSUPPORTED_EVENT_CODE S_UNSUPPORTED_PROCESSING_ID S_UNSUPPORTED_VERSION_ID S_INVALID_XML S_XML_NAMESPACE_ISSUE S_SCHEMA_VALIDATION_ERROR S_INVALID_MSH3_FORMAT S_MESSAGE_TYPE_MISMATCH S_INVALID_REF_RRI_MESSAGE_TYPE S_INVALID_HOSPITAL_FORMAT S_INVALID_AGENCY_FORMAT S_INVALID_PRACTICE_ID_FORMAT S_GENERAL_MESSAGE_EXCEPTION E_w_SEGMENT_SEQUENCE_ERROR E_w_REQUIRED_FIELD_MISSING E_w_DATA_TYPE_ERROR E_w_TABLE_VALUE_NOT_FOUND E_w_UNSUPPORTED_MESSAGE_TYPE E_w_UNSUPPORTED_EVENT_CODE E_w_UNSUPPORTED_PROCESSING_ID E_w_UNSUPPORTED_VERSION_ID E_w_INVALID_XML E_w_XML_NAMESPACE_ISSUE E_w_SCHEMA_VALIDATION_ERROR E_w_INVALID_MSH3_FORMAT E_w_MESSAGE_TYPE_MISMATCH E_w_INVALID_REF_RRI_MESSAGE_TYPE E_w_INVALID_HOSPITAL_FORMAT E_w_INVALID_AGENCY_FORMAT E_w_INVALID_PRACTICE_ID_FORMAT E_w_GENERAL_MESSAGE_EXCEPTION F_w_SEGMENT_SEQUENCE_ERROR F_w_REQUIRED_FIELD_MISSING F_w_DATA_TYPE_ERROR F_w_TABLE_VALUE_NOT_FOUND F_w_UNSUPPORTED_MESSAGE_TYPE F_w_UNSUPPORTED_EVENT_CODE F_w_UNSUPPORTED_PROCESSING_ID F_w_UNSUPPORTED_VERSION_ID F_w_INVALID_XML F_w_XML_NAMESPACE_ISSUE F_w_SCHEMA_VALIDATION_ERROR F_w_INVALID_MSH3_FORMAT F_w_MESSAGE_TYPE_MISMATCH F_w_INVALID_REF_RRI_MESSAGE_TYPE F_w_INVALID_HOSPITAL_FORMAT F_w_INVALID_AGENCY_FORMAT F_w_INVALID_PRACTICE_ID_FORMAT F_w_GENERAL_MESSAGE_EXCEPTION p e ha hc hk s m _ below hf ((Spec.applies_iff_loose hf).mp happ).1 ⟨rfl, State.Warmed39.refl s, rfl⟩ trivial
  refine ⟨n, _, h1, h2, h3, hpost _ _ _ _ _ _ ⟨Cond.after_iff.mpr rfl, Cond.after_iff.mpr (eq_i res_at (Term.int_eval (1)) rfl), trivial⟩ ⟨hq.1, hq.2.1, (hq.2.2.sift fun y hy => Or.inr (N y hy)).mono (by decide) (by decide)⟩⟩
theorem main_1_1 : Claimed_1_1 := comes_1 fun _ _ _ _ _ _ h hF => ⟨h.1, hF⟩
theorem main_1_2 : Claimed_1_2 := comes_1 fun _ _ _ _ _ _ h hF => ⟨h.2.1, hF⟩
end Jvm.Pilot.@@N@@
namespace Jvm.Pilot.@@N@@
open Jvm Jvm.ClassFile Sem Op Lib Jvm.Free Jvm.Stand Jvm.Pilot.@@N@@.Jvm.D
/-! MADE BY PROGRAM (witnessworld.py) out of the Statement's table words and the real class files: 13 classes; the members and pool entries that the words name. The judged class is class 1, her method 1. -/
namespace start1
open Jvm.ClassFile
def u (s : String) : CpInfo := .utf8 (stringToUtf16 s)
/-- a pool by its gaps: so many unusable entries, then the entry; so many at the end -/
def gap : Nat → List CpInfo → List CpInfo
  | 0, r => r
  | n + 1, r => .unusable :: gap n r
def poolList (es : List (Nat × CpInfo)) (last : Nat) : List CpInfo := es.foldr (fun e r => gap e.1 (e.2 :: r)) (gap last [])
def pool (es : List (Nat × CpInfo)) (last : Nat) : Array CpInfo := ⟨poolList es last⟩
def fileOf (pool : Array CpInfo) (this : Nat) (attrs : Array Attribute := #[]) (ms : Array MethodInfo := #[]) (fl : Nat := 33) (sup : Nat := 0) (ifs : Array Nat := #[]) (fds : Array FieldInfo := #[]) : ClassFile where
  minorVersion := 0
  majorVersion := 65
  constantPool := pool
  accessFlags := fl
  thisClass := this
  superClass := sup
  interfaces := ifs
  fields := fds
  methods := ms
  attributes := attrs
def plain (name : String) (sup : Option ClassId) : Class where
  name := name
  kind := .ordinary
  loader := none
  accessFlags := 33
  super := sup
  interfaces := #[]
  cf := none
  fields := #[]
  methods := #[]
  instanceTypes := #[]
  staticTypes := #[]
  resolved := #[]
  callSites := []
  init := .initialized
  statics := none
  mirror := none

def pool0 : Array CpInfo := pool [(5, u "<init>"), (0, u "()V"), (1, .class_ 10), (1, u "java/lang/Object")] 113

def k0m0 : Method := { name := "<init>", desc := "()V", sig := { parameters := [], returnType := none }, accessFlags := 1, code := none }
/-- java/lang/Object -/
def k0 : Class := { plain "java/lang/Object" none with
  accessFlags := 33
  interfaces := #[]
  cf := some (fileOf pool0 8 #[] #[{ accessFlags := 1, nameIndex := 5, descriptorIndex := 6, attributes := #[] }] 33 0 #[] #[])
  fields := #[]
  methods := #[k0m0]
  instanceTypes := #[]
  staticTypes := #[]
  resolved := Array.replicate 124 none
  statics := none }

def pool1 : Array CpInfo := pool [(2, .class_ 4), (1, u "java/lang/Object"), (0, u "<init>"), (0, u "()V"), (0, .class_ 8), (0, u "com/example/caseway/caseway/ErrorCode"), (0, .fieldref 7 10), (0, .nameAndType 11 12), (0, u "SEGMENT_SEQUENCE_ERROR"), (0, u "Lcom/example/caseway/caseway/ErrorCode;"), (0, .fieldref 7 14), (0, .nameAndType 15 12), (0, u "REQUIRED_FIELD_MISSING"), (0, .fieldref 7 17), (0, .nameAndType 18 12), (0, u "DATA_TYPE_ERROR"), (0, .fieldref 7 20), (0, .nameAndType 21 12), (0, u "TABLE_VALUE_NOT_FOUND"), (0, .fieldref 7 23), (0, .nameAndType 24 12), (0, u "UNSUPPORTED_MESSAGE_TYPE"), (0, .fieldref 7 26), (0, .nameAndType 27 12), (0, u "UNSUPPORTED_EVENT_CODE"), (0, .fieldref 7 29), (0, .nameAndType 30 12), (0, u "UNSUPPORTED_PROCESSING_ID"), (0, .fieldref 7 32), (0, .nameAndType 33 12), (0, u "UNSUPPORTED_VERSION_ID"), (0, .fieldref 7 35), (0, .nameAndType 36 12), (0, u "INVALID_XML"), (0, .fieldref 7 38), (0, .nameAndType 39 12), (0, u "XML_NAMESPACE_ISSUE"), (0, .fieldref 7 41), (0, .nameAndType 42 12), (0, u "SCHEMA_VALIDATION_ERROR"), (0, .fieldref 7 44), (0, .nameAndType 45 12), (0, u "INVALID_MSH3_FORMAT"), (0, .fieldref 7 47), (0, .nameAndType 48 12), (0, u "MESSAGE_TYPE_MISMATCH"), (0, .fieldref 7 50), (0, .nameAndType 51 12), (0, u "INVALID_REF_RRI_MESSAGE_TYPE"), (0, .fieldref 7 53), (0, .nameAndType 54 12), (0, u "INVALID_HOSPITAL_FORMAT"), (0, .fieldref 7 56), (0, .nameAndType 57 12), (0, u "INVALID_AGENCY_FORMAT"), (0, .fieldref 7 59), (0, .nameAndType 60 12), (0, u "INVALID_PRACTICE_ID_FORMAT"), (0, .fieldref 7 62), (0, .nameAndType 63 12), (0, u "GENERAL_MESSAGE_EXCEPTION"), (0, .integer 2147483647), (0, .methodref 7 66), (0, .nameAndType 67 68), (0, u "rejects"), (0, u "()Z"), (0, .class_ 70), (0, u "com/example/caseway/caseway/ErrorCodeRejectsPinLaw"), (2, u "law"), (0, u "(I)Z")] 5

def k1m0 : Method := { name := "<init>", desc := "()V", sig := { parameters := [], returnType := none }, accessFlags := 1, code := none }
def k1c1 : Code := { maxStack := 4, maxLocals := 4, code := code, exceptionTable := #[], attributes := #[] }
def k1m1 : Method := { name := "law", desc := "(I)Z", sig := { parameters := [.int], returnType := some .boolean }, accessFlags := 9, code := some k1c1 }
/-- com/example/caseway/caseway/ErrorCodeRejectsPinLaw -/
def k1 : Class := { plain "com/example/caseway/caseway/ErrorCodeRejectsPinLaw" (some 0) with
  accessFlags := 49
  interfaces := #[]
  cf := some (fileOf pool1 69 #[] #[{ accessFlags := 1, nameIndex := 5, descriptorIndex := 6, attributes := #[] }, { accessFlags := 9, nameIndex := 73, descriptorIndex := 74, attributes := #[] }] 49 2 #[] #[])
  fields := #[]
  methods := #[k1m0, k1m1]
  instanceTypes := #[]
  staticTypes := #[]
  resolved := Array.replicate 80 none
  statics := none }

def pool2 : Array CpInfo := pool [(1, .class_ 2), (0, u "java/lang/constant/Constable"), (0, .class_ 4), (0, u "java/lang/Object")] 6

/-- java/lang/constant/Constable -/
def k2 : Class := { plain "java/lang/constant/Constable" (some 0) with
  accessFlags := 1537
  interfaces := #[]
  cf := some (fileOf pool2 1 #[] #[] 1537 3 #[] #[])
  fields := #[]
  methods := #[]
  instanceTypes := #[]
  staticTypes := #[]
  resolved := Array.replicate 11 none
  statics := none }

def pool3 : Array CpInfo := pool [(1, .class_ 2), (0, u "java/lang/Comparable"), (0, .class_ 4), (0, u "java/lang/Object")] 7

/-- java/lang/Comparable -/
def k3 : Class := { plain "java/lang/Comparable" (some 0) with
  accessFlags := 1537
  interfaces := #[]
  cf := some (fileOf pool3 1 #[] #[] 1537 3 #[] #[])
  fields := #[]
  methods := #[]
  instanceTypes := #[]
  staticTypes := #[]
  resolved := Array.replicate 12 none
  statics := none }

def pool4 : Array CpInfo := pool [(1, .class_ 2), (0, u "java/io/Serializable"), (0, .class_ 4), (0, u "java/lang/Object")] 2

/-- java/io/Serializable -/
def k4 : Class := { plain "java/io/Serializable" (some 0) with
  accessFlags := 1537
  interfaces := #[]
  cf := some (fileOf pool4 1 #[] #[] 1537 3 #[] #[])
  fields := #[]
  methods := #[]
  instanceTypes := #[]
  staticTypes := #[]
  resolved := Array.replicate 7 none
  statics := none }

def pool5 : Array CpInfo := pool [(2, .class_ 4), (1, u "java/lang/Enum"), (0, u "name"), (0, u "Ljava/lang/String;"), (2, u "ordinal"), (0, u "I"), (1, .class_ 14), (1, u "java/lang/Object"), (4, u "hash"), (86, .class_ 108), (1, u "java/lang/Enum$EnumDesc"), (2, .class_ 112), (0, u "java/lang/constant/Constable"), (0, .class_ 114), (0, u "java/lang/Comparable"), (0, .class_ 116), (0, u "java/io/Serializable")] 87

/-- java/lang/Enum -/
def k5 : Class := { plain "java/lang/Enum" (some 0) with
  accessFlags := 1057
  interfaces := #[2, 3, 4]
  cf := some (fileOf pool5 2 #[.nestMembers #[106]] #[] 1057 12 #[111, 113, 115] #[{ accessFlags := 18, nameIndex := 5, descriptorIndex := 6, attributes := #[] }, { accessFlags := 18, nameIndex := 9, descriptorIndex := 10, attributes := #[] }, { accessFlags := 2, nameIndex := 19, descriptorIndex := 10, attributes := #[] }])
  fields := #[{ name := "name", type := (.object "java/lang/String"), accessFlags := 18, slot := 0, constantValue := 0 }, { name := "ordinal", type := .int, accessFlags := 18, slot := 1, constantValue := 0 }, { name := "hash", type := .int, accessFlags := 2, slot := 2, constantValue := 0 }]
  methods := #[]
  instanceTypes := #[(.object "java/lang/String"), .int, .int]
  staticTypes := #[]
  resolved := Array.replicate 204 none
  statics := none }

def pool6 : Array CpInfo := pool [(1, .class_ 2), (0, u "com/example/caseway/caseway/ErrorCode"), (2, u "SEGMENT_SEQUENCE_ERROR"), (0, u "Lcom/example/caseway/caseway/ErrorCode;"), (2, u "REQUIRED_FIELD_MISSING"), (2, u "DATA_TYPE_ERROR"), (2, u "TABLE_VALUE_NOT_FOUND"), (2, u "UNSUPPORTED_MESSAGE_TYPE"), (2, u "UNSUPPORTED_EVENT_CODE"), (2, u "UNSUPPORTED_PROCESSING_ID"), (2, u "UNSUPPORTED_VERSION_ID"), (2, u "INVALID_XML"), (2, u "XML_NAMESPACE_ISSUE"), (2, u "SCHEMA_VALIDATION_ERROR"), (2, u "INVALID_MSH3_FORMAT"), (2, u "MESSAGE_TYPE_MISMATCH"), (2, u "INVALID_REF_RRI_MESSAGE_TYPE"), (2, u "INVALID_HOSPITAL_FORMAT"), (2, u "INVALID_AGENCY_FORMAT"), (2, u "INVALID_PRACTICE_ID_FORMAT"), (2, u "GENERAL_MESSAGE_EXCEPTION"), (2, u "$VALUES"), (0, u "[Lcom/example/caseway/caseway/ErrorCode;"), (6, .class_ 70), (1, u "java/lang/Enum"), (6, .fieldref 1 78), (0, .nameAndType 79 80), (0, u "number"), (0, u "I"), (2, u "text"), (0, u "Ljava/lang/String;"), (61, u "CODING_SYSTEM"), (12, u "rejects"), (0, u "()Z")] 6

def k6c0 : Code := { maxStack := 2, maxLocals := 1, code := prog_29_method_6_code, exceptionTable := #[], attributes := #[] }
def k6m0 : Method := { name := "rejects", desc := "()Z", sig := { parameters := [], returnType := some .boolean }, accessFlags := 1, code := some k6c0 }
/-- com/example/caseway/caseway/ErrorCode -/
def k6 : Class := { plain "com/example/caseway/caseway/ErrorCode" (some 5) with
  accessFlags := 16433
  interfaces := #[]
  cf := some (fileOf pool6 1 #[] #[{ accessFlags := 1, nameIndex := 159, descriptorIndex := 160, attributes := #[] }] 16433 68 #[] #[{ accessFlags := 16409, nameIndex := 5, descriptorIndex := 6, attributes := #[] }, { accessFlags := 16409, nameIndex := 9, descriptorIndex := 6, attributes := #[] }, { accessFlags := 16409, nameIndex := 12, descriptorIndex := 6, attributes := #[] }, { accessFlags := 16409, nameIndex := 15, descriptorIndex := 6, attributes := #[] }, { accessFlags := 16409, nameIndex := 18, descriptorIndex := 6, attributes := #[] }, { accessFlags := 16409, nameIndex := 21, descriptorIndex := 6, attributes := #[] }, { accessFlags := 16409, nameIndex := 24, descriptorIndex := 6, attributes := #[] }, { accessFlags := 16409, nameIndex := 27, descriptorIndex := 6, attributes := #[] }, { accessFlags := 16409, nameIndex := 30, descriptorIndex := 6, attributes := #[] }, { accessFlags := 16409, nameIndex := 33, descriptorIndex := 6, attributes := #[] }, { accessFlags := 16409, nameIndex := 36, descriptorIndex := 6, attributes := #[] }, { accessFlags := 16409, nameIndex := 39, descriptorIndex := 6, attributes := #[] }, { accessFlags := 16409, nameIndex := 42, descriptorIndex := 6, attributes := #[] }, { accessFlags := 16409, nameIndex := 45, descriptorIndex := 6, attributes := #[] }, { accessFlags := 16409, nameIndex := 48, descriptorIndex := 6, attributes := #[] }, { accessFlags := 16409, nameIndex := 51, descriptorIndex := 6, attributes := #[] }, { accessFlags := 16409, nameIndex := 54, descriptorIndex := 6, attributes := #[] }, { accessFlags := 16409, nameIndex := 57, descriptorIndex := 6, attributes := #[] }, { accessFlags := 25, nameIndex := 146, descriptorIndex := 84, attributes := #[] }, { accessFlags := 18, nameIndex := 79, descriptorIndex := 80, attributes := #[] }, { accessFlags := 18, nameIndex := 83, descriptorIndex := 84, attributes := #[] }, { accessFlags := 4122, nameIndex := 60, descriptorIndex := 61, attributes := #[] }])
  fields := #[{ name := "SEGMENT_SEQUENCE_ERROR", type := (.object "com/example/caseway/caseway/ErrorCode"), accessFlags := 16409, slot := 0, constantValue := 0 }, { name := "REQUIRED_FIELD_MISSING", type := (.object "com/example/caseway/caseway/ErrorCode"), accessFlags := 16409, slot := 1, constantValue := 0 }, { name := "DATA_TYPE_ERROR", type := (.object "com/example/caseway/caseway/ErrorCode"), accessFlags := 16409, slot := 2, constantValue := 0 }, { name := "TABLE_VALUE_NOT_FOUND", type := (.object "com/example/caseway/caseway/ErrorCode"), accessFlags := 16409, slot := 3, constantValue := 0 }, { name := "UNSUPPORTED_MESSAGE_TYPE", type := (.object "com/example/caseway/caseway/ErrorCode"), accessFlags := 16409, slot := 4, constantValue := 0 }, { name := "UNSUPPORTED_EVENT_CODE", type := (.object "com/example/caseway/caseway/ErrorCode"), accessFlags := 16409, slot := 5, constantValue := 0 }, { name := "UNSUPPORTED_PROCESSING_ID", type := (.object "com/example/caseway/caseway/ErrorCode"), accessFlags := 16409, slot := 6, constantValue := 0 }, { name := "UNSUPPORTED_VERSION_ID", type := (.object "com/example/caseway/caseway/ErrorCode"), accessFlags := 16409, slot := 7, constantValue := 0 }, { name := "INVALID_XML", type := (.object "com/example/caseway/caseway/ErrorCode"), accessFlags := 16409, slot := 8, constantValue := 0 }, { name := "XML_NAMESPACE_ISSUE", type := (.object "com/example/caseway/caseway/ErrorCode"), accessFlags := 16409, slot := 9, constantValue := 0 }, { name := "SCHEMA_VALIDATION_ERROR", type := (.object "com/example/caseway/caseway/ErrorCode"), accessFlags := 16409, slot := 10, constantValue := 0 }, { name := "INVALID_MSH3_FORMAT", type := (.object "com/example/caseway/caseway/ErrorCode"), accessFlags := 16409, slot := 11, constantValue := 0 }, { name := "MESSAGE_TYPE_MISMATCH", type := (.object "com/example/caseway/caseway/ErrorCode"), accessFlags := 16409, slot := 12, constantValue := 0 }, { name := "INVALID_REF_RRI_MESSAGE_TYPE", type := (.object "com/example/caseway/caseway/ErrorCode"), accessFlags := 16409, slot := 13, constantValue := 0 }, { name := "INVALID_HOSPITAL_FORMAT", type := (.object "com/example/caseway/caseway/ErrorCode"), accessFlags := 16409, slot := 14, constantValue := 0 }, { name := "INVALID_AGENCY_FORMAT", type := (.object "com/example/caseway/caseway/ErrorCode"), accessFlags := 16409, slot := 15, constantValue := 0 }, { name := "INVALID_PRACTICE_ID_FORMAT", type := (.object "com/example/caseway/caseway/ErrorCode"), accessFlags := 16409, slot := 16, constantValue := 0 }, { name := "GENERAL_MESSAGE_EXCEPTION", type := (.object "com/example/caseway/caseway/ErrorCode"), accessFlags := 16409, slot := 17, constantValue := 0 }, { name := "CODING_SYSTEM", type := (.object "java/lang/String"), accessFlags := 25, slot := 18, constantValue := 0 }, { name := "number", type := .int, accessFlags := 18, slot := 3, constantValue := 0 }, { name := "text", type := (.object "java/lang/String"), accessFlags := 18, slot := 4, constantValue := 0 }, { name := "$VALUES", type := (.array (.object "com/example/caseway/caseway/ErrorCode")), accessFlags := 4122, slot := 19, constantValue := 0 }]
  methods := #[k6m0]
  instanceTypes := #[(.object "java/lang/String"), .int, .int, .int, (.object "java/lang/String")]
  staticTypes := #[(.object "com/example/caseway/caseway/ErrorCode"), (.object "com/example/caseway/caseway/ErrorCode"), (.object "com/example/caseway/caseway/ErrorCode"), (.object "com/example/caseway/caseway/ErrorCode"), (.object "com/example/caseway/caseway/ErrorCode"), (.object "com/example/caseway/caseway/ErrorCode"), (.object "com/example/caseway/caseway/ErrorCode"), (.object "com/example/caseway/caseway/ErrorCode"), (.object "com/example/caseway/caseway/ErrorCode"), (.object "com/example/caseway/caseway/ErrorCode"), (.object "com/example/caseway/caseway/ErrorCode"), (.object "com/example/caseway/caseway/ErrorCode"), (.object "com/example/caseway/caseway/ErrorCode"), (.object "com/example/caseway/caseway/ErrorCode"), (.object "com/example/caseway/caseway/ErrorCode"), (.object "com/example/caseway/caseway/ErrorCode"), (.object "com/example/caseway/caseway/ErrorCode"), (.object "com/example/caseway/caseway/ErrorCode"), (.object "java/lang/String"), (.array (.object "com/example/caseway/caseway/ErrorCode"))]
  resolved := Array.replicate 167 none
  statics := some 0 }

def pool7 : Array CpInfo := pool [(1, u "java/lang/Cloneable"), (0, .class_ 1), (0, u "java/lang/Object"), (0, .class_ 3)] 3

/-- java/lang/Cloneable -/
def k7 : Class := { plain "java/lang/Cloneable" (some 0) with
  accessFlags := 1537
  interfaces := #[]
  cf := some (fileOf pool7 2 #[] #[] 1537 4 #[] #[])
  fields := #[]
  methods := #[]
  instanceTypes := #[]
  staticTypes := #[]
  resolved := Array.replicate 8 none
  statics := none }

/-- the primitive byte -/
def k8 : Class := { plain "byte" none with kind := .primitive 'B', accessFlags := 0x411 }
/-- [B -/
def k9 : Class := { plain "[B" (some 0) with kind := .array 8 .byte, interfaces := #[7, 4], accessFlags := 1041 }

/-- the primitive int -/
def k10 : Class := { plain "int" none with kind := .primitive 'I', accessFlags := 0x411 }
/-- [I -/
def k11 : Class := { plain "[I" (some 0) with kind := .array 10 .int, interfaces := #[7, 4], accessFlags := 1041 }

/-- [Lcom/example/caseway/caseway/ErrorCode; -/
def k12 : Class := { plain "[Lcom/example/caseway/caseway/ErrorCode;" (some 0) with kind := .array 6 (.object "com/example/caseway/caseway/ErrorCode"), interfaces := #[7, 4], accessFlags := 1041 }

def heap : Heap := #[{ cls := 6, slots := #[.ref 1, .ref 2, .ref 3, .ref 4, .ref 5, .ref 6, .ref 7, .ref 8, .ref 9, .ref 10, .ref 11, .ref 12, .ref 13, .ref 14, .ref 15, .ref 16, .ref 17, .ref 18, .null, .null], vm := .statics 6 },
  { cls := 6, slots := #[.null, .int 0, .int 0, .int 100, .null], vm := .none },
  { cls := 6, slots := #[.null, .int 1, .int 0, .int 101, .null], vm := .none },
  { cls := 6, slots := #[.null, .int 2, .int 0, .int 102, .null], vm := .none },
  { cls := 6, slots := #[.null, .int 3, .int 0, .int 103, .null], vm := .none },
  { cls := 6, slots := #[.null, .int 4, .int 0, .int 200, .null], vm := .none },
  { cls := 6, slots := #[.null, .int 5, .int 0, .int 201, .null], vm := .none },
  { cls := 6, slots := #[.null, .int 6, .int 0, .int 202, .null], vm := .none },
  { cls := 6, slots := #[.null, .int 7, .int 0, .int 203, .null], vm := .none },
  { cls := 6, slots := #[.null, .int 8, .int 0, .int 300, .null], vm := .none },
  { cls := 6, slots := #[.null, .int 9, .int 0, .int 301, .null], vm := .none },
  { cls := 6, slots := #[.null, .int 10, .int 0, .int 302, .null], vm := .none },
  { cls := 6, slots := #[.null, .int 11, .int 0, .int 303, .null], vm := .none },
  { cls := 6, slots := #[.null, .int 12, .int 0, .int 304, .null], vm := .none },
  { cls := 6, slots := #[.null, .int 13, .int 0, .int 305, .null], vm := .none },
  { cls := 6, slots := #[.null, .int 14, .int 0, .int 306, .null], vm := .none },
  { cls := 6, slots := #[.null, .int 15, .int 0, .int 307, .null], vm := .none },
  { cls := 6, slots := #[.null, .int 16, .int 0, .int 308, .null], vm := .none },
  { cls := 6, slots := #[.null, .int 17, .int 0, .int 400, .null], vm := .none }]
def classes : Array Class := #[k0, k1, k2, k3, k4, k5, k6, k7, k8, k9, k10, k11, k12]
def interned : List (Array UInt16 × Addr) := []
def slotsUsed : Nat := 110
def theMethod : MethodId := ⟨1, 1⟩
def args0 : Array Value := #[.int 5]
def aboutOver (below : List Frame) : State where
  vm := { classes := classes, interned := interned.toArray }
  heap := heap
  slotsUsed := slotsUsed
  threads := #[{ frames := .invoking theMethod args0 :: below }]
def below0 : List Frame := [.native { method := ⟨0, 0⟩, args := #[] }]
def about1 : State := aboutOver below0
def p0 : Program := .bare "" "" ""
def e0 : Env := launch0.env 0 0 0
theorem w_frames : about1.frames = Frame.invoking theMethod args0 :: below0 := rfl
set_option maxRecDepth 65536 in
theorem w_args : argsFit about1.vm theMethod args0 = true := by decide +kernel
set_option maxRecDepth 65536 in
theorem w_heap : heapFits about1 = true := by decide +kernel
set_option maxRecDepth 65536 in
theorem w_runnable : about1.curStatus? = some .runnable := by decide +kernel
set_option maxRecDepth 65536 in
theorem w_alone : about1.alone = true := by decide +kernel
set_option maxRecDepth 65536 in
theorem w_named : about1.methodNamed? x = some theMethod := by decide +kernel
set_option maxRecDepth 65536 in
theorem w_hears : about1.hears theMethod below0 = true := by decide +kernel
set_option maxRecDepth 65536 in
theorem w_ripe : about1.ripe theMethod args0 below0 = true := by decide +kernel
theorem w_running : about1.status = .running := rfl
set_option maxRecDepth 65536 in
theorem w_room : about1.hasRoom e0.platform room_1 = true :=
  launch0.hasRoom_least _ room_1 (by decide +kernel) (by decide +kernel) (by decide +kernel) (by decide +kernel) (by decide +kernel) (by decide +kernel)
theorem allAtoms_all (ts : List Jvm.Cond) (a : Array Jvm.Value) (st : Jvm.State) : (allAtoms ts).before a st = ts.all (fun c => c.before a st) := by
  induction ts with
  | nil => rfl
  | cons c t ih =>
    show (Jvm.Cond.and c (allAtoms t)).before a st = _
    rw [Jvm.Cond.before_and, ih, List.all_cons]
def words1 : List Jvm.Cond := Jvm.Cond.code x code maxLocals ret :: tables_1
/-- a 'code' word, met by the world's own term for the bytes: nothing is compared byte by byte -/
theorem code_word {y : MethodName} {bytes : ByteArray} {mx : Nat} {rt : Option FieldType} {a : Array Value} {s : State} {m : MethodId} {meth : Method} {c : Code} (h1 : s.methodNamed? y = some m) (h2 : s.vm.method? m = some meth) (h3 : meth.code = some c) (h4 : c.code = bytes)
    (h5 : (c.maxLocals == mx && c.exceptionTable.isEmpty && decide (c.maxStack ≤ mostOperands) && decide (meth.sig.returnType = rt) && !meth.locks && decide (parseMethodDescriptor y.desc = some meth.sig)) = true) : (Jvm.Cond.code y bytes mx rt).before a s = true := by
  simp only [Bool.and_eq_true, beq_iff_eq, Bool.not_eq_true', decide_eq_true_eq] at h5
  obtain ⟨⟨⟨⟨⟨g1, g2⟩, g3⟩, g4⟩, g5⟩, g6⟩ := h5
  simp [Cond.before, Cond.holds, Cond.value, h1, h2, h3, h4, g1, g2, g3, g4, g5, g6]
def isCode : Jvm.Cond → Bool
  | .code _ _ _ _ => true
  | _ => false
theorem all_split {L : List Jvm.Cond} {P : Jvm.Cond → Bool} (h1 : L.all (fun c => isCode c || P c) = true) (h2 : ∀ c ∈ L.filter isCode, P c = true) : L.all P = true := by
  refine List.all_eq_true.mpr fun c hc => ?_
  have h := List.all_eq_true.mp h1 c hc
  rcases Bool.eq_false_or_eq_true (isCode c) with hi | hi
  · exact h2 c (List.mem_filter.mpr ⟨hc, hi⟩)
  · simpa [hi] using h
set_option maxRecDepth 65536 in
theorem w_c0 : (Jvm.Cond.code x code maxLocals ret).before args0 about1 = true := code_word (m := ⟨1, 1⟩) (meth := k1m1) (c := k1c1) (by decide +kernel) rfl rfl rfl (by decide +kernel)
set_option maxRecDepth 65536 in
theorem w_c1 : (Jvm.Cond.code ({ cls := "com/example/caseway/caseway/ErrorCode", name := "rejects", desc := "()Z" } : Jvm.MethodName) prog_29_method_6_code (1 : Nat) (Option.some Jvm.ClassFile.FieldType.boolean)).before args0 about1 = true := code_word (m := ⟨6, 0⟩) (meth := k6m0) (c := k6c0) (by decide +kernel) rfl rfl rfl (by decide +kernel)
def codes1 : List Jvm.Cond := [Jvm.Cond.code x code maxLocals ret, Jvm.Cond.code ({ cls := "com/example/caseway/caseway/ErrorCode", name := "rejects", desc := "()Z" } : Jvm.MethodName) prog_29_method_6_code (1 : Nat) (Option.some Jvm.ClassFile.FieldType.boolean)]
set_option maxRecDepth 65536 in
theorem codes_eq : words1.filter isCode = codes1 := rfl
theorem w_codes : ∀ c ∈ words1.filter isCode, c.before args0 about1 = true := by
  rw [codes_eq]
  intro c hc
  simp only [codes1, List.mem_cons, List.not_mem_nil, or_false] at hc
  rcases hc with rfl | rfl
  · exact w_c0
  · exact w_c1
set_option maxRecDepth 65536 in
theorem w_t1 : (words1.take 24).all (fun c => isCode c || c.before args0 about1) = true := by decide +kernel
set_option maxRecDepth 65536 in
theorem w_t2 : ((words1.drop 24).take 24).all (fun c => isCode c || c.before args0 about1) = true := by decide +kernel
set_option maxRecDepth 65536 in
theorem w_t3 : ((words1.drop 24).drop 24).all (fun c => isCode c || c.before args0 about1) = true := by decide +kernel
theorem w_tables : (allAtoms (Jvm.Cond.code x code maxLocals ret :: tables_1)).before args0 about1 = true := by
  rw [allAtoms_all]
  show words1.all (fun c => c.before args0 about1) = true
  refine all_split ?_ w_codes
  rw [← List.take_append_drop 24 words1, List.all_append, w_t1, ← List.take_append_drop 24 (words1.drop 24), List.all_append, w_t2, w_t3]
  rfl
set_option maxRecDepth 65536 in
theorem w_case : (Jvm.Cond.and given_1 narrow_1).before args0 about1 = true := by decide +kernel
theorem w_applies : (headSpec (Jvm.Cond.code x code maxLocals ret :: tables_1) room_1).applies x e0.platform about1 = true :=
  (Spec.applies_iff w_frames).mpr ⟨w_running, w_runnable, w_alone, w_named, w_hears, w_ripe, w_room, w_tables⟩
theorem atStart : AtStart classFile x code maxLocals ret World_1 tables_1 room_1 Calls_1 rest_1 Pre_1 launch0 p0 e0 about1 theMethod args0 below0 :=
  ⟨lists_1, trivial, launch0.admits_env _ _ _, launch0.least_env, fairChoices_fair.cas, fairChoices_fair.clock, w_frames, w_args, w_heap, w_applies, trivial, trivial, w_case⟩
end start1
theorem witness_1 : WitnessClaimed_1 := ⟨start1.p0, start1.e0, start1.about1, start1.theMethod, start1.args0, start1.below0, start1.atStart⟩
end Jvm.Pilot.@@N@@
