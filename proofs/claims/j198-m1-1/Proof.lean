import JvmDerived
import JvmDerived.Pilot.@@N@@Statement
import JvmDerived.Pilot.@@N@@Code
set_option linter.unusedVariables false
set_option linter.unusedSimpArgs false
@@BLOCK:NumsL.lean.txt@@
namespace Jvm.Pilot.@@N@@
open Jvm Jvm.ClassFile Sem Op Lib Jvm.Free Jvm.Stand Jvm.LawKit Jvm.RoadKit Bundle Jvm.Pilot.@@N@@.Jvm.D
def own_bI (P : Prop) [Decidable P] : Int32 := if P then 1 else 0
theorem own_bI_t {P : Prop} [Decidable P] (h : P) : own_bI P = 1 := if_pos h
theorem own_bI_f {P : Prop} [Decidable P] (h : ¬ P) : own_bI P = 0 := if_neg h
theorem own_bI_eq0 {P : Prop} [Decidable P] : own_bI P = 0 ↔ ¬ P := by
  by_cases h : P
  · rw [own_bI_t h]; exact ⟨fun q => absurd q (by decide), fun q => absurd h q⟩
  · rw [own_bI_f h]; exact ⟨fun _ => h, fun _ => rfl⟩
theorem own_bI_eq1 {P : Prop} [Decidable P] : own_bI P = 1 ↔ P := by
  by_cases h : P
  · rw [own_bI_t h]; exact ⟨fun _ => h, fun _ => rfl⟩
  · rw [own_bI_f h]; exact ⟨fun q => absurd q (by decide), fun q => absurd q h⟩
theorem own_i2c (z : Int32) : (z.toUInt32.toUInt16.toUInt32.toInt32).toInt = z.toInt % 65536 := by
  have e : (z.toUInt32.toUInt16.toUInt32.toInt32) = z &&& 65535 := by
    apply Int32.toBitVec_inj.mp
    apply BitVec.eq_of_toNat_eq
    simp only [UInt32.toBitVec_toInt32, UInt16.toBitVec_toUInt32, UInt32.toBitVec_toUInt16, Int32.toBitVec_toUInt32, BitVec.toNat_setWidth, Int32.toBitVec_and, BitVec.toNat_and]
    have h2 : (65535 : Int32).toBitVec.toNat = 2 ^ 16 - 1 := by decide
    rw [h2, Nat.and_two_pow_sub_one_eq_mod]
    have := z.toBitVec.isLt
    omega
  rw [e]
  exact Jvm.Kit.i32_mask z 65535 (k := 16) (by decide) (by decide)
abbrev own_Hz (c : Int) : Prop := c = 9 ∨ c = 32 ∨ c = 160 ∨ c = 5760 ∨ c = 6158 ∨ (8192 ≤ c ∧ c ≤ 8202) ∨ c = 8239 ∨ c = 8287 ∨ c = 12288
abbrev own_Vt (c : Int) : Prop := (10 ≤ c ∧ c ≤ 13) ∨ c = 133 ∨ c = 8232 ∨ c = 8233
abbrev own_Sp (c : Int) : Prop := c = 32 ∨ (9 ≤ c ∧ c ≤ 13) ∨ c = 133 ∨ c = 160 ∨ c = 5760 ∨ c = 6158 ∨ (8192 ≤ c ∧ c ≤ 8202) ∨ c = 8232 ∨ c = 8233 ∨ c = 8239 ∨ c = 8287 ∨ c = 12288
def own_cod (x : Int32) : Int32 := x &&& (65535 : Int32)
def own_chr (x : Int32) : Int32 := (own_cod x).toUInt32.toUInt16.toUInt32.toInt32
theorem own_chr_r (x : Int32) : (own_chr x).toInt = (own_cod x).toInt := by
  have e : (own_cod x).toInt = x.toInt % 2 ^ 16 := Jvm.Kit.i32_mask x 65535 (k := 16) (by decide) (by decide)
  unfold own_chr
  rw [own_i2c]
  omega
theorem own_join (c : Int) : own_Sp c ↔ own_Hz c ∨ own_Vt c := by unfold own_Sp own_Hz own_Vt; omega
theorem d1_0 : decode method_2_code 0 = .ok (.iload_n 0, 1) := by decide +kernel
theorem d1_1 : decode method_2_code 1 = .ok (.bipush 9, 2) := by decide +kernel
theorem d1_3 : decode method_2_code 3 = .ok (.if_icmp .eq 65, 3) := by decide +kernel
theorem d1_6 : decode method_2_code 6 = .ok (.iload_n 0, 1) := by decide +kernel
theorem d1_7 : decode method_2_code 7 = .ok (.bipush 32, 2) := by decide +kernel
theorem d1_9 : decode method_2_code 9 = .ok (.if_icmp .eq 59, 3) := by decide +kernel
theorem d1_12 : decode method_2_code 12 = .ok (.iload_n 0, 1) := by decide +kernel
theorem d1_13 : decode method_2_code 13 = .ok (.sipush 160, 3) := by decide +kernel
theorem d1_16 : decode method_2_code 16 = .ok (.if_icmp .eq 52, 3) := by decide +kernel
theorem d1_19 : decode method_2_code 19 = .ok (.iload_n 0, 1) := by decide +kernel
theorem d1_20 : decode method_2_code 20 = .ok (.sipush 5760, 3) := by decide +kernel
theorem d1_23 : decode method_2_code 23 = .ok (.if_icmp .eq 45, 3) := by decide +kernel
theorem d1_26 : decode method_2_code 26 = .ok (.iload_n 0, 1) := by decide +kernel
theorem d1_27 : decode method_2_code 27 = .ok (.sipush 6158, 3) := by decide +kernel
theorem d1_30 : decode method_2_code 30 = .ok (.if_icmp .eq 38, 3) := by decide +kernel
theorem d1_33 : decode method_2_code 33 = .ok (.iload_n 0, 1) := by decide +kernel
theorem d1_34 : decode method_2_code 34 = .ok (.sipush 8192, 3) := by decide +kernel
theorem d1_37 : decode method_2_code 37 = .ok (.if_icmp .lt 10, 3) := by decide +kernel
theorem d1_40 : decode method_2_code 40 = .ok (.iload_n 0, 1) := by decide +kernel
theorem d1_41 : decode method_2_code 41 = .ok (.sipush 8202, 3) := by decide +kernel
theorem d1_44 : decode method_2_code 44 = .ok (.if_icmp .le 24, 3) := by decide +kernel
theorem d1_47 : decode method_2_code 47 = .ok (.iload_n 0, 1) := by decide +kernel
theorem d1_48 : decode method_2_code 48 = .ok (.sipush 8239, 3) := by decide +kernel
theorem d1_51 : decode method_2_code 51 = .ok (.if_icmp .eq 17, 3) := by decide +kernel
theorem d1_54 : decode method_2_code 54 = .ok (.iload_n 0, 1) := by decide +kernel
theorem d1_55 : decode method_2_code 55 = .ok (.sipush 8287, 3) := by decide +kernel
theorem d1_58 : decode method_2_code 58 = .ok (.if_icmp .eq 10, 3) := by decide +kernel
theorem d1_61 : decode method_2_code 61 = .ok (.iload_n 0, 1) := by decide +kernel
theorem d1_62 : decode method_2_code 62 = .ok (.sipush 12288, 3) := by decide +kernel
theorem d1_65 : decode method_2_code 65 = .ok (.if_icmp .ne 7, 3) := by decide +kernel
theorem d1_68 : decode method_2_code 68 = .ok (.iconst 1, 1) := by decide +kernel
theorem d1_69 : decode method_2_code 69 = .ok (.goto 4, 3) := by decide +kernel
theorem d1_72 : decode method_2_code 72 = .ok (.iconst 0, 1) := by decide +kernel
theorem d1_73 : decode method_2_code 73 = .ok (.ireturn, 1) := by decide +kernel
theorem ef_1 (m : MethodId) (p0 : Int32) : entryFrame m #[(.int p0)] 1 = mkF m 0 #[.val (.int p0)] [] := by first | (simp [entryFrame, mkF, argsToLocals, Value.category]; done) | rfl
theorem pn_0 : plainName "com/example/covenantry/covenantry/WordsIsSpacePinLaw" = true := by first | (simp [plainName, overriddenIn]; done) | decide +kernel
def Q1 (Z : State) (p0 : Int32) (h0 : Heap) (n0 : Nat) (v : Option Value) (h : Heap) (L : List Loc) : Prop := v = some (.int (own_bI (own_Hz p0.toInt))) ∧ Fr n0 L ∧ h = h0
set_option maxRecDepth 65536 in
set_option maxHeartbeats 40000000 in
theorem rm1 (l : Launch) (Z : State) (a0 : Array Value) (hw : ∀ d ∈ tables_1, d.before a0 Z = true) (ws : List Jvm.Cond) (p0 : Int32) (h0 : Heap) (n0 : Nat) (Z0 : n0 ≤ h0.size) :
    MetFree l (⟨"com/example/covenantry/covenantry/WordsIsSpacePinLaw", "horizontal", "(I)Z"⟩ : MethodName) (head1 (Jvm.Cond.code (⟨"com/example/covenantry/covenantry/WordsIsSpacePinLaw", "horizontal", "(I)Z"⟩ : MethodName) method_2_code 1 (some .boolean) :: ws) ({ frames := 0, cells := 0, slots := 0, locals := 0 } : Room)) (fun a U => a = #[(.int p0)] ∧ Z.Warmed39 U.vm ∧ U.heap = h0) (fun _ _ _ _ _ => True) (fun _ U o U' => ∃ v L, o = .returned v ∧ Q1 Z p0 h0 n0 v U'.heap L ∧ FrameEnd U o U' L ({ frames := 0, cells := 0, slots := 0, locals := 0 } : Room).cells ({ frames := 0, cells := 0, slots := 0, locals := 0 } : Room).slots) := by
  refine MetFree.of_bodySF (plainFor_of_name pn_0) hisR ?_
  intro p e s m args below meth c s₁ Bd hml0 hP hK
  obtain ⟨rfl, hZ, hh⟩ := hP
  have hx := Bd.exec
  have hby := Bd.bytes
  have hml : c.maxLocals = 1 := hml0
  have hown : s.vm.findClass "com/example/covenantry/covenantry/WordsIsSpacePinLaw" = some m.cls := findClass_of_methodNamed Bd.named
  have hnm := (name_of_methodNamed Bd.named Bd.method).1
  have X0 : Stand p l e ({ frames := 0, cells := 0, slots := 0, locals := 0 } : Room) s m #[(.int p0)] below meth c s₁ [] 0 0 := Stand.of_body Bd
  have e0 : s₁.heap = h0 := by rw [← hh, Bd.state]; rfl
  have N0 := Fr.nil n0
  have k0 : ∀ t, Steps p.tables e below (s₁.setTop (mkF m 0 #[.val (.int p0)] [])) t → Steps p.tables e below (s₁.setTop (entryFrame m #[(.int p0)] 1)) t := fun t k => castTop (ef_1 m p0) k
  have k1 : ∀ t, Steps p.tables e below (s₁.setTop (mkF m 3 #[.val (.int p0)] [(.int (9 : Int32)), (.int p0)])) t → Steps p.tables e below (s₁.setTop (entryFrame m #[(.int p0)] 1)) t := fun t k => k0 t (by
      show Steps p.tables e below (s₁.setTop (mkF m 0 #[.val (.int p0)] [])) _
      refine XS.iloadN X0.here hx rfl (hb hby d1_0) rfl ?_
      show Steps p.tables e below (s₁.setTop (mkF m 1 #[.val (.int p0)] [(.int p0)])) _
      refine XS.bipush X0.here hx rfl (hb hby d1_1) ?_
      exact k)
  by_cases hc3 : p0 = (9 : Int32)
  · have k2 : ∀ t, Steps p.tables e below (s₁.setTop (mkF m 73 #[.val (.int p0)] [(.int (1 : Int32))])) t → Steps p.tables e below (s₁.setTop (entryFrame m #[(.int p0)] 1)) t := fun t k => k1 t (by
        show Steps p.tables e below (s₁.setTop (mkF m 3 #[.val (.int p0)] [(.int (9 : Int32)), (.int p0)])) _
        refine XS.icmpYes X0.here hx rfl (pc0 := 3) (pc' := 68) rfl (hb hby d1_3) rfl (teq hc3).1 (by decide) (by decide) ?_
        show Steps p.tables e below (s₁.setTop (mkF m 68 #[.val (.int p0)] [])) _
        refine XS.iconst X0.here hx rfl (hb hby d1_68) ?_
        show Steps p.tables e below (s₁.setTop (mkF m 69 #[.val (.int p0)] [(.int (1 : Int32))])) _
        refine XS.goto X0.here hx rfl (pc0 := 69) (pc' := 73) rfl (hb hby d1_69) (by decide) (by decide) ?_
        exact k)
    obtain ⟨fs, hr, hrun, hended, hW, hsame⟩ := X0.leave (v := (some (.int (1 : Int32)))) (fun h => by rw [Bd.returns] at h; cases h)
    refine ⟨_, _, k2 _ ?_, hrun, hended, _, _, rfl, ?_, ⟨_, rfl⟩, hW, hsame.mono (by decide) (by decide)⟩
    · exact retN X0 hx (t := .boolean) Bd.returns (by simp) (hb hby d1_73) hr
    · show Q1 Z p0 h0 n0 _ s₁.heap _
      rw [e0]
      exact ⟨congrArg (fun z => some (Value.int z)) (own_bI_t (by unfold own_Hz; simp only [Int32.lt_iff_toInt_lt, ← Int32.toInt_inj, Int32.reduceToInt] at hc3; omega)).symm, N0, rfl⟩
  · have k3 : ∀ t, Steps p.tables e below (s₁.setTop (mkF m 9 #[.val (.int p0)] [(.int (32 : Int32)), (.int p0)])) t → Steps p.tables e below (s₁.setTop (entryFrame m #[(.int p0)] 1)) t := fun t k => k1 t (by
        show Steps p.tables e below (s₁.setTop (mkF m 3 #[.val (.int p0)] [(.int (9 : Int32)), (.int p0)])) _
        refine XS.icmpNo X0.here hx rfl (hb hby d1_3) rfl (feq hc3).1 ?_
        show Steps p.tables e below (s₁.setTop (mkF m 6 #[.val (.int p0)] [])) _
        refine XS.iloadN X0.here hx rfl (hb hby d1_6) rfl ?_
        show Steps p.tables e below (s₁.setTop (mkF m 7 #[.val (.int p0)] [(.int p0)])) _
        refine XS.bipush X0.here hx rfl (hb hby d1_7) ?_
        exact k)
    by_cases hc9 : p0 = (32 : Int32)
    · have k4 : ∀ t, Steps p.tables e below (s₁.setTop (mkF m 73 #[.val (.int p0)] [(.int (1 : Int32))])) t → Steps p.tables e below (s₁.setTop (entryFrame m #[(.int p0)] 1)) t := fun t k => k3 t (by
          show Steps p.tables e below (s₁.setTop (mkF m 9 #[.val (.int p0)] [(.int (32 : Int32)), (.int p0)])) _
          refine XS.icmpYes X0.here hx rfl (pc0 := 9) (pc' := 68) rfl (hb hby d1_9) rfl (teq hc9).1 (by decide) (by decide) ?_
          show Steps p.tables e below (s₁.setTop (mkF m 68 #[.val (.int p0)] [])) _
          refine XS.iconst X0.here hx rfl (hb hby d1_68) ?_
          show Steps p.tables e below (s₁.setTop (mkF m 69 #[.val (.int p0)] [(.int (1 : Int32))])) _
          refine XS.goto X0.here hx rfl (pc0 := 69) (pc' := 73) rfl (hb hby d1_69) (by decide) (by decide) ?_
          exact k)
      obtain ⟨fs, hr, hrun, hended, hW, hsame⟩ := X0.leave (v := (some (.int (1 : Int32)))) (fun h => by rw [Bd.returns] at h; cases h)
      refine ⟨_, _, k4 _ ?_, hrun, hended, _, _, rfl, ?_, ⟨_, rfl⟩, hW, hsame.mono (by decide) (by decide)⟩
      · exact retN X0 hx (t := .boolean) Bd.returns (by simp) (hb hby d1_73) hr
      · show Q1 Z p0 h0 n0 _ s₁.heap _
        rw [e0]
        exact ⟨congrArg (fun z => some (Value.int z)) (own_bI_t (by unfold own_Hz; simp only [Int32.lt_iff_toInt_lt, ← Int32.toInt_inj, Int32.reduceToInt] at hc3 hc9; omega)).symm, N0, rfl⟩
    · have k5 : ∀ t, Steps p.tables e below (s₁.setTop (mkF m 16 #[.val (.int p0)] [(.int (160 : Int32)), (.int p0)])) t → Steps p.tables e below (s₁.setTop (entryFrame m #[(.int p0)] 1)) t := fun t k => k3 t (by
          show Steps p.tables e below (s₁.setTop (mkF m 9 #[.val (.int p0)] [(.int (32 : Int32)), (.int p0)])) _
          refine XS.icmpNo X0.here hx rfl (hb hby d1_9) rfl (feq hc9).1 ?_
          show Steps p.tables e below (s₁.setTop (mkF m 12 #[.val (.int p0)] [])) _
          refine XS.iloadN X0.here hx rfl (hb hby d1_12) rfl ?_
          show Steps p.tables e below (s₁.setTop (mkF m 13 #[.val (.int p0)] [(.int p0)])) _
          refine XS.sipush X0.here hx rfl (hb hby d1_13) ?_
          exact k)
      by_cases hc16 : p0 = (160 : Int32)
      · have k6 : ∀ t, Steps p.tables e below (s₁.setTop (mkF m 73 #[.val (.int p0)] [(.int (1 : Int32))])) t → Steps p.tables e below (s₁.setTop (entryFrame m #[(.int p0)] 1)) t := fun t k => k5 t (by
            show Steps p.tables e below (s₁.setTop (mkF m 16 #[.val (.int p0)] [(.int (160 : Int32)), (.int p0)])) _
            refine XS.icmpYes X0.here hx rfl (pc0 := 16) (pc' := 68) rfl (hb hby d1_16) rfl (teq hc16).1 (by decide) (by decide) ?_
            show Steps p.tables e below (s₁.setTop (mkF m 68 #[.val (.int p0)] [])) _
            refine XS.iconst X0.here hx rfl (hb hby d1_68) ?_
            show Steps p.tables e below (s₁.setTop (mkF m 69 #[.val (.int p0)] [(.int (1 : Int32))])) _
            refine XS.goto X0.here hx rfl (pc0 := 69) (pc' := 73) rfl (hb hby d1_69) (by decide) (by decide) ?_
            exact k)
        obtain ⟨fs, hr, hrun, hended, hW, hsame⟩ := X0.leave (v := (some (.int (1 : Int32)))) (fun h => by rw [Bd.returns] at h; cases h)
        refine ⟨_, _, k6 _ ?_, hrun, hended, _, _, rfl, ?_, ⟨_, rfl⟩, hW, hsame.mono (by decide) (by decide)⟩
        · exact retN X0 hx (t := .boolean) Bd.returns (by simp) (hb hby d1_73) hr
        · show Q1 Z p0 h0 n0 _ s₁.heap _
          rw [e0]
          exact ⟨congrArg (fun z => some (Value.int z)) (own_bI_t (by unfold own_Hz; simp only [Int32.lt_iff_toInt_lt, ← Int32.toInt_inj, Int32.reduceToInt] at hc3 hc9 hc16; omega)).symm, N0, rfl⟩
      · have k7 : ∀ t, Steps p.tables e below (s₁.setTop (mkF m 23 #[.val (.int p0)] [(.int (5760 : Int32)), (.int p0)])) t → Steps p.tables e below (s₁.setTop (entryFrame m #[(.int p0)] 1)) t := fun t k => k5 t (by
            show Steps p.tables e below (s₁.setTop (mkF m 16 #[.val (.int p0)] [(.int (160 : Int32)), (.int p0)])) _
            refine XS.icmpNo X0.here hx rfl (hb hby d1_16) rfl (feq hc16).1 ?_
            show Steps p.tables e below (s₁.setTop (mkF m 19 #[.val (.int p0)] [])) _
            refine XS.iloadN X0.here hx rfl (hb hby d1_19) rfl ?_
            show Steps p.tables e below (s₁.setTop (mkF m 20 #[.val (.int p0)] [(.int p0)])) _
            refine XS.sipush X0.here hx rfl (hb hby d1_20) ?_
            exact k)
        by_cases hc23 : p0 = (5760 : Int32)
        · have k8 : ∀ t, Steps p.tables e below (s₁.setTop (mkF m 73 #[.val (.int p0)] [(.int (1 : Int32))])) t → Steps p.tables e below (s₁.setTop (entryFrame m #[(.int p0)] 1)) t := fun t k => k7 t (by
              show Steps p.tables e below (s₁.setTop (mkF m 23 #[.val (.int p0)] [(.int (5760 : Int32)), (.int p0)])) _
              refine XS.icmpYes X0.here hx rfl (pc0 := 23) (pc' := 68) rfl (hb hby d1_23) rfl (teq hc23).1 (by decide) (by decide) ?_
              show Steps p.tables e below (s₁.setTop (mkF m 68 #[.val (.int p0)] [])) _
              refine XS.iconst X0.here hx rfl (hb hby d1_68) ?_
              show Steps p.tables e below (s₁.setTop (mkF m 69 #[.val (.int p0)] [(.int (1 : Int32))])) _
              refine XS.goto X0.here hx rfl (pc0 := 69) (pc' := 73) rfl (hb hby d1_69) (by decide) (by decide) ?_
              exact k)
          obtain ⟨fs, hr, hrun, hended, hW, hsame⟩ := X0.leave (v := (some (.int (1 : Int32)))) (fun h => by rw [Bd.returns] at h; cases h)
          refine ⟨_, _, k8 _ ?_, hrun, hended, _, _, rfl, ?_, ⟨_, rfl⟩, hW, hsame.mono (by decide) (by decide)⟩
          · exact retN X0 hx (t := .boolean) Bd.returns (by simp) (hb hby d1_73) hr
          · show Q1 Z p0 h0 n0 _ s₁.heap _
            rw [e0]
            exact ⟨congrArg (fun z => some (Value.int z)) (own_bI_t (by unfold own_Hz; simp only [Int32.lt_iff_toInt_lt, ← Int32.toInt_inj, Int32.reduceToInt] at hc3 hc9 hc16 hc23; omega)).symm, N0, rfl⟩
        · have k9 : ∀ t, Steps p.tables e below (s₁.setTop (mkF m 30 #[.val (.int p0)] [(.int (6158 : Int32)), (.int p0)])) t → Steps p.tables e below (s₁.setTop (entryFrame m #[(.int p0)] 1)) t := fun t k => k7 t (by
              show Steps p.tables e below (s₁.setTop (mkF m 23 #[.val (.int p0)] [(.int (5760 : Int32)), (.int p0)])) _
              refine XS.icmpNo X0.here hx rfl (hb hby d1_23) rfl (feq hc23).1 ?_
              show Steps p.tables e below (s₁.setTop (mkF m 26 #[.val (.int p0)] [])) _
              refine XS.iloadN X0.here hx rfl (hb hby d1_26) rfl ?_
              show Steps p.tables e below (s₁.setTop (mkF m 27 #[.val (.int p0)] [(.int p0)])) _
              refine XS.sipush X0.here hx rfl (hb hby d1_27) ?_
              exact k)
          by_cases hc30 : p0 = (6158 : Int32)
          · have k10 : ∀ t, Steps p.tables e below (s₁.setTop (mkF m 73 #[.val (.int p0)] [(.int (1 : Int32))])) t → Steps p.tables e below (s₁.setTop (entryFrame m #[(.int p0)] 1)) t := fun t k => k9 t (by
                show Steps p.tables e below (s₁.setTop (mkF m 30 #[.val (.int p0)] [(.int (6158 : Int32)), (.int p0)])) _
                refine XS.icmpYes X0.here hx rfl (pc0 := 30) (pc' := 68) rfl (hb hby d1_30) rfl (teq hc30).1 (by decide) (by decide) ?_
                show Steps p.tables e below (s₁.setTop (mkF m 68 #[.val (.int p0)] [])) _
                refine XS.iconst X0.here hx rfl (hb hby d1_68) ?_
                show Steps p.tables e below (s₁.setTop (mkF m 69 #[.val (.int p0)] [(.int (1 : Int32))])) _
                refine XS.goto X0.here hx rfl (pc0 := 69) (pc' := 73) rfl (hb hby d1_69) (by decide) (by decide) ?_
                exact k)
            obtain ⟨fs, hr, hrun, hended, hW, hsame⟩ := X0.leave (v := (some (.int (1 : Int32)))) (fun h => by rw [Bd.returns] at h; cases h)
            refine ⟨_, _, k10 _ ?_, hrun, hended, _, _, rfl, ?_, ⟨_, rfl⟩, hW, hsame.mono (by decide) (by decide)⟩
            · exact retN X0 hx (t := .boolean) Bd.returns (by simp) (hb hby d1_73) hr
            · show Q1 Z p0 h0 n0 _ s₁.heap _
              rw [e0]
              exact ⟨congrArg (fun z => some (Value.int z)) (own_bI_t (by unfold own_Hz; simp only [Int32.lt_iff_toInt_lt, ← Int32.toInt_inj, Int32.reduceToInt] at hc3 hc9 hc16 hc23 hc30; omega)).symm, N0, rfl⟩
          · have k11 : ∀ t, Steps p.tables e below (s₁.setTop (mkF m 37 #[.val (.int p0)] [(.int (8192 : Int32)), (.int p0)])) t → Steps p.tables e below (s₁.setTop (entryFrame m #[(.int p0)] 1)) t := fun t k => k9 t (by
                show Steps p.tables e below (s₁.setTop (mkF m 30 #[.val (.int p0)] [(.int (6158 : Int32)), (.int p0)])) _
                refine XS.icmpNo X0.here hx rfl (hb hby d1_30) rfl (feq hc30).1 ?_
                show Steps p.tables e below (s₁.setTop (mkF m 33 #[.val (.int p0)] [])) _
                refine XS.iloadN X0.here hx rfl (hb hby d1_33) rfl ?_
                show Steps p.tables e below (s₁.setTop (mkF m 34 #[.val (.int p0)] [(.int p0)])) _
                refine XS.sipush X0.here hx rfl (hb hby d1_34) ?_
                exact k)
            by_cases hc37 : p0 < (8192 : Int32)
            · have k12 : ∀ t, Steps p.tables e below (s₁.setTop (mkF m 51 #[.val (.int p0)] [(.int (8239 : Int32)), (.int p0)])) t → Steps p.tables e below (s₁.setTop (entryFrame m #[(.int p0)] 1)) t := fun t k => k11 t (by
                  show Steps p.tables e below (s₁.setTop (mkF m 37 #[.val (.int p0)] [(.int (8192 : Int32)), (.int p0)])) _
                  refine XS.icmpYes X0.here hx rfl (pc0 := 37) (pc' := 47) rfl (hb hby d1_37) rfl (tlt hc37).1 (by decide) (by decide) ?_
                  show Steps p.tables e below (s₁.setTop (mkF m 47 #[.val (.int p0)] [])) _
                  refine XS.iloadN X0.here hx rfl (hb hby d1_47) rfl ?_
                  show Steps p.tables e below (s₁.setTop (mkF m 48 #[.val (.int p0)] [(.int p0)])) _
                  refine XS.sipush X0.here hx rfl (hb hby d1_48) ?_
                  exact k)
              by_cases hc51 : p0 = (8239 : Int32)
              · have k13 : ∀ t, Steps p.tables e below (s₁.setTop (mkF m 73 #[.val (.int p0)] [(.int (1 : Int32))])) t → Steps p.tables e below (s₁.setTop (entryFrame m #[(.int p0)] 1)) t := fun t k => k12 t (by
                    show Steps p.tables e below (s₁.setTop (mkF m 51 #[.val (.int p0)] [(.int (8239 : Int32)), (.int p0)])) _
                    refine XS.icmpYes X0.here hx rfl (pc0 := 51) (pc' := 68) rfl (hb hby d1_51) rfl (teq hc51).1 (by decide) (by decide) ?_
                    show Steps p.tables e below (s₁.setTop (mkF m 68 #[.val (.int p0)] [])) _
                    refine XS.iconst X0.here hx rfl (hb hby d1_68) ?_
                    show Steps p.tables e below (s₁.setTop (mkF m 69 #[.val (.int p0)] [(.int (1 : Int32))])) _
                    refine XS.goto X0.here hx rfl (pc0 := 69) (pc' := 73) rfl (hb hby d1_69) (by decide) (by decide) ?_
                    exact k)
                obtain ⟨fs, hr, hrun, hended, hW, hsame⟩ := X0.leave (v := (some (.int (1 : Int32)))) (fun h => by rw [Bd.returns] at h; cases h)
                refine ⟨_, _, k13 _ ?_, hrun, hended, _, _, rfl, ?_, ⟨_, rfl⟩, hW, hsame.mono (by decide) (by decide)⟩
                · exact retN X0 hx (t := .boolean) Bd.returns (by simp) (hb hby d1_73) hr
                · show Q1 Z p0 h0 n0 _ s₁.heap _
                  rw [e0]
                  exact ⟨congrArg (fun z => some (Value.int z)) (own_bI_t (by unfold own_Hz; simp only [Int32.lt_iff_toInt_lt, ← Int32.toInt_inj, Int32.reduceToInt] at hc3 hc9 hc16 hc23 hc30 hc37 hc51; omega)).symm, N0, rfl⟩
              · have k14 : ∀ t, Steps p.tables e below (s₁.setTop (mkF m 58 #[.val (.int p0)] [(.int (8287 : Int32)), (.int p0)])) t → Steps p.tables e below (s₁.setTop (entryFrame m #[(.int p0)] 1)) t := fun t k => k12 t (by
                    show Steps p.tables e below (s₁.setTop (mkF m 51 #[.val (.int p0)] [(.int (8239 : Int32)), (.int p0)])) _
                    refine XS.icmpNo X0.here hx rfl (hb hby d1_51) rfl (feq hc51).1 ?_
                    show Steps p.tables e below (s₁.setTop (mkF m 54 #[.val (.int p0)] [])) _
                    refine XS.iloadN X0.here hx rfl (hb hby d1_54) rfl ?_
                    show Steps p.tables e below (s₁.setTop (mkF m 55 #[.val (.int p0)] [(.int p0)])) _
                    refine XS.sipush X0.here hx rfl (hb hby d1_55) ?_
                    exact k)
                by_cases hc58 : p0 = (8287 : Int32)
                · have k15 : ∀ t, Steps p.tables e below (s₁.setTop (mkF m 73 #[.val (.int p0)] [(.int (1 : Int32))])) t → Steps p.tables e below (s₁.setTop (entryFrame m #[(.int p0)] 1)) t := fun t k => k14 t (by
                      show Steps p.tables e below (s₁.setTop (mkF m 58 #[.val (.int p0)] [(.int (8287 : Int32)), (.int p0)])) _
                      refine XS.icmpYes X0.here hx rfl (pc0 := 58) (pc' := 68) rfl (hb hby d1_58) rfl (teq hc58).1 (by decide) (by decide) ?_
                      show Steps p.tables e below (s₁.setTop (mkF m 68 #[.val (.int p0)] [])) _
                      refine XS.iconst X0.here hx rfl (hb hby d1_68) ?_
                      show Steps p.tables e below (s₁.setTop (mkF m 69 #[.val (.int p0)] [(.int (1 : Int32))])) _
                      refine XS.goto X0.here hx rfl (pc0 := 69) (pc' := 73) rfl (hb hby d1_69) (by decide) (by decide) ?_
                      exact k)
                  obtain ⟨fs, hr, hrun, hended, hW, hsame⟩ := X0.leave (v := (some (.int (1 : Int32)))) (fun h => by rw [Bd.returns] at h; cases h)
                  refine ⟨_, _, k15 _ ?_, hrun, hended, _, _, rfl, ?_, ⟨_, rfl⟩, hW, hsame.mono (by decide) (by decide)⟩
                  · exact retN X0 hx (t := .boolean) Bd.returns (by simp) (hb hby d1_73) hr
                  · show Q1 Z p0 h0 n0 _ s₁.heap _
                    rw [e0]
                    exact ⟨congrArg (fun z => some (Value.int z)) (own_bI_t (by unfold own_Hz; simp only [Int32.lt_iff_toInt_lt, ← Int32.toInt_inj, Int32.reduceToInt] at hc3 hc9 hc16 hc23 hc30 hc37 hc51 hc58; omega)).symm, N0, rfl⟩
                · have k16 : ∀ t, Steps p.tables e below (s₁.setTop (mkF m 65 #[.val (.int p0)] [(.int (12288 : Int32)), (.int p0)])) t → Steps p.tables e below (s₁.setTop (entryFrame m #[(.int p0)] 1)) t := fun t k => k14 t (by
                      show Steps p.tables e below (s₁.setTop (mkF m 58 #[.val (.int p0)] [(.int (8287 : Int32)), (.int p0)])) _
                      refine XS.icmpNo X0.here hx rfl (hb hby d1_58) rfl (feq hc58).1 ?_
                      show Steps p.tables e below (s₁.setTop (mkF m 61 #[.val (.int p0)] [])) _
                      refine XS.iloadN X0.here hx rfl (hb hby d1_61) rfl ?_
                      show Steps p.tables e below (s₁.setTop (mkF m 62 #[.val (.int p0)] [(.int p0)])) _
                      refine XS.sipush X0.here hx rfl (hb hby d1_62) ?_
                      exact k)
                  by_cases hc65 : p0 = (12288 : Int32)
                  · have k17 : ∀ t, Steps p.tables e below (s₁.setTop (mkF m 73 #[.val (.int p0)] [(.int (1 : Int32))])) t → Steps p.tables e below (s₁.setTop (entryFrame m #[(.int p0)] 1)) t := fun t k => k16 t (by
                        show Steps p.tables e below (s₁.setTop (mkF m 65 #[.val (.int p0)] [(.int (12288 : Int32)), (.int p0)])) _
                        refine XS.icmpNo X0.here hx rfl (hb hby d1_65) rfl (teq hc65).2 ?_
                        show Steps p.tables e below (s₁.setTop (mkF m 68 #[.val (.int p0)] [])) _
                        refine XS.iconst X0.here hx rfl (hb hby d1_68) ?_
                        show Steps p.tables e below (s₁.setTop (mkF m 69 #[.val (.int p0)] [(.int (1 : Int32))])) _
                        refine XS.goto X0.here hx rfl (pc0 := 69) (pc' := 73) rfl (hb hby d1_69) (by decide) (by decide) ?_
                        exact k)
                    obtain ⟨fs, hr, hrun, hended, hW, hsame⟩ := X0.leave (v := (some (.int (1 : Int32)))) (fun h => by rw [Bd.returns] at h; cases h)
                    refine ⟨_, _, k17 _ ?_, hrun, hended, _, _, rfl, ?_, ⟨_, rfl⟩, hW, hsame.mono (by decide) (by decide)⟩
                    · exact retN X0 hx (t := .boolean) Bd.returns (by simp) (hb hby d1_73) hr
                    · show Q1 Z p0 h0 n0 _ s₁.heap _
                      rw [e0]
                      exact ⟨congrArg (fun z => some (Value.int z)) (own_bI_t (by unfold own_Hz; simp only [Int32.lt_iff_toInt_lt, ← Int32.toInt_inj, Int32.reduceToInt] at hc3 hc9 hc16 hc23 hc30 hc37 hc51 hc58 hc65; omega)).symm, N0, rfl⟩
                  · have k18 : ∀ t, Steps p.tables e below (s₁.setTop (mkF m 73 #[.val (.int p0)] [(.int (0 : Int32))])) t → Steps p.tables e below (s₁.setTop (entryFrame m #[(.int p0)] 1)) t := fun t k => k16 t (by
                        show Steps p.tables e below (s₁.setTop (mkF m 65 #[.val (.int p0)] [(.int (12288 : Int32)), (.int p0)])) _
                        refine XS.icmpYes X0.here hx rfl (pc0 := 65) (pc' := 72) rfl (hb hby d1_65) rfl (feq hc65).2 (by decide) (by decide) ?_
                        show Steps p.tables e below (s₁.setTop (mkF m 72 #[.val (.int p0)] [])) _
                        refine XS.iconst X0.here hx rfl (hb hby d1_72) ?_
                        exact k)
                    obtain ⟨fs, hr, hrun, hended, hW, hsame⟩ := X0.leave (v := (some (.int (0 : Int32)))) (fun h => by rw [Bd.returns] at h; cases h)
                    refine ⟨_, _, k18 _ ?_, hrun, hended, _, _, rfl, ?_, ⟨_, rfl⟩, hW, hsame.mono (by decide) (by decide)⟩
                    · exact retN X0 hx (t := .boolean) Bd.returns (by simp) (hb hby d1_73) hr
                    · show Q1 Z p0 h0 n0 _ s₁.heap _
                      rw [e0]
                      exact ⟨congrArg (fun z => some (Value.int z)) (own_bI_f (by unfold own_Hz; simp only [Int32.lt_iff_toInt_lt, ← Int32.toInt_inj, Int32.reduceToInt] at hc3 hc9 hc16 hc23 hc30 hc37 hc51 hc58 hc65; omega)).symm, N0, rfl⟩
            · have k19 : ∀ t, Steps p.tables e below (s₁.setTop (mkF m 44 #[.val (.int p0)] [(.int (8202 : Int32)), (.int p0)])) t → Steps p.tables e below (s₁.setTop (entryFrame m #[(.int p0)] 1)) t := fun t k => k11 t (by
                  show Steps p.tables e below (s₁.setTop (mkF m 37 #[.val (.int p0)] [(.int (8192 : Int32)), (.int p0)])) _
                  refine XS.icmpNo X0.here hx rfl (hb hby d1_37) rfl (flt hc37).1 ?_
                  show Steps p.tables e below (s₁.setTop (mkF m 40 #[.val (.int p0)] [])) _
                  refine XS.iloadN X0.here hx rfl (hb hby d1_40) rfl ?_
                  show Steps p.tables e below (s₁.setTop (mkF m 41 #[.val (.int p0)] [(.int p0)])) _
                  refine XS.sipush X0.here hx rfl (hb hby d1_41) ?_
                  exact k)
              by_cases hc44 : (8202 : Int32) < p0
              · have k20 : ∀ t, Steps p.tables e below (s₁.setTop (mkF m 51 #[.val (.int p0)] [(.int (8239 : Int32)), (.int p0)])) t → Steps p.tables e below (s₁.setTop (entryFrame m #[(.int p0)] 1)) t := fun t k => k19 t (by
                    show Steps p.tables e below (s₁.setTop (mkF m 44 #[.val (.int p0)] [(.int (8202 : Int32)), (.int p0)])) _
                    refine XS.icmpNo X0.here hx rfl (hb hby d1_44) rfl (tlt hc44).2.2.2 ?_
                    show Steps p.tables e below (s₁.setTop (mkF m 47 #[.val (.int p0)] [])) _
                    refine XS.iloadN X0.here hx rfl (hb hby d1_47) rfl ?_
                    show Steps p.tables e below (s₁.setTop (mkF m 48 #[.val (.int p0)] [(.int p0)])) _
                    refine XS.sipush X0.here hx rfl (hb hby d1_48) ?_
                    exact k)
                by_cases hc51 : p0 = (8239 : Int32)
                · have k21 : ∀ t, Steps p.tables e below (s₁.setTop (mkF m 73 #[.val (.int p0)] [(.int (1 : Int32))])) t → Steps p.tables e below (s₁.setTop (entryFrame m #[(.int p0)] 1)) t := fun t k => k20 t (by
                      show Steps p.tables e below (s₁.setTop (mkF m 51 #[.val (.int p0)] [(.int (8239 : Int32)), (.int p0)])) _
                      refine XS.icmpYes X0.here hx rfl (pc0 := 51) (pc' := 68) rfl (hb hby d1_51) rfl (teq hc51).1 (by decide) (by decide) ?_
                      show Steps p.tables e below (s₁.setTop (mkF m 68 #[.val (.int p0)] [])) _
                      refine XS.iconst X0.here hx rfl (hb hby d1_68) ?_
                      show Steps p.tables e below (s₁.setTop (mkF m 69 #[.val (.int p0)] [(.int (1 : Int32))])) _
                      refine XS.goto X0.here hx rfl (pc0 := 69) (pc' := 73) rfl (hb hby d1_69) (by decide) (by decide) ?_
                      exact k)
                  obtain ⟨fs, hr, hrun, hended, hW, hsame⟩ := X0.leave (v := (some (.int (1 : Int32)))) (fun h => by rw [Bd.returns] at h; cases h)
                  refine ⟨_, _, k21 _ ?_, hrun, hended, _, _, rfl, ?_, ⟨_, rfl⟩, hW, hsame.mono (by decide) (by decide)⟩
                  · exact retN X0 hx (t := .boolean) Bd.returns (by simp) (hb hby d1_73) hr
                  · show Q1 Z p0 h0 n0 _ s₁.heap _
                    rw [e0]
                    exact ⟨congrArg (fun z => some (Value.int z)) (own_bI_t (by unfold own_Hz; simp only [Int32.lt_iff_toInt_lt, ← Int32.toInt_inj, Int32.reduceToInt] at hc3 hc9 hc16 hc23 hc30 hc37 hc44 hc51; omega)).symm, N0, rfl⟩
                · have k22 : ∀ t, Steps p.tables e below (s₁.setTop (mkF m 58 #[.val (.int p0)] [(.int (8287 : Int32)), (.int p0)])) t → Steps p.tables e below (s₁.setTop (entryFrame m #[(.int p0)] 1)) t := fun t k => k20 t (by
                      show Steps p.tables e below (s₁.setTop (mkF m 51 #[.val (.int p0)] [(.int (8239 : Int32)), (.int p0)])) _
                      refine XS.icmpNo X0.here hx rfl (hb hby d1_51) rfl (feq hc51).1 ?_
                      show Steps p.tables e below (s₁.setTop (mkF m 54 #[.val (.int p0)] [])) _
                      refine XS.iloadN X0.here hx rfl (hb hby d1_54) rfl ?_
                      show Steps p.tables e below (s₁.setTop (mkF m 55 #[.val (.int p0)] [(.int p0)])) _
                      refine XS.sipush X0.here hx rfl (hb hby d1_55) ?_
                      exact k)
                  by_cases hc58 : p0 = (8287 : Int32)
                  · have k23 : ∀ t, Steps p.tables e below (s₁.setTop (mkF m 73 #[.val (.int p0)] [(.int (1 : Int32))])) t → Steps p.tables e below (s₁.setTop (entryFrame m #[(.int p0)] 1)) t := fun t k => k22 t (by
                        show Steps p.tables e below (s₁.setTop (mkF m 58 #[.val (.int p0)] [(.int (8287 : Int32)), (.int p0)])) _
                        refine XS.icmpYes X0.here hx rfl (pc0 := 58) (pc' := 68) rfl (hb hby d1_58) rfl (teq hc58).1 (by decide) (by decide) ?_
                        show Steps p.tables e below (s₁.setTop (mkF m 68 #[.val (.int p0)] [])) _
                        refine XS.iconst X0.here hx rfl (hb hby d1_68) ?_
                        show Steps p.tables e below (s₁.setTop (mkF m 69 #[.val (.int p0)] [(.int (1 : Int32))])) _
                        refine XS.goto X0.here hx rfl (pc0 := 69) (pc' := 73) rfl (hb hby d1_69) (by decide) (by decide) ?_
                        exact k)
                    obtain ⟨fs, hr, hrun, hended, hW, hsame⟩ := X0.leave (v := (some (.int (1 : Int32)))) (fun h => by rw [Bd.returns] at h; cases h)
                    refine ⟨_, _, k23 _ ?_, hrun, hended, _, _, rfl, ?_, ⟨_, rfl⟩, hW, hsame.mono (by decide) (by decide)⟩
                    · exact retN X0 hx (t := .boolean) Bd.returns (by simp) (hb hby d1_73) hr
                    · show Q1 Z p0 h0 n0 _ s₁.heap _
                      rw [e0]
                      exact ⟨congrArg (fun z => some (Value.int z)) (own_bI_t (by unfold own_Hz; simp only [Int32.lt_iff_toInt_lt, ← Int32.toInt_inj, Int32.reduceToInt] at hc3 hc9 hc16 hc23 hc30 hc37 hc44 hc51 hc58; omega)).symm, N0, rfl⟩
                  · have k24 : ∀ t, Steps p.tables e below (s₁.setTop (mkF m 65 #[.val (.int p0)] [(.int (12288 : Int32)), (.int p0)])) t → Steps p.tables e below (s₁.setTop (entryFrame m #[(.int p0)] 1)) t := fun t k => k22 t (by
                        show Steps p.tables e below (s₁.setTop (mkF m 58 #[.val (.int p0)] [(.int (8287 : Int32)), (.int p0)])) _
                        refine XS.icmpNo X0.here hx rfl (hb hby d1_58) rfl (feq hc58).1 ?_
                        show Steps p.tables e below (s₁.setTop (mkF m 61 #[.val (.int p0)] [])) _
                        refine XS.iloadN X0.here hx rfl (hb hby d1_61) rfl ?_
                        show Steps p.tables e below (s₁.setTop (mkF m 62 #[.val (.int p0)] [(.int p0)])) _
                        refine XS.sipush X0.here hx rfl (hb hby d1_62) ?_
                        exact k)
                    by_cases hc65 : p0 = (12288 : Int32)
                    · have k25 : ∀ t, Steps p.tables e below (s₁.setTop (mkF m 73 #[.val (.int p0)] [(.int (1 : Int32))])) t → Steps p.tables e below (s₁.setTop (entryFrame m #[(.int p0)] 1)) t := fun t k => k24 t (by
                          show Steps p.tables e below (s₁.setTop (mkF m 65 #[.val (.int p0)] [(.int (12288 : Int32)), (.int p0)])) _
                          refine XS.icmpNo X0.here hx rfl (hb hby d1_65) rfl (teq hc65).2 ?_
                          show Steps p.tables e below (s₁.setTop (mkF m 68 #[.val (.int p0)] [])) _
                          refine XS.iconst X0.here hx rfl (hb hby d1_68) ?_
                          show Steps p.tables e below (s₁.setTop (mkF m 69 #[.val (.int p0)] [(.int (1 : Int32))])) _
                          refine XS.goto X0.here hx rfl (pc0 := 69) (pc' := 73) rfl (hb hby d1_69) (by decide) (by decide) ?_
                          exact k)
                      obtain ⟨fs, hr, hrun, hended, hW, hsame⟩ := X0.leave (v := (some (.int (1 : Int32)))) (fun h => by rw [Bd.returns] at h; cases h)
                      refine ⟨_, _, k25 _ ?_, hrun, hended, _, _, rfl, ?_, ⟨_, rfl⟩, hW, hsame.mono (by decide) (by decide)⟩
                      · exact retN X0 hx (t := .boolean) Bd.returns (by simp) (hb hby d1_73) hr
                      · show Q1 Z p0 h0 n0 _ s₁.heap _
                        rw [e0]
                        exact ⟨congrArg (fun z => some (Value.int z)) (own_bI_t (by unfold own_Hz; simp only [Int32.lt_iff_toInt_lt, ← Int32.toInt_inj, Int32.reduceToInt] at hc3 hc9 hc16 hc23 hc30 hc37 hc44 hc51 hc58 hc65; omega)).symm, N0, rfl⟩
                    · have k26 : ∀ t, Steps p.tables e below (s₁.setTop (mkF m 73 #[.val (.int p0)] [(.int (0 : Int32))])) t → Steps p.tables e below (s₁.setTop (entryFrame m #[(.int p0)] 1)) t := fun t k => k24 t (by
                          show Steps p.tables e below (s₁.setTop (mkF m 65 #[.val (.int p0)] [(.int (12288 : Int32)), (.int p0)])) _
                          refine XS.icmpYes X0.here hx rfl (pc0 := 65) (pc' := 72) rfl (hb hby d1_65) rfl (feq hc65).2 (by decide) (by decide) ?_
                          show Steps p.tables e below (s₁.setTop (mkF m 72 #[.val (.int p0)] [])) _
                          refine XS.iconst X0.here hx rfl (hb hby d1_72) ?_
                          exact k)
                      obtain ⟨fs, hr, hrun, hended, hW, hsame⟩ := X0.leave (v := (some (.int (0 : Int32)))) (fun h => by rw [Bd.returns] at h; cases h)
                      refine ⟨_, _, k26 _ ?_, hrun, hended, _, _, rfl, ?_, ⟨_, rfl⟩, hW, hsame.mono (by decide) (by decide)⟩
                      · exact retN X0 hx (t := .boolean) Bd.returns (by simp) (hb hby d1_73) hr
                      · show Q1 Z p0 h0 n0 _ s₁.heap _
                        rw [e0]
                        exact ⟨congrArg (fun z => some (Value.int z)) (own_bI_f (by unfold own_Hz; simp only [Int32.lt_iff_toInt_lt, ← Int32.toInt_inj, Int32.reduceToInt] at hc3 hc9 hc16 hc23 hc30 hc37 hc44 hc51 hc58 hc65; omega)).symm, N0, rfl⟩
              · have k27 : ∀ t, Steps p.tables e below (s₁.setTop (mkF m 73 #[.val (.int p0)] [(.int (1 : Int32))])) t → Steps p.tables e below (s₁.setTop (entryFrame m #[(.int p0)] 1)) t := fun t k => k19 t (by
                    show Steps p.tables e below (s₁.setTop (mkF m 44 #[.val (.int p0)] [(.int (8202 : Int32)), (.int p0)])) _
                    refine XS.icmpYes X0.here hx rfl (pc0 := 44) (pc' := 68) rfl (hb hby d1_44) rfl (flt hc44).2.2.2 (by decide) (by decide) ?_
                    show Steps p.tables e below (s₁.setTop (mkF m 68 #[.val (.int p0)] [])) _
                    refine XS.iconst X0.here hx rfl (hb hby d1_68) ?_
                    show Steps p.tables e below (s₁.setTop (mkF m 69 #[.val (.int p0)] [(.int (1 : Int32))])) _
                    refine XS.goto X0.here hx rfl (pc0 := 69) (pc' := 73) rfl (hb hby d1_69) (by decide) (by decide) ?_
                    exact k)
                obtain ⟨fs, hr, hrun, hended, hW, hsame⟩ := X0.leave (v := (some (.int (1 : Int32)))) (fun h => by rw [Bd.returns] at h; cases h)
                refine ⟨_, _, k27 _ ?_, hrun, hended, _, _, rfl, ?_, ⟨_, rfl⟩, hW, hsame.mono (by decide) (by decide)⟩
                · exact retN X0 hx (t := .boolean) Bd.returns (by simp) (hb hby d1_73) hr
                · show Q1 Z p0 h0 n0 _ s₁.heap _
                  rw [e0]
                  exact ⟨congrArg (fun z => some (Value.int z)) (own_bI_t (by unfold own_Hz; simp only [Int32.lt_iff_toInt_lt, ← Int32.toInt_inj, Int32.reduceToInt] at hc3 hc9 hc16 hc23 hc30 hc37 hc44; omega)).symm, N0, rfl⟩
theorem d2_0 : decode method_3_code 0 = .ok (.iload_n 0, 1) := by decide +kernel
theorem d2_1 : decode method_3_code 1 = .ok (.bipush 10, 2) := by decide +kernel
theorem d2_3 : decode method_3_code 3 = .ok (.if_icmp .lt 9, 3) := by decide +kernel
theorem d2_6 : decode method_3_code 6 = .ok (.iload_n 0, 1) := by decide +kernel
theorem d2_7 : decode method_3_code 7 = .ok (.bipush 13, 2) := by decide +kernel
theorem d2_9 : decode method_3_code 9 = .ok (.if_icmp .le 24, 3) := by decide +kernel
theorem d2_12 : decode method_3_code 12 = .ok (.iload_n 0, 1) := by decide +kernel
theorem d2_13 : decode method_3_code 13 = .ok (.sipush 133, 3) := by decide +kernel
theorem d2_16 : decode method_3_code 16 = .ok (.if_icmp .eq 17, 3) := by decide +kernel
theorem d2_19 : decode method_3_code 19 = .ok (.iload_n 0, 1) := by decide +kernel
theorem d2_20 : decode method_3_code 20 = .ok (.sipush 8232, 3) := by decide +kernel
theorem d2_23 : decode method_3_code 23 = .ok (.if_icmp .eq 10, 3) := by decide +kernel
theorem d2_26 : decode method_3_code 26 = .ok (.iload_n 0, 1) := by decide +kernel
theorem d2_27 : decode method_3_code 27 = .ok (.sipush 8233, 3) := by decide +kernel
theorem d2_30 : decode method_3_code 30 = .ok (.if_icmp .ne 7, 3) := by decide +kernel
theorem d2_33 : decode method_3_code 33 = .ok (.iconst 1, 1) := by decide +kernel
theorem d2_34 : decode method_3_code 34 = .ok (.goto 4, 3) := by decide +kernel
theorem d2_37 : decode method_3_code 37 = .ok (.iconst 0, 1) := by decide +kernel
theorem d2_38 : decode method_3_code 38 = .ok (.ireturn, 1) := by decide +kernel
theorem ef_2 (m : MethodId) (p0 : Int32) : entryFrame m #[(.int p0)] 1 = mkF m 0 #[.val (.int p0)] [] := by first | (simp [entryFrame, mkF, argsToLocals, Value.category]; done) | rfl
def Q2 (Z : State) (p0 : Int32) (h0 : Heap) (n0 : Nat) (v : Option Value) (h : Heap) (L : List Loc) : Prop := v = some (.int (own_bI (own_Vt p0.toInt))) ∧ Fr n0 L ∧ h = h0
set_option maxRecDepth 65536 in
set_option maxHeartbeats 40000000 in
theorem rm2 (l : Launch) (Z : State) (a0 : Array Value) (hw : ∀ d ∈ tables_1, d.before a0 Z = true) (ws : List Jvm.Cond) (p0 : Int32) (h0 : Heap) (n0 : Nat) (Z0 : n0 ≤ h0.size) :
    MetFree l (⟨"com/example/covenantry/covenantry/WordsIsSpacePinLaw", "vertical", "(I)Z"⟩ : MethodName) (head1 (Jvm.Cond.code (⟨"com/example/covenantry/covenantry/WordsIsSpacePinLaw", "vertical", "(I)Z"⟩ : MethodName) method_3_code 1 (some .boolean) :: ws) ({ frames := 0, cells := 0, slots := 0, locals := 0 } : Room)) (fun a U => a = #[(.int p0)] ∧ Z.Warmed39 U.vm ∧ U.heap = h0) (fun _ _ _ _ _ => True) (fun _ U o U' => ∃ v L, o = .returned v ∧ Q2 Z p0 h0 n0 v U'.heap L ∧ FrameEnd U o U' L ({ frames := 0, cells := 0, slots := 0, locals := 0 } : Room).cells ({ frames := 0, cells := 0, slots := 0, locals := 0 } : Room).slots) := by
  refine MetFree.of_bodySF (plainFor_of_name pn_0) hisR ?_
  intro p e s m args below meth c s₁ Bd hml0 hP hK
  obtain ⟨rfl, hZ, hh⟩ := hP
  have hx := Bd.exec
  have hby := Bd.bytes
  have hml : c.maxLocals = 1 := hml0
  have hown : s.vm.findClass "com/example/covenantry/covenantry/WordsIsSpacePinLaw" = some m.cls := findClass_of_methodNamed Bd.named
  have hnm := (name_of_methodNamed Bd.named Bd.method).1
  have X0 : Stand p l e ({ frames := 0, cells := 0, slots := 0, locals := 0 } : Room) s m #[(.int p0)] below meth c s₁ [] 0 0 := Stand.of_body Bd
  have e0 : s₁.heap = h0 := by rw [← hh, Bd.state]; rfl
  have N0 := Fr.nil n0
  have k0 : ∀ t, Steps p.tables e below (s₁.setTop (mkF m 0 #[.val (.int p0)] [])) t → Steps p.tables e below (s₁.setTop (entryFrame m #[(.int p0)] 1)) t := fun t k => castTop (ef_2 m p0) k
  have k1 : ∀ t, Steps p.tables e below (s₁.setTop (mkF m 3 #[.val (.int p0)] [(.int (10 : Int32)), (.int p0)])) t → Steps p.tables e below (s₁.setTop (entryFrame m #[(.int p0)] 1)) t := fun t k => k0 t (by
      show Steps p.tables e below (s₁.setTop (mkF m 0 #[.val (.int p0)] [])) _
      refine XS.iloadN X0.here hx rfl (hb hby d2_0) rfl ?_
      show Steps p.tables e below (s₁.setTop (mkF m 1 #[.val (.int p0)] [(.int p0)])) _
      refine XS.bipush X0.here hx rfl (hb hby d2_1) ?_
      exact k)
  by_cases hc3 : p0 < (10 : Int32)
  · have k2 : ∀ t, Steps p.tables e below (s₁.setTop (mkF m 16 #[.val (.int p0)] [(.int (133 : Int32)), (.int p0)])) t → Steps p.tables e below (s₁.setTop (entryFrame m #[(.int p0)] 1)) t := fun t k => k1 t (by
        show Steps p.tables e below (s₁.setTop (mkF m 3 #[.val (.int p0)] [(.int (10 : Int32)), (.int p0)])) _
        refine XS.icmpYes X0.here hx rfl (pc0 := 3) (pc' := 12) rfl (hb hby d2_3) rfl (tlt hc3).1 (by decide) (by decide) ?_
        show Steps p.tables e below (s₁.setTop (mkF m 12 #[.val (.int p0)] [])) _
        refine XS.iloadN X0.here hx rfl (hb hby d2_12) rfl ?_
        show Steps p.tables e below (s₁.setTop (mkF m 13 #[.val (.int p0)] [(.int p0)])) _
        refine XS.sipush X0.here hx rfl (hb hby d2_13) ?_
        exact k)
    by_cases hc16 : p0 = (133 : Int32)
    · have k3 : ∀ t, Steps p.tables e below (s₁.setTop (mkF m 38 #[.val (.int p0)] [(.int (1 : Int32))])) t → Steps p.tables e below (s₁.setTop (entryFrame m #[(.int p0)] 1)) t := fun t k => k2 t (by
          show Steps p.tables e below (s₁.setTop (mkF m 16 #[.val (.int p0)] [(.int (133 : Int32)), (.int p0)])) _
          refine XS.icmpYes X0.here hx rfl (pc0 := 16) (pc' := 33) rfl (hb hby d2_16) rfl (teq hc16).1 (by decide) (by decide) ?_
          show Steps p.tables e below (s₁.setTop (mkF m 33 #[.val (.int p0)] [])) _
          refine XS.iconst X0.here hx rfl (hb hby d2_33) ?_
          show Steps p.tables e below (s₁.setTop (mkF m 34 #[.val (.int p0)] [(.int (1 : Int32))])) _
          refine XS.goto X0.here hx rfl (pc0 := 34) (pc' := 38) rfl (hb hby d2_34) (by decide) (by decide) ?_
          exact k)
      obtain ⟨fs, hr, hrun, hended, hW, hsame⟩ := X0.leave (v := (some (.int (1 : Int32)))) (fun h => by rw [Bd.returns] at h; cases h)
      refine ⟨_, _, k3 _ ?_, hrun, hended, _, _, rfl, ?_, ⟨_, rfl⟩, hW, hsame.mono (by decide) (by decide)⟩
      · exact retN X0 hx (t := .boolean) Bd.returns (by simp) (hb hby d2_38) hr
      · show Q2 Z p0 h0 n0 _ s₁.heap _
        rw [e0]
        exact ⟨congrArg (fun z => some (Value.int z)) (own_bI_t (by unfold own_Vt; simp only [Int32.lt_iff_toInt_lt, ← Int32.toInt_inj, Int32.reduceToInt] at hc3 hc16; omega)).symm, N0, rfl⟩
    · have k4 : ∀ t, Steps p.tables e below (s₁.setTop (mkF m 23 #[.val (.int p0)] [(.int (8232 : Int32)), (.int p0)])) t → Steps p.tables e below (s₁.setTop (entryFrame m #[(.int p0)] 1)) t := fun t k => k2 t (by
          show Steps p.tables e below (s₁.setTop (mkF m 16 #[.val (.int p0)] [(.int (133 : Int32)), (.int p0)])) _
          refine XS.icmpNo X0.here hx rfl (hb hby d2_16) rfl (feq hc16).1 ?_
          show Steps p.tables e below (s₁.setTop (mkF m 19 #[.val (.int p0)] [])) _
          refine XS.iloadN X0.here hx rfl (hb hby d2_19) rfl ?_
          show Steps p.tables e below (s₁.setTop (mkF m 20 #[.val (.int p0)] [(.int p0)])) _
          refine XS.sipush X0.here hx rfl (hb hby d2_20) ?_
          exact k)
      by_cases hc23 : p0 = (8232 : Int32)
      · have k5 : ∀ t, Steps p.tables e below (s₁.setTop (mkF m 38 #[.val (.int p0)] [(.int (1 : Int32))])) t → Steps p.tables e below (s₁.setTop (entryFrame m #[(.int p0)] 1)) t := fun t k => k4 t (by
            show Steps p.tables e below (s₁.setTop (mkF m 23 #[.val (.int p0)] [(.int (8232 : Int32)), (.int p0)])) _
            refine XS.icmpYes X0.here hx rfl (pc0 := 23) (pc' := 33) rfl (hb hby d2_23) rfl (teq hc23).1 (by decide) (by decide) ?_
            show Steps p.tables e below (s₁.setTop (mkF m 33 #[.val (.int p0)] [])) _
            refine XS.iconst X0.here hx rfl (hb hby d2_33) ?_
            show Steps p.tables e below (s₁.setTop (mkF m 34 #[.val (.int p0)] [(.int (1 : Int32))])) _
            refine XS.goto X0.here hx rfl (pc0 := 34) (pc' := 38) rfl (hb hby d2_34) (by decide) (by decide) ?_
            exact k)
        obtain ⟨fs, hr, hrun, hended, hW, hsame⟩ := X0.leave (v := (some (.int (1 : Int32)))) (fun h => by rw [Bd.returns] at h; cases h)
        refine ⟨_, _, k5 _ ?_, hrun, hended, _, _, rfl, ?_, ⟨_, rfl⟩, hW, hsame.mono (by decide) (by decide)⟩
        · exact retN X0 hx (t := .boolean) Bd.returns (by simp) (hb hby d2_38) hr
        · show Q2 Z p0 h0 n0 _ s₁.heap _
          rw [e0]
          exact ⟨congrArg (fun z => some (Value.int z)) (own_bI_t (by unfold own_Vt; simp only [Int32.lt_iff_toInt_lt, ← Int32.toInt_inj, Int32.reduceToInt] at hc3 hc16 hc23; omega)).symm, N0, rfl⟩
      · have k6 : ∀ t, Steps p.tables e below (s₁.setTop (mkF m 30 #[.val (.int p0)] [(.int (8233 : Int32)), (.int p0)])) t → Steps p.tables e below (s₁.setTop (entryFrame m #[(.int p0)] 1)) t := fun t k => k4 t (by
            show Steps p.tables e below (s₁.setTop (mkF m 23 #[.val (.int p0)] [(.int (8232 : Int32)), (.int p0)])) _
            refine XS.icmpNo X0.here hx rfl (hb hby d2_23) rfl (feq hc23).1 ?_
            show Steps p.tables e below (s₁.setTop (mkF m 26 #[.val (.int p0)] [])) _
            refine XS.iloadN X0.here hx rfl (hb hby d2_26) rfl ?_
            show Steps p.tables e below (s₁.setTop (mkF m 27 #[.val (.int p0)] [(.int p0)])) _
            refine XS.sipush X0.here hx rfl (hb hby d2_27) ?_
            exact k)
        by_cases hc30 : p0 = (8233 : Int32)
        · have k7 : ∀ t, Steps p.tables e below (s₁.setTop (mkF m 38 #[.val (.int p0)] [(.int (1 : Int32))])) t → Steps p.tables e below (s₁.setTop (entryFrame m #[(.int p0)] 1)) t := fun t k => k6 t (by
              show Steps p.tables e below (s₁.setTop (mkF m 30 #[.val (.int p0)] [(.int (8233 : Int32)), (.int p0)])) _
              refine XS.icmpNo X0.here hx rfl (hb hby d2_30) rfl (teq hc30).2 ?_
              show Steps p.tables e below (s₁.setTop (mkF m 33 #[.val (.int p0)] [])) _
              refine XS.iconst X0.here hx rfl (hb hby d2_33) ?_
              show Steps p.tables e below (s₁.setTop (mkF m 34 #[.val (.int p0)] [(.int (1 : Int32))])) _
              refine XS.goto X0.here hx rfl (pc0 := 34) (pc' := 38) rfl (hb hby d2_34) (by decide) (by decide) ?_
              exact k)
          obtain ⟨fs, hr, hrun, hended, hW, hsame⟩ := X0.leave (v := (some (.int (1 : Int32)))) (fun h => by rw [Bd.returns] at h; cases h)
          refine ⟨_, _, k7 _ ?_, hrun, hended, _, _, rfl, ?_, ⟨_, rfl⟩, hW, hsame.mono (by decide) (by decide)⟩
          · exact retN X0 hx (t := .boolean) Bd.returns (by simp) (hb hby d2_38) hr
          · show Q2 Z p0 h0 n0 _ s₁.heap _
            rw [e0]
            exact ⟨congrArg (fun z => some (Value.int z)) (own_bI_t (by unfold own_Vt; simp only [Int32.lt_iff_toInt_lt, ← Int32.toInt_inj, Int32.reduceToInt] at hc3 hc16 hc23 hc30; omega)).symm, N0, rfl⟩
        · have k8 : ∀ t, Steps p.tables e below (s₁.setTop (mkF m 38 #[.val (.int p0)] [(.int (0 : Int32))])) t → Steps p.tables e below (s₁.setTop (entryFrame m #[(.int p0)] 1)) t := fun t k => k6 t (by
              show Steps p.tables e below (s₁.setTop (mkF m 30 #[.val (.int p0)] [(.int (8233 : Int32)), (.int p0)])) _
              refine XS.icmpYes X0.here hx rfl (pc0 := 30) (pc' := 37) rfl (hb hby d2_30) rfl (feq hc30).2 (by decide) (by decide) ?_
              show Steps p.tables e below (s₁.setTop (mkF m 37 #[.val (.int p0)] [])) _
              refine XS.iconst X0.here hx rfl (hb hby d2_37) ?_
              exact k)
          obtain ⟨fs, hr, hrun, hended, hW, hsame⟩ := X0.leave (v := (some (.int (0 : Int32)))) (fun h => by rw [Bd.returns] at h; cases h)
          refine ⟨_, _, k8 _ ?_, hrun, hended, _, _, rfl, ?_, ⟨_, rfl⟩, hW, hsame.mono (by decide) (by decide)⟩
          · exact retN X0 hx (t := .boolean) Bd.returns (by simp) (hb hby d2_38) hr
          · show Q2 Z p0 h0 n0 _ s₁.heap _
            rw [e0]
            exact ⟨congrArg (fun z => some (Value.int z)) (own_bI_f (by unfold own_Vt; simp only [Int32.lt_iff_toInt_lt, ← Int32.toInt_inj, Int32.reduceToInt] at hc3 hc16 hc23 hc30; omega)).symm, N0, rfl⟩
  · have k9 : ∀ t, Steps p.tables e below (s₁.setTop (mkF m 9 #[.val (.int p0)] [(.int (13 : Int32)), (.int p0)])) t → Steps p.tables e below (s₁.setTop (entryFrame m #[(.int p0)] 1)) t := fun t k => k1 t (by
        show Steps p.tables e below (s₁.setTop (mkF m 3 #[.val (.int p0)] [(.int (10 : Int32)), (.int p0)])) _
        refine XS.icmpNo X0.here hx rfl (hb hby d2_3) rfl (flt hc3).1 ?_
        show Steps p.tables e below (s₁.setTop (mkF m 6 #[.val (.int p0)] [])) _
        refine XS.iloadN X0.here hx rfl (hb hby d2_6) rfl ?_
        show Steps p.tables e below (s₁.setTop (mkF m 7 #[.val (.int p0)] [(.int p0)])) _
        refine XS.bipush X0.here hx rfl (hb hby d2_7) ?_
        exact k)
    by_cases hc9 : (13 : Int32) < p0
    · have k10 : ∀ t, Steps p.tables e below (s₁.setTop (mkF m 16 #[.val (.int p0)] [(.int (133 : Int32)), (.int p0)])) t → Steps p.tables e below (s₁.setTop (entryFrame m #[(.int p0)] 1)) t := fun t k => k9 t (by
          show Steps p.tables e below (s₁.setTop (mkF m 9 #[.val (.int p0)] [(.int (13 : Int32)), (.int p0)])) _
          refine XS.icmpNo X0.here hx rfl (hb hby d2_9) rfl (tlt hc9).2.2.2 ?_
          show Steps p.tables e below (s₁.setTop (mkF m 12 #[.val (.int p0)] [])) _
          refine XS.iloadN X0.here hx rfl (hb hby d2_12) rfl ?_
          show Steps p.tables e below (s₁.setTop (mkF m 13 #[.val (.int p0)] [(.int p0)])) _
          refine XS.sipush X0.here hx rfl (hb hby d2_13) ?_
          exact k)
      by_cases hc16 : p0 = (133 : Int32)
      · have k11 : ∀ t, Steps p.tables e below (s₁.setTop (mkF m 38 #[.val (.int p0)] [(.int (1 : Int32))])) t → Steps p.tables e below (s₁.setTop (entryFrame m #[(.int p0)] 1)) t := fun t k => k10 t (by
            show Steps p.tables e below (s₁.setTop (mkF m 16 #[.val (.int p0)] [(.int (133 : Int32)), (.int p0)])) _
            refine XS.icmpYes X0.here hx rfl (pc0 := 16) (pc' := 33) rfl (hb hby d2_16) rfl (teq hc16).1 (by decide) (by decide) ?_
            show Steps p.tables e below (s₁.setTop (mkF m 33 #[.val (.int p0)] [])) _
            refine XS.iconst X0.here hx rfl (hb hby d2_33) ?_
            show Steps p.tables e below (s₁.setTop (mkF m 34 #[.val (.int p0)] [(.int (1 : Int32))])) _
            refine XS.goto X0.here hx rfl (pc0 := 34) (pc' := 38) rfl (hb hby d2_34) (by decide) (by decide) ?_
            exact k)
        obtain ⟨fs, hr, hrun, hended, hW, hsame⟩ := X0.leave (v := (some (.int (1 : Int32)))) (fun h => by rw [Bd.returns] at h; cases h)
        refine ⟨_, _, k11 _ ?_, hrun, hended, _, _, rfl, ?_, ⟨_, rfl⟩, hW, hsame.mono (by decide) (by decide)⟩
        · exact retN X0 hx (t := .boolean) Bd.returns (by simp) (hb hby d2_38) hr
        · show Q2 Z p0 h0 n0 _ s₁.heap _
          rw [e0]
          exact ⟨congrArg (fun z => some (Value.int z)) (own_bI_t (by unfold own_Vt; simp only [Int32.lt_iff_toInt_lt, ← Int32.toInt_inj, Int32.reduceToInt] at hc3 hc9 hc16; omega)).symm, N0, rfl⟩
      · have k12 : ∀ t, Steps p.tables e below (s₁.setTop (mkF m 23 #[.val (.int p0)] [(.int (8232 : Int32)), (.int p0)])) t → Steps p.tables e below (s₁.setTop (entryFrame m #[(.int p0)] 1)) t := fun t k => k10 t (by
            show Steps p.tables e below (s₁.setTop (mkF m 16 #[.val (.int p0)] [(.int (133 : Int32)), (.int p0)])) _
            refine XS.icmpNo X0.here hx rfl (hb hby d2_16) rfl (feq hc16).1 ?_
            show Steps p.tables e below (s₁.setTop (mkF m 19 #[.val (.int p0)] [])) _
            refine XS.iloadN X0.here hx rfl (hb hby d2_19) rfl ?_
            show Steps p.tables e below (s₁.setTop (mkF m 20 #[.val (.int p0)] [(.int p0)])) _
            refine XS.sipush X0.here hx rfl (hb hby d2_20) ?_
            exact k)
        by_cases hc23 : p0 = (8232 : Int32)
        · have k13 : ∀ t, Steps p.tables e below (s₁.setTop (mkF m 38 #[.val (.int p0)] [(.int (1 : Int32))])) t → Steps p.tables e below (s₁.setTop (entryFrame m #[(.int p0)] 1)) t := fun t k => k12 t (by
              show Steps p.tables e below (s₁.setTop (mkF m 23 #[.val (.int p0)] [(.int (8232 : Int32)), (.int p0)])) _
              refine XS.icmpYes X0.here hx rfl (pc0 := 23) (pc' := 33) rfl (hb hby d2_23) rfl (teq hc23).1 (by decide) (by decide) ?_
              show Steps p.tables e below (s₁.setTop (mkF m 33 #[.val (.int p0)] [])) _
              refine XS.iconst X0.here hx rfl (hb hby d2_33) ?_
              show Steps p.tables e below (s₁.setTop (mkF m 34 #[.val (.int p0)] [(.int (1 : Int32))])) _
              refine XS.goto X0.here hx rfl (pc0 := 34) (pc' := 38) rfl (hb hby d2_34) (by decide) (by decide) ?_
              exact k)
          obtain ⟨fs, hr, hrun, hended, hW, hsame⟩ := X0.leave (v := (some (.int (1 : Int32)))) (fun h => by rw [Bd.returns] at h; cases h)
          refine ⟨_, _, k13 _ ?_, hrun, hended, _, _, rfl, ?_, ⟨_, rfl⟩, hW, hsame.mono (by decide) (by decide)⟩
          · exact retN X0 hx (t := .boolean) Bd.returns (by simp) (hb hby d2_38) hr
          · show Q2 Z p0 h0 n0 _ s₁.heap _
            rw [e0]
            exact ⟨congrArg (fun z => some (Value.int z)) (own_bI_t (by unfold own_Vt; simp only [Int32.lt_iff_toInt_lt, ← Int32.toInt_inj, Int32.reduceToInt] at hc3 hc9 hc16 hc23; omega)).symm, N0, rfl⟩
        · have k14 : ∀ t, Steps p.tables e below (s₁.setTop (mkF m 30 #[.val (.int p0)] [(.int (8233 : Int32)), (.int p0)])) t → Steps p.tables e below (s₁.setTop (entryFrame m #[(.int p0)] 1)) t := fun t k => k12 t (by
              show Steps p.tables e below (s₁.setTop (mkF m 23 #[.val (.int p0)] [(.int (8232 : Int32)), (.int p0)])) _
              refine XS.icmpNo X0.here hx rfl (hb hby d2_23) rfl (feq hc23).1 ?_
              show Steps p.tables e below (s₁.setTop (mkF m 26 #[.val (.int p0)] [])) _
              refine XS.iloadN X0.here hx rfl (hb hby d2_26) rfl ?_
              show Steps p.tables e below (s₁.setTop (mkF m 27 #[.val (.int p0)] [(.int p0)])) _
              refine XS.sipush X0.here hx rfl (hb hby d2_27) ?_
              exact k)
          by_cases hc30 : p0 = (8233 : Int32)
          · have k15 : ∀ t, Steps p.tables e below (s₁.setTop (mkF m 38 #[.val (.int p0)] [(.int (1 : Int32))])) t → Steps p.tables e below (s₁.setTop (entryFrame m #[(.int p0)] 1)) t := fun t k => k14 t (by
                show Steps p.tables e below (s₁.setTop (mkF m 30 #[.val (.int p0)] [(.int (8233 : Int32)), (.int p0)])) _
                refine XS.icmpNo X0.here hx rfl (hb hby d2_30) rfl (teq hc30).2 ?_
                show Steps p.tables e below (s₁.setTop (mkF m 33 #[.val (.int p0)] [])) _
                refine XS.iconst X0.here hx rfl (hb hby d2_33) ?_
                show Steps p.tables e below (s₁.setTop (mkF m 34 #[.val (.int p0)] [(.int (1 : Int32))])) _
                refine XS.goto X0.here hx rfl (pc0 := 34) (pc' := 38) rfl (hb hby d2_34) (by decide) (by decide) ?_
                exact k)
            obtain ⟨fs, hr, hrun, hended, hW, hsame⟩ := X0.leave (v := (some (.int (1 : Int32)))) (fun h => by rw [Bd.returns] at h; cases h)
            refine ⟨_, _, k15 _ ?_, hrun, hended, _, _, rfl, ?_, ⟨_, rfl⟩, hW, hsame.mono (by decide) (by decide)⟩
            · exact retN X0 hx (t := .boolean) Bd.returns (by simp) (hb hby d2_38) hr
            · show Q2 Z p0 h0 n0 _ s₁.heap _
              rw [e0]
              exact ⟨congrArg (fun z => some (Value.int z)) (own_bI_t (by unfold own_Vt; simp only [Int32.lt_iff_toInt_lt, ← Int32.toInt_inj, Int32.reduceToInt] at hc3 hc9 hc16 hc23 hc30; omega)).symm, N0, rfl⟩
          · have k16 : ∀ t, Steps p.tables e below (s₁.setTop (mkF m 38 #[.val (.int p0)] [(.int (0 : Int32))])) t → Steps p.tables e below (s₁.setTop (entryFrame m #[(.int p0)] 1)) t := fun t k => k14 t (by
                show Steps p.tables e below (s₁.setTop (mkF m 30 #[.val (.int p0)] [(.int (8233 : Int32)), (.int p0)])) _
                refine XS.icmpYes X0.here hx rfl (pc0 := 30) (pc' := 37) rfl (hb hby d2_30) rfl (feq hc30).2 (by decide) (by decide) ?_
                show Steps p.tables e below (s₁.setTop (mkF m 37 #[.val (.int p0)] [])) _
                refine XS.iconst X0.here hx rfl (hb hby d2_37) ?_
                exact k)
            obtain ⟨fs, hr, hrun, hended, hW, hsame⟩ := X0.leave (v := (some (.int (0 : Int32)))) (fun h => by rw [Bd.returns] at h; cases h)
            refine ⟨_, _, k16 _ ?_, hrun, hended, _, _, rfl, ?_, ⟨_, rfl⟩, hW, hsame.mono (by decide) (by decide)⟩
            · exact retN X0 hx (t := .boolean) Bd.returns (by simp) (hb hby d2_38) hr
            · show Q2 Z p0 h0 n0 _ s₁.heap _
              rw [e0]
              exact ⟨congrArg (fun z => some (Value.int z)) (own_bI_f (by unfold own_Vt; simp only [Int32.lt_iff_toInt_lt, ← Int32.toInt_inj, Int32.reduceToInt] at hc3 hc9 hc16 hc23 hc30; omega)).symm, N0, rfl⟩
    · have k17 : ∀ t, Steps p.tables e below (s₁.setTop (mkF m 38 #[.val (.int p0)] [(.int (1 : Int32))])) t → Steps p.tables e below (s₁.setTop (entryFrame m #[(.int p0)] 1)) t := fun t k => k9 t (by
          show Steps p.tables e below (s₁.setTop (mkF m 9 #[.val (.int p0)] [(.int (13 : Int32)), (.int p0)])) _
          refine XS.icmpYes X0.here hx rfl (pc0 := 9) (pc' := 33) rfl (hb hby d2_9) rfl (flt hc9).2.2.2 (by decide) (by decide) ?_
          show Steps p.tables e below (s₁.setTop (mkF m 33 #[.val (.int p0)] [])) _
          refine XS.iconst X0.here hx rfl (hb hby d2_33) ?_
          show Steps p.tables e below (s₁.setTop (mkF m 34 #[.val (.int p0)] [(.int (1 : Int32))])) _
          refine XS.goto X0.here hx rfl (pc0 := 34) (pc' := 38) rfl (hb hby d2_34) (by decide) (by decide) ?_
          exact k)
      obtain ⟨fs, hr, hrun, hended, hW, hsame⟩ := X0.leave (v := (some (.int (1 : Int32)))) (fun h => by rw [Bd.returns] at h; cases h)
      refine ⟨_, _, k17 _ ?_, hrun, hended, _, _, rfl, ?_, ⟨_, rfl⟩, hW, hsame.mono (by decide) (by decide)⟩
      · exact retN X0 hx (t := .boolean) Bd.returns (by simp) (hb hby d2_38) hr
      · show Q2 Z p0 h0 n0 _ s₁.heap _
        rw [e0]
        exact ⟨congrArg (fun z => some (Value.int z)) (own_bI_t (by unfold own_Vt; simp only [Int32.lt_iff_toInt_lt, ← Int32.toInt_inj, Int32.reduceToInt] at hc3 hc9; omega)).symm, N0, rfl⟩
theorem d3_0 : decode prog_63_method_15_code 0 = .ok (.iload_n 0, 1) := by decide +kernel
theorem d3_1 : decode prog_63_method_15_code 1 = .ok (.sipush 128, 3) := by decide +kernel
theorem d3_4 : decode prog_63_method_15_code 4 = .ok (.if_icmp .ge 30, 3) := by decide +kernel
theorem d3_7 : decode prog_63_method_15_code 7 = .ok (.iload_n 0, 1) := by decide +kernel
theorem d3_8 : decode prog_63_method_15_code 8 = .ok (.bipush 32, 2) := by decide +kernel
theorem d3_10 : decode prog_63_method_15_code 10 = .ok (.if_icmp .eq 15, 3) := by decide +kernel
theorem d3_13 : decode prog_63_method_15_code 13 = .ok (.iload_n 0, 1) := by decide +kernel
theorem d3_14 : decode prog_63_method_15_code 14 = .ok (.bipush 9, 2) := by decide +kernel
theorem d3_16 : decode prog_63_method_15_code 16 = .ok (.if_icmp .lt 13, 3) := by decide +kernel
theorem d3_19 : decode prog_63_method_15_code 19 = .ok (.iload_n 0, 1) := by decide +kernel
theorem d3_20 : decode prog_63_method_15_code 20 = .ok (.bipush 13, 2) := by decide +kernel
theorem d3_22 : decode prog_63_method_15_code 22 = .ok (.if_icmp .gt 7, 3) := by decide +kernel
theorem d3_25 : decode prog_63_method_15_code 25 = .ok (.iconst 1, 1) := by decide +kernel
theorem d3_26 : decode prog_63_method_15_code 26 = .ok (.goto 4, 3) := by decide +kernel
theorem d3_29 : decode prog_63_method_15_code 29 = .ok (.iconst 0, 1) := by decide +kernel
theorem d3_30 : decode prog_63_method_15_code 30 = .ok (.istore_n 1, 1) := by decide +kernel
theorem d3_31 : decode prog_63_method_15_code 31 = .ok (.goto 86, 3) := by decide +kernel
theorem d3_34 : decode prog_63_method_15_code 34 = .ok (.iload_n 0, 1) := by decide +kernel
theorem d3_35 : decode prog_63_method_15_code 35 = .ok (.sipush 133, 3) := by decide +kernel
theorem d3_38 : decode prog_63_method_15_code 38 = .ok (.if_icmp .eq 73, 3) := by decide +kernel
theorem d3_41 : decode prog_63_method_15_code 41 = .ok (.iload_n 0, 1) := by decide +kernel
theorem d3_42 : decode prog_63_method_15_code 42 = .ok (.sipush 160, 3) := by decide +kernel
theorem d3_45 : decode prog_63_method_15_code 45 = .ok (.if_icmp .eq 66, 3) := by decide +kernel
theorem d3_48 : decode prog_63_method_15_code 48 = .ok (.iload_n 0, 1) := by decide +kernel
theorem d3_49 : decode prog_63_method_15_code 49 = .ok (.sipush 5760, 3) := by decide +kernel
theorem d3_52 : decode prog_63_method_15_code 52 = .ok (.if_icmp .eq 59, 3) := by decide +kernel
theorem d3_55 : decode prog_63_method_15_code 55 = .ok (.iload_n 0, 1) := by decide +kernel
theorem d3_56 : decode prog_63_method_15_code 56 = .ok (.sipush 6158, 3) := by decide +kernel
theorem d3_59 : decode prog_63_method_15_code 59 = .ok (.if_icmp .eq 52, 3) := by decide +kernel
theorem d3_62 : decode prog_63_method_15_code 62 = .ok (.iload_n 0, 1) := by decide +kernel
theorem d3_63 : decode prog_63_method_15_code 63 = .ok (.sipush 8192, 3) := by decide +kernel
theorem d3_66 : decode prog_63_method_15_code 66 = .ok (.if_icmp .lt 10, 3) := by decide +kernel
theorem d3_69 : decode prog_63_method_15_code 69 = .ok (.iload_n 0, 1) := by decide +kernel
theorem d3_70 : decode prog_63_method_15_code 70 = .ok (.sipush 8202, 3) := by decide +kernel
theorem d3_73 : decode prog_63_method_15_code 73 = .ok (.if_icmp .le 38, 3) := by decide +kernel
theorem d3_76 : decode prog_63_method_15_code 76 = .ok (.iload_n 0, 1) := by decide +kernel
theorem d3_77 : decode prog_63_method_15_code 77 = .ok (.sipush 8232, 3) := by decide +kernel
theorem d3_80 : decode prog_63_method_15_code 80 = .ok (.if_icmp .eq 31, 3) := by decide +kernel
theorem d3_83 : decode prog_63_method_15_code 83 = .ok (.iload_n 0, 1) := by decide +kernel
theorem d3_84 : decode prog_63_method_15_code 84 = .ok (.sipush 8233, 3) := by decide +kernel
theorem d3_87 : decode prog_63_method_15_code 87 = .ok (.if_icmp .eq 24, 3) := by decide +kernel
theorem d3_90 : decode prog_63_method_15_code 90 = .ok (.iload_n 0, 1) := by decide +kernel
theorem d3_91 : decode prog_63_method_15_code 91 = .ok (.sipush 8239, 3) := by decide +kernel
theorem d3_94 : decode prog_63_method_15_code 94 = .ok (.if_icmp .eq 17, 3) := by decide +kernel
theorem d3_97 : decode prog_63_method_15_code 97 = .ok (.iload_n 0, 1) := by decide +kernel
theorem d3_98 : decode prog_63_method_15_code 98 = .ok (.sipush 8287, 3) := by decide +kernel
theorem d3_101 : decode prog_63_method_15_code 101 = .ok (.if_icmp .eq 10, 3) := by decide +kernel
theorem d3_104 : decode prog_63_method_15_code 104 = .ok (.iload_n 0, 1) := by decide +kernel
theorem d3_105 : decode prog_63_method_15_code 105 = .ok (.sipush 12288, 3) := by decide +kernel
theorem d3_108 : decode prog_63_method_15_code 108 = .ok (.if_icmp .ne 7, 3) := by decide +kernel
theorem d3_111 : decode prog_63_method_15_code 111 = .ok (.iconst 1, 1) := by decide +kernel
theorem d3_112 : decode prog_63_method_15_code 112 = .ok (.goto 4, 3) := by decide +kernel
theorem d3_115 : decode prog_63_method_15_code 115 = .ok (.iconst 0, 1) := by decide +kernel
theorem d3_116 : decode prog_63_method_15_code 116 = .ok (.istore_n 1, 1) := by decide +kernel
theorem d3_117 : decode prog_63_method_15_code 117 = .ok (.iload_n 1, 1) := by decide +kernel
theorem d3_118 : decode prog_63_method_15_code 118 = .ok (.ireturn, 1) := by decide +kernel
theorem ef_3 (m : MethodId) (p0 : Int32) : entryFrame m #[(.int p0)] 2 = mkF m 0 #[.val (.int p0), .unset] [] := by first | (simp [entryFrame, mkF, argsToLocals, Value.category]; done) | rfl
theorem pn_1 : plainName "com/example/covenantry/covenantry/Words" = true := by first | (simp [plainName, overriddenIn]; done) | decide +kernel
def Q3 (Z : State) (p0 : Int32) (h0 : Heap) (n0 : Nat) (v : Option Value) (h : Heap) (L : List Loc) : Prop := v = some (.int (own_bI (own_Sp p0.toInt))) ∧ Fr n0 L ∧ h = h0
set_option maxRecDepth 65536 in
set_option maxHeartbeats 40000000 in
theorem rm3 (l : Launch) (Z : State) (a0 : Array Value) (hw : ∀ d ∈ tables_1, d.before a0 Z = true) (ws : List Jvm.Cond) (p0 : Int32) (h0 : Heap) (n0 : Nat) (Z0 : n0 ≤ h0.size) :
    MetFree l (⟨"com/example/covenantry/covenantry/Words", "isSpace", "(C)Z"⟩ : MethodName) (head1 (Jvm.Cond.code (⟨"com/example/covenantry/covenantry/Words", "isSpace", "(C)Z"⟩ : MethodName) prog_63_method_15_code 2 (some .boolean) :: ws) ({ frames := 0, cells := 0, slots := 0, locals := 0 } : Room)) (fun a U => a = #[(.int p0)] ∧ Z.Warmed39 U.vm ∧ U.heap = h0) (fun _ _ _ _ _ => True) (fun _ U o U' => ∃ v L, o = .returned v ∧ Q3 Z p0 h0 n0 v U'.heap L ∧ FrameEnd U o U' L ({ frames := 0, cells := 0, slots := 0, locals := 0 } : Room).cells ({ frames := 0, cells := 0, slots := 0, locals := 0 } : Room).slots) := by
  refine MetFree.of_bodySF (plainFor_of_name pn_1) hisR ?_
  intro p e s m args below meth c s₁ Bd hml0 hP hK
  obtain ⟨rfl, hZ, hh⟩ := hP
  have hx := Bd.exec
  have hby := Bd.bytes
  have hml : c.maxLocals = 2 := hml0
  have hown : s.vm.findClass "com/example/covenantry/covenantry/Words" = some m.cls := findClass_of_methodNamed Bd.named
  have hnm := (name_of_methodNamed Bd.named Bd.method).1
  have X0 : Stand p l e ({ frames := 0, cells := 0, slots := 0, locals := 0 } : Room) s m #[(.int p0)] below meth c s₁ [] 0 0 := Stand.of_body Bd
  have e0 : s₁.heap = h0 := by rw [← hh, Bd.state]; rfl
  have N0 := Fr.nil n0
  have k0 : ∀ t, Steps p.tables e below (s₁.setTop (mkF m 0 #[.val (.int p0), .unset] [])) t → Steps p.tables e below (s₁.setTop (entryFrame m #[(.int p0)] 2)) t := fun t k => castTop (ef_3 m p0) k
  have k1 : ∀ t, Steps p.tables e below (s₁.setTop (mkF m 4 #[.val (.int p0), .unset] [(.int (128 : Int32)), (.int p0)])) t → Steps p.tables e below (s₁.setTop (entryFrame m #[(.int p0)] 2)) t := fun t k => k0 t (by
      show Steps p.tables e below (s₁.setTop (mkF m 0 #[.val (.int p0), .unset] [])) _
      refine XS.iloadN X0.here hx rfl (hb hby d3_0) rfl ?_
      show Steps p.tables e below (s₁.setTop (mkF m 1 #[.val (.int p0), .unset] [(.int p0)])) _
      refine XS.sipush X0.here hx rfl (hb hby d3_1) ?_
      exact k)
  by_cases hc4 : p0 < (128 : Int32)
  · have k2 : ∀ t, Steps p.tables e below (s₁.setTop (mkF m 10 #[.val (.int p0), .unset] [(.int (32 : Int32)), (.int p0)])) t → Steps p.tables e below (s₁.setTop (entryFrame m #[(.int p0)] 2)) t := fun t k => k1 t (by
        show Steps p.tables e below (s₁.setTop (mkF m 4 #[.val (.int p0), .unset] [(.int (128 : Int32)), (.int p0)])) _
        refine XS.icmpNo X0.here hx rfl (hb hby d3_4) rfl (tlt hc4).2.1 ?_
        show Steps p.tables e below (s₁.setTop (mkF m 7 #[.val (.int p0), .unset] [])) _
        refine XS.iloadN X0.here hx rfl (hb hby d3_7) rfl ?_
        show Steps p.tables e below (s₁.setTop (mkF m 8 #[.val (.int p0), .unset] [(.int p0)])) _
        refine XS.bipush X0.here hx rfl (hb hby d3_8) ?_
        exact k)
    by_cases hc10 : p0 = (32 : Int32)
    · have k3 : ∀ t, Steps p.tables e below (s₁.setTop (mkF m 118 #[.val (.int p0), .val (.int (1 : Int32))] [(.int (1 : Int32))])) t → Steps p.tables e below (s₁.setTop (entryFrame m #[(.int p0)] 2)) t := fun t k => k2 t (by
          show Steps p.tables e below (s₁.setTop (mkF m 10 #[.val (.int p0), .unset] [(.int (32 : Int32)), (.int p0)])) _
          refine XS.icmpYes X0.here hx rfl (pc0 := 10) (pc' := 25) rfl (hb hby d3_10) rfl (teq hc10).1 (by decide) (by decide) ?_
          show Steps p.tables e below (s₁.setTop (mkF m 25 #[.val (.int p0), .unset] [])) _
          refine XS.iconst X0.here hx rfl (hb hby d3_25) ?_
          show Steps p.tables e below (s₁.setTop (mkF m 26 #[.val (.int p0), .unset] [(.int (1 : Int32))])) _
          refine XS.goto X0.here hx rfl (pc0 := 26) (pc' := 30) rfl (hb hby d3_26) (by decide) (by decide) ?_
          show Steps p.tables e below (s₁.setTop (mkF m 30 #[.val (.int p0), .unset] [(.int (1 : Int32))])) _
          refine XS.istoreN X0.here hx rfl (hb hby d3_30) rfl (l' := #[.val (.int p0), .val (.int (1 : Int32))]) rfl ?_
          show Steps p.tables e below (s₁.setTop (mkF m 31 #[.val (.int p0), .val (.int (1 : Int32))] [])) _
          refine XS.goto X0.here hx rfl (pc0 := 31) (pc' := 117) rfl (hb hby d3_31) (by decide) (by decide) ?_
          show Steps p.tables e below (s₁.setTop (mkF m 117 #[.val (.int p0), .val (.int (1 : Int32))] [])) _
          refine XS.iloadN X0.here hx rfl (hb hby d3_117) rfl ?_
          exact k)
      obtain ⟨fs, hr, hrun, hended, hW, hsame⟩ := X0.leave (v := (some (.int (1 : Int32)))) (fun h => by rw [Bd.returns] at h; cases h)
      refine ⟨_, _, k3 _ ?_, hrun, hended, _, _, rfl, ?_, ⟨_, rfl⟩, hW, hsame.mono (by decide) (by decide)⟩
      · exact retN X0 hx (t := .boolean) Bd.returns (by simp) (hb hby d3_118) hr
      · show Q3 Z p0 h0 n0 _ s₁.heap _
        rw [e0]
        exact ⟨congrArg (fun z => some (Value.int z)) (own_bI_t (by unfold own_Sp; simp only [Int32.lt_iff_toInt_lt, ← Int32.toInt_inj, Int32.reduceToInt] at hc4 hc10; omega)).symm, N0, rfl⟩
    · have k4 : ∀ t, Steps p.tables e below (s₁.setTop (mkF m 16 #[.val (.int p0), .unset] [(.int (9 : Int32)), (.int p0)])) t → Steps p.tables e below (s₁.setTop (entryFrame m #[(.int p0)] 2)) t := fun t k => k2 t (by
          show Steps p.tables e below (s₁.setTop (mkF m 10 #[.val (.int p0), .unset] [(.int (32 : Int32)), (.int p0)])) _
          refine XS.icmpNo X0.here hx rfl (hb hby d3_10) rfl (feq hc10).1 ?_
          show Steps p.tables e below (s₁.setTop (mkF m 13 #[.val (.int p0), .unset] [])) _
          refine XS.iloadN X0.here hx rfl (hb hby d3_13) rfl ?_
          show Steps p.tables e below (s₁.setTop (mkF m 14 #[.val (.int p0), .unset] [(.int p0)])) _
          refine XS.bipush X0.here hx rfl (hb hby d3_14) ?_
          exact k)
      by_cases hc16 : p0 < (9 : Int32)
      · have k5 : ∀ t, Steps p.tables e below (s₁.setTop (mkF m 118 #[.val (.int p0), .val (.int (0 : Int32))] [(.int (0 : Int32))])) t → Steps p.tables e below (s₁.setTop (entryFrame m #[(.int p0)] 2)) t := fun t k => k4 t (by
            show Steps p.tables e below (s₁.setTop (mkF m 16 #[.val (.int p0), .unset] [(.int (9 : Int32)), (.int p0)])) _
            refine XS.icmpYes X0.here hx rfl (pc0 := 16) (pc' := 29) rfl (hb hby d3_16) rfl (tlt hc16).1 (by decide) (by decide) ?_
            show Steps p.tables e below (s₁.setTop (mkF m 29 #[.val (.int p0), .unset] [])) _
            refine XS.iconst X0.here hx rfl (hb hby d3_29) ?_
            show Steps p.tables e below (s₁.setTop (mkF m 30 #[.val (.int p0), .unset] [(.int (0 : Int32))])) _
            refine XS.istoreN X0.here hx rfl (hb hby d3_30) rfl (l' := #[.val (.int p0), .val (.int (0 : Int32))]) rfl ?_
            show Steps p.tables e below (s₁.setTop (mkF m 31 #[.val (.int p0), .val (.int (0 : Int32))] [])) _
            refine XS.goto X0.here hx rfl (pc0 := 31) (pc' := 117) rfl (hb hby d3_31) (by decide) (by decide) ?_
            show Steps p.tables e below (s₁.setTop (mkF m 117 #[.val (.int p0), .val (.int (0 : Int32))] [])) _
            refine XS.iloadN X0.here hx rfl (hb hby d3_117) rfl ?_
            exact k)
        obtain ⟨fs, hr, hrun, hended, hW, hsame⟩ := X0.leave (v := (some (.int (0 : Int32)))) (fun h => by rw [Bd.returns] at h; cases h)
        refine ⟨_, _, k5 _ ?_, hrun, hended, _, _, rfl, ?_, ⟨_, rfl⟩, hW, hsame.mono (by decide) (by decide)⟩
        · exact retN X0 hx (t := .boolean) Bd.returns (by simp) (hb hby d3_118) hr
        · show Q3 Z p0 h0 n0 _ s₁.heap _
          rw [e0]
          exact ⟨congrArg (fun z => some (Value.int z)) (own_bI_f (by unfold own_Sp; simp only [Int32.lt_iff_toInt_lt, ← Int32.toInt_inj, Int32.reduceToInt] at hc4 hc10 hc16; omega)).symm, N0, rfl⟩
      · have k6 : ∀ t, Steps p.tables e below (s₁.setTop (mkF m 22 #[.val (.int p0), .unset] [(.int (13 : Int32)), (.int p0)])) t → Steps p.tables e below (s₁.setTop (entryFrame m #[(.int p0)] 2)) t := fun t k => k4 t (by
            show Steps p.tables e below (s₁.setTop (mkF m 16 #[.val (.int p0), .unset] [(.int (9 : Int32)), (.int p0)])) _
            refine XS.icmpNo X0.here hx rfl (hb hby d3_16) rfl (flt hc16).1 ?_
            show Steps p.tables e below (s₁.setTop (mkF m 19 #[.val (.int p0), .unset] [])) _
            refine XS.iloadN X0.here hx rfl (hb hby d3_19) rfl ?_
            show Steps p.tables e below (s₁.setTop (mkF m 20 #[.val (.int p0), .unset] [(.int p0)])) _
            refine XS.bipush X0.here hx rfl (hb hby d3_20) ?_
            exact k)
        by_cases hc22 : (13 : Int32) < p0
        · have k7 : ∀ t, Steps p.tables e below (s₁.setTop (mkF m 118 #[.val (.int p0), .val (.int (0 : Int32))] [(.int (0 : Int32))])) t → Steps p.tables e below (s₁.setTop (entryFrame m #[(.int p0)] 2)) t := fun t k => k6 t (by
              show Steps p.tables e below (s₁.setTop (mkF m 22 #[.val (.int p0), .unset] [(.int (13 : Int32)), (.int p0)])) _
              refine XS.icmpYes X0.here hx rfl (pc0 := 22) (pc' := 29) rfl (hb hby d3_22) rfl (tlt hc22).2.2.1 (by decide) (by decide) ?_
              show Steps p.tables e below (s₁.setTop (mkF m 29 #[.val (.int p0), .unset] [])) _
              refine XS.iconst X0.here hx rfl (hb hby d3_29) ?_
              show Steps p.tables e below (s₁.setTop (mkF m 30 #[.val (.int p0), .unset] [(.int (0 : Int32))])) _
              refine XS.istoreN X0.here hx rfl (hb hby d3_30) rfl (l' := #[.val (.int p0), .val (.int (0 : Int32))]) rfl ?_
              show Steps p.tables e below (s₁.setTop (mkF m 31 #[.val (.int p0), .val (.int (0 : Int32))] [])) _
              refine XS.goto X0.here hx rfl (pc0 := 31) (pc' := 117) rfl (hb hby d3_31) (by decide) (by decide) ?_
              show Steps p.tables e below (s₁.setTop (mkF m 117 #[.val (.int p0), .val (.int (0 : Int32))] [])) _
              refine XS.iloadN X0.here hx rfl (hb hby d3_117) rfl ?_
              exact k)
          obtain ⟨fs, hr, hrun, hended, hW, hsame⟩ := X0.leave (v := (some (.int (0 : Int32)))) (fun h => by rw [Bd.returns] at h; cases h)
          refine ⟨_, _, k7 _ ?_, hrun, hended, _, _, rfl, ?_, ⟨_, rfl⟩, hW, hsame.mono (by decide) (by decide)⟩
          · exact retN X0 hx (t := .boolean) Bd.returns (by simp) (hb hby d3_118) hr
          · show Q3 Z p0 h0 n0 _ s₁.heap _
            rw [e0]
            exact ⟨congrArg (fun z => some (Value.int z)) (own_bI_f (by unfold own_Sp; simp only [Int32.lt_iff_toInt_lt, ← Int32.toInt_inj, Int32.reduceToInt] at hc4 hc10 hc16 hc22; omega)).symm, N0, rfl⟩
        · have k8 : ∀ t, Steps p.tables e below (s₁.setTop (mkF m 118 #[.val (.int p0), .val (.int (1 : Int32))] [(.int (1 : Int32))])) t → Steps p.tables e below (s₁.setTop (entryFrame m #[(.int p0)] 2)) t := fun t k => k6 t (by
              show Steps p.tables e below (s₁.setTop (mkF m 22 #[.val (.int p0), .unset] [(.int (13 : Int32)), (.int p0)])) _
              refine XS.icmpNo X0.here hx rfl (hb hby d3_22) rfl (flt hc22).2.2.1 ?_
              show Steps p.tables e below (s₁.setTop (mkF m 25 #[.val (.int p0), .unset] [])) _
              refine XS.iconst X0.here hx rfl (hb hby d3_25) ?_
              show Steps p.tables e below (s₁.setTop (mkF m 26 #[.val (.int p0), .unset] [(.int (1 : Int32))])) _
              refine XS.goto X0.here hx rfl (pc0 := 26) (pc' := 30) rfl (hb hby d3_26) (by decide) (by decide) ?_
              show Steps p.tables e below (s₁.setTop (mkF m 30 #[.val (.int p0), .unset] [(.int (1 : Int32))])) _
              refine XS.istoreN X0.here hx rfl (hb hby d3_30) rfl (l' := #[.val (.int p0), .val (.int (1 : Int32))]) rfl ?_
              show Steps p.tables e below (s₁.setTop (mkF m 31 #[.val (.int p0), .val (.int (1 : Int32))] [])) _
              refine XS.goto X0.here hx rfl (pc0 := 31) (pc' := 117) rfl (hb hby d3_31) (by decide) (by decide) ?_
              show Steps p.tables e below (s₁.setTop (mkF m 117 #[.val (.int p0), .val (.int (1 : Int32))] [])) _
              refine XS.iloadN X0.here hx rfl (hb hby d3_117) rfl ?_
              exact k)
          obtain ⟨fs, hr, hrun, hended, hW, hsame⟩ := X0.leave (v := (some (.int (1 : Int32)))) (fun h => by rw [Bd.returns] at h; cases h)
          refine ⟨_, _, k8 _ ?_, hrun, hended, _, _, rfl, ?_, ⟨_, rfl⟩, hW, hsame.mono (by decide) (by decide)⟩
          · exact retN X0 hx (t := .boolean) Bd.returns (by simp) (hb hby d3_118) hr
          · show Q3 Z p0 h0 n0 _ s₁.heap _
            rw [e0]
            exact ⟨congrArg (fun z => some (Value.int z)) (own_bI_t (by unfold own_Sp; simp only [Int32.lt_iff_toInt_lt, ← Int32.toInt_inj, Int32.reduceToInt] at hc4 hc10 hc16 hc22; omega)).symm, N0, rfl⟩
  · have k9 : ∀ t, Steps p.tables e below (s₁.setTop (mkF m 38 #[.val (.int p0), .unset] [(.int (133 : Int32)), (.int p0)])) t → Steps p.tables e below (s₁.setTop (entryFrame m #[(.int p0)] 2)) t := fun t k => k1 t (by
        show Steps p.tables e below (s₁.setTop (mkF m 4 #[.val (.int p0), .unset] [(.int (128 : Int32)), (.int p0)])) _
        refine XS.icmpYes X0.here hx rfl (pc0 := 4) (pc' := 34) rfl (hb hby d3_4) rfl (flt hc4).2.1 (by decide) (by decide) ?_
        show Steps p.tables e below (s₁.setTop (mkF m 34 #[.val (.int p0), .unset] [])) _
        refine XS.iloadN X0.here hx rfl (hb hby d3_34) rfl ?_
        show Steps p.tables e below (s₁.setTop (mkF m 35 #[.val (.int p0), .unset] [(.int p0)])) _
        refine XS.sipush X0.here hx rfl (hb hby d3_35) ?_
        exact k)
    by_cases hc38 : p0 = (133 : Int32)
    · have k10 : ∀ t, Steps p.tables e below (s₁.setTop (mkF m 118 #[.val (.int p0), .val (.int (1 : Int32))] [(.int (1 : Int32))])) t → Steps p.tables e below (s₁.setTop (entryFrame m #[(.int p0)] 2)) t := fun t k => k9 t (by
          show Steps p.tables e below (s₁.setTop (mkF m 38 #[.val (.int p0), .unset] [(.int (133 : Int32)), (.int p0)])) _
          refine XS.icmpYes X0.here hx rfl (pc0 := 38) (pc' := 111) rfl (hb hby d3_38) rfl (teq hc38).1 (by decide) (by decide) ?_
          show Steps p.tables e below (s₁.setTop (mkF m 111 #[.val (.int p0), .unset] [])) _
          refine XS.iconst X0.here hx rfl (hb hby d3_111) ?_
          show Steps p.tables e below (s₁.setTop (mkF m 112 #[.val (.int p0), .unset] [(.int (1 : Int32))])) _
          refine XS.goto X0.here hx rfl (pc0 := 112) (pc' := 116) rfl (hb hby d3_112) (by decide) (by decide) ?_
          show Steps p.tables e below (s₁.setTop (mkF m 116 #[.val (.int p0), .unset] [(.int (1 : Int32))])) _
          refine XS.istoreN X0.here hx rfl (hb hby d3_116) rfl (l' := #[.val (.int p0), .val (.int (1 : Int32))]) rfl ?_
          show Steps p.tables e below (s₁.setTop (mkF m 117 #[.val (.int p0), .val (.int (1 : Int32))] [])) _
          refine XS.iloadN X0.here hx rfl (hb hby d3_117) rfl ?_
          exact k)
      obtain ⟨fs, hr, hrun, hended, hW, hsame⟩ := X0.leave (v := (some (.int (1 : Int32)))) (fun h => by rw [Bd.returns] at h; cases h)
      refine ⟨_, _, k10 _ ?_, hrun, hended, _, _, rfl, ?_, ⟨_, rfl⟩, hW, hsame.mono (by decide) (by decide)⟩
      · exact retN X0 hx (t := .boolean) Bd.returns (by simp) (hb hby d3_118) hr
      · show Q3 Z p0 h0 n0 _ s₁.heap _
        rw [e0]
        exact ⟨congrArg (fun z => some (Value.int z)) (own_bI_t (by unfold own_Sp; simp only [Int32.lt_iff_toInt_lt, ← Int32.toInt_inj, Int32.reduceToInt] at hc4 hc38; omega)).symm, N0, rfl⟩
    · have k11 : ∀ t, Steps p.tables e below (s₁.setTop (mkF m 45 #[.val (.int p0), .unset] [(.int (160 : Int32)), (.int p0)])) t → Steps p.tables e below (s₁.setTop (entryFrame m #[(.int p0)] 2)) t := fun t k => k9 t (by
          show Steps p.tables e below (s₁.setTop (mkF m 38 #[.val (.int p0), .unset] [(.int (133 : Int32)), (.int p0)])) _
          refine XS.icmpNo X0.here hx rfl (hb hby d3_38) rfl (feq hc38).1 ?_
          show Steps p.tables e below (s₁.setTop (mkF m 41 #[.val (.int p0), .unset] [])) _
          refine XS.iloadN X0.here hx rfl (hb hby d3_41) rfl ?_
          show Steps p.tables e below (s₁.setTop (mkF m 42 #[.val (.int p0), .unset] [(.int p0)])) _
          refine XS.sipush X0.here hx rfl (hb hby d3_42) ?_
          exact k)
      by_cases hc45 : p0 = (160 : Int32)
      · have k12 : ∀ t, Steps p.tables e below (s₁.setTop (mkF m 118 #[.val (.int p0), .val (.int (1 : Int32))] [(.int (1 : Int32))])) t → Steps p.tables e below (s₁.setTop (entryFrame m #[(.int p0)] 2)) t := fun t k => k11 t (by
            show Steps p.tables e below (s₁.setTop (mkF m 45 #[.val (.int p0), .unset] [(.int (160 : Int32)), (.int p0)])) _
            refine XS.icmpYes X0.here hx rfl (pc0 := 45) (pc' := 111) rfl (hb hby d3_45) rfl (teq hc45).1 (by decide) (by decide) ?_
            show Steps p.tables e below (s₁.setTop (mkF m 111 #[.val (.int p0), .unset] [])) _
            refine XS.iconst X0.here hx rfl (hb hby d3_111) ?_
            show Steps p.tables e below (s₁.setTop (mkF m 112 #[.val (.int p0), .unset] [(.int (1 : Int32))])) _
            refine XS.goto X0.here hx rfl (pc0 := 112) (pc' := 116) rfl (hb hby d3_112) (by decide) (by decide) ?_
            show Steps p.tables e below (s₁.setTop (mkF m 116 #[.val (.int p0), .unset] [(.int (1 : Int32))])) _
            refine XS.istoreN X0.here hx rfl (hb hby d3_116) rfl (l' := #[.val (.int p0), .val (.int (1 : Int32))]) rfl ?_
            show Steps p.tables e below (s₁.setTop (mkF m 117 #[.val (.int p0), .val (.int (1 : Int32))] [])) _
            refine XS.iloadN X0.here hx rfl (hb hby d3_117) rfl ?_
            exact k)
        obtain ⟨fs, hr, hrun, hended, hW, hsame⟩ := X0.leave (v := (some (.int (1 : Int32)))) (fun h => by rw [Bd.returns] at h; cases h)
        refine ⟨_, _, k12 _ ?_, hrun, hended, _, _, rfl, ?_, ⟨_, rfl⟩, hW, hsame.mono (by decide) (by decide)⟩
        · exact retN X0 hx (t := .boolean) Bd.returns (by simp) (hb hby d3_118) hr
        · show Q3 Z p0 h0 n0 _ s₁.heap _
          rw [e0]
          exact ⟨congrArg (fun z => some (Value.int z)) (own_bI_t (by unfold own_Sp; simp only [Int32.lt_iff_toInt_lt, ← Int32.toInt_inj, Int32.reduceToInt] at hc4 hc38 hc45; omega)).symm, N0, rfl⟩
      · have k13 : ∀ t, Steps p.tables e below (s₁.setTop (mkF m 52 #[.val (.int p0), .unset] [(.int (5760 : Int32)), (.int p0)])) t → Steps p.tables e below (s₁.setTop (entryFrame m #[(.int p0)] 2)) t := fun t k => k11 t (by
            show Steps p.tables e below (s₁.setTop (mkF m 45 #[.val (.int p0), .unset] [(.int (160 : Int32)), (.int p0)])) _
            refine XS.icmpNo X0.here hx rfl (hb hby d3_45) rfl (feq hc45).1 ?_
            show Steps p.tables e below (s₁.setTop (mkF m 48 #[.val (.int p0), .unset] [])) _
            refine XS.iloadN X0.here hx rfl (hb hby d3_48) rfl ?_
            show Steps p.tables e below (s₁.setTop (mkF m 49 #[.val (.int p0), .unset] [(.int p0)])) _
            refine XS.sipush X0.here hx rfl (hb hby d3_49) ?_
            exact k)
        by_cases hc52 : p0 = (5760 : Int32)
        · have k14 : ∀ t, Steps p.tables e below (s₁.setTop (mkF m 118 #[.val (.int p0), .val (.int (1 : Int32))] [(.int (1 : Int32))])) t → Steps p.tables e below (s₁.setTop (entryFrame m #[(.int p0)] 2)) t := fun t k => k13 t (by
              show Steps p.tables e below (s₁.setTop (mkF m 52 #[.val (.int p0), .unset] [(.int (5760 : Int32)), (.int p0)])) _
              refine XS.icmpYes X0.here hx rfl (pc0 := 52) (pc' := 111) rfl (hb hby d3_52) rfl (teq hc52).1 (by decide) (by decide) ?_
              show Steps p.tables e below (s₁.setTop (mkF m 111 #[.val (.int p0), .unset] [])) _
              refine XS.iconst X0.here hx rfl (hb hby d3_111) ?_
              show Steps p.tables e below (s₁.setTop (mkF m 112 #[.val (.int p0), .unset] [(.int (1 : Int32))])) _
              refine XS.goto X0.here hx rfl (pc0 := 112) (pc' := 116) rfl (hb hby d3_112) (by decide) (by decide) ?_
              show Steps p.tables e below (s₁.setTop (mkF m 116 #[.val (.int p0), .unset] [(.int (1 : Int32))])) _
              refine XS.istoreN X0.here hx rfl (hb hby d3_116) rfl (l' := #[.val (.int p0), .val (.int (1 : Int32))]) rfl ?_
              show Steps p.tables e below (s₁.setTop (mkF m 117 #[.val (.int p0), .val (.int (1 : Int32))] [])) _
              refine XS.iloadN X0.here hx rfl (hb hby d3_117) rfl ?_
              exact k)
          obtain ⟨fs, hr, hrun, hended, hW, hsame⟩ := X0.leave (v := (some (.int (1 : Int32)))) (fun h => by rw [Bd.returns] at h; cases h)
          refine ⟨_, _, k14 _ ?_, hrun, hended, _, _, rfl, ?_, ⟨_, rfl⟩, hW, hsame.mono (by decide) (by decide)⟩
          · exact retN X0 hx (t := .boolean) Bd.returns (by simp) (hb hby d3_118) hr
          · show Q3 Z p0 h0 n0 _ s₁.heap _
            rw [e0]
            exact ⟨congrArg (fun z => some (Value.int z)) (own_bI_t (by unfold own_Sp; simp only [Int32.lt_iff_toInt_lt, ← Int32.toInt_inj, Int32.reduceToInt] at hc4 hc38 hc45 hc52; omega)).symm, N0, rfl⟩
        · have k15 : ∀ t, Steps p.tables e below (s₁.setTop (mkF m 59 #[.val (.int p0), .unset] [(.int (6158 : Int32)), (.int p0)])) t → Steps p.tables e below (s₁.setTop (entryFrame m #[(.int p0)] 2)) t := fun t k => k13 t (by
              show Steps p.tables e below (s₁.setTop (mkF m 52 #[.val (.int p0), .unset] [(.int (5760 : Int32)), (.int p0)])) _
              refine XS.icmpNo X0.here hx rfl (hb hby d3_52) rfl (feq hc52).1 ?_
              show Steps p.tables e below (s₁.setTop (mkF m 55 #[.val (.int p0), .unset] [])) _
              refine XS.iloadN X0.here hx rfl (hb hby d3_55) rfl ?_
              show Steps p.tables e below (s₁.setTop (mkF m 56 #[.val (.int p0), .unset] [(.int p0)])) _
              refine XS.sipush X0.here hx rfl (hb hby d3_56) ?_
              exact k)
          by_cases hc59 : p0 = (6158 : Int32)
          · have k16 : ∀ t, Steps p.tables e below (s₁.setTop (mkF m 118 #[.val (.int p0), .val (.int (1 : Int32))] [(.int (1 : Int32))])) t → Steps p.tables e below (s₁.setTop (entryFrame m #[(.int p0)] 2)) t := fun t k => k15 t (by
                show Steps p.tables e below (s₁.setTop (mkF m 59 #[.val (.int p0), .unset] [(.int (6158 : Int32)), (.int p0)])) _
                refine XS.icmpYes X0.here hx rfl (pc0 := 59) (pc' := 111) rfl (hb hby d3_59) rfl (teq hc59).1 (by decide) (by decide) ?_
                show Steps p.tables e below (s₁.setTop (mkF m 111 #[.val (.int p0), .unset] [])) _
                refine XS.iconst X0.here hx rfl (hb hby d3_111) ?_
                show Steps p.tables e below (s₁.setTop (mkF m 112 #[.val (.int p0), .unset] [(.int (1 : Int32))])) _
                refine XS.goto X0.here hx rfl (pc0 := 112) (pc' := 116) rfl (hb hby d3_112) (by decide) (by decide) ?_
                show Steps p.tables e below (s₁.setTop (mkF m 116 #[.val (.int p0), .unset] [(.int (1 : Int32))])) _
                refine XS.istoreN X0.here hx rfl (hb hby d3_116) rfl (l' := #[.val (.int p0), .val (.int (1 : Int32))]) rfl ?_
                show Steps p.tables e below (s₁.setTop (mkF m 117 #[.val (.int p0), .val (.int (1 : Int32))] [])) _
                refine XS.iloadN X0.here hx rfl (hb hby d3_117) rfl ?_
                exact k)
            obtain ⟨fs, hr, hrun, hended, hW, hsame⟩ := X0.leave (v := (some (.int (1 : Int32)))) (fun h => by rw [Bd.returns] at h; cases h)
            refine ⟨_, _, k16 _ ?_, hrun, hended, _, _, rfl, ?_, ⟨_, rfl⟩, hW, hsame.mono (by decide) (by decide)⟩
            · exact retN X0 hx (t := .boolean) Bd.returns (by simp) (hb hby d3_118) hr
            · show Q3 Z p0 h0 n0 _ s₁.heap _
              rw [e0]
              exact ⟨congrArg (fun z => some (Value.int z)) (own_bI_t (by unfold own_Sp; simp only [Int32.lt_iff_toInt_lt, ← Int32.toInt_inj, Int32.reduceToInt] at hc4 hc38 hc45 hc52 hc59; omega)).symm, N0, rfl⟩
          · have k17 : ∀ t, Steps p.tables e below (s₁.setTop (mkF m 66 #[.val (.int p0), .unset] [(.int (8192 : Int32)), (.int p0)])) t → Steps p.tables e below (s₁.setTop (entryFrame m #[(.int p0)] 2)) t := fun t k => k15 t (by
                show Steps p.tables e below (s₁.setTop (mkF m 59 #[.val (.int p0), .unset] [(.int (6158 : Int32)), (.int p0)])) _
                refine XS.icmpNo X0.here hx rfl (hb hby d3_59) rfl (feq hc59).1 ?_
                show Steps p.tables e below (s₁.setTop (mkF m 62 #[.val (.int p0), .unset] [])) _
                refine XS.iloadN X0.here hx rfl (hb hby d3_62) rfl ?_
                show Steps p.tables e below (s₁.setTop (mkF m 63 #[.val (.int p0), .unset] [(.int p0)])) _
                refine XS.sipush X0.here hx rfl (hb hby d3_63) ?_
                exact k)
            by_cases hc66 : p0 < (8192 : Int32)
            · have k18 : ∀ t, Steps p.tables e below (s₁.setTop (mkF m 80 #[.val (.int p0), .unset] [(.int (8232 : Int32)), (.int p0)])) t → Steps p.tables e below (s₁.setTop (entryFrame m #[(.int p0)] 2)) t := fun t k => k17 t (by
                  show Steps p.tables e below (s₁.setTop (mkF m 66 #[.val (.int p0), .unset] [(.int (8192 : Int32)), (.int p0)])) _
                  refine XS.icmpYes X0.here hx rfl (pc0 := 66) (pc' := 76) rfl (hb hby d3_66) rfl (tlt hc66).1 (by decide) (by decide) ?_
                  show Steps p.tables e below (s₁.setTop (mkF m 76 #[.val (.int p0), .unset] [])) _
                  refine XS.iloadN X0.here hx rfl (hb hby d3_76) rfl ?_
                  show Steps p.tables e below (s₁.setTop (mkF m 77 #[.val (.int p0), .unset] [(.int p0)])) _
                  refine XS.sipush X0.here hx rfl (hb hby d3_77) ?_
                  exact k)
              by_cases hc80 : p0 = (8232 : Int32)
              · have k19 : ∀ t, Steps p.tables e below (s₁.setTop (mkF m 118 #[.val (.int p0), .val (.int (1 : Int32))] [(.int (1 : Int32))])) t → Steps p.tables e below (s₁.setTop (entryFrame m #[(.int p0)] 2)) t := fun t k => k18 t (by
                    show Steps p.tables e below (s₁.setTop (mkF m 80 #[.val (.int p0), .unset] [(.int (8232 : Int32)), (.int p0)])) _
                    refine XS.icmpYes X0.here hx rfl (pc0 := 80) (pc' := 111) rfl (hb hby d3_80) rfl (teq hc80).1 (by decide) (by decide) ?_
                    show Steps p.tables e below (s₁.setTop (mkF m 111 #[.val (.int p0), .unset] [])) _
                    refine XS.iconst X0.here hx rfl (hb hby d3_111) ?_
                    show Steps p.tables e below (s₁.setTop (mkF m 112 #[.val (.int p0), .unset] [(.int (1 : Int32))])) _
                    refine XS.goto X0.here hx rfl (pc0 := 112) (pc' := 116) rfl (hb hby d3_112) (by decide) (by decide) ?_
                    show Steps p.tables e below (s₁.setTop (mkF m 116 #[.val (.int p0), .unset] [(.int (1 : Int32))])) _
                    refine XS.istoreN X0.here hx rfl (hb hby d3_116) rfl (l' := #[.val (.int p0), .val (.int (1 : Int32))]) rfl ?_
                    show Steps p.tables e below (s₁.setTop (mkF m 117 #[.val (.int p0), .val (.int (1 : Int32))] [])) _
                    refine XS.iloadN X0.here hx rfl (hb hby d3_117) rfl ?_
                    exact k)
                obtain ⟨fs, hr, hrun, hended, hW, hsame⟩ := X0.leave (v := (some (.int (1 : Int32)))) (fun h => by rw [Bd.returns] at h; cases h)
                refine ⟨_, _, k19 _ ?_, hrun, hended, _, _, rfl, ?_, ⟨_, rfl⟩, hW, hsame.mono (by decide) (by decide)⟩
                · exact retN X0 hx (t := .boolean) Bd.returns (by simp) (hb hby d3_118) hr
                · show Q3 Z p0 h0 n0 _ s₁.heap _
                  rw [e0]
                  exact ⟨congrArg (fun z => some (Value.int z)) (own_bI_t (by unfold own_Sp; simp only [Int32.lt_iff_toInt_lt, ← Int32.toInt_inj, Int32.reduceToInt] at hc4 hc38 hc45 hc52 hc59 hc66 hc80; omega)).symm, N0, rfl⟩
              · have k20 : ∀ t, Steps p.tables e below (s₁.setTop (mkF m 87 #[.val (.int p0), .unset] [(.int (8233 : Int32)), (.int p0)])) t → Steps p.tables e below (s₁.setTop (entryFrame m #[(.int p0)] 2)) t := fun t k => k18 t (by
                    show Steps p.tables e below (s₁.setTop (mkF m 80 #[.val (.int p0), .unset] [(.int (8232 : Int32)), (.int p0)])) _
                    refine XS.icmpNo X0.here hx rfl (hb hby d3_80) rfl (feq hc80).1 ?_
                    show Steps p.tables e below (s₁.setTop (mkF m 83 #[.val (.int p0), .unset] [])) _
                    refine XS.iloadN X0.here hx rfl (hb hby d3_83) rfl ?_
                    show Steps p.tables e below (s₁.setTop (mkF m 84 #[.val (.int p0), .unset] [(.int p0)])) _
                    refine XS.sipush X0.here hx rfl (hb hby d3_84) ?_
                    exact k)
                by_cases hc87 : p0 = (8233 : Int32)
                · have k21 : ∀ t, Steps p.tables e below (s₁.setTop (mkF m 118 #[.val (.int p0), .val (.int (1 : Int32))] [(.int (1 : Int32))])) t → Steps p.tables e below (s₁.setTop (entryFrame m #[(.int p0)] 2)) t := fun t k => k20 t (by
                      show Steps p.tables e below (s₁.setTop (mkF m 87 #[.val (.int p0), .unset] [(.int (8233 : Int32)), (.int p0)])) _
                      refine XS.icmpYes X0.here hx rfl (pc0 := 87) (pc' := 111) rfl (hb hby d3_87) rfl (teq hc87).1 (by decide) (by decide) ?_
                      show Steps p.tables e below (s₁.setTop (mkF m 111 #[.val (.int p0), .unset] [])) _
                      refine XS.iconst X0.here hx rfl (hb hby d3_111) ?_
                      show Steps p.tables e below (s₁.setTop (mkF m 112 #[.val (.int p0), .unset] [(.int (1 : Int32))])) _
                      refine XS.goto X0.here hx rfl (pc0 := 112) (pc' := 116) rfl (hb hby d3_112) (by decide) (by decide) ?_
                      show Steps p.tables e below (s₁.setTop (mkF m 116 #[.val (.int p0), .unset] [(.int (1 : Int32))])) _
                      refine XS.istoreN X0.here hx rfl (hb hby d3_116) rfl (l' := #[.val (.int p0), .val (.int (1 : Int32))]) rfl ?_
                      show Steps p.tables e below (s₁.setTop (mkF m 117 #[.val (.int p0), .val (.int (1 : Int32))] [])) _
                      refine XS.iloadN X0.here hx rfl (hb hby d3_117) rfl ?_
                      exact k)
                  obtain ⟨fs, hr, hrun, hended, hW, hsame⟩ := X0.leave (v := (some (.int (1 : Int32)))) (fun h => by rw [Bd.returns] at h; cases h)
                  refine ⟨_, _, k21 _ ?_, hrun, hended, _, _, rfl, ?_, ⟨_, rfl⟩, hW, hsame.mono (by decide) (by decide)⟩
                  · exact retN X0 hx (t := .boolean) Bd.returns (by simp) (hb hby d3_118) hr
                  · show Q3 Z p0 h0 n0 _ s₁.heap _
                    rw [e0]
                    exact ⟨congrArg (fun z => some (Value.int z)) (own_bI_t (by unfold own_Sp; simp only [Int32.lt_iff_toInt_lt, ← Int32.toInt_inj, Int32.reduceToInt] at hc4 hc38 hc45 hc52 hc59 hc66 hc80 hc87; omega)).symm, N0, rfl⟩
                · have k22 : ∀ t, Steps p.tables e below (s₁.setTop (mkF m 94 #[.val (.int p0), .unset] [(.int (8239 : Int32)), (.int p0)])) t → Steps p.tables e below (s₁.setTop (entryFrame m #[(.int p0)] 2)) t := fun t k => k20 t (by
                      show Steps p.tables e below (s₁.setTop (mkF m 87 #[.val (.int p0), .unset] [(.int (8233 : Int32)), (.int p0)])) _
                      refine XS.icmpNo X0.here hx rfl (hb hby d3_87) rfl (feq hc87).1 ?_
                      show Steps p.tables e below (s₁.setTop (mkF m 90 #[.val (.int p0), .unset] [])) _
                      refine XS.iloadN X0.here hx rfl (hb hby d3_90) rfl ?_
                      show Steps p.tables e below (s₁.setTop (mkF m 91 #[.val (.int p0), .unset] [(.int p0)])) _
                      refine XS.sipush X0.here hx rfl (hb hby d3_91) ?_
                      exact k)
                  by_cases hc94 : p0 = (8239 : Int32)
                  · have k23 : ∀ t, Steps p.tables e below (s₁.setTop (mkF m 118 #[.val (.int p0), .val (.int (1 : Int32))] [(.int (1 : Int32))])) t → Steps p.tables e below (s₁.setTop (entryFrame m #[(.int p0)] 2)) t := fun t k => k22 t (by
                        show Steps p.tables e below (s₁.setTop (mkF m 94 #[.val (.int p0), .unset] [(.int (8239 : Int32)), (.int p0)])) _
                        refine XS.icmpYes X0.here hx rfl (pc0 := 94) (pc' := 111) rfl (hb hby d3_94) rfl (teq hc94).1 (by decide) (by decide) ?_
                        show Steps p.tables e below (s₁.setTop (mkF m 111 #[.val (.int p0), .unset] [])) _
                        refine XS.iconst X0.here hx rfl (hb hby d3_111) ?_
                        show Steps p.tables e below (s₁.setTop (mkF m 112 #[.val (.int p0), .unset] [(.int (1 : Int32))])) _
                        refine XS.goto X0.here hx rfl (pc0 := 112) (pc' := 116) rfl (hb hby d3_112) (by decide) (by decide) ?_
                        show Steps p.tables e below (s₁.setTop (mkF m 116 #[.val (.int p0), .unset] [(.int (1 : Int32))])) _
                        refine XS.istoreN X0.here hx rfl (hb hby d3_116) rfl (l' := #[.val (.int p0), .val (.int (1 : Int32))]) rfl ?_
                        show Steps p.tables e below (s₁.setTop (mkF m 117 #[.val (.int p0), .val (.int (1 : Int32))] [])) _
                        refine XS.iloadN X0.here hx rfl (hb hby d3_117) rfl ?_
                        exact k)
                    obtain ⟨fs, hr, hrun, hended, hW, hsame⟩ := X0.leave (v := (some (.int (1 : Int32)))) (fun h => by rw [Bd.returns] at h; cases h)
                    refine ⟨_, _, k23 _ ?_, hrun, hended, _, _, rfl, ?_, ⟨_, rfl⟩, hW, hsame.mono (by decide) (by decide)⟩
                    · exact retN X0 hx (t := .boolean) Bd.returns (by simp) (hb hby d3_118) hr
                    · show Q3 Z p0 h0 n0 _ s₁.heap _
                      rw [e0]
                      exact ⟨congrArg (fun z => some (Value.int z)) (own_bI_t (by unfold own_Sp; simp only [Int32.lt_iff_toInt_lt, ← Int32.toInt_inj, Int32.reduceToInt] at hc4 hc38 hc45 hc52 hc59 hc66 hc80 hc87 hc94; omega)).symm, N0, rfl⟩
                  · have k24 : ∀ t, Steps p.tables e below (s₁.setTop (mkF m 101 #[.val (.int p0), .unset] [(.int (8287 : Int32)), (.int p0)])) t → Steps p.tables e below (s₁.setTop (entryFrame m #[(.int p0)] 2)) t := fun t k => k22 t (by
                        show Steps p.tables e below (s₁.setTop (mkF m 94 #[.val (.int p0), .unset] [(.int (8239 : Int32)), (.int p0)])) _
                        refine XS.icmpNo X0.here hx rfl (hb hby d3_94) rfl (feq hc94).1 ?_
                        show Steps p.tables e below (s₁.setTop (mkF m 97 #[.val (.int p0), .unset] [])) _
                        refine XS.iloadN X0.here hx rfl (hb hby d3_97) rfl ?_
                        show Steps p.tables e below (s₁.setTop (mkF m 98 #[.val (.int p0), .unset] [(.int p0)])) _
                        refine XS.sipush X0.here hx rfl (hb hby d3_98) ?_
                        exact k)
                    by_cases hc101 : p0 = (8287 : Int32)
                    · have k25 : ∀ t, Steps p.tables e below (s₁.setTop (mkF m 118 #[.val (.int p0), .val (.int (1 : Int32))] [(.int (1 : Int32))])) t → Steps p.tables e below (s₁.setTop (entryFrame m #[(.int p0)] 2)) t := fun t k => k24 t (by
                          show Steps p.tables e below (s₁.setTop (mkF m 101 #[.val (.int p0), .unset] [(.int (8287 : Int32)), (.int p0)])) _
                          refine XS.icmpYes X0.here hx rfl (pc0 := 101) (pc' := 111) rfl (hb hby d3_101) rfl (teq hc101).1 (by decide) (by decide) ?_
                          show Steps p.tables e below (s₁.setTop (mkF m 111 #[.val (.int p0), .unset] [])) _
                          refine XS.iconst X0.here hx rfl (hb hby d3_111) ?_
                          show Steps p.tables e below (s₁.setTop (mkF m 112 #[.val (.int p0), .unset] [(.int (1 : Int32))])) _
                          refine XS.goto X0.here hx rfl (pc0 := 112) (pc' := 116) rfl (hb hby d3_112) (by decide) (by decide) ?_
                          show Steps p.tables e below (s₁.setTop (mkF m 116 #[.val (.int p0), .unset] [(.int (1 : Int32))])) _
                          refine XS.istoreN X0.here hx rfl (hb hby d3_116) rfl (l' := #[.val (.int p0), .val (.int (1 : Int32))]) rfl ?_
                          show Steps p.tables e below (s₁.setTop (mkF m 117 #[.val (.int p0), .val (.int (1 : Int32))] [])) _
                          refine XS.iloadN X0.here hx rfl (hb hby d3_117) rfl ?_
                          exact k)
                      obtain ⟨fs, hr, hrun, hended, hW, hsame⟩ := X0.leave (v := (some (.int (1 : Int32)))) (fun h => by rw [Bd.returns] at h; cases h)
                      refine ⟨_, _, k25 _ ?_, hrun, hended, _, _, rfl, ?_, ⟨_, rfl⟩, hW, hsame.mono (by decide) (by decide)⟩
                      · exact retN X0 hx (t := .boolean) Bd.returns (by simp) (hb hby d3_118) hr
                      · show Q3 Z p0 h0 n0 _ s₁.heap _
                        rw [e0]
                        exact ⟨congrArg (fun z => some (Value.int z)) (own_bI_t (by unfold own_Sp; simp only [Int32.lt_iff_toInt_lt, ← Int32.toInt_inj, Int32.reduceToInt] at hc4 hc38 hc45 hc52 hc59 hc66 hc80 hc87 hc94 hc101; omega)).symm, N0, rfl⟩
                    · have k26 : ∀ t, Steps p.tables e below (s₁.setTop (mkF m 108 #[.val (.int p0), .unset] [(.int (12288 : Int32)), (.int p0)])) t → Steps p.tables e below (s₁.setTop (entryFrame m #[(.int p0)] 2)) t := fun t k => k24 t (by
                          show Steps p.tables e below (s₁.setTop (mkF m 101 #[.val (.int p0), .unset] [(.int (8287 : Int32)), (.int p0)])) _
                          refine XS.icmpNo X0.here hx rfl (hb hby d3_101) rfl (feq hc101).1 ?_
                          show Steps p.tables e below (s₁.setTop (mkF m 104 #[.val (.int p0), .unset] [])) _
                          refine XS.iloadN X0.here hx rfl (hb hby d3_104) rfl ?_
                          show Steps p.tables e below (s₁.setTop (mkF m 105 #[.val (.int p0), .unset] [(.int p0)])) _
                          refine XS.sipush X0.here hx rfl (hb hby d3_105) ?_
                          exact k)
                      by_cases hc108 : p0 = (12288 : Int32)
                      · have k27 : ∀ t, Steps p.tables e below (s₁.setTop (mkF m 118 #[.val (.int p0), .val (.int (1 : Int32))] [(.int (1 : Int32))])) t → Steps p.tables e below (s₁.setTop (entryFrame m #[(.int p0)] 2)) t := fun t k => k26 t (by
                            show Steps p.tables e below (s₁.setTop (mkF m 108 #[.val (.int p0), .unset] [(.int (12288 : Int32)), (.int p0)])) _
                            refine XS.icmpNo X0.here hx rfl (hb hby d3_108) rfl (teq hc108).2 ?_
                            show Steps p.tables e below (s₁.setTop (mkF m 111 #[.val (.int p0), .unset] [])) _
                            refine XS.iconst X0.here hx rfl (hb hby d3_111) ?_
                            show Steps p.tables e below (s₁.setTop (mkF m 112 #[.val (.int p0), .unset] [(.int (1 : Int32))])) _
                            refine XS.goto X0.here hx rfl (pc0 := 112) (pc' := 116) rfl (hb hby d3_112) (by decide) (by decide) ?_
                            show Steps p.tables e below (s₁.setTop (mkF m 116 #[.val (.int p0), .unset] [(.int (1 : Int32))])) _
                            refine XS.istoreN X0.here hx rfl (hb hby d3_116) rfl (l' := #[.val (.int p0), .val (.int (1 : Int32))]) rfl ?_
                            show Steps p.tables e below (s₁.setTop (mkF m 117 #[.val (.int p0), .val (.int (1 : Int32))] [])) _
                            refine XS.iloadN X0.here hx rfl (hb hby d3_117) rfl ?_
                            exact k)
                        obtain ⟨fs, hr, hrun, hended, hW, hsame⟩ := X0.leave (v := (some (.int (1 : Int32)))) (fun h => by rw [Bd.returns] at h; cases h)
                        refine ⟨_, _, k27 _ ?_, hrun, hended, _, _, rfl, ?_, ⟨_, rfl⟩, hW, hsame.mono (by decide) (by decide)⟩
                        · exact retN X0 hx (t := .boolean) Bd.returns (by simp) (hb hby d3_118) hr
                        · show Q3 Z p0 h0 n0 _ s₁.heap _
                          rw [e0]
                          exact ⟨congrArg (fun z => some (Value.int z)) (own_bI_t (by unfold own_Sp; simp only [Int32.lt_iff_toInt_lt, ← Int32.toInt_inj, Int32.reduceToInt] at hc4 hc38 hc45 hc52 hc59 hc66 hc80 hc87 hc94 hc101 hc108; omega)).symm, N0, rfl⟩
                      · have k28 : ∀ t, Steps p.tables e below (s₁.setTop (mkF m 118 #[.val (.int p0), .val (.int (0 : Int32))] [(.int (0 : Int32))])) t → Steps p.tables e below (s₁.setTop (entryFrame m #[(.int p0)] 2)) t := fun t k => k26 t (by
                            show Steps p.tables e below (s₁.setTop (mkF m 108 #[.val (.int p0), .unset] [(.int (12288 : Int32)), (.int p0)])) _
                            refine XS.icmpYes X0.here hx rfl (pc0 := 108) (pc' := 115) rfl (hb hby d3_108) rfl (feq hc108).2 (by decide) (by decide) ?_
                            show Steps p.tables e below (s₁.setTop (mkF m 115 #[.val (.int p0), .unset] [])) _
                            refine XS.iconst X0.here hx rfl (hb hby d3_115) ?_
                            show Steps p.tables e below (s₁.setTop (mkF m 116 #[.val (.int p0), .unset] [(.int (0 : Int32))])) _
                            refine XS.istoreN X0.here hx rfl (hb hby d3_116) rfl (l' := #[.val (.int p0), .val (.int (0 : Int32))]) rfl ?_
                            show Steps p.tables e below (s₁.setTop (mkF m 117 #[.val (.int p0), .val (.int (0 : Int32))] [])) _
                            refine XS.iloadN X0.here hx rfl (hb hby d3_117) rfl ?_
                            exact k)
                        obtain ⟨fs, hr, hrun, hended, hW, hsame⟩ := X0.leave (v := (some (.int (0 : Int32)))) (fun h => by rw [Bd.returns] at h; cases h)
                        refine ⟨_, _, k28 _ ?_, hrun, hended, _, _, rfl, ?_, ⟨_, rfl⟩, hW, hsame.mono (by decide) (by decide)⟩
                        · exact retN X0 hx (t := .boolean) Bd.returns (by simp) (hb hby d3_118) hr
                        · show Q3 Z p0 h0 n0 _ s₁.heap _
                          rw [e0]
                          exact ⟨congrArg (fun z => some (Value.int z)) (own_bI_f (by unfold own_Sp; simp only [Int32.lt_iff_toInt_lt, ← Int32.toInt_inj, Int32.reduceToInt] at hc4 hc38 hc45 hc52 hc59 hc66 hc80 hc87 hc94 hc101 hc108; omega)).symm, N0, rfl⟩
            · have k29 : ∀ t, Steps p.tables e below (s₁.setTop (mkF m 73 #[.val (.int p0), .unset] [(.int (8202 : Int32)), (.int p0)])) t → Steps p.tables e below (s₁.setTop (entryFrame m #[(.int p0)] 2)) t := fun t k => k17 t (by
                  show Steps p.tables e below (s₁.setTop (mkF m 66 #[.val (.int p0), .unset] [(.int (8192 : Int32)), (.int p0)])) _
                  refine XS.icmpNo X0.here hx rfl (hb hby d3_66) rfl (flt hc66).1 ?_
                  show Steps p.tables e below (s₁.setTop (mkF m 69 #[.val (.int p0), .unset] [])) _
                  refine XS.iloadN X0.here hx rfl (hb hby d3_69) rfl ?_
                  show Steps p.tables e below (s₁.setTop (mkF m 70 #[.val (.int p0), .unset] [(.int p0)])) _
                  refine XS.sipush X0.here hx rfl (hb hby d3_70) ?_
                  exact k)
              by_cases hc73 : (8202 : Int32) < p0
              · have k30 : ∀ t, Steps p.tables e below (s₁.setTop (mkF m 80 #[.val (.int p0), .unset] [(.int (8232 : Int32)), (.int p0)])) t → Steps p.tables e below (s₁.setTop (entryFrame m #[(.int p0)] 2)) t := fun t k => k29 t (by
                    show Steps p.tables e below (s₁.setTop (mkF m 73 #[.val (.int p0), .unset] [(.int (8202 : Int32)), (.int p0)])) _
                    refine XS.icmpNo X0.here hx rfl (hb hby d3_73) rfl (tlt hc73).2.2.2 ?_
                    show Steps p.tables e below (s₁.setTop (mkF m 76 #[.val (.int p0), .unset] [])) _
                    refine XS.iloadN X0.here hx rfl (hb hby d3_76) rfl ?_
                    show Steps p.tables e below (s₁.setTop (mkF m 77 #[.val (.int p0), .unset] [(.int p0)])) _
                    refine XS.sipush X0.here hx rfl (hb hby d3_77) ?_
                    exact k)
                by_cases hc80 : p0 = (8232 : Int32)
                · have k31 : ∀ t, Steps p.tables e below (s₁.setTop (mkF m 118 #[.val (.int p0), .val (.int (1 : Int32))] [(.int (1 : Int32))])) t → Steps p.tables e below (s₁.setTop (entryFrame m #[(.int p0)] 2)) t := fun t k => k30 t (by
                      show Steps p.tables e below (s₁.setTop (mkF m 80 #[.val (.int p0), .unset] [(.int (8232 : Int32)), (.int p0)])) _
                      refine XS.icmpYes X0.here hx rfl (pc0 := 80) (pc' := 111) rfl (hb hby d3_80) rfl (teq hc80).1 (by decide) (by decide) ?_
                      show Steps p.tables e below (s₁.setTop (mkF m 111 #[.val (.int p0), .unset] [])) _
                      refine XS.iconst X0.here hx rfl (hb hby d3_111) ?_
                      show Steps p.tables e below (s₁.setTop (mkF m 112 #[.val (.int p0), .unset] [(.int (1 : Int32))])) _
                      refine XS.goto X0.here hx rfl (pc0 := 112) (pc' := 116) rfl (hb hby d3_112) (by decide) (by decide) ?_
                      show Steps p.tables e below (s₁.setTop (mkF m 116 #[.val (.int p0), .unset] [(.int (1 : Int32))])) _
                      refine XS.istoreN X0.here hx rfl (hb hby d3_116) rfl (l' := #[.val (.int p0), .val (.int (1 : Int32))]) rfl ?_
                      show Steps p.tables e below (s₁.setTop (mkF m 117 #[.val (.int p0), .val (.int (1 : Int32))] [])) _
                      refine XS.iloadN X0.here hx rfl (hb hby d3_117) rfl ?_
                      exact k)
                  obtain ⟨fs, hr, hrun, hended, hW, hsame⟩ := X0.leave (v := (some (.int (1 : Int32)))) (fun h => by rw [Bd.returns] at h; cases h)
                  refine ⟨_, _, k31 _ ?_, hrun, hended, _, _, rfl, ?_, ⟨_, rfl⟩, hW, hsame.mono (by decide) (by decide)⟩
                  · exact retN X0 hx (t := .boolean) Bd.returns (by simp) (hb hby d3_118) hr
                  · show Q3 Z p0 h0 n0 _ s₁.heap _
                    rw [e0]
                    exact ⟨congrArg (fun z => some (Value.int z)) (own_bI_t (by unfold own_Sp; simp only [Int32.lt_iff_toInt_lt, ← Int32.toInt_inj, Int32.reduceToInt] at hc4 hc38 hc45 hc52 hc59 hc66 hc73 hc80; omega)).symm, N0, rfl⟩
                · have k32 : ∀ t, Steps p.tables e below (s₁.setTop (mkF m 87 #[.val (.int p0), .unset] [(.int (8233 : Int32)), (.int p0)])) t → Steps p.tables e below (s₁.setTop (entryFrame m #[(.int p0)] 2)) t := fun t k => k30 t (by
                      show Steps p.tables e below (s₁.setTop (mkF m 80 #[.val (.int p0), .unset] [(.int (8232 : Int32)), (.int p0)])) _
                      refine XS.icmpNo X0.here hx rfl (hb hby d3_80) rfl (feq hc80).1 ?_
                      show Steps p.tables e below (s₁.setTop (mkF m 83 #[.val (.int p0), .unset] [])) _
                      refine XS.iloadN X0.here hx rfl (hb hby d3_83) rfl ?_
                      show Steps p.tables e below (s₁.setTop (mkF m 84 #[.val (.int p0), .unset] [(.int p0)])) _
                      refine XS.sipush X0.here hx rfl (hb hby d3_84) ?_
                      exact k)
                  by_cases hc87 : p0 = (8233 : Int32)
                  · have k33 : ∀ t, Steps p.tables e below (s₁.setTop (mkF m 118 #[.val (.int p0), .val (.int (1 : Int32))] [(.int (1 : Int32))])) t → Steps p.tables e below (s₁.setTop (entryFrame m #[(.int p0)] 2)) t := fun t k => k32 t (by
                        show Steps p.tables e below (s₁.setTop (mkF m 87 #[.val (.int p0), .unset] [(.int (8233 : Int32)), (.int p0)])) _
                        refine XS.icmpYes X0.here hx rfl (pc0 := 87) (pc' := 111) rfl (hb hby d3_87) rfl (teq hc87).1 (by decide) (by decide) ?_
                        show Steps p.tables e below (s₁.setTop (mkF m 111 #[.val (.int p0), .unset] [])) _
                        refine XS.iconst X0.here hx rfl (hb hby d3_111) ?_
                        show Steps p.tables e below (s₁.setTop (mkF m 112 #[.val (.int p0), .unset] [(.int (1 : Int32))])) _
                        refine XS.goto X0.here hx rfl (pc0 := 112) (pc' := 116) rfl (hb hby d3_112) (by decide) (by decide) ?_
                        show Steps p.tables e below (s₁.setTop (mkF m 116 #[.val (.int p0), .unset] [(.int (1 : Int32))])) _
                        refine XS.istoreN X0.here hx rfl (hb hby d3_116) rfl (l' := #[.val (.int p0), .val (.int (1 : Int32))]) rfl ?_
                        show Steps p.tables e below (s₁.setTop (mkF m 117 #[.val (.int p0), .val (.int (1 : Int32))] [])) _
                        refine XS.iloadN X0.here hx rfl (hb hby d3_117) rfl ?_
                        exact k)
                    obtain ⟨fs, hr, hrun, hended, hW, hsame⟩ := X0.leave (v := (some (.int (1 : Int32)))) (fun h => by rw [Bd.returns] at h; cases h)
                    refine ⟨_, _, k33 _ ?_, hrun, hended, _, _, rfl, ?_, ⟨_, rfl⟩, hW, hsame.mono (by decide) (by decide)⟩
                    · exact retN X0 hx (t := .boolean) Bd.returns (by simp) (hb hby d3_118) hr
                    · show Q3 Z p0 h0 n0 _ s₁.heap _
                      rw [e0]
                      exact ⟨congrArg (fun z => some (Value.int z)) (own_bI_t (by unfold own_Sp; simp only [Int32.lt_iff_toInt_lt, ← Int32.toInt_inj, Int32.reduceToInt] at hc4 hc38 hc45 hc52 hc59 hc66 hc73 hc80 hc87; omega)).symm, N0, rfl⟩
                  · have k34 : ∀ t, Steps p.tables e below (s₁.setTop (mkF m 94 #[.val (.int p0), .unset] [(.int (8239 : Int32)), (.int p0)])) t → Steps p.tables e below (s₁.setTop (entryFrame m #[(.int p0)] 2)) t := fun t k => k32 t (by
                        show Steps p.tables e below (s₁.setTop (mkF m 87 #[.val (.int p0), .unset] [(.int (8233 : Int32)), (.int p0)])) _
                        refine XS.icmpNo X0.here hx rfl (hb hby d3_87) rfl (feq hc87).1 ?_
                        show Steps p.tables e below (s₁.setTop (mkF m 90 #[.val (.int p0), .unset] [])) _
                        refine XS.iloadN X0.here hx rfl (hb hby d3_90) rfl ?_
                        show Steps p.tables e below (s₁.setTop (mkF m 91 #[.val (.int p0), .unset] [(.int p0)])) _
                        refine XS.sipush X0.here hx rfl (hb hby d3_91) ?_
                        exact k)
                    by_cases hc94 : p0 = (8239 : Int32)
                    · have k35 : ∀ t, Steps p.tables e below (s₁.setTop (mkF m 118 #[.val (.int p0), .val (.int (1 : Int32))] [(.int (1 : Int32))])) t → Steps p.tables e below (s₁.setTop (entryFrame m #[(.int p0)] 2)) t := fun t k => k34 t (by
                          show Steps p.tables e below (s₁.setTop (mkF m 94 #[.val (.int p0), .unset] [(.int (8239 : Int32)), (.int p0)])) _
                          refine XS.icmpYes X0.here hx rfl (pc0 := 94) (pc' := 111) rfl (hb hby d3_94) rfl (teq hc94).1 (by decide) (by decide) ?_
                          show Steps p.tables e below (s₁.setTop (mkF m 111 #[.val (.int p0), .unset] [])) _
                          refine XS.iconst X0.here hx rfl (hb hby d3_111) ?_
                          show Steps p.tables e below (s₁.setTop (mkF m 112 #[.val (.int p0), .unset] [(.int (1 : Int32))])) _
                          refine XS.goto X0.here hx rfl (pc0 := 112) (pc' := 116) rfl (hb hby d3_112) (by decide) (by decide) ?_
                          show Steps p.tables e below (s₁.setTop (mkF m 116 #[.val (.int p0), .unset] [(.int (1 : Int32))])) _
                          refine XS.istoreN X0.here hx rfl (hb hby d3_116) rfl (l' := #[.val (.int p0), .val (.int (1 : Int32))]) rfl ?_
                          show Steps p.tables e below (s₁.setTop (mkF m 117 #[.val (.int p0), .val (.int (1 : Int32))] [])) _
                          refine XS.iloadN X0.here hx rfl (hb hby d3_117) rfl ?_
                          exact k)
                      obtain ⟨fs, hr, hrun, hended, hW, hsame⟩ := X0.leave (v := (some (.int (1 : Int32)))) (fun h => by rw [Bd.returns] at h; cases h)
                      refine ⟨_, _, k35 _ ?_, hrun, hended, _, _, rfl, ?_, ⟨_, rfl⟩, hW, hsame.mono (by decide) (by decide)⟩
                      · exact retN X0 hx (t := .boolean) Bd.returns (by simp) (hb hby d3_118) hr
                      · show Q3 Z p0 h0 n0 _ s₁.heap _
                        rw [e0]
                        exact ⟨congrArg (fun z => some (Value.int z)) (own_bI_t (by unfold own_Sp; simp only [Int32.lt_iff_toInt_lt, ← Int32.toInt_inj, Int32.reduceToInt] at hc4 hc38 hc45 hc52 hc59 hc66 hc73 hc80 hc87 hc94; omega)).symm, N0, rfl⟩
                    · have k36 : ∀ t, Steps p.tables e below (s₁.setTop (mkF m 101 #[.val (.int p0), .unset] [(.int (8287 : Int32)), (.int p0)])) t → Steps p.tables e below (s₁.setTop (entryFrame m #[(.int p0)] 2)) t := fun t k => k34 t (by
                          show Steps p.tables e below (s₁.setTop (mkF m 94 #[.val (.int p0), .unset] [(.int (8239 : Int32)), (.int p0)])) _
                          refine XS.icmpNo X0.here hx rfl (hb hby d3_94) rfl (feq hc94).1 ?_
                          show Steps p.tables e below (s₁.setTop (mkF m 97 #[.val (.int p0), .unset] [])) _
                          refine XS.iloadN X0.here hx rfl (hb hby d3_97) rfl ?_
                          show Steps p.tables e below (s₁.setTop (mkF m 98 #[.val (.int p0), .unset] [(.int p0)])) _
                          refine XS.sipush X0.here hx rfl (hb hby d3_98) ?_
                          exact k)
                      by_cases hc101 : p0 = (8287 : Int32)
                      · have k37 : ∀ t, Steps p.tables e below (s₁.setTop (mkF m 118 #[.val (.int p0), .val (.int (1 : Int32))] [(.int (1 : Int32))])) t → Steps p.tables e below (s₁.setTop (entryFrame m #[(.int p0)] 2)) t := fun t k => k36 t (by
                            show Steps p.tables e below (s₁.setTop (mkF m 101 #[.val (.int p0), .unset] [(.int (8287 : Int32)), (.int p0)])) _
                            refine XS.icmpYes X0.here hx rfl (pc0 := 101) (pc' := 111) rfl (hb hby d3_101) rfl (teq hc101).1 (by decide) (by decide) ?_
                            show Steps p.tables e below (s₁.setTop (mkF m 111 #[.val (.int p0), .unset] [])) _
                            refine XS.iconst X0.here hx rfl (hb hby d3_111) ?_
                            show Steps p.tables e below (s₁.setTop (mkF m 112 #[.val (.int p0), .unset] [(.int (1 : Int32))])) _
                            refine XS.goto X0.here hx rfl (pc0 := 112) (pc' := 116) rfl (hb hby d3_112) (by decide) (by decide) ?_
                            show Steps p.tables e below (s₁.setTop (mkF m 116 #[.val (.int p0), .unset] [(.int (1 : Int32))])) _
                            refine XS.istoreN X0.here hx rfl (hb hby d3_116) rfl (l' := #[.val (.int p0), .val (.int (1 : Int32))]) rfl ?_
                            show Steps p.tables e below (s₁.setTop (mkF m 117 #[.val (.int p0), .val (.int (1 : Int32))] [])) _
                            refine XS.iloadN X0.here hx rfl (hb hby d3_117) rfl ?_
                            exact k)
                        obtain ⟨fs, hr, hrun, hended, hW, hsame⟩ := X0.leave (v := (some (.int (1 : Int32)))) (fun h => by rw [Bd.returns] at h; cases h)
                        refine ⟨_, _, k37 _ ?_, hrun, hended, _, _, rfl, ?_, ⟨_, rfl⟩, hW, hsame.mono (by decide) (by decide)⟩
                        · exact retN X0 hx (t := .boolean) Bd.returns (by simp) (hb hby d3_118) hr
                        · show Q3 Z p0 h0 n0 _ s₁.heap _
                          rw [e0]
                          exact ⟨congrArg (fun z => some (Value.int z)) (own_bI_t (by unfold own_Sp; simp only [Int32.lt_iff_toInt_lt, ← Int32.toInt_inj, Int32.reduceToInt] at hc4 hc38 hc45 hc52 hc59 hc66 hc73 hc80 hc87 hc94 hc101; omega)).symm, N0, rfl⟩
                      · have k38 : ∀ t, Steps p.tables e below (s₁.setTop (mkF m 108 #[.val (.int p0), .unset] [(.int (12288 : Int32)), (.int p0)])) t → Steps p.tables e below (s₁.setTop (entryFrame m #[(.int p0)] 2)) t := fun t k => k36 t (by
                            show Steps p.tables e below (s₁.setTop (mkF m 101 #[.val (.int p0), .unset] [(.int (8287 : Int32)), (.int p0)])) _
                            refine XS.icmpNo X0.here hx rfl (hb hby d3_101) rfl (feq hc101).1 ?_
                            show Steps p.tables e below (s₁.setTop (mkF m 104 #[.val (.int p0), .unset] [])) _
                            refine XS.iloadN X0.here hx rfl (hb hby d3_104) rfl ?_
                            show Steps p.tables e below (s₁.setTop (mkF m 105 #[.val (.int p0), .unset] [(.int p0)])) _
                            refine XS.sipush X0.here hx rfl (hb hby d3_105) ?_
                            exact k)
                        by_cases hc108 : p0 = (12288 : Int32)
                        · have k39 : ∀ t, Steps p.tables e below (s₁.setTop (mkF m 118 #[.val (.int p0), .val (.int (1 : Int32))] [(.int (1 : Int32))])) t → Steps p.tables e below (s₁.setTop (entryFrame m #[(.int p0)] 2)) t := fun t k => k38 t (by
                              show Steps p.tables e below (s₁.setTop (mkF m 108 #[.val (.int p0), .unset] [(.int (12288 : Int32)), (.int p0)])) _
                              refine XS.icmpNo X0.here hx rfl (hb hby d3_108) rfl (teq hc108).2 ?_
                              show Steps p.tables e below (s₁.setTop (mkF m 111 #[.val (.int p0), .unset] [])) _
                              refine XS.iconst X0.here hx rfl (hb hby d3_111) ?_
                              show Steps p.tables e below (s₁.setTop (mkF m 112 #[.val (.int p0), .unset] [(.int (1 : Int32))])) _
                              refine XS.goto X0.here hx rfl (pc0 := 112) (pc' := 116) rfl (hb hby d3_112) (by decide) (by decide) ?_
                              show Steps p.tables e below (s₁.setTop (mkF m 116 #[.val (.int p0), .unset] [(.int (1 : Int32))])) _
                              refine XS.istoreN X0.here hx rfl (hb hby d3_116) rfl (l' := #[.val (.int p0), .val (.int (1 : Int32))]) rfl ?_
                              show Steps p.tables e below (s₁.setTop (mkF m 117 #[.val (.int p0), .val (.int (1 : Int32))] [])) _
                              refine XS.iloadN X0.here hx rfl (hb hby d3_117) rfl ?_
                              exact k)
                          obtain ⟨fs, hr, hrun, hended, hW, hsame⟩ := X0.leave (v := (some (.int (1 : Int32)))) (fun h => by rw [Bd.returns] at h; cases h)
                          refine ⟨_, _, k39 _ ?_, hrun, hended, _, _, rfl, ?_, ⟨_, rfl⟩, hW, hsame.mono (by decide) (by decide)⟩
                          · exact retN X0 hx (t := .boolean) Bd.returns (by simp) (hb hby d3_118) hr
                          · show Q3 Z p0 h0 n0 _ s₁.heap _
                            rw [e0]
                            exact ⟨congrArg (fun z => some (Value.int z)) (own_bI_t (by unfold own_Sp; simp only [Int32.lt_iff_toInt_lt, ← Int32.toInt_inj, Int32.reduceToInt] at hc4 hc38 hc45 hc52 hc59 hc66 hc73 hc80 hc87 hc94 hc101 hc108; omega)).symm, N0, rfl⟩
                        · have k40 : ∀ t, Steps p.tables e below (s₁.setTop (mkF m 118 #[.val (.int p0), .val (.int (0 : Int32))] [(.int (0 : Int32))])) t → Steps p.tables e below (s₁.setTop (entryFrame m #[(.int p0)] 2)) t := fun t k => k38 t (by
                              show Steps p.tables e below (s₁.setTop (mkF m 108 #[.val (.int p0), .unset] [(.int (12288 : Int32)), (.int p0)])) _
                              refine XS.icmpYes X0.here hx rfl (pc0 := 108) (pc' := 115) rfl (hb hby d3_108) rfl (feq hc108).2 (by decide) (by decide) ?_
                              show Steps p.tables e below (s₁.setTop (mkF m 115 #[.val (.int p0), .unset] [])) _
                              refine XS.iconst X0.here hx rfl (hb hby d3_115) ?_
                              show Steps p.tables e below (s₁.setTop (mkF m 116 #[.val (.int p0), .unset] [(.int (0 : Int32))])) _
                              refine XS.istoreN X0.here hx rfl (hb hby d3_116) rfl (l' := #[.val (.int p0), .val (.int (0 : Int32))]) rfl ?_
                              show Steps p.tables e below (s₁.setTop (mkF m 117 #[.val (.int p0), .val (.int (0 : Int32))] [])) _
                              refine XS.iloadN X0.here hx rfl (hb hby d3_117) rfl ?_
                              exact k)
                          obtain ⟨fs, hr, hrun, hended, hW, hsame⟩ := X0.leave (v := (some (.int (0 : Int32)))) (fun h => by rw [Bd.returns] at h; cases h)
                          refine ⟨_, _, k40 _ ?_, hrun, hended, _, _, rfl, ?_, ⟨_, rfl⟩, hW, hsame.mono (by decide) (by decide)⟩
                          · exact retN X0 hx (t := .boolean) Bd.returns (by simp) (hb hby d3_118) hr
                          · show Q3 Z p0 h0 n0 _ s₁.heap _
                            rw [e0]
                            exact ⟨congrArg (fun z => some (Value.int z)) (own_bI_f (by unfold own_Sp; simp only [Int32.lt_iff_toInt_lt, ← Int32.toInt_inj, Int32.reduceToInt] at hc4 hc38 hc45 hc52 hc59 hc66 hc73 hc80 hc87 hc94 hc101 hc108; omega)).symm, N0, rfl⟩
              · have k41 : ∀ t, Steps p.tables e below (s₁.setTop (mkF m 118 #[.val (.int p0), .val (.int (1 : Int32))] [(.int (1 : Int32))])) t → Steps p.tables e below (s₁.setTop (entryFrame m #[(.int p0)] 2)) t := fun t k => k29 t (by
                    show Steps p.tables e below (s₁.setTop (mkF m 73 #[.val (.int p0), .unset] [(.int (8202 : Int32)), (.int p0)])) _
                    refine XS.icmpYes X0.here hx rfl (pc0 := 73) (pc' := 111) rfl (hb hby d3_73) rfl (flt hc73).2.2.2 (by decide) (by decide) ?_
                    show Steps p.tables e below (s₁.setTop (mkF m 111 #[.val (.int p0), .unset] [])) _
                    refine XS.iconst X0.here hx rfl (hb hby d3_111) ?_
                    show Steps p.tables e below (s₁.setTop (mkF m 112 #[.val (.int p0), .unset] [(.int (1 : Int32))])) _
                    refine XS.goto X0.here hx rfl (pc0 := 112) (pc' := 116) rfl (hb hby d3_112) (by decide) (by decide) ?_
                    show Steps p.tables e below (s₁.setTop (mkF m 116 #[.val (.int p0), .unset] [(.int (1 : Int32))])) _
                    refine XS.istoreN X0.here hx rfl (hb hby d3_116) rfl (l' := #[.val (.int p0), .val (.int (1 : Int32))]) rfl ?_
                    show Steps p.tables e below (s₁.setTop (mkF m 117 #[.val (.int p0), .val (.int (1 : Int32))] [])) _
                    refine XS.iloadN X0.here hx rfl (hb hby d3_117) rfl ?_
                    exact k)
                obtain ⟨fs, hr, hrun, hended, hW, hsame⟩ := X0.leave (v := (some (.int (1 : Int32)))) (fun h => by rw [Bd.returns] at h; cases h)
                refine ⟨_, _, k41 _ ?_, hrun, hended, _, _, rfl, ?_, ⟨_, rfl⟩, hW, hsame.mono (by decide) (by decide)⟩
                · exact retN X0 hx (t := .boolean) Bd.returns (by simp) (hb hby d3_118) hr
                · show Q3 Z p0 h0 n0 _ s₁.heap _
                  rw [e0]
                  exact ⟨congrArg (fun z => some (Value.int z)) (own_bI_t (by unfold own_Sp; simp only [Int32.lt_iff_toInt_lt, ← Int32.toInt_inj, Int32.reduceToInt] at hc4 hc38 hc45 hc52 hc59 hc66 hc73; omega)).symm, N0, rfl⟩
theorem ef_0 (m : MethodId) (p0 : Int32) : entryFrame m #[(.int p0)] maxLocals = mkF m 0 #[.val (.int p0), .unset, .unset, .unset] [] := by first | (simp [entryFrame, mkF, argsToLocals, Value.category, maxLocals]; done) | rfl
theorem pd_0 : parseMethodDescriptor "(I)Z" = some ⟨[.int], some .boolean⟩ := by decide +kernel
theorem pd_1 : parseMethodDescriptor "(C)Z" = some ⟨[.char], some .boolean⟩ := by decide +kernel
def Q0 (Z : State) (p0 : Int32) (h0 : Heap) (n0 : Nat) (v : Option Value) (h : Heap) (L : List Loc) : Prop := v = some (.int (1 : Int32)) ∧ Fr n0 L
set_option maxRecDepth 65536 in
set_option maxHeartbeats 40000000 in
theorem rm0 (l : Launch) (Z : State) (a0 : Array Value) (hw : ∀ d ∈ tables_1, d.before a0 Z = true) (ws : List Jvm.Cond) (p0 : Int32) (h0 : Heap) (n0 : Nat) (Z0 : n0 ≤ h0.size) :
    MetFree l x (head1 (Jvm.Cond.code x code maxLocals ret :: ws) room_1) (fun a U => a = #[(.int p0)] ∧ Z.Warmed39 U.vm ∧ U.heap = h0) (fun _ _ _ _ _ => True) (fun _ U o U' => ∃ v L, o = .returned v ∧ Q0 Z p0 h0 n0 v U'.heap L ∧ FrameEnd U o U' L 0 0) := by
  refine MetFree.of_bodySF (plainFor_of_name pn_0) hisR ?_
  intro p e s m args below meth c s₁ Bd hml0 hP hK
  obtain ⟨rfl, hZ, hh⟩ := hP
  have hx := Bd.exec
  have hby := Bd.bytes
  have hml : c.maxLocals = 4 := hml0
  have hown : s.vm.findClass "com/example/covenantry/covenantry/WordsIsSpacePinLaw" = some m.cls := findClass_of_methodNamed Bd.named
  have hnm := (name_of_methodNamed Bd.named Bd.method).1
  have X0 : Stand p l e room_1 s m #[(.int p0)] below meth c s₁ [] 0 0 := Stand.of_body Bd
  have e0 : s₁.heap = h0 := by rw [← hh, Bd.state]; rfl
  have N0 := Fr.nil n0
  have k0 : ∀ t, Steps p.tables e below (s₁.setTop (mkF m 0 #[.val (.int p0), .unset, .unset, .unset] [])) t → Steps p.tables e below (s₁.setTop (entryFrame m #[(.int p0)] maxLocals)) t := fun t k => castTop (ef_0 m p0) k
  have k1 : ∀ t, Steps p.tables e below (s₁.setTop (mkF m 9 #[.val (.int p0), .val (.int (own_cod p0)), .val (.int (own_chr p0)), .unset] [(.int (own_cod p0))])) t → Steps p.tables e below (s₁.setTop (entryFrame m #[(.int p0)] maxLocals)) t := fun t k => k0 t (by
      show Steps p.tables e below (s₁.setTop (mkF m 0 #[.val (.int p0), .unset, .unset, .unset] [])) _
      refine XS.iloadN X0.here hx rfl (hb hby at_0) rfl ?_
      show Steps p.tables e below (s₁.setTop (mkF m 1 #[.val (.int p0), .unset, .unset, .unset] [(.int p0)])) _
      refine X0.ldcInt hx hown (mvT hZ (hw _ (List.mem_of_getElem? (i := 0) rfl))) (g := (mkF m 1 #[.val (.int p0), .unset, .unset, .unset] [(.int p0)])) rfl (hb hby at_1) _ ?_
      show Steps p.tables e below (s₁.setTop (mkF m 3 #[.val (.int p0), .unset, .unset, .unset] [(.int (65535 : Int32)), (.int p0)])) _
      refine XS.iand X0.here hx rfl (hb hby at_3) rfl ?_
      show Steps p.tables e below (s₁.setTop (mkF m 4 #[.val (.int p0), .unset, .unset, .unset] [(.int (own_cod p0))])) _
      refine XS.istoreN X0.here hx rfl (hb hby at_4) rfl (l' := #[.val (.int p0), .val (.int (own_cod p0)), .unset, .unset]) rfl ?_
      show Steps p.tables e below (s₁.setTop (mkF m 5 #[.val (.int p0), .val (.int (own_cod p0)), .unset, .unset] [])) _
      refine XS.iloadN X0.here hx rfl (hb hby at_5) rfl ?_
      show Steps p.tables e below (s₁.setTop (mkF m 6 #[.val (.int p0), .val (.int (own_cod p0)), .unset, .unset] [(.int (own_cod p0))])) _
      refine XS.i2c X0.here hx rfl (hb hby at_6) rfl ?_
      show Steps p.tables e below (s₁.setTop (mkF m 7 #[.val (.int p0), .val (.int (own_cod p0)), .unset, .unset] [(.int (own_chr p0))])) _
      refine XS.istoreN X0.here hx rfl (hb hby at_7) rfl (l' := #[.val (.int p0), .val (.int (own_cod p0)), .val (.int (own_chr p0)), .unset]) rfl ?_
      show Steps p.tables e below (s₁.setTop (mkF m 8 #[.val (.int p0), .val (.int (own_cod p0)), .val (.int (own_chr p0)), .unset] [])) _
      refine XS.iloadN X0.here hx rfl (hb hby at_8) rfl ?_
      exact k)
  obtain ⟨_, _, ⟨T2, L2, kq2, n2⟩, -, X2, ⟨Lc2, hQ2, l2, y2, z2⟩, st2⟩ := Jvm.LawKit.callS X0 hx (y := (⟨"com/example/covenantry/covenantry/WordsIsSpacePinLaw", "horizontal", "(I)Z"⟩ : MethodName)) hown (mvT hZ (hw _ (List.mem_of_getElem? (i := 1) rfl))) (mvT hZ (hw _ (List.mem_of_getElem? (i := 2) rfl))) (mvT hZ (hw _ (List.mem_of_getElem? (i := 3) rfl))) (mvT hZ (hw _ (List.mem_of_getElem? (i := 4) rfl))) (by decide) (backOf (W := 0) (rm1 l Z a0 hw [] (own_cod p0) h0 n0 Z0) hZ (hw _ (List.mem_of_getElem? (i := 4) rfl)) (hw _ (List.mem_of_getElem? (i := 3) rfl)) (by decide) (by decide)) (g := (mkF m 9 #[.val (.int p0), .val (.int (own_cod p0)), .val (.int (own_chr p0)), .unset] [(.int (own_cod p0))])) rfl (by rw [hml]; rfl) (argsL := [(.int (own_cod p0))]) (rest := []) (lenOf pd_0 rfl) rfl (by show 2 * 0 + _ ≤ _; exact Nat.le_of_eq rfl) (hb hby at_9) (fun _ _ => ⟨rfl, e0, (by decide : 0 + 0 ≤ _), (by decide : 0 + 0 ≤ _)⟩)
  dsimp only [Pt.U, Pt.locs, Pt.cells, Pt.slots] at X2 l2 y2 z2 st2 hQ2
  subst l2 y2 z2
  obtain ⟨rfl, N2q, e2⟩ := hQ2
  have N2 := Fr.app N0 N2q
  have k3 : ∀ t, Steps p.tables e below (T2.setTop (mkF m 12 #[.val (.int p0), .val (.int (own_cod p0)), .val (.int (own_chr p0)), .unset] [(.int (own_bI (own_Hz (own_cod p0).toInt)))])) t → Steps p.tables e below (s₁.setTop (entryFrame m #[(.int p0)] maxLocals)) t := fun t k => k1 t (st2 _ k)
  by_cases hc12 : (own_bI (own_Hz (own_cod p0).toInt)) = (0 : Int32)
  · have k4 : ∀ t, Steps p.tables e below (T2.setTop (mkF m 16 #[.val (.int p0), .val (.int (own_cod p0)), .val (.int (own_chr p0)), .unset] [(.int (own_cod p0))])) t → Steps p.tables e below (s₁.setTop (entryFrame m #[(.int p0)] maxLocals)) t := fun t k => k3 t (by
        show Steps p.tables e below (T2.setTop (mkF m 12 #[.val (.int p0), .val (.int (own_cod p0)), .val (.int (own_chr p0)), .unset] [(.int (own_bI (own_Hz (own_cod p0).toInt)))])) _
        refine XS.ifNo X2.here hx rfl (hb hby at_12) rfl ((if0 _ _).trans (teq hc12).2) ?_
        show Steps p.tables e below (T2.setTop (mkF m 15 #[.val (.int p0), .val (.int (own_cod p0)), .val (.int (own_chr p0)), .unset] [])) _
        refine XS.iloadN X2.here hx rfl (hb hby at_15) rfl ?_
        exact k)
    obtain ⟨_, _, ⟨T5, L5, kq5, n5⟩, -, X5, ⟨Lc5, hQ5, l5, y5, z5⟩, st5⟩ := Jvm.LawKit.callS X2 hx (y := (⟨"com/example/covenantry/covenantry/WordsIsSpacePinLaw", "vertical", "(I)Z"⟩ : MethodName)) hown (mvT hZ (hw _ (List.mem_of_getElem? (i := 5) rfl))) (mvT hZ (hw _ (List.mem_of_getElem? (i := 6) rfl))) (mvT hZ (hw _ (List.mem_of_getElem? (i := 3) rfl))) (mvT hZ (hw _ (List.mem_of_getElem? (i := 7) rfl))) (by decide) (backOf (W := 0) (rm2 l Z a0 hw [] (own_cod p0) h0 n0 Z0) hZ (hw _ (List.mem_of_getElem? (i := 7) rfl)) (hw _ (List.mem_of_getElem? (i := 3) rfl)) (by decide) (by decide)) (g := (mkF m 16 #[.val (.int p0), .val (.int (own_cod p0)), .val (.int (own_chr p0)), .unset] [(.int (own_cod p0))])) rfl (by rw [hml]; rfl) (argsL := [(.int (own_cod p0))]) (rest := []) (lenOf pd_0 rfl) rfl (by show 2 * 0 + _ ≤ _; exact Nat.le_of_eq rfl) (hb hby at_16) (fun _ _ => ⟨rfl, e2, (by decide : 0 + 0 ≤ _), (by decide : 0 + 0 ≤ _)⟩)
    dsimp only [Pt.U, Pt.locs, Pt.cells, Pt.slots] at X5 l5 y5 z5 st5 hQ5
    subst l5 y5 z5
    obtain ⟨rfl, N5q, e5⟩ := hQ5
    have N5 := Fr.app N2 N5q
    have k6 : ∀ t, Steps p.tables e below (T5.setTop (mkF m 19 #[.val (.int p0), .val (.int (own_cod p0)), .val (.int (own_chr p0)), .unset] [(.int (own_bI (own_Vt (own_cod p0).toInt)))])) t → Steps p.tables e below (s₁.setTop (entryFrame m #[(.int p0)] maxLocals)) t := fun t k => k4 t (st5 _ k)
    by_cases hc19 : (own_bI (own_Vt (own_cod p0).toInt)) = (0 : Int32)
    · have k7 : ∀ t, Steps p.tables e below (T5.setTop (mkF m 29 #[.val (.int p0), .val (.int (own_cod p0)), .val (.int (own_chr p0)), .val (.int (0 : Int32))] [(.int (own_chr p0))])) t → Steps p.tables e below (s₁.setTop (entryFrame m #[(.int p0)] maxLocals)) t := fun t k => k6 t (by
          show Steps p.tables e below (T5.setTop (mkF m 19 #[.val (.int p0), .val (.int (own_cod p0)), .val (.int (own_chr p0)), .unset] [(.int (own_bI (own_Vt (own_cod p0).toInt)))])) _
          refine XS.ifYes X5.here hx rfl (pc0 := 19) (pc' := 26) rfl (hb hby at_19) rfl ((if0 _ _).trans (teq hc19).1) (by decide) (by decide) ?_
          show Steps p.tables e below (T5.setTop (mkF m 26 #[.val (.int p0), .val (.int (own_cod p0)), .val (.int (own_chr p0)), .unset] [])) _
          refine XS.iconst X5.here hx rfl (hb hby at_26) ?_
          show Steps p.tables e below (T5.setTop (mkF m 27 #[.val (.int p0), .val (.int (own_cod p0)), .val (.int (own_chr p0)), .unset] [(.int (0 : Int32))])) _
          refine XS.istoreN X5.here hx rfl (hb hby at_27) rfl (l' := #[.val (.int p0), .val (.int (own_cod p0)), .val (.int (own_chr p0)), .val (.int (0 : Int32))]) rfl ?_
          show Steps p.tables e below (T5.setTop (mkF m 28 #[.val (.int p0), .val (.int (own_cod p0)), .val (.int (own_chr p0)), .val (.int (0 : Int32))] [])) _
          refine XS.iloadN X5.here hx rfl (hb hby at_28) rfl ?_
          exact k)
      obtain ⟨_, _, ⟨T8, L8, kq8, n8⟩, -, X8, ⟨Lc8, hQ8, l8, y8, z8⟩, st8⟩ := Jvm.LawKit.callS X5 hx (y := (⟨"com/example/covenantry/covenantry/Words", "isSpace", "(C)Z"⟩ : MethodName)) hown (mvT hZ (hw _ (List.mem_of_getElem? (i := 8) rfl))) (mvT hZ (hw _ (List.mem_of_getElem? (i := 9) rfl))) (mvT hZ (hw _ (List.mem_of_getElem? (i := 10) rfl))) (mvT hZ (hw _ (List.mem_of_getElem? (i := 11) rfl))) (by decide) (backOf (W := 0) (rm3 l Z a0 hw [] (own_chr p0) h0 n0 Z0) hZ (hw _ (List.mem_of_getElem? (i := 11) rfl)) (hw _ (List.mem_of_getElem? (i := 10) rfl)) (by decide) (by decide)) (g := (mkF m 29 #[.val (.int p0), .val (.int (own_cod p0)), .val (.int (own_chr p0)), .val (.int (0 : Int32))] [(.int (own_chr p0))])) rfl (by rw [hml]; rfl) (argsL := [(.int (own_chr p0))]) (rest := []) (lenOf pd_1 rfl) rfl (by show 2 * 0 + _ ≤ _; exact Nat.le_of_eq rfl) (hb hby at_29) (fun _ _ => ⟨rfl, e5, (by decide : 0 + 0 ≤ _), (by decide : 0 + 0 ≤ _)⟩)
      dsimp only [Pt.U, Pt.locs, Pt.cells, Pt.slots] at X8 l8 y8 z8 st8 hQ8
      subst l8 y8 z8
      obtain ⟨rfl, N8q, e8⟩ := hQ8
      have N8 := Fr.app N5 N8q
      have k9 : ∀ t, Steps p.tables e below (T8.setTop (mkF m 32 #[.val (.int p0), .val (.int (own_cod p0)), .val (.int (own_chr p0)), .val (.int (0 : Int32))] [(.int (own_bI (own_Sp (own_chr p0).toInt)))])) t → Steps p.tables e below (s₁.setTop (entryFrame m #[(.int p0)] maxLocals)) t := fun t k => k7 t (st8 _ k)
      have hc33 : (own_bI (own_Sp (own_chr p0).toInt)) = (0 : Int32) := own_bI_f (by rw [own_chr_r]; exact fun q => ((own_join _).mp q).elim (own_bI_eq0.mp hc12) (own_bI_eq0.mp hc19))
      have k10 : ∀ t, Steps p.tables e below (T8.setTop (mkF m 41 #[.val (.int p0), .val (.int (own_cod p0)), .val (.int (own_chr p0)), .val (.int (0 : Int32))] [(.int (1 : Int32))])) t → Steps p.tables e below (s₁.setTop (entryFrame m #[(.int p0)] maxLocals)) t := fun t k => k9 t (by
          show Steps p.tables e below (T8.setTop (mkF m 32 #[.val (.int p0), .val (.int (own_cod p0)), .val (.int (own_chr p0)), .val (.int (0 : Int32))] [(.int (own_bI (own_Sp (own_chr p0).toInt)))])) _
          refine XS.iloadN X8.here hx rfl (hb hby at_32) rfl ?_
          show Steps p.tables e below (T8.setTop (mkF m 33 #[.val (.int p0), .val (.int (own_cod p0)), .val (.int (own_chr p0)), .val (.int (0 : Int32))] [(.int (0 : Int32)), (.int (own_bI (own_Sp (own_chr p0).toInt)))])) _
          refine XS.icmpNo X8.here hx rfl (hb hby at_33) rfl (teq hc33).2 ?_
          show Steps p.tables e below (T8.setTop (mkF m 36 #[.val (.int p0), .val (.int (own_cod p0)), .val (.int (own_chr p0)), .val (.int (0 : Int32))] [])) _
          refine XS.iconst X8.here hx rfl (hb hby at_36) ?_
          show Steps p.tables e below (T8.setTop (mkF m 37 #[.val (.int p0), .val (.int (own_cod p0)), .val (.int (own_chr p0)), .val (.int (0 : Int32))] [(.int (1 : Int32))])) _
          refine XS.goto X8.here hx rfl (pc0 := 37) (pc' := 41) rfl (hb hby at_37) (by decide) (by decide) ?_
          exact k)
      obtain ⟨fs, hr, hrun, hended, hW, hsame⟩ := X8.leave (v := (some (.int (1 : Int32)))) (fun h => by rw [Bd.returns] at h; cases h)
      refine ⟨_, _, k10 _ ?_, hrun, hended, _, _, rfl, ?_, ⟨_, rfl⟩, hW, hsame.mono (by decide) (by decide)⟩
      · exact retN X8 hx (t := .boolean) Bd.returns (by simp) (hb hby at_41) hr
      · show Q0 Z p0 h0 n0 _ T8.heap _
        rw [e8]
        exact ⟨rfl, N8⟩
    · have k11 : ∀ t, Steps p.tables e below (T5.setTop (mkF m 29 #[.val (.int p0), .val (.int (own_cod p0)), .val (.int (own_chr p0)), .val (.int (1 : Int32))] [(.int (own_chr p0))])) t → Steps p.tables e below (s₁.setTop (entryFrame m #[(.int p0)] maxLocals)) t := fun t k => k6 t (by
          show Steps p.tables e below (T5.setTop (mkF m 19 #[.val (.int p0), .val (.int (own_cod p0)), .val (.int (own_chr p0)), .unset] [(.int (own_bI (own_Vt (own_cod p0).toInt)))])) _
          refine XS.ifNo X5.here hx rfl (hb hby at_19) rfl ((if0 _ _).trans (feq hc19).1) ?_
          show Steps p.tables e below (T5.setTop (mkF m 22 #[.val (.int p0), .val (.int (own_cod p0)), .val (.int (own_chr p0)), .unset] [])) _
          refine XS.iconst X5.here hx rfl (hb hby at_22) ?_
          show Steps p.tables e below (T5.setTop (mkF m 23 #[.val (.int p0), .val (.int (own_cod p0)), .val (.int (own_chr p0)), .unset] [(.int (1 : Int32))])) _
          refine XS.goto X5.here hx rfl (pc0 := 23) (pc' := 27) rfl (hb hby at_23) (by decide) (by decide) ?_
          show Steps p.tables e below (T5.setTop (mkF m 27 #[.val (.int p0), .val (.int (own_cod p0)), .val (.int (own_chr p0)), .unset] [(.int (1 : Int32))])) _
          refine XS.istoreN X5.here hx rfl (hb hby at_27) rfl (l' := #[.val (.int p0), .val (.int (own_cod p0)), .val (.int (own_chr p0)), .val (.int (1 : Int32))]) rfl ?_
          show Steps p.tables e below (T5.setTop (mkF m 28 #[.val (.int p0), .val (.int (own_cod p0)), .val (.int (own_chr p0)), .val (.int (1 : Int32))] [])) _
          refine XS.iloadN X5.here hx rfl (hb hby at_28) rfl ?_
          exact k)
      obtain ⟨_, _, ⟨T12, L12, kq12, n12⟩, -, X12, ⟨Lc12, hQ12, l12, y12, z12⟩, st12⟩ := Jvm.LawKit.callS X5 hx (y := (⟨"com/example/covenantry/covenantry/Words", "isSpace", "(C)Z"⟩ : MethodName)) hown (mvT hZ (hw _ (List.mem_of_getElem? (i := 8) rfl))) (mvT hZ (hw _ (List.mem_of_getElem? (i := 9) rfl))) (mvT hZ (hw _ (List.mem_of_getElem? (i := 10) rfl))) (mvT hZ (hw _ (List.mem_of_getElem? (i := 11) rfl))) (by decide) (backOf (W := 0) (rm3 l Z a0 hw [] (own_chr p0) h0 n0 Z0) hZ (hw _ (List.mem_of_getElem? (i := 11) rfl)) (hw _ (List.mem_of_getElem? (i := 10) rfl)) (by decide) (by decide)) (g := (mkF m 29 #[.val (.int p0), .val (.int (own_cod p0)), .val (.int (own_chr p0)), .val (.int (1 : Int32))] [(.int (own_chr p0))])) rfl (by rw [hml]; rfl) (argsL := [(.int (own_chr p0))]) (rest := []) (lenOf pd_1 rfl) rfl (by show 2 * 0 + _ ≤ _; exact Nat.le_of_eq rfl) (hb hby at_29) (fun _ _ => ⟨rfl, e5, (by decide : 0 + 0 ≤ _), (by decide : 0 + 0 ≤ _)⟩)
      dsimp only [Pt.U, Pt.locs, Pt.cells, Pt.slots] at X12 l12 y12 z12 st12 hQ12
      subst l12 y12 z12
      obtain ⟨rfl, N12q, e12⟩ := hQ12
      have N12 := Fr.app N5 N12q
      have k13 : ∀ t, Steps p.tables e below (T12.setTop (mkF m 32 #[.val (.int p0), .val (.int (own_cod p0)), .val (.int (own_chr p0)), .val (.int (1 : Int32))] [(.int (own_bI (own_Sp (own_chr p0).toInt)))])) t → Steps p.tables e below (s₁.setTop (entryFrame m #[(.int p0)] maxLocals)) t := fun t k => k11 t (st12 _ k)
      have hc33 : (own_bI (own_Sp (own_chr p0).toInt)) = (1 : Int32) := own_bI_t (by rw [own_chr_r]; exact (own_join _).mpr (Or.inr (Classical.not_not.mp (mt own_bI_eq0.mpr hc19))))
      have k14 : ∀ t, Steps p.tables e below (T12.setTop (mkF m 41 #[.val (.int p0), .val (.int (own_cod p0)), .val (.int (own_chr p0)), .val (.int (1 : Int32))] [(.int (1 : Int32))])) t → Steps p.tables e below (s₁.setTop (entryFrame m #[(.int p0)] maxLocals)) t := fun t k => k13 t (by
          show Steps p.tables e below (T12.setTop (mkF m 32 #[.val (.int p0), .val (.int (own_cod p0)), .val (.int (own_chr p0)), .val (.int (1 : Int32))] [(.int (own_bI (own_Sp (own_chr p0).toInt)))])) _
          refine XS.iloadN X12.here hx rfl (hb hby at_32) rfl ?_
          show Steps p.tables e below (T12.setTop (mkF m 33 #[.val (.int p0), .val (.int (own_cod p0)), .val (.int (own_chr p0)), .val (.int (1 : Int32))] [(.int (1 : Int32)), (.int (own_bI (own_Sp (own_chr p0).toInt)))])) _
          refine XS.icmpNo X12.here hx rfl (hb hby at_33) rfl (teq hc33).2 ?_
          show Steps p.tables e below (T12.setTop (mkF m 36 #[.val (.int p0), .val (.int (own_cod p0)), .val (.int (own_chr p0)), .val (.int (1 : Int32))] [])) _
          refine XS.iconst X12.here hx rfl (hb hby at_36) ?_
          show Steps p.tables e below (T12.setTop (mkF m 37 #[.val (.int p0), .val (.int (own_cod p0)), .val (.int (own_chr p0)), .val (.int (1 : Int32))] [(.int (1 : Int32))])) _
          refine XS.goto X12.here hx rfl (pc0 := 37) (pc' := 41) rfl (hb hby at_37) (by decide) (by decide) ?_
          exact k)
      obtain ⟨fs, hr, hrun, hended, hW, hsame⟩ := X12.leave (v := (some (.int (1 : Int32)))) (fun h => by rw [Bd.returns] at h; cases h)
      refine ⟨_, _, k14 _ ?_, hrun, hended, _, _, rfl, ?_, ⟨_, rfl⟩, hW, hsame.mono (by decide) (by decide)⟩
      · exact retN X12 hx (t := .boolean) Bd.returns (by simp) (hb hby at_41) hr
      · show Q0 Z p0 h0 n0 _ T12.heap _
        rw [e12]
        exact ⟨rfl, N12⟩
  · have k15 : ∀ t, Steps p.tables e below (T2.setTop (mkF m 29 #[.val (.int p0), .val (.int (own_cod p0)), .val (.int (own_chr p0)), .val (.int (1 : Int32))] [(.int (own_chr p0))])) t → Steps p.tables e below (s₁.setTop (entryFrame m #[(.int p0)] maxLocals)) t := fun t k => k3 t (by
        show Steps p.tables e below (T2.setTop (mkF m 12 #[.val (.int p0), .val (.int (own_cod p0)), .val (.int (own_chr p0)), .unset] [(.int (own_bI (own_Hz (own_cod p0).toInt)))])) _
        refine XS.ifYes X2.here hx rfl (pc0 := 12) (pc' := 22) rfl (hb hby at_12) rfl ((if0 _ _).trans (feq hc12).2) (by decide) (by decide) ?_
        show Steps p.tables e below (T2.setTop (mkF m 22 #[.val (.int p0), .val (.int (own_cod p0)), .val (.int (own_chr p0)), .unset] [])) _
        refine XS.iconst X2.here hx rfl (hb hby at_22) ?_
        show Steps p.tables e below (T2.setTop (mkF m 23 #[.val (.int p0), .val (.int (own_cod p0)), .val (.int (own_chr p0)), .unset] [(.int (1 : Int32))])) _
        refine XS.goto X2.here hx rfl (pc0 := 23) (pc' := 27) rfl (hb hby at_23) (by decide) (by decide) ?_
        show Steps p.tables e below (T2.setTop (mkF m 27 #[.val (.int p0), .val (.int (own_cod p0)), .val (.int (own_chr p0)), .unset] [(.int (1 : Int32))])) _
        refine XS.istoreN X2.here hx rfl (hb hby at_27) rfl (l' := #[.val (.int p0), .val (.int (own_cod p0)), .val (.int (own_chr p0)), .val (.int (1 : Int32))]) rfl ?_
        show Steps p.tables e below (T2.setTop (mkF m 28 #[.val (.int p0), .val (.int (own_cod p0)), .val (.int (own_chr p0)), .val (.int (1 : Int32))] [])) _
        refine XS.iloadN X2.here hx rfl (hb hby at_28) rfl ?_
        exact k)
    obtain ⟨_, _, ⟨T16, L16, kq16, n16⟩, -, X16, ⟨Lc16, hQ16, l16, y16, z16⟩, st16⟩ := Jvm.LawKit.callS X2 hx (y := (⟨"com/example/covenantry/covenantry/Words", "isSpace", "(C)Z"⟩ : MethodName)) hown (mvT hZ (hw _ (List.mem_of_getElem? (i := 8) rfl))) (mvT hZ (hw _ (List.mem_of_getElem? (i := 9) rfl))) (mvT hZ (hw _ (List.mem_of_getElem? (i := 10) rfl))) (mvT hZ (hw _ (List.mem_of_getElem? (i := 11) rfl))) (by decide) (backOf (W := 0) (rm3 l Z a0 hw [] (own_chr p0) h0 n0 Z0) hZ (hw _ (List.mem_of_getElem? (i := 11) rfl)) (hw _ (List.mem_of_getElem? (i := 10) rfl)) (by decide) (by decide)) (g := (mkF m 29 #[.val (.int p0), .val (.int (own_cod p0)), .val (.int (own_chr p0)), .val (.int (1 : Int32))] [(.int (own_chr p0))])) rfl (by rw [hml]; rfl) (argsL := [(.int (own_chr p0))]) (rest := []) (lenOf pd_1 rfl) rfl (by show 2 * 0 + _ ≤ _; exact Nat.le_of_eq rfl) (hb hby at_29) (fun _ _ => ⟨rfl, e2, (by decide : 0 + 0 ≤ _), (by decide : 0 + 0 ≤ _)⟩)
    dsimp only [Pt.U, Pt.locs, Pt.cells, Pt.slots] at X16 l16 y16 z16 st16 hQ16
    subst l16 y16 z16
    obtain ⟨rfl, N16q, e16⟩ := hQ16
    have N16 := Fr.app N2 N16q
    have k17 : ∀ t, Steps p.tables e below (T16.setTop (mkF m 32 #[.val (.int p0), .val (.int (own_cod p0)), .val (.int (own_chr p0)), .val (.int (1 : Int32))] [(.int (own_bI (own_Sp (own_chr p0).toInt)))])) t → Steps p.tables e below (s₁.setTop (entryFrame m #[(.int p0)] maxLocals)) t := fun t k => k15 t (st16 _ k)
    have hc33 : (own_bI (own_Sp (own_chr p0).toInt)) = (1 : Int32) := own_bI_t (by rw [own_chr_r]; exact (own_join _).mpr (Or.inl (Classical.not_not.mp (mt own_bI_eq0.mpr hc12))))
    have k18 : ∀ t, Steps p.tables e below (T16.setTop (mkF m 41 #[.val (.int p0), .val (.int (own_cod p0)), .val (.int (own_chr p0)), .val (.int (1 : Int32))] [(.int (1 : Int32))])) t → Steps p.tables e below (s₁.setTop (entryFrame m #[(.int p0)] maxLocals)) t := fun t k => k17 t (by
        show Steps p.tables e below (T16.setTop (mkF m 32 #[.val (.int p0), .val (.int (own_cod p0)), .val (.int (own_chr p0)), .val (.int (1 : Int32))] [(.int (own_bI (own_Sp (own_chr p0).toInt)))])) _
        refine XS.iloadN X16.here hx rfl (hb hby at_32) rfl ?_
        show Steps p.tables e below (T16.setTop (mkF m 33 #[.val (.int p0), .val (.int (own_cod p0)), .val (.int (own_chr p0)), .val (.int (1 : Int32))] [(.int (1 : Int32)), (.int (own_bI (own_Sp (own_chr p0).toInt)))])) _
        refine XS.icmpNo X16.here hx rfl (hb hby at_33) rfl (teq hc33).2 ?_
        show Steps p.tables e below (T16.setTop (mkF m 36 #[.val (.int p0), .val (.int (own_cod p0)), .val (.int (own_chr p0)), .val (.int (1 : Int32))] [])) _
        refine XS.iconst X16.here hx rfl (hb hby at_36) ?_
        show Steps p.tables e below (T16.setTop (mkF m 37 #[.val (.int p0), .val (.int (own_cod p0)), .val (.int (own_chr p0)), .val (.int (1 : Int32))] [(.int (1 : Int32))])) _
        refine XS.goto X16.here hx rfl (pc0 := 37) (pc' := 41) rfl (hb hby at_37) (by decide) (by decide) ?_
        exact k)
    obtain ⟨fs, hr, hrun, hended, hW, hsame⟩ := X16.leave (v := (some (.int (1 : Int32)))) (fun h => by rw [Bd.returns] at h; cases h)
    refine ⟨_, _, k18 _ ?_, hrun, hended, _, _, rfl, ?_, ⟨_, rfl⟩, hW, hsame.mono (by decide) (by decide)⟩
    · exact retN X16 hx (t := .boolean) Bd.returns (by simp) (hb hby at_41) hr
    · show Q0 Z p0 h0 n0 _ T16.heap _
      rw [e16]
      exact ⟨rfl, N16⟩
set_option maxRecDepth 65536 in
set_option maxHeartbeats 40000000 in
theorem comes_1 {Post : Tables → Env → Array Value → State → Outcome → State → Prop} (hpost : ∀ tb e args s v u, (limb_1_1.after args s (.returned v) u = true ∧ limb_1_2.after args s (.returned v) u = true ∧ True) → FrameEnd s (.returned v) u (Jvm.fieldLocs frame_1_writes args s ++ Jvm.arrayLocs frame_1_arrays args s ++ Jvm.staticLocs frame_1_statics s) 0 0 → Post tb e args s (.returned v) u) :
    ArmFor flags0 classFile x code maxLocals ret World_1 tables_1 room_1 Calls_1 rest_1 Pre_1 Post := by
  intro l hfl _ _ p e ha hc hk s m args below hf hA hF happ hP
  obtain ⟨hcalls, hrest, hpre⟩ := hP
  obtain ⟨-, -, -, hnamed, -, -, -, hat⟩ := (Spec.applies_iff hf).mp happ
  obtain ⟨hg, hn⟩ := and_e (Cond.before_iff.mp (show (Jvm.Cond.and given_1 narrow_1).before args s = true from hpre))
  obtain ⟨hcount, hgs⟩ := and_e hg
  obtain ⟨w0, rfl⟩ : ∃ w0 : Value, args = #[w0] := by
    have hs : args.size = 1 := by simpa [Cond.value, given_1] using hcount
    obtain ⟨L⟩ := args
    match L, hs with
    | [w0], _ => exact ⟨w0, rfl⟩
  have hw := fun d (hd : d ∈ tables_1) => atoms_spec (ws := Jvm.Cond.code x code maxLocals ret :: tables_1) hat d (List.mem_cons_of_mem _ hd)
  obtain ⟨i0, ei0⟩ := is_v hgs
  obtain rfl : w0 = (.int i0) := Option.some.inj ei0
  obtain ⟨n, o, h1, h2, h3, _, L, rfl, ⟨rfl, N⟩, hq⟩ := rm0 l s _ hw tables_1 i0 s.heap s.heap.size (Nat.le_refl _) p e ha hc hk s m _ below hf ((Spec.applies_iff_loose hf).mp happ).1 ⟨rfl, State.Warmed39.refl s, rfl⟩ trivial
  refine ⟨n, _, h1, h2, h3, hpost _ _ _ _ _ _ ⟨Cond.after_iff.mpr rfl, Cond.after_iff.mpr (eq_i res_at (Term.int_eval (1)) rfl), trivial⟩ ⟨hq.1, hq.2.1, (hq.2.2.sift fun y hy => Or.inr (N y hy)).mono (by decide) (by decide)⟩⟩
theorem main_1_1 : Claimed_1_1 := comes_1 fun _ _ _ _ _ _ h hF => ⟨h.1, hF⟩
theorem main_1_2 : Claimed_1_2 := comes_1 fun _ _ _ _ _ _ h hF => ⟨h.2.1, hF⟩
end Jvm.Pilot.@@N@@
namespace Jvm.Pilot.@@N@@
open Jvm Jvm.ClassFile Sem Op Lib Jvm.Free Jvm.Stand Jvm.Pilot.@@N@@.Jvm.D
/-! MADE BY PROGRAM (witnessworld.py) out of the Statement's table words and the real class files: 9 classes; the members and pool entries that the words name. The judged class is class 1, her method 3. -/
namespace start1
open Jvm.ClassFile
def u (s : String) : CpInfo := .utf8 (stringToUtf16 s)
/-- a pool by its gaps: so many unusable entries, then the entry; so many at the end -/
def gap : Nat → List CpInfo → List CpInfo
  | 0, r => r
  | n + 1, r => .unusable :: gap n r
def poolList (es : List (Nat × CpInfo)) (last : Nat) : List CpInfo := es.foldr (fun e r => gap e.1 (e.2 :: r)) (gap last [])
def pool (es : List (Nat × CpInfo)) (last : Nat) : Array CpInfo := ⟨poolList es last⟩
def fileOf (pool : Array CpInfo) (this : Nat) (attrs : Array Attribute := #[]) (ms : Array MethodInfo := #[]) (fl : Nat := 33) (sup : Nat := 0) (ifs : Array Nat := #[]) (fds : Array FieldInfo := #[]) : ClassFile where
  minorVersion := 0
  majorVersion := 65
  constantPool := pool
  accessFlags := fl
  thisClass := this
  superClass := sup
  interfaces := ifs
  fields := fds
  methods := ms
  attributes := attrs
def plain (name : String) (sup : Option ClassId) : Class where
  name := name
  kind := .ordinary
  loader := none
  accessFlags := 33
  super := sup
  interfaces := #[]
  cf := none
  fields := #[]
  methods := #[]
  instanceTypes := #[]
  staticTypes := #[]
  resolved := #[]
  callSites := []
  init := .initialized
  statics := none
  mirror := none

def pool0 : Array CpInfo := pool [(5, u "<init>"), (0, u "()V"), (1, .class_ 10), (1, u "java/lang/Object")] 113

def k0m0 : Method := { name := "<init>", desc := "()V", sig := { parameters := [], returnType := none }, accessFlags := 1, code := none }
/-- java/lang/Object -/
def k0 : Class := { plain "java/lang/Object" none with
  accessFlags := 33
  interfaces := #[]
  cf := some (fileOf pool0 8 #[] #[{ accessFlags := 1, nameIndex := 5, descriptorIndex := 6, attributes := #[] }] 33 0 #[] #[])
  fields := #[]
  methods := #[k0m0]
  instanceTypes := #[]
  staticTypes := #[]
  resolved := Array.replicate 124 none
  statics := none }

def pool1 : Array CpInfo := pool [(2, .class_ 4), (1, u "java/lang/Object"), (0, u "<init>"), (0, u "()V"), (0, .integer 65535), (0, .methodref 9 10), (0, .class_ 11), (0, .nameAndType 12 13), (0, u "com/example/covenantry/covenantry/WordsIsSpacePinLaw"), (0, u "horizontal"), (0, u "(I)Z"), (0, .methodref 9 15), (0, .nameAndType 16 13), (0, u "vertical"), (0, .methodref 18 19), (0, .class_ 20), (0, .nameAndType 21 22), (0, u "com/example/covenantry/covenantry/Words"), (0, u "isSpace"), (0, u "(C)Z"), (3, u "law")] 2

def k1m0 : Method := { name := "<init>", desc := "()V", sig := { parameters := [], returnType := none }, accessFlags := 2, code := none }
def k1c1 : Code := { maxStack := 2, maxLocals := 1, code := method_2_code, exceptionTable := #[], attributes := #[] }
def k1m1 : Method := { name := "horizontal", desc := "(I)Z", sig := { parameters := [.int], returnType := some .boolean }, accessFlags := 10, code := some k1c1 }
def k1c2 : Code := { maxStack := 2, maxLocals := 1, code := method_3_code, exceptionTable := #[], attributes := #[] }
def k1m2 : Method := { name := "vertical", desc := "(I)Z", sig := { parameters := [.int], returnType := some .boolean }, accessFlags := 10, code := some k1c2 }
def k1c3 : Code := { maxStack := 2, maxLocals := 4, code := code, exceptionTable := #[], attributes := #[] }
def k1m3 : Method := { name := "law", desc := "(I)Z", sig := { parameters := [.int], returnType := some .boolean }, accessFlags := 9, code := some k1c3 }
/-- com/example/covenantry/covenantry/WordsIsSpacePinLaw -/
def k1 : Class := { plain "com/example/covenantry/covenantry/WordsIsSpacePinLaw" (some 0) with
  accessFlags := 49
  interfaces := #[]
  cf := some (fileOf pool1 9 #[] #[{ accessFlags := 2, nameIndex := 5, descriptorIndex := 6, attributes := #[] }, { accessFlags := 10, nameIndex := 12, descriptorIndex := 13, attributes := #[] }, { accessFlags := 10, nameIndex := 16, descriptorIndex := 13, attributes := #[] }, { accessFlags := 9, nameIndex := 26, descriptorIndex := 13, attributes := #[] }] 49 2 #[] #[])
  fields := #[]
  methods := #[k1m0, k1m1, k1m2, k1m3]
  instanceTypes := #[]
  staticTypes := #[]
  resolved := Array.replicate 29 none
  statics := none }

def pool2 : Array CpInfo := pool [(1, .class_ 2), (0, u "com/example/covenantry/covenantry/Words"), (5, .class_ 10), (1, u "java/lang/Object"), (6, u "words"), (0, u "Ljava/util/List;"), (2, u "lines"), (0, u "[I"), (2, u "starts"), (2, u "text"), (0, u "Lcom/example/covenantry/covenantry/InputText;"), (2, u "pageMarks"), (0, u "Z"), (2, u "nextLine"), (0, u "I"), (2, u "PAGE_MARK"), (0, u "Ljava/util/regex/Pattern;"), (43, u "MARK"), (88, u "(C)Z"), (24, u "isSpace"), (43, u "PAGE_NUMBER"), (0, u "Ljava/lang/String;"), (3, u "PAGE_MARK_WORDS"), (0, u "PAGE_MARK_LINE"), (2, u "CLOSING_MARKS")] 23

def k2c0 : Code := { maxStack := 2, maxLocals := 2, code := prog_63_method_15_code, exceptionTable := #[], attributes := #[] }
def k2m0 : Method := { name := "isSpace", desc := "(C)Z", sig := { parameters := [.char], returnType := some .boolean }, accessFlags := 8, code := some k2c0 }
/-- com/example/covenantry/covenantry/Words -/
def k2 : Class := { plain "com/example/covenantry/covenantry/Words" (some 0) with
  accessFlags := 48
  interfaces := #[]
  cf := some (fileOf pool2 1 #[] #[{ accessFlags := 8, nameIndex := 199, descriptorIndex := 174, attributes := #[] }] 48 8 #[] #[{ accessFlags := 26, nameIndex := 243, descriptorIndex := 244, attributes := #[] }, { accessFlags := 26, nameIndex := 248, descriptorIndex := 244, attributes := #[] }, { accessFlags := 26, nameIndex := 40, descriptorIndex := 41, attributes := #[] }, { accessFlags := 24, nameIndex := 249, descriptorIndex := 244, attributes := #[] }, { accessFlags := 26, nameIndex := 85, descriptorIndex := 41, attributes := #[] }, { accessFlags := 24, nameIndex := 252, descriptorIndex := 244, attributes := #[] }, { accessFlags := 18, nameIndex := 28, descriptorIndex := 29, attributes := #[] }, { accessFlags := 18, nameIndex := 32, descriptorIndex := 33, attributes := #[] }, { accessFlags := 2, nameIndex := 36, descriptorIndex := 37, attributes := #[] }, { accessFlags := 18, nameIndex := 17, descriptorIndex := 18, attributes := #[] }, { accessFlags := 2, nameIndex := 21, descriptorIndex := 22, attributes := #[] }, { accessFlags := 2, nameIndex := 25, descriptorIndex := 22, attributes := #[] }])
  fields := #[{ name := "PAGE_NUMBER", type := (.object "java/lang/String"), accessFlags := 26, slot := 0, constantValue := 0 }, { name := "PAGE_MARK_WORDS", type := (.object "java/lang/String"), accessFlags := 26, slot := 1, constantValue := 0 }, { name := "PAGE_MARK", type := (.object "java/util/regex/Pattern"), accessFlags := 26, slot := 2, constantValue := 0 }, { name := "PAGE_MARK_LINE", type := (.object "java/lang/String"), accessFlags := 24, slot := 3, constantValue := 0 }, { name := "MARK", type := (.object "java/util/regex/Pattern"), accessFlags := 26, slot := 4, constantValue := 0 }, { name := "CLOSING_MARKS", type := (.object "java/lang/String"), accessFlags := 24, slot := 5, constantValue := 0 }, { name := "text", type := (.object "com/example/covenantry/covenantry/InputText"), accessFlags := 18, slot := 0, constantValue := 0 }, { name := "pageMarks", type := .boolean, accessFlags := 18, slot := 1, constantValue := 0 }, { name := "nextLine", type := .int, accessFlags := 2, slot := 2, constantValue := 0 }, { name := "words", type := (.object "java/util/List"), accessFlags := 18, slot := 3, constantValue := 0 }, { name := "lines", type := (.array .int), accessFlags := 2, slot := 4, constantValue := 0 }, { name := "starts", type := (.array .int), accessFlags := 2, slot := 5, constantValue := 0 }]
  methods := #[k2m0]
  instanceTypes := #[(.object "com/example/covenantry/covenantry/InputText"), .boolean, .int, (.object "java/util/List"), (.array .int), (.array .int)]
  staticTypes := #[(.object "java/lang/String"), (.object "java/lang/String"), (.object "java/util/regex/Pattern"), (.object "java/lang/String"), (.object "java/util/regex/Pattern"), (.object "java/lang/String")]
  resolved := Array.replicate 276 none
  statics := none }

def pool3 : Array CpInfo := pool [(1, u "java/lang/Cloneable"), (0, .class_ 1), (0, u "java/lang/Object"), (0, .class_ 3)] 3

/-- java/lang/Cloneable -/
def k3 : Class := { plain "java/lang/Cloneable" (some 0) with
  accessFlags := 1537
  interfaces := #[]
  cf := some (fileOf pool3 2 #[] #[] 1537 4 #[] #[])
  fields := #[]
  methods := #[]
  instanceTypes := #[]
  staticTypes := #[]
  resolved := Array.replicate 8 none
  statics := none }

def pool4 : Array CpInfo := pool [(1, u "java/io/Serializable"), (0, .class_ 1), (0, u "java/lang/Object"), (0, .class_ 3)] 3

/-- java/io/Serializable -/
def k4 : Class := { plain "java/io/Serializable" (some 0) with
  accessFlags := 1537
  interfaces := #[]
  cf := some (fileOf pool4 2 #[] #[] 1537 4 #[] #[])
  fields := #[]
  methods := #[]
  instanceTypes := #[]
  staticTypes := #[]
  resolved := Array.replicate 8 none
  statics := none }

/-- the primitive byte -/
def k5 : Class := { plain "byte" none with kind := .primitive 'B', accessFlags := 0x411 }
/-- [B -/
def k6 : Class := { plain "[B" (some 0) with kind := .array 5 .byte, interfaces := #[3, 4], accessFlags := 1041 }

/-- the primitive int -/
def k7 : Class := { plain "int" none with kind := .primitive 'I', accessFlags := 0x411 }
/-- [I -/
def k8 : Class := { plain "[I" (some 0) with kind := .array 7 .int, interfaces := #[3, 4], accessFlags := 1041 }

def heap : Heap := #[]
def classes : Array Class := #[k0, k1, k2, k3, k4, k5, k6, k7, k8]
def interned : List (Array UInt16 × Addr) := []
def slotsUsed : Nat := 0
def theMethod : MethodId := ⟨1, 3⟩
def args0 : Array Value := #[.int 32]
def aboutOver (below : List Frame) : State where
  vm := { classes := classes, interned := interned.toArray }
  heap := heap
  slotsUsed := slotsUsed
  threads := #[{ frames := .invoking theMethod args0 :: below }]
def below0 : List Frame := [.native { method := ⟨0, 0⟩, args := #[] }]
def about1 : State := aboutOver below0
def p0 : Program := .bare "" "" ""
def e0 : Env := launch0.env 0 0 0
theorem w_frames : about1.frames = Frame.invoking theMethod args0 :: below0 := rfl
set_option maxRecDepth 65536 in
theorem w_args : argsFit about1.vm theMethod args0 = true := by decide +kernel
set_option maxRecDepth 65536 in
theorem w_heap : heapFits about1 = true := by decide +kernel
set_option maxRecDepth 65536 in
theorem w_runnable : about1.curStatus? = some .runnable := by decide +kernel
set_option maxRecDepth 65536 in
theorem w_alone : about1.alone = true := by decide +kernel
set_option maxRecDepth 65536 in
theorem w_named : about1.methodNamed? x = some theMethod := by decide +kernel
set_option maxRecDepth 65536 in
theorem w_hears : about1.hears theMethod below0 = true := by decide +kernel
set_option maxRecDepth 65536 in
theorem w_ripe : about1.ripe theMethod args0 below0 = true := by decide +kernel
theorem w_running : about1.status = .running := rfl
set_option maxRecDepth 65536 in
theorem w_room : about1.hasRoom e0.platform room_1 = true :=
  launch0.hasRoom_least _ room_1 (by decide +kernel) (by decide +kernel) (by decide +kernel) (by decide +kernel) (by decide +kernel) (by decide +kernel)
theorem allAtoms_all (ts : List Jvm.Cond) (a : Array Jvm.Value) (st : Jvm.State) : (allAtoms ts).before a st = ts.all (fun c => c.before a st) := by
  induction ts with
  | nil => rfl
  | cons c t ih =>
    show (Jvm.Cond.and c (allAtoms t)).before a st = _
    rw [Jvm.Cond.before_and, ih, List.all_cons]
def words1 : List Jvm.Cond := Jvm.Cond.code x code maxLocals ret :: tables_1
/-- a 'code' word, met by the world's own term for the bytes: nothing is compared byte by byte -/
theorem code_word {y : MethodName} {bytes : ByteArray} {mx : Nat} {rt : Option FieldType} {a : Array Value} {s : State} {m : MethodId} {meth : Method} {c : Code} (h1 : s.methodNamed? y = some m) (h2 : s.vm.method? m = some meth) (h3 : meth.code = some c) (h4 : c.code = bytes)
    (h5 : (c.maxLocals == mx && c.exceptionTable.isEmpty && decide (c.maxStack ≤ mostOperands) && decide (meth.sig.returnType = rt) && !meth.locks && decide (parseMethodDescriptor y.desc = some meth.sig)) = true) : (Jvm.Cond.code y bytes mx rt).before a s = true := by
  simp only [Bool.and_eq_true, beq_iff_eq, Bool.not_eq_true', decide_eq_true_eq] at h5
  obtain ⟨⟨⟨⟨⟨g1, g2⟩, g3⟩, g4⟩, g5⟩, g6⟩ := h5
  simp [Cond.before, Cond.holds, Cond.value, h1, h2, h3, h4, g1, g2, g3, g4, g5, g6]
def isCode : Jvm.Cond → Bool
  | .code _ _ _ _ => true
  | _ => false
theorem all_split {L : List Jvm.Cond} {P : Jvm.Cond → Bool} (h1 : L.all (fun c => isCode c || P c) = true) (h2 : ∀ c ∈ L.filter isCode, P c = true) : L.all P = true := by
  refine List.all_eq_true.mpr fun c hc => ?_
  have h := List.all_eq_true.mp h1 c hc
  rcases Bool.eq_false_or_eq_true (isCode c) with hi | hi
  · exact h2 c (List.mem_filter.mpr ⟨hc, hi⟩)
  · simpa [hi] using h
set_option maxRecDepth 65536 in
theorem w_c0 : (Jvm.Cond.code x code maxLocals ret).before args0 about1 = true := code_word (m := ⟨1, 3⟩) (meth := k1m3) (c := k1c3) (by decide +kernel) rfl rfl rfl (by decide +kernel)
set_option maxRecDepth 65536 in
theorem w_c1 : (Jvm.Cond.code ({ cls := "com/example/covenantry/covenantry/WordsIsSpacePinLaw", name := "horizontal", desc := "(I)Z" } : Jvm.MethodName) method_2_code (1 : Nat) (Option.some Jvm.ClassFile.FieldType.boolean)).before args0 about1 = true := code_word (m := ⟨1, 1⟩) (meth := k1m1) (c := k1c1) (by decide +kernel) rfl rfl rfl (by decide +kernel)
set_option maxRecDepth 65536 in
theorem w_c2 : (Jvm.Cond.code ({ cls := "com/example/covenantry/covenantry/WordsIsSpacePinLaw", name := "vertical", desc := "(I)Z" } : Jvm.MethodName) method_3_code (1 : Nat) (Option.some Jvm.ClassFile.FieldType.boolean)).before args0 about1 = true := code_word (m := ⟨1, 2⟩) (meth := k1m2) (c := k1c2) (by decide +kernel) rfl rfl rfl (by decide +kernel)
set_option maxRecDepth 65536 in
theorem w_c3 : (Jvm.Cond.code ({ cls := "com/example/covenantry/covenantry/Words", name := "isSpace", desc := "(C)Z" } : Jvm.MethodName) prog_63_method_15_code (2 : Nat) (Option.some Jvm.ClassFile.FieldType.boolean)).before args0 about1 = true := code_word (m := ⟨2, 0⟩) (meth := k2m0) (c := k2c0) (by decide +kernel) rfl rfl rfl (by decide +kernel)
def codes1 : List Jvm.Cond := [Jvm.Cond.code x code maxLocals ret, Jvm.Cond.code ({ cls := "com/example/covenantry/covenantry/WordsIsSpacePinLaw", name := "horizontal", desc := "(I)Z" } : Jvm.MethodName) method_2_code (1 : Nat) (Option.some Jvm.ClassFile.FieldType.boolean), Jvm.Cond.code ({ cls := "com/example/covenantry/covenantry/WordsIsSpacePinLaw", name := "vertical", desc := "(I)Z" } : Jvm.MethodName) method_3_code (1 : Nat) (Option.some Jvm.ClassFile.FieldType.boolean), Jvm.Cond.code ({ cls := "com/example/covenantry/covenantry/Words", name := "isSpace", desc := "(C)Z" } : Jvm.MethodName) prog_63_method_15_code (2 : Nat) (Option.some Jvm.ClassFile.FieldType.boolean)]
set_option maxRecDepth 65536 in
theorem codes_eq : words1.filter isCode = codes1 := rfl
theorem w_codes : ∀ c ∈ words1.filter isCode, c.before args0 about1 = true := by
  rw [codes_eq]
  intro c hc
  simp only [codes1, List.mem_cons, List.not_mem_nil, or_false] at hc
  rcases hc with rfl | rfl | rfl | rfl
  · exact w_c0
  · exact w_c1
  · exact w_c2
  · exact w_c3
set_option maxRecDepth 65536 in
theorem w_t1 : words1.all (fun c => isCode c || c.before args0 about1) = true := by decide +kernel
theorem w_tables : (allAtoms (Jvm.Cond.code x code maxLocals ret :: tables_1)).before args0 about1 = true := by
  rw [allAtoms_all]
  show words1.all (fun c => c.before args0 about1) = true
  refine all_split ?_ w_codes
  rw [w_t1]
set_option maxRecDepth 65536 in
theorem w_case : (Jvm.Cond.and given_1 narrow_1).before args0 about1 = true := by decide +kernel
theorem w_applies : (headSpec (Jvm.Cond.code x code maxLocals ret :: tables_1) room_1).applies x e0.platform about1 = true :=
  (Spec.applies_iff w_frames).mpr ⟨w_running, w_runnable, w_alone, w_named, w_hears, w_ripe, w_room, w_tables⟩
theorem atStart : AtStart classFile x code maxLocals ret World_1 tables_1 room_1 Calls_1 rest_1 Pre_1 launch0 p0 e0 about1 theMethod args0 below0 :=
  ⟨lists_1, trivial, launch0.admits_env _ _ _, launch0.least_env, fairChoices_fair.cas, fairChoices_fair.clock, w_frames, w_args, w_heap, w_applies, trivial, trivial, w_case⟩
end start1
theorem witness_1 : WitnessClaimed_1 := ⟨start1.p0, start1.e0, start1.about1, start1.theMethod, start1.args0, start1.below0, start1.atStart⟩
end Jvm.Pilot.@@N@@
