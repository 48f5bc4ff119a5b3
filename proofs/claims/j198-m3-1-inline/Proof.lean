import JvmDerived
import JvmDerived.Pilot.@@N@@Statement
import JvmDerived.Pilot.@@N@@Code
set_option linter.unusedVariables false
set_option linter.unusedSimpArgs false
@@BLOCK:NumsL.lean.txt@@
/- laws to paste: Road.backV, Road.eqW, Road.codOf (cut by pick.py; bodies as the Statement names them) -/
namespace Jvm.Pilot.@@N@@
namespace StrChars
open Jvm Sem ClassFile Op Lib Jvm.Stand Jvm.Free.XT Jvm.Free.ALB Jvm.Free.JM Jvm.Free
open Jvm.Lib.Cold (StaticIs)
/-- a char array whose places are chars -/
def Ch (a : Addr) (A : Cell) (U : State) : Prop := Arr .char a A U ∧ Typed .char A
theorem Ch.mv {a : Addr} {A : Cell} {U U' : State} (h : Ch a A U) (hal : U.vm.Alike U'.vm) (hh : U'.heap = U.heap) : Ch a A U' := ⟨h.1.mv hal hh, h.2⟩
theorem Ch.keep {a : Addr} {A : Cell} {U U' : State} (h : Ch a A U) (hal : U.vm.Alike U'.vm) (hk : U'.heap[a]? = some A) : Ch a A U' := ⟨h.1.keep hal hk, h.2⟩
/-- what place i of a char[]'s cell holds -/
def cv (A : Cell) (i : Nat) : Int32 := match A.slots[i]? with | some (.int x) => x | _ => 0
theorem Ch.get {a : Addr} {A : Cell} {U : State} (h : Ch a A U) {i : Nat} (hi : i < A.slots.size) : A.slots[i]? = some (.int (cv A i)) := by
  have e := Array.getElem?_eq_getElem hi
  have f := h.2 i _ e
  unfold cv; rw [e]
  generalize A.slots[i] = v at f
  cases v <;> simp [fits] at f ⊢
/-- the byte that i2b leaves of a char -/
def lo8 (x : Int32) : Int32 := x.toInt8.toInt32
theorem fits_lo8 (y : Int32) : fits .byte (.int (lo8 y)) = true := by
  have h1 := y.toInt8.le_toInt
  have h2 := y.toInt8.toInt_lt
  simp only [lo8, fits, Bool.and_eq_true, decide_eq_true_eq, Int32.le_iff_toInt_le, Int8.toInt_toInt32, show (-128 : Int32).toInt = -128 from by decide, show (127 : Int32).toInt = 127 from by decide]
  omega
/-- A' is A but that each place j of lo .. hi - 1 holds f j -/
def Laid (A A' : Cell) (lo hi : Nat) (f : Nat → Value) : Prop := A'.cls = A.cls ∧ A'.vm = A.vm ∧ A'.slots.size = A.slots.size ∧ ∀ i, A'.slots[i]? = if lo ≤ i ∧ i < hi then some (f i) else A.slots[i]?
theorem Laid.zero (A : Cell) (lo : Nat) (f : Nat → Value) : Laid A A lo (lo + 0) f := ⟨rfl, rfl, rfl, fun i => by rw [if_neg (by omega)]⟩
theorem Laid.step {A Ak : Cell} {lo k : Nat} {f : Nat → Value} {v : Value} (h : Laid A Ak lo k f) (hlo : lo ≤ k) (hk : k < Ak.slots.size) (hv : v = f k) : Laid A (Ak.setSlot k v) lo (k + 1) f := by
  refine ⟨h.1, h.2.1, by simpa [Cell.setSlot] using h.2.2.1, fun i => ?_⟩
  by_cases e : k = i
  · subst e; rw [Cell.slots_setSlot_self v hk, if_pos (by omega), hv]
  · rw [Cell.slots_setSlot_ne v e, h.2.2.2 i]
    by_cases q : lo ≤ i ∧ i < k
    · rw [if_pos q, if_pos (by omega)]
    · rw [if_neg q, if_neg (by omega)]
def U16 : String := "java/lang/StringUTF16"
namespace Cmp5
def yN : MethodName := ⟨"java/lang/StringUTF16", "compress", "([CI[BII)I"⟩
abbrev yB : ByteArray := jdk_52_method_21_code
theorem d0 : decode yB 0 = .ok (.iconst 0, 1) := by decide +kernel
theorem d1 : decode yB 1 = .ok (.istore 5, 2) := by decide +kernel
theorem d3 : decode yB 3 = .ok (.iload 5, 2) := by decide +kernel
theorem d5 : decode yB 5 = .ok (.iload 4, 2) := by decide +kernel
theorem d7 : decode yB 7 = .ok (.if_icmp (.ge) 37, 3) := by decide +kernel
theorem d10 : decode yB 10 = .ok (.aload_n 0, 1) := by decide +kernel
theorem d11 : decode yB 11 = .ok (.iload_n 1, 1) := by decide +kernel
theorem d12 : decode yB 12 = .ok (.caload, 1) := by decide +kernel
theorem d13 : decode yB 13 = .ok (.istore 6, 2) := by decide +kernel
theorem d15 : decode yB 15 = .ok (.iload 6, 2) := by decide +kernel
theorem d17 : decode yB 17 = .ok (.sipush 255, 3) := by decide +kernel
theorem d20 : decode yB 20 = .ok (.if_icmp (.le) 6, 3) := by decide +kernel
theorem d26 : decode yB 26 = .ok (.aload_n 2, 1) := by decide +kernel
theorem d27 : decode yB 27 = .ok (.iload_n 3, 1) := by decide +kernel
theorem d28 : decode yB 28 = .ok (.iload 6, 2) := by decide +kernel
theorem d30 : decode yB 30 = .ok (.i2b, 1) := by decide +kernel
theorem d31 : decode yB 31 = .ok (.bastore, 1) := by decide +kernel
theorem d32 : decode yB 32 = .ok (.iinc 1 1, 3) := by decide +kernel
theorem d35 : decode yB 35 = .ok (.iinc 3 1, 3) := by decide +kernel
theorem d38 : decode yB 38 = .ok (.iinc 5 1, 3) := by decide +kernel
theorem d41 : decode yB 41 = .ok (.goto (-38), 3) := by decide +kernel
theorem d44 : decode yB 44 = .ok (.iload 4, 2) := by decide +kernel
theorem d46 : decode yB 46 = .ok (.ireturn, 1) := by decide +kernel
def site : List Cond := []
def tab : Cond := tabOf yN yB 7 (some .int) site
def P (b : Addr) (A : Cell) (d : Addr) (B : Cell) (o q len : Nat) (args : Array Value) (s : State) : Prop := args = #[.ref b, .int (Int32.ofNat o), .ref d, .int (Int32.ofNat q), .int (Int32.ofNat len)] ∧ Ch b A s ∧ Arr .byte d B s ∧ b ≠ d ∧ o + len ≤ A.slots.size ∧ q + len ≤ B.slots.size ∧ ∀ i, i < len → ¬ 255 < cv A (o + i)
def E (b : Addr) (A : Cell) (d : Addr) (B : Cell) (o q len : Nat) (r : Option Value) (s u : State) : Prop := r = some (.int (Int32.ofNat len)) ∧ ∃ B', Put d B' s u ∧ Laid B B' q (q + len) (fun j => Value.int (lo8 (cv A (o + (j - q)))))
/-- no char of the range above 255: len; the places written hold each char's low byte -/
theorem law (l : Launch) (b : Addr) (A : Cell) (d : Addr) (B : Cell) (o q len : Nat) : Law l yN 5 5 0 0 yB 7 (some .int) site (P b A d B o q len) (E b A d B o q len) (copyLocs d q len) 0 0 := by
  refine Law.of_walk (plainFor_of_name (by decide +kernel)) (by decide +kernel) (by decide +kernel) (by decide) (fun _ _ h => by rw [h.1]; rfl) (fun _ U U' hal hh h => ⟨h.1, h.2.1.mv hal hh, h.2.2.1.mv hal hh, h.2.2.2⟩) (fun r U U' V V' h1 hal h2 h => ⟨h.1, h.2.elim fun B' q => ⟨B', q.1.mv h1 h2, q.2⟩⟩) ?_
  intro p e s m args below meth c s₁ X0 hexec hbytes hml hret hlk hnm hown hh0 W hP
  obtain ⟨rfl, hA, hB, hne, l1, l2, hp⟩ := hP
  have c1 : Steps p.tables e below (s₁.setTop (entryFrame m #[.ref b, .int (Int32.ofNat o), .ref d, .int (Int32.ofNat q), .int (Int32.ofNat len)] 7)) (s₁.setTop (mkF m 0 #[.val (.ref b), .val (.int (Int32.ofNat o)), .val (.ref d), .val (.int (Int32.ofNat q)), .val (.int (Int32.ofNat len)), .unset, .unset] [])) := entry rfl
  have hA0 := hA.1.mv X0.warmed.alike hh0
  have hB0 := hB.mv X0.warmed.alike hh0
  have a31 := hA.1.2.2.2
  have c2 : Steps p.tables e below (s₁.setTop (entryFrame m #[.ref b, .int (Int32.ofNat o), .ref d, .int (Int32.ofNat q), .int (Int32.ofNat len)] 7)) (s₁.setTop (mkF m 3 #[.val (.ref b), .val (.int (Int32.ofNat o)), .val (.ref d), .val (.int (Int32.ofNat q)), .val (.int (Int32.ofNat len)), .val (.int 0), .unset] [])) := c1.trans (by
    refine iconstV X0.here hexec rfl 0 (hb hbytes d0) (by decide) ?_
    refine XS.istore X0.here hexec rfl (hb hbytes d1) rfl rfl ?_
    exact Steps.refl _)
  have loop : ∀ (r i : Nat), i + r = len → ∀ (z : Slot), (z = .unset ∨ ∃ w, z = .val w ∧ w.category = 1) → ∀ (Tl : State) (Bk : Cell), Stand p l e { frames := 0, locals := 0, cells := 0, slots := 0 } s m #[.ref b, .int (Int32.ofNat o), .ref d, .int (Int32.ofNat q), .int (Int32.ofNat len)] below meth c Tl ([] ++ copyLocs d q i) 0 0 → Put d Bk s₁ Tl → Laid B Bk q (q + i) (fun j => Value.int (lo8 (cv A (o + (j - q))))) →
      Steps p.tables e below (s₁.setTop (entryFrame m #[.ref b, .int (Int32.ofNat o), .ref d, .int (Int32.ofNat q), .int (Int32.ofNat len)] 7)) (Tl.setTop (mkF m 3 #[.val (.ref b), .val (.int (Int32.ofNat (o + i))), .val (.ref d), .val (.int (Int32.ofNat (q + i))), .val (.int (Int32.ofNat len)), .val (.int (Int32.ofNat i)), z] [])) → ∃ (T' : State) (B' : Cell) (z' : Slot), Stand p l e { frames := 0, locals := 0, cells := 0, slots := 0 } s m #[.ref b, .int (Int32.ofNat o), .ref d, .int (Int32.ofNat q), .int (Int32.ofNat len)] below meth c T' ([] ++ copyLocs d q len) 0 0 ∧ Put d B' s₁ T' ∧ Laid B B' q (q + len) (fun j => Value.int (lo8 (cv A (o + (j - q))))) ∧
      Steps p.tables e below (s₁.setTop (entryFrame m #[.ref b, .int (Int32.ofNat o), .ref d, .int (Int32.ofNat q), .int (Int32.ofNat len)] 7)) (T'.setTop (mkF m 3 #[.val (.ref b), .val (.int (Int32.ofNat (o + len))), .val (.ref d), .val (.int (Int32.ofNat (q + len))), .val (.int (Int32.ofNat len)), .val (.int (Int32.ofNat len)), z'] [])) := by
    intro r
    induction r with
    | zero =>
      intro i hi z hz Tl Bk Xl pl fl cl
      have hil : i = len := by omega
      rw [hil] at Xl fl cl
      exact ⟨Tl, Bk, z, Xl, pl, fl, cl⟩
    | succ r ih =>
      intro i hi z hz Tl Bk Xl pl fl cl
      have all := X0.warmed.alike.symm.trans Xl.warmed.alike
      have hAl := hA0.keep all (pl.other hne hA0.1)
      have hBk := hB0.like all pl.1 fl.1 fl.2.1 fl.2.2.1
      have hlt : q + i < Bk.slots.size := by rw [fl.2.2.1]; omega
      have c3 : Steps p.tables e below (s₁.setTop (entryFrame m #[.ref b, .int (Int32.ofNat o), .ref d, .int (Int32.ofNat q), .int (Int32.ofNat len)] 7)) (Tl.setTop (mkF m 12 #[.val (.ref b), .val (.int (Int32.ofNat (o + i))), .val (.ref d), .val (.int (Int32.ofNat (q + i))), .val (.int (Int32.ofNat len)), .val (.int (Int32.ofNat i)), z] [.int (Int32.ofNat (o + i)), .ref b])) := cl.trans (by
        refine XS.iload Xl.here hexec rfl (hb hbytes d3) rfl ?_
        refine XS.iload Xl.here hexec rfl (hb hbytes d5) rfl ?_
        refine XS.icmpNo Xl.here hexec rfl (hb hbytes d7) rfl (ii_ge_f (lt32 (by omega) (by omega))) ?_
        refine XS.aloadN Xl.here hexec rfl (hb hbytes d10) rfl rfl ?_
        refine XS.iloadN Xl.here hexec rfl (hb hbytes d11) rfl ?_
        exact Steps.refl _)
      have c4 : Steps p.tables e below (s₁.setTop (entryFrame m #[.ref b, .int (Int32.ofNat o), .ref d, .int (Int32.ofNat q), .int (Int32.ofNat len)] 7)) (Tl.setTop (mkF m 13 #[.val (.ref b), .val (.int (Int32.ofNat (o + i))), .val (.ref d), .val (.int (Int32.ofNat (q + i))), .val (.int (Int32.ofNat len)), .val (.int (Int32.ofNat i)), z] [.int (cv A (o + i))])) := c3.trans (by
        refine Xl.aget hexec hAl rfl (hA.get (i := o + i) (by omega)) rfl rfl (hb hbytes d12) ?_
        exact Steps.refl _)
      have c5 : Steps p.tables e below (s₁.setTop (entryFrame m #[.ref b, .int (Int32.ofNat o), .ref d, .int (Int32.ofNat q), .int (Int32.ofNat len)] 7)) (Tl.setTop (mkF m 15 #[.val (.ref b), .val (.int (Int32.ofNat (o + i))), .val (.ref d), .val (.int (Int32.ofNat (q + i))), .val (.int (Int32.ofNat len)), .val (.int (Int32.ofNat i)), .val (.int (cv A (o + i)))] [])) := c4.trans (by
        refine XS.istoreS Xl.here hexec rfl (hb hbytes d13) rfl rfl hz ?_
        exact Steps.refl _)
      have c6 : Steps p.tables e below (s₁.setTop (entryFrame m #[.ref b, .int (Int32.ofNat o), .ref d, .int (Int32.ofNat q), .int (Int32.ofNat len)] 7)) (Tl.setTop (mkF m 31 #[.val (.ref b), .val (.int (Int32.ofNat (o + i))), .val (.ref d), .val (.int (Int32.ofNat (q + i))), .val (.int (Int32.ofNat len)), .val (.int (Int32.ofNat i)), .val (.int (cv A (o + i)))] [.int (lo8 (cv A (o + i))), .int (Int32.ofNat (q + i)), .ref d])) := c5.trans (by
        refine XS.iload Xl.here hexec rfl (hb hbytes d15) rfl ?_
        refine sipushV Xl.here hexec rfl 255 (hb hbytes d17) (by decide) ?_
        refine XS.icmpYes Xl.here hexec rfl (pc0 := 20) rfl (hb hbytes d20) rfl (ii_le_t (hp i (by omega))) (by decide) rfl ?_
        refine XS.aloadN Xl.here hexec rfl (hb hbytes d26) rfl rfl ?_
        refine XS.iloadN Xl.here hexec rfl (hb hbytes d27) rfl ?_
        refine XS.iload Xl.here hexec rfl (hb hbytes d28) rfl ?_
        refine i2b Xl.here hexec rfl (hb hbytes d30) rfl ?_
        exact Steps.refl _)
      obtain ⟨T7, X7, p7, st7⟩ := Xl.aput hexec hBk rfl hlt rfl (fits_lo8 (cv A (o + i))) (g := (mkF m 31 #[.val (.ref b), .val (.int (Int32.ofNat (o + i))), .val (.ref d), .val (.int (Int32.ofNat (q + i))), .val (.int (Int32.ofNat len)), .val (.int (Int32.ofNat i)), .val (.int (cv A (o + i)))] [.int (lo8 (cv A (o + i))), .int (Int32.ofNat (q + i)), .ref d])) rfl (rest := []) rfl (hb hbytes d31)
      have c8 : Steps p.tables e below (s₁.setTop (entryFrame m #[.ref b, .int (Int32.ofNat o), .ref d, .int (Int32.ofNat q), .int (Int32.ofNat len)] 7)) (T7.setTop (mkF m 32 #[.val (.ref b), .val (.int (Int32.ofNat (o + i))), .val (.ref d), .val (.int (Int32.ofNat (q + i))), .val (.int (Int32.ofNat len)), .val (.int (Int32.ofNat i)), .val (.int (cv A (o + i)))] [])) := c6.trans (st7 _ (Steps.refl _))
      have c9 : Steps p.tables e below (s₁.setTop (entryFrame m #[.ref b, .int (Int32.ofNat o), .ref d, .int (Int32.ofNat q), .int (Int32.ofNat len)] 7)) (T7.setTop (mkF m 3 #[.val (.ref b), .val (.int (Int32.ofNat (o + i) + 1)), .val (.ref d), .val (.int (Int32.ofNat (q + i) + 1)), .val (.int (Int32.ofNat len)), .val (.int (Int32.ofNat i + 1)), .val (.int (cv A (o + i)))] [])) := c8.trans (by
        refine iincV X7.here hexec rfl 1 (hb hbytes d32) (by decide) rfl rfl ?_
        refine iincV X7.here hexec rfl 1 (hb hbytes d35) (by decide) rfl rfl ?_
        refine iincV X7.here hexec rfl 1 (hb hbytes d38) (by decide) rfl rfl ?_
        refine XS.goto X7.here hexec rfl (pc0 := 41) rfl (hb hbytes d41) (by decide) rfl ?_
        exact Steps.refl _)
      have c10 : Steps p.tables e below (s₁.setTop (entryFrame m #[.ref b, .int (Int32.ofNat o), .ref d, .int (Int32.ofNat q), .int (Int32.ofNat len)] 7)) (T7.setTop (mkF m 3 #[.val (.ref b), .val (.int (Int32.ofNat (o + (i + 1)))), .val (.ref d), .val (.int (Int32.ofNat (q + (i + 1)))), .val (.int (Int32.ofNat len)), .val (.int (Int32.ofNat (i + 1))), .val (.int (cv A (o + i)))] [])) := by
        have := c9
        rw [succ32, succ32, succ32] at this
        exact this
      exact ih (i + 1) (by omega) _ (Or.inr ⟨_, rfl, rfl⟩) T7 _ (by rw [copyLocs_step, ← List.append_assoc]; exact X7) (pl.trans p7) (fl.step (by omega) hlt (by simp)) c10
  obtain ⟨T9, B9, z9, X9, p9, f9, g9⟩ := loop len 0 (by omega) .unset (Or.inl rfl) s₁ B (by simpa [copyLocs] using X0) ⟨hB0.1, fun _ _ => rfl, rfl⟩ (Laid.zero _ _ _) c2
  have c11 : Steps p.tables e below (s₁.setTop (entryFrame m #[.ref b, .int (Int32.ofNat o), .ref d, .int (Int32.ofNat q), .int (Int32.ofNat len)] 7)) (T9.setTop (mkF m 46 #[.val (.ref b), .val (.int (Int32.ofNat (o + len))), .val (.ref d), .val (.int (Int32.ofNat (q + len))), .val (.int (Int32.ofNat len)), .val (.int (Int32.ofNat len)), z9] [.int (Int32.ofNat len)])) := g9.trans (by
    refine XS.iload X9.here hexec rfl (hb hbytes d3) rfl ?_
    refine XS.iload X9.here hexec rfl (hb hbytes d5) rfl ?_
    refine XS.icmpYes X9.here hexec rfl (pc0 := 7) rfl (hb hbytes d7) rfl (ii_ge_t (nlt32 (by omega) (Nat.le_refl _))) (by decide) rfl ?_
    refine XS.iload X9.here hexec rfl (hb hbytes d44) rfl ?_
    exact Steps.refl _)
  exact ⟨T9, some (.int (Int32.ofNat len)), _, _, _, X9, by simp, rfl, rfl, (fun h => by cases h), ⟨rfl, B9, p9.from hh0, f9⟩, fun fs hl => c11.trans (X9.ireturnOut hexec hret rfl (Or.inl rfl) (hb hbytes d46) hl)⟩
end Cmp5
namespace Cmp3
def yN : MethodName := ⟨"java/lang/StringUTF16", "compress", "([CII)[B"⟩
abbrev yB : ByteArray := jdk_52_method_16_code
theorem d0 : decode yB 0 = .ok (.iload_n 2, 1) := by decide +kernel
theorem d1 : decode yB 1 = .ok (.newarray .byte, 2) := by decide +kernel
theorem d3 : decode yB 3 = .ok (.astore_n 3, 1) := by decide +kernel
theorem d4 : decode yB 4 = .ok (.aload_n 0, 1) := by decide +kernel
theorem d5 : decode yB 5 = .ok (.iload_n 1, 1) := by decide +kernel
theorem d6 : decode yB 6 = .ok (.aload_n 3, 1) := by decide +kernel
theorem d7 : decode yB 7 = .ok (.iconst 0, 1) := by decide +kernel
theorem d8 : decode yB 8 = .ok (.iload_n 2, 1) := by decide +kernel
theorem d9 : decode yB 9 = .ok (.invokestatic 115, 3) := by decide +kernel
theorem d12 : decode yB 12 = .ok (.istore 4, 2) := by decide +kernel
theorem d14 : decode yB 14 = .ok (.iload 4, 2) := by decide +kernel
theorem d16 : decode yB 16 = .ok (.iload_n 2, 1) := by decide +kernel
theorem d17 : decode yB 17 = .ok (.if_icmp (.eq) 40, 3) := by decide +kernel
theorem d57 : decode yB 57 = .ok (.aload_n 3, 1) := by decide +kernel
theorem d58 : decode yB 58 = .ok (.areturn, 1) := by decide +kernel
def site : List Cond := [.arrayClass .byte, Cmp5.tab] ++ staticW U16 115 Cmp5.yN
def tab : Cond := tabOf yN yB 6 (some (.array .byte)) site
def P (b : Addr) (A : Cell) (o len : Nat) (args : Array Value) (s : State) : Prop := args = #[.ref b, .int (Int32.ofNat o), .int (Int32.ofNat len)] ∧ Ch b A s ∧ o + len ≤ A.slots.size ∧ len ≤ 536870912 ∧ ∀ i, i < len → ¬ 255 < cv A (o + i)
def E (b : Addr) (A : Cell) (o len : Nat) (r : Option Value) (s u : State) : Prop := NewArr .byte "[B" len (fun j => .int (lo8 (cv A (o + j)))) r s u ∧ u.heap.size = s.heap.size + 1
/-- no char of the range above 255: a new byte[] of their low bytes -/
theorem law (l : Launch) (b : Addr) (A : Cell) (o len : Nat) : Law l yN 3 3 1 18 yB 6 (some (.array .byte)) site (P b A o len) (E b A o len) [] 1 len := by
  refine Law.of_walk (plainFor_of_name (by decide +kernel)) (by decide +kernel) (by decide +kernel) (by decide) (fun _ _ h => by rw [h.1]; rfl) (fun _ U U' hal hh h => ⟨h.1, h.2.1.mv hal hh, h.2.2⟩) (fun r U U' V V' h1 hal h2 h => ⟨NewArr.mv r U U' V V' h1 hal h2 h.1, by rw [h1, h2]; exact h.2⟩) ?_
  intro p e s m args below meth c s₁ X0 hexec hbytes hml hret hlk hnm hown hh0 W hP
  obtain ⟨rfl, hA, l1, l2, hp⟩ := hP
  have a31 := hA.1.2.2.2
  have c1 : Steps p.tables e below (s₁.setTop (entryFrame m #[.ref b, .int (Int32.ofNat o), .int (Int32.ofNat len)] 6)) (s₁.setTop (mkF m 0 #[.val (.ref b), .val (.int (Int32.ofNat o)), .val (.int (Int32.ofNat len)), .unset, .unset, .unset] [])) := entry rfl
  have c2 : Steps p.tables e below (s₁.setTop (entryFrame m #[.ref b, .int (Int32.ofNat o), .int (Int32.ofNat len)] 6)) (s₁.setTop (mkF m 1 #[.val (.ref b), .val (.int (Int32.ofNat o)), .val (.int (Int32.ofNat len)), .unset, .unset, .unset] [.int (Int32.ofNat len)])) := c1.trans (by
    refine XS.iloadN X0.here hexec rfl (hb hbytes d0) rfl ?_
    exact Steps.refl _)
  obtain ⟨T3, B3, X3, ba3, bs3, bv3, bh3, bf3, st3⟩ := X0.anew hexec (atype := .byte) (wk W (.arrayClass .byte)) rfl (by show len * 1 ≤ _; omega) (by omega) (g := (mkF m 1 #[.val (.ref b), .val (.int (Int32.ofNat o)), .val (.int (Int32.ofNat len)), .unset, .unset, .unset] [.int (Int32.ofNat len)])) rfl (hb hbytes d1) (rest := []) rfl (Nat.le_refl _) (by show 0 + len ≤ len; omega)
  rw [hh0] at ba3 st3
  have kp3 : XT.Kept s T3 := (XT.Kept.of_eq hh0).push bh3
  have hA3 := hA.keep X3.warmed.alike (kp3 _ _ hA.1.1)
  have hne : b ≠ s.heap.size := hA.1.ne
  have c4 : Steps p.tables e below (s₁.setTop (entryFrame m #[.ref b, .int (Int32.ofNat o), .int (Int32.ofNat len)] 6)) (T3.setTop (mkF m 3 #[.val (.ref b), .val (.int (Int32.ofNat o)), .val (.int (Int32.ofNat len)), .unset, .unset, .unset] [.ref s.heap.size])) := c2.trans (st3 _ (Steps.refl _))
  have c5 : Steps p.tables e below (s₁.setTop (entryFrame m #[.ref b, .int (Int32.ofNat o), .int (Int32.ofNat len)] 6)) (T3.setTop (mkF m 9 #[.val (.ref b), .val (.int (Int32.ofNat o)), .val (.int (Int32.ofNat len)), .val (.ref s.heap.size), .unset, .unset] [.int (Int32.ofNat len), .int 0, .ref s.heap.size, .int (Int32.ofNat o), .ref b])) := c4.trans (by
    refine XS.astoreN X3.here hexec rfl (hb hbytes d3) rfl rfl rfl ?_
    refine XS.aloadN X3.here hexec rfl (hb hbytes d4) rfl rfl ?_
    refine XS.iloadN X3.here hexec rfl (hb hbytes d5) rfl ?_
    refine XS.aloadN X3.here hexec rfl (hb hbytes d6) rfl rfl ?_
    refine iconstV X3.here hexec rfl 0 (hb hbytes d7) (by decide) ?_
    refine XS.iloadN X3.here hexec rfl (hb hbytes d8) rfl ?_
    exact Steps.refl _)
  obtain ⟨v6, T6, X6, E6, g6⟩ := X3.callS hexec (Cmp5.law l b A s.heap.size B3 o 0 len) hown (wks W (staticW U16 115 Cmp5.yN)) (wk W Cmp5.tab) (W := 0) (Nat.le_of_ble_eq_true rfl) (Nat.le_of_ble_eq_true rfl) (Nat.le_refl _) (by show 0 + len + 0 ≤ len; omega) (g := (mkF m 9 #[.val (.ref b), .val (.int (Int32.ofNat o)), .val (.int (Int32.ofNat len)), .val (.ref s.heap.size), .unset, .unset] [.int (Int32.ofNat len), .int (Int32.ofNat 0), .ref s.heap.size, .int (Int32.ofNat o), .ref b])) rfl (by rw [hml]; rfl) c5 (argsL := [.ref b, .int (Int32.ofNat o), .ref s.heap.size, .int (Int32.ofNat 0), .int (Int32.ofNat len)]) (rest := []) rfl rfl (by show 2 * 0 + 0 ≤ _; decide) (hb hbytes d9) (⟨rfl, hA3, ba3, hne, l1, by rw [bs3]; simp, hp⟩)
  obtain ⟨rfl, B6, p6, f6⟩ := E6
  have c7 : Steps p.tables e below (s₁.setTop (entryFrame m #[.ref b, .int (Int32.ofNat o), .int (Int32.ofNat len)] 6)) (T6.setTop (mkF m 12 #[.val (.ref b), .val (.int (Int32.ofNat o)), .val (.int (Int32.ofNat len)), .val (.ref s.heap.size), .unset, .unset] [.int (Int32.ofNat len)])) := g6
  have c8 : Steps p.tables e below (s₁.setTop (entryFrame m #[.ref b, .int (Int32.ofNat o), .int (Int32.ofNat len)] 6)) (T6.setTop (mkF m 58 #[.val (.ref b), .val (.int (Int32.ofNat o)), .val (.int (Int32.ofNat len)), .val (.ref s.heap.size), .val (.int (Int32.ofNat len)), .unset] [.ref s.heap.size])) := c7.trans (by
    refine XS.istore X6.here hexec rfl (hb hbytes d12) rfl rfl ?_
    refine XS.iload X6.here hexec rfl (hb hbytes d14) rfl ?_
    refine XS.iloadN X6.here hexec rfl (hb hbytes d16) rfl ?_
    refine XS.icmpYes X6.here hexec rfl (pc0 := 17) rfl (hb hbytes d17) rfl (ii_eq_t rfl) (by decide) rfl ?_
    refine XS.aloadN X6.here hexec rfl (hb hbytes d57) rfl rfl ?_
    exact Steps.refl _)
  have X8 := X6.wide (L' := []) (cells' := 1) (slots' := len) (fun x hx hlt => by
    simp only [List.nil_append, copyLocs, List.mem_map, List.mem_range] at hx
    obtain ⟨i, -, rfl⟩ := hx
    exact absurd hlt (Nat.lt_irrefl _)) (Nat.le_refl _) (by omega)
  exact ⟨T6, some (.ref s.heap.size), _, _, _, X8, rfl, rfl, rfl, (fun h => by cases h), ⟨⟨rfl, B6, ba3.like (X3.warmed.alike.symm.trans X6.warmed.alike) p6.1 f6.1 f6.2.1 f6.2.2.1, f6.2.1.trans bv3, by rw [X6.warmed.alike.findClass, f6.1]; exact bf3, by rw [f6.2.2.1, bs3]; simp, fun j hj => by rw [f6.2.2.2 j, if_pos (by omega)]; rfl, kp3.put p6 (Nat.le_refl _)⟩, by rw [p6.2.2, bh3, hh0]; simp⟩, fun fs hl => c8.trans (X8.areturnOut hexec rfl hret rfl (hb hbytes d58) hl)⟩
end Cmp3
namespace CodL
def yN : MethodName := ⟨"java/lang/StringUTF16", "coderFromArrayLen", "([BI)B"⟩
abbrev yB : ByteArray := jdk_52_method_15_code
theorem d0 : decode yB 0 = .ok (.iload_n 1, 1) := by decide +kernel
theorem d1 : decode yB 1 = .ok (.aload_n 0, 1) := by decide +kernel
theorem d2 : decode yB 2 = .ok (.arraylength, 1) := by decide +kernel
theorem d3 : decode yB 3 = .ok (.isub, 1) := by decide +kernel
theorem d4 : decode yB 4 = .ok (.bipush 31, 2) := by decide +kernel
theorem d6 : decode yB 6 = .ok (.iushr, 1) := by decide +kernel
theorem d7 : decode yB 7 = .ok (.i2b, 1) := by decide +kernel
theorem d8 : decode yB 8 = .ok (.ireturn, 1) := by decide +kernel
def site : List Cond := []
def tab : Cond := tabOf yN yB 2 (some .byte) site
def P (d : Addr) (B : Cell) (args : Array Value) (s : State) : Prop := args = #[.ref d, .int (Int32.ofNat B.slots.size)] ∧ Arr .byte d B s
def E (r : Option Value) (s u : State) : Prop := XT.PureE (some (.int 0)) r s u
/-- an array as long as the number of chars: LATIN1 -/
theorem law (l : Launch) (d : Addr) (B : Cell) : Law l yN 2 2 0 0 yB 2 (some .byte) site (P d B) E [] 0 0 := by
  refine Law.of_walk (plainFor_of_name (by decide +kernel)) (by decide +kernel) (by decide +kernel) (by decide) (fun _ _ h => by rw [h.1]; rfl) (fun _ U U' hal hh h => ⟨h.1, h.2.mv hal hh⟩) (fun r U U' V V' h1 hal h2 h => XT.PureE.mv r U U' V V' h1 hal h2 h) ?_
  intro p e s m args below meth c s₁ X0 hexec hbytes hml hret hlk hnm hown hh0 W hP
  obtain ⟨rfl, hB⟩ := hP
  have hB0 := hB.mv X0.warmed.alike hh0
  have c1 : Steps p.tables e below (s₁.setTop (entryFrame m #[.ref d, .int (Int32.ofNat B.slots.size)] 2)) (s₁.setTop (mkF m 0 #[.val (.ref d), .val (.int (Int32.ofNat B.slots.size))] [])) := entry rfl
  have c2 : Steps p.tables e below (s₁.setTop (entryFrame m #[.ref d, .int (Int32.ofNat B.slots.size)] 2)) (s₁.setTop (mkF m 2 #[.val (.ref d), .val (.int (Int32.ofNat B.slots.size))] [.ref d, .int (Int32.ofNat B.slots.size)])) := c1.trans (by
    refine XS.iloadN X0.here hexec rfl (hb hbytes d0) rfl ?_
    refine XS.aloadN X0.here hexec rfl (hb hbytes d1) rfl rfl ?_
    exact Steps.refl _)
  have c3 : Steps p.tables e below (s₁.setTop (entryFrame m #[.ref d, .int (Int32.ofNat B.slots.size)] 2)) (s₁.setTop (mkF m 8 #[.val (.ref d), .val (.int (Int32.ofNat B.slots.size))] [.int (lo8 (ushr (Int32.ofNat B.slots.size - Int32.ofNat B.slots.size) 31))])) := c2.trans (by
    refine X0.alen hexec hB0 rfl rfl (hb hbytes d2) ?_
    refine XS.isub X0.here hexec rfl (hb hbytes d3) rfl ?_
    refine bipushV X0.here hexec rfl 31 (hb hbytes d4) (by decide) ?_
    refine iushr X0.here hexec rfl (hb hbytes d6) rfl ?_
    refine i2b X0.here hexec rfl (hb hbytes d7) rfl ?_
    exact Steps.refl _)
  have e0 : lo8 (ushr (Int32.ofNat B.slots.size - Int32.ofNat B.slots.size) 31) = 0 := by rw [Int32.sub_self]; decide
  rw [e0] at c3
  exact ⟨s₁, some (.int 0), _, _, _, X0, rfl, rfl, rfl, (fun h => by cases h), ⟨rfl, hh0⟩, fun fs hl => c3.trans (X0.ireturnOut hexec hret rfl (Or.inr (Or.inr (Or.inl rfl))) (hb hbytes d8) hl)⟩
end CodL
/-- the String at a is Latin-1 over a new byte[] (the heap's one new cell): the low bytes of the len chars of A from o on; every cell but a is kept -/
def Got (a : Addr) (D : Cell) (fV fC : Field) (A : Cell) (o len : Nat) (r : Option Value) (s u : State) : Prop := r = none ∧ ∃ D' V : Cell, Blank "java/lang/String" a D' u ∧ Same D D' [fV.slot, fC.slot] ∧ D'.slots[fV.slot]? = some (.ref s.heap.size) ∧ D'.slots[fC.slot]? = some (.int 0) ∧ Arr .byte s.heap.size V u ∧ V.vm = .none ∧ u.vm.findClass "[B" = some V.cls ∧ V.slots.size = len ∧ (∀ j, j < len → V.slots[j]? = some (.int (lo8 (cv A (o + j))))) ∧ (∀ (y : Addr) (c : Cell), y ≠ a → s.heap[y]? = some c → u.heap[y]? = some c) ∧ u.heap.size = s.heap.size + 1
theorem Got.mv {a : Addr} {D A : Cell} {fV fC : Field} {o len : Nat} : ∀ r (U U' V V' : State), U'.heap = U.heap → V.vm.Alike V'.vm → V'.heap = V.heap → Got a D fV fC A o len r U V → Got a D fV fC A o len r U' V' :=
  fun r U U' V V' h1 hal h2 ⟨e0, D', X, a1, a2, a3, a4, a5, a6, a7, a8, a9, a10, a11⟩ => ⟨e0, D', X, a1.mv hal h2, a2, by rw [h1]; exact a3, a4, by rw [h1]; exact a5.mv hal h2, a6, by rw [hal.findClass]; exact a7, a8, a9, by rw [h1, h2]; exact a10, by rw [h1, h2]; exact a11⟩
namespace New4
def yN : MethodName := ⟨"java/lang/String", "<init>", "([CIILjava/lang/Void;)V"⟩
abbrev yB : ByteArray := jdk_42_method_149_code
theorem d0 : decode yB 0 = .ok (.aload_n 0, 1) := by decide +kernel
theorem d1 : decode yB 1 = .ok (.invokespecial 1, 3) := by decide +kernel
theorem d4 : decode yB 4 = .ok (.iload_n 3, 1) := by decide +kernel
theorem d5 : decode yB 5 = .ok (.ifCond (.ne) 22, 3) := by decide +kernel
theorem d27 : decode yB 27 = .ok (.getstatic 38, 3) := by decide +kernel
theorem d30 : decode yB 30 = .ok (.ifCond (.eq) 28, 3) := by decide +kernel
theorem d33 : decode yB 33 = .ok (.aload_n 1, 1) := by decide +kernel
theorem d34 : decode yB 34 = .ok (.iload_n 2, 1) := by decide +kernel
theorem d35 : decode yB 35 = .ok (.iload_n 3, 1) := by decide +kernel
theorem d36 : decode yB 36 = .ok (.invokestatic 177, 3) := by decide +kernel
theorem d39 : decode yB 39 = .ok (.astore 5, 2) := by decide +kernel
theorem d41 : decode yB 41 = .ok (.aload_n 0, 1) := by decide +kernel
theorem d42 : decode yB 42 = .ok (.aload 5, 2) := by decide +kernel
theorem d44 : decode yB 44 = .ok (.iload_n 3, 1) := by decide +kernel
theorem d45 : decode yB 45 = .ok (.invokestatic 47, 3) := by decide +kernel
theorem d48 : decode yB 48 = .ok (.putfield 15, 3) := by decide +kernel
theorem d51 : decode yB 51 = .ok (.aload_n 0, 1) := by decide +kernel
theorem d52 : decode yB 52 = .ok (.aload 5, 2) := by decide +kernel
theorem d54 : decode yB 54 = .ok (.putfield 9, 3) := by decide +kernel
theorem d57 : decode yB 57 = .ok (.return_, 1) := by decide +kernel
def site : List Cond := [.fieldLink "java/lang/String" 38 "java/lang/String" "COMPACT_STRINGS" "Z", Cmp3.tab, CodL.tab, .laysFinal "java/lang/String" "java/lang/String" "value" "[B", .fieldLink "java/lang/String" 9 "java/lang/String" "value" "[B", .laysFinal "java/lang/String" "java/lang/String" "coder" "B", .fieldLink "java/lang/String" 15 "java/lang/String" "coder" "B"] ++ objW "java/lang/String" 1 ++ staticW "java/lang/String" 177 Cmp3.yN ++ staticW "java/lang/String" 47 CodL.yN
def tab : Cond := tabOf yN yB 6 none site
def P (a : Addr) (D : Cell) (fV fC : Field) (b : Addr) (A : Cell) (z : Int32) (o len : Nat) (args : Array Value) (s : State) : Prop := args = #[.ref a, .ref b, .int (Int32.ofNat o), .int (Int32.ofNat len), .null] ∧ Blank "java/lang/String" a D s ∧ Found "java/lang/String" "value" "[B" fV s ∧ Found "java/lang/String" "coder" "B" fC s ∧ Ch b A s ∧ StaticIs s "java/lang/String" "COMPACT_STRINGS" "Z" (.int z) ∧ ¬ z = 0 ∧ 0 < len ∧ o + len ≤ A.slots.size ∧ len ≤ 536870912 ∧ ∀ i, i < len → ¬ 255 < cv A (o + i)
def E (a : Addr) (D : Cell) (fV fC : Field) (A : Cell) (o len : Nat) (r : Option Value) (s u : State) : Prop := Got a D fV fC A o len r s u
/-- len > 0, no char of the range above 255: a Latin-1 String of their low bytes -/
theorem law (l : Launch) (a : Addr) (D : Cell) (fV fC : Field) (b : Addr) (A : Cell) (z : Int32) (o len : Nat) : Law l yN 5 4 2 35 yB 6 none site (P a D fV fC b A z o len) (E a D fV fC A o len) [⟨a, fC.slot⟩, ⟨a, fV.slot⟩] 1 len := by
  refine Law.of_walk (plainFor_of_name (by decide +kernel)) (by decide +kernel) (by decide +kernel) (by decide) (fun _ _ h => by rw [h.1]; rfl) (fun _ U U' hal hh h => ⟨h.1, h.2.1.mv hal hh, h.2.2.1.al hal, h.2.2.2.1.al hal, h.2.2.2.2.1.mv hal hh, h.2.2.2.2.2.1.there hal hh, h.2.2.2.2.2.2⟩) (fun r U U' V V' h1 hal h2 h => Got.mv r U U' V V' h1 hal h2 h) ?_
  intro p e s m args below meth c s₁ X0 hexec hbytes hml hret hlk hnm hown hh0 W hP
  obtain ⟨rfl, hB, f1, f2, hA, s1, hz, l0, l1, l2, hp⟩ := hP
  have a31 := hA.1.2.2.2
  have c1 : Steps p.tables e below (s₁.setTop (entryFrame m #[.ref a, .ref b, .int (Int32.ofNat o), .int (Int32.ofNat len), .null] 6)) (s₁.setTop (mkF m 0 #[.val (.ref a), .val (.ref b), .val (.int (Int32.ofNat o)), .val (.int (Int32.ofNat len)), .val .null, .unset] [])) := entry rfl
  have c2 : Steps p.tables e below (s₁.setTop (entryFrame m #[.ref a, .ref b, .int (Int32.ofNat o), .int (Int32.ofNat len), .null] 6)) (s₁.setTop (mkF m 1 #[.val (.ref a), .val (.ref b), .val (.int (Int32.ofNat o)), .val (.int (Int32.ofNat len)), .val .null, .unset] [.ref a])) := c1.trans (by
    refine XS.aloadN X0.here hexec rfl (hb hbytes d0) rfl rfl ?_
    exact Steps.refl _)
  obtain ⟨T3, X3, q3, st3⟩ := X0.oinit hexec hown (wks W (objW "java/lang/String" 1)) (g := (mkF m 1 #[.val (.ref a), .val (.ref b), .val (.int (Int32.ofNat o)), .val (.int (Int32.ofNat len)), .val .null, .unset] [.ref a])) rfl (by rw [hml]; rfl) (rest := []) rfl (hb hbytes d1) (W := 0) (by show 2 * 0 + 0 ≤ _; decide) (Nat.le_of_ble_eq_true rfl) (Nat.le_of_ble_eq_true rfl)
  have hh3 := q3.trans hh0
  have c4 : Steps p.tables e below (s₁.setTop (entryFrame m #[.ref a, .ref b, .int (Int32.ofNat o), .int (Int32.ofNat len), .null] 6)) (T3.setTop (mkF m 27 #[.val (.ref a), .val (.ref b), .val (.int (Int32.ofNat o)), .val (.int (Int32.ofNat len)), .val .null, .unset] [])) := (c2.trans (st3 _ (Steps.refl _))).trans (by
    refine XS.iloadN X3.here hexec rfl (hb hbytes d4) rfl ?_
    refine XS.ifYes X3.here hexec rfl (pc0 := 5) rfl (hb hbytes d5) rfl (i0_ne_t (nz32 (by omega) l0)) (by decide) rfl ?_
    exact Steps.refl _)
  obtain ⟨T5, X5, q5, st5⟩ := X3.sget hexec hown (wk W (.fieldLink "java/lang/String" 38 "java/lang/String" "COMPACT_STRINGS" "Z")) s1 (fun _ _ h => by rw [hh3]; exact h) (g := (mkF m 27 #[.val (.ref a), .val (.ref b), .val (.int (Int32.ofNat o)), .val (.int (Int32.ofNat len)), .val .null, .unset] [])) rfl (hb hbytes d27)
  have hh5 := q5.trans hh3
  have c6 : Steps p.tables e below (s₁.setTop (entryFrame m #[.ref a, .ref b, .int (Int32.ofNat o), .int (Int32.ofNat len), .null] 6)) (T5.setTop (mkF m 30 #[.val (.ref a), .val (.ref b), .val (.int (Int32.ofNat o)), .val (.int (Int32.ofNat len)), .val .null, .unset] [.int z])) := c4.trans (st5 _ (Steps.refl _))
  have c7 : Steps p.tables e below (s₁.setTop (entryFrame m #[.ref a, .ref b, .int (Int32.ofNat o), .int (Int32.ofNat len), .null] 6)) (T5.setTop (mkF m 36 #[.val (.ref a), .val (.ref b), .val (.int (Int32.ofNat o)), .val (.int (Int32.ofNat len)), .val .null, .unset] [.int (Int32.ofNat len), .int (Int32.ofNat o), .ref b])) := c6.trans (by
    refine XS.ifNo X5.here hexec rfl (hb hbytes d30) rfl (i0_eq_f hz) ?_
    refine XS.aloadN X5.here hexec rfl (hb hbytes d33) rfl rfl ?_
    refine XS.iloadN X5.here hexec rfl (hb hbytes d34) rfl ?_
    refine XS.iloadN X5.here hexec rfl (hb hbytes d35) rfl ?_
    exact Steps.refl _)
  obtain ⟨v8, T8, X8, E8, g8⟩ := X5.callS hexec (Cmp3.law l b A o len) hown (wks W (staticW "java/lang/String" 177 Cmp3.yN)) (wk W Cmp3.tab) (W := 0) (Nat.le_of_ble_eq_true rfl) (Nat.le_of_ble_eq_true rfl) (Nat.le_refl _) (by show 0 + len ≤ len; omega) (g := (mkF m 36 #[.val (.ref a), .val (.ref b), .val (.int (Int32.ofNat o)), .val (.int (Int32.ofNat len)), .val .null, .unset] [.int (Int32.ofNat len), .int (Int32.ofNat o), .ref b])) rfl (by rw [hml]; rfl) c7 (argsL := [.ref b, .int (Int32.ofNat o), .int (Int32.ofNat len)]) (rest := []) rfl rfl (by show 2 * 0 + 0 ≤ _; decide) (hb hbytes d36) (⟨rfl, hA.mv X5.warmed.alike hh5, l1, l2, hp⟩)
  obtain ⟨e8, z8⟩ := E8
  obtain ⟨rfl, N, n1, n2, n3, n4, n5, n6⟩ := NewArr.mv _ T5 s _ _ hh5.symm (Vm.Alike.refl _) rfl e8
  rw [hh5] at z8
  have hB1 := hB.keep X8.warmed.alike (n6 _ _ hB.1)
  have hne : s.heap.size ≠ a := (Nat.ne_of_lt (Array.getElem?_eq_some_iff.mp hB.1).1).symm
  have c9 : Steps p.tables e below (s₁.setTop (entryFrame m #[.ref a, .ref b, .int (Int32.ofNat o), .int (Int32.ofNat len), .null] 6)) (T8.setTop (mkF m 39 #[.val (.ref a), .val (.ref b), .val (.int (Int32.ofNat o)), .val (.int (Int32.ofNat len)), .val .null, .unset] [.ref s.heap.size])) := g8
  have c10 : Steps p.tables e below (s₁.setTop (entryFrame m #[.ref a, .ref b, .int (Int32.ofNat o), .int (Int32.ofNat len), .null] 6)) (T8.setTop (mkF m 45 #[.val (.ref a), .val (.ref b), .val (.int (Int32.ofNat o)), .val (.int (Int32.ofNat len)), .val .null, .val (.ref s.heap.size)] [.int (Int32.ofNat N.slots.size), .ref s.heap.size, .ref a])) := by
    have hc : Steps p.tables e below (s₁.setTop (entryFrame m #[.ref a, .ref b, .int (Int32.ofNat o), .int (Int32.ofNat len), .null] 6)) (T8.setTop (mkF m 45 #[.val (.ref a), .val (.ref b), .val (.int (Int32.ofNat o)), .val (.int (Int32.ofNat len)), .val .null, .val (.ref s.heap.size)] [.int (Int32.ofNat len), .ref s.heap.size, .ref a])) := c9.trans (by
      refine XS.astore X8.here hexec rfl (hb hbytes d39) rfl rfl rfl ?_
      refine XS.aloadN X8.here hexec rfl (hb hbytes d41) rfl rfl ?_
      refine XS.aload X8.here hexec rfl (hb hbytes d42) rfl rfl ?_
      refine XS.iloadN X8.here hexec rfl (hb hbytes d44) rfl ?_
      exact Steps.refl _)
    rw [n4]; exact hc
  obtain ⟨v11, T11, X11, E11, g11⟩ := X8.callS hexec (CodL.law l s.heap.size N) hown (wks W (staticW "java/lang/String" 47 CodL.yN)) (wk W CodL.tab) (W := 1) (Nat.le_of_ble_eq_true rfl) (Nat.le_of_ble_eq_true rfl) (Nat.le_refl _) (by show 0 + len + 0 ≤ len; omega) (g := (mkF m 45 #[.val (.ref a), .val (.ref b), .val (.int (Int32.ofNat o)), .val (.int (Int32.ofNat len)), .val .null, .val (.ref s.heap.size)] [.int (Int32.ofNat N.slots.size), .ref s.heap.size, .ref a])) rfl (by rw [hml]; rfl) c10 (argsL := [.ref s.heap.size, .int (Int32.ofNat N.slots.size)]) (rest := [.ref a]) rfl rfl (by show 2 * 0 + (1 + 0) ≤ _; decide) (hb hbytes d45) (⟨rfl, n1⟩)
  obtain ⟨rfl, q11⟩ := E11
  have hB11 := hB1.mv (X8.warmed.alike.symm.trans X11.warmed.alike) q11
  have c12 : Steps p.tables e below (s₁.setTop (entryFrame m #[.ref a, .ref b, .int (Int32.ofNat o), .int (Int32.ofNat len), .null] 6)) (T11.setTop (mkF m 48 #[.val (.ref a), .val (.ref b), .val (.int (Int32.ofNat o)), .val (.int (Int32.ofNat len)), .val .null, .val (.ref s.heap.size)] [.int 0, .ref a])) := g11
  obtain ⟨T13, X13, p13, bl13, sl13, st13⟩ := X11.finit hexec hown (wk W (.fieldLink "java/lang/String" 15 "java/lang/String" "coder" "B")) (Or.inr ⟨_, (wk W (.laysFinal "java/lang/String" "java/lang/String" "coder" "B"))⟩) (Or.inl ⟨rfl, hnm⟩) f2 (Or.inl rfl) hB11 (t := .byte) (by decide +kernel) rfl (g := (mkF m 48 #[.val (.ref a), .val (.ref b), .val (.int (Int32.ofNat o)), .val (.int (Int32.ofNat len)), .val .null, .val (.ref s.heap.size)] [.int 0, .ref a])) rfl (rest := []) rfl (hb hbytes d48)
  have c14 : Steps p.tables e below (s₁.setTop (entryFrame m #[.ref a, .ref b, .int (Int32.ofNat o), .int (Int32.ofNat len), .null] 6)) (T13.setTop (mkF m 54 #[.val (.ref a), .val (.ref b), .val (.int (Int32.ofNat o)), .val (.int (Int32.ofNat len)), .val .null, .val (.ref s.heap.size)] [.ref s.heap.size, .ref a])) := (c12.trans (st13 _ (Steps.refl _))).trans (by
    refine XS.aloadN X13.here hexec rfl (hb hbytes d51) rfl rfl ?_
    refine XS.aload X13.here hexec rfl (hb hbytes d52) rfl rfl ?_
    exact Steps.refl _)
  obtain ⟨T15, X15, p15, bl15, sl15, st15⟩ := X13.finit hexec hown (wk W (.fieldLink "java/lang/String" 9 "java/lang/String" "value" "[B")) (Or.inr ⟨_, (wk W (.laysFinal "java/lang/String" "java/lang/String" "value" "[B"))⟩) (Or.inl ⟨rfl, hnm⟩) f1 (Or.inl rfl) bl13 (t := (.array .byte)) (by decide +kernel) rfl (g := (mkF m 54 #[.val (.ref a), .val (.ref b), .val (.int (Int32.ofNat o)), .val (.int (Int32.ofNat len)), .val .null, .val (.ref s.heap.size)] [.ref s.heap.size, .ref a])) rfl (rest := []) rfl (hb hbytes d54)
  have c16 : Steps p.tables e below (s₁.setTop (entryFrame m #[.ref a, .ref b, .int (Int32.ofNat o), .int (Int32.ofNat len), .null] 6)) (T15.setTop (mkF m 57 #[.val (.ref a), .val (.ref b), .val (.int (Int32.ofNat o)), .val (.int (Int32.ofNat len)), .val .null, .val (.ref s.heap.size)] [])) := c14.trans (st15 _ (Steps.refl _))
  have ap := apart (Or.inr ⟨_, (wk W (.laysFinal "java/lang/String" "java/lang/String" "value" "[B"))⟩) (Or.inr ⟨_, (wk W (.laysFinal "java/lang/String" "java/lang/String" "coder" "B"))⟩) f1 f2 (t₁ := .array .byte) (t₂ := .byte) (by decide +kernel) (by decide +kernel) (by decide)
  have al := X8.warmed.alike.symm.trans X15.warmed.alike
  have n7 : T11.heap[s.heap.size]? = some N := by rw [q11]; exact n1.1
  exact ⟨T15, none, _, _, _, X15, by simp, rfl, by omega, (fun _ => rfl), ⟨rfl, _, N, bl15, ((Same.refl D _).set _ (by simp)).set _ (by simp), sl15, (Cell.slots_setSlot_ne _ ap).trans sl13, n1.keep al (p15.other hne (p13.other hne n7)), n2, by rw [al.findClass]; exact n3, n4, n5, fun y c h1 h2 => p15.other h1 (p13.other h1 (by rw [q11]; exact n6 y c h2)), by rw [p15.2.2, p13.2.2, q11]; exact z8⟩, fun fs hl => c16.trans (X15.returnOut hexec hret (hb hbytes d57) hl)⟩
end New4
namespace New1
def yN : MethodName := ⟨"java/lang/String", "<init>", "([C)V"⟩
abbrev yB : ByteArray := jdk_42_method_3_code
theorem d0 : decode yB 0 = .ok (.aload_n 0, 1) := by decide +kernel
theorem d1 : decode yB 1 = .ok (.aload_n 1, 1) := by decide +kernel
theorem d2 : decode yB 2 = .ok (.iconst 0, 1) := by decide +kernel
theorem d3 : decode yB 3 = .ok (.aload_n 1, 1) := by decide +kernel
theorem d4 : decode yB 4 = .ok (.arraylength, 1) := by decide +kernel
theorem d5 : decode yB 5 = .ok (.aconst_null, 1) := by decide +kernel
theorem d6 : decode yB 6 = .ok (.invokespecial 27, 3) := by decide +kernel
theorem d9 : decode yB 9 = .ok (.return_, 1) := by decide +kernel
def site : List Cond := [New4.tab] ++ initW "java/lang/String" 27 New4.yN
def tab : Cond := tabOf yN yB 2 none site
def P (a : Addr) (D : Cell) (fV fC : Field) (b : Addr) (A : Cell) (z : Int32) (args : Array Value) (s : State) : Prop := args = #[.ref a, .ref b] ∧ Blank "java/lang/String" a D s ∧ Found "java/lang/String" "value" "[B" fV s ∧ Found "java/lang/String" "coder" "B" fC s ∧ Ch b A s ∧ StaticIs s "java/lang/String" "COMPACT_STRINGS" "Z" (.int z) ∧ ¬ z = 0 ∧ 0 < A.slots.size ∧ A.slots.size ≤ 536870912 ∧ ∀ i, i < A.slots.size → ¬ 255 < cv A i
def E (a : Addr) (D : Cell) (fV fC : Field) (A : Cell) (r : Option Value) (s u : State) : Prop := Got a D fV fC A 0 A.slots.size r s u
/-- new String(chars), not empty, no char above 255: a Latin-1 String of their low bytes -/
theorem law (l : Launch) (a : Addr) (D : Cell) (fV fC : Field) (b : Addr) (A : Cell) (z : Int32) : Law l yN 2 1 3 52 yB 2 none site (P a D fV fC b A z) (E a D fV fC A) [⟨a, fC.slot⟩, ⟨a, fV.slot⟩] 1 A.slots.size := by
  refine Law.of_walk (plainFor_of_name (by decide +kernel)) (by decide +kernel) (by decide +kernel) (by decide) (fun _ _ h => by rw [h.1]; rfl) (fun _ U U' hal hh h => ⟨h.1, h.2.1.mv hal hh, h.2.2.1.al hal, h.2.2.2.1.al hal, h.2.2.2.2.1.mv hal hh, h.2.2.2.2.2.1.there hal hh, h.2.2.2.2.2.2⟩) (fun r U U' V V' h1 hal h2 h => Got.mv r U U' V V' h1 hal h2 h) ?_
  intro p e s m args below meth c s₁ X0 hexec hbytes hml hret hlk hnm hown hh0 W hP
  obtain ⟨rfl, hB, f1, f2, hA, s1, hz, l0, l2, hp⟩ := hP
  have c1 : Steps p.tables e below (s₁.setTop (entryFrame m #[.ref a, .ref b] 2)) (s₁.setTop (mkF m 0 #[.val (.ref a), .val (.ref b)] [])) := entry rfl
  have c2 : Steps p.tables e below (s₁.setTop (entryFrame m #[.ref a, .ref b] 2)) (s₁.setTop (mkF m 6 #[.val (.ref a), .val (.ref b)] [.null, .int (Int32.ofNat A.slots.size), .int 0, .ref b, .ref a])) := c1.trans (by
    refine XS.aloadN X0.here hexec rfl (hb hbytes d0) rfl rfl ?_
    refine XS.aloadN X0.here hexec rfl (hb hbytes d1) rfl rfl ?_
    refine iconstV X0.here hexec rfl 0 (hb hbytes d2) (by decide) ?_
    refine XS.aloadN X0.here hexec rfl (hb hbytes d3) rfl rfl ?_
    refine X0.alen hexec (hA.1.mv X0.warmed.alike hh0) rfl rfl (hb hbytes d4) ?_
    refine XS.aconstNull X0.here hexec rfl (hb hbytes d5) ?_
    exact Steps.refl _)
  obtain ⟨v3, T3, X3, E3, g3⟩ := X0.callN hexec (New4.law l a D fV fC b A z 0 A.slots.size) rfl hown (wks W (initW "java/lang/String" 27 New4.yN)) (W New4.tab (by simp only [site, List.mem_cons, List.mem_append, true_or, or_true])) (W := 0) (Nat.le_of_ble_eq_true rfl) (Nat.le_of_ble_eq_true rfl) (Nat.le_refl _) (by show 0 + A.slots.size ≤ A.slots.size; omega) (g := (mkF m 6 #[.val (.ref a), .val (.ref b)] [.null, .int (Int32.ofNat A.slots.size), .int (Int32.ofNat 0), .ref b, .ref a])) rfl (by rw [hml]; rfl) c2 (argsL := [.ref b, .int (Int32.ofNat 0), .int (Int32.ofNat A.slots.size), .null]) (rest := []) rfl rfl (by show 2 * 0 + 0 ≤ _; decide) (hb hbytes d6) (⟨rfl, hB.mv X0.warmed.alike hh0, f1.al X0.warmed.alike, f2.al X0.warmed.alike, hA.mv X0.warmed.alike hh0, s1.there X0.warmed.alike hh0, hz, l0, by omega, l2, fun i hi => by rw [Nat.zero_add]; exact hp i hi⟩)
  have e0 := Got.mv _ s₁ s _ _ hh0.symm (Vm.Alike.refl _) rfl E3
  obtain rfl := e0.1
  have c4 : Steps p.tables e below (s₁.setTop (entryFrame m #[.ref a, .ref b] 2)) (T3.setTop (mkF m 9 #[.val (.ref a), .val (.ref b)] [])) := g3
  exact ⟨T3, none, _, _, _, X3, by simp, rfl, by omega, (fun _ => rfl), e0, fun fs hl => c4.trans (X3.returnOut hexec hret (hb hbytes d9) hl)⟩
theorem pays {l : Launch} {R : Room} {p : Program} {e : Env} {below : List Frame} {s : State} {sargs : Array Value} {len W : Nat} (a : Addr) (D : Cell) (fV fC : Field) (b : Addr) (A : Cell) (z : Int32) (htab : tab.before sargs s = true) (hfr : 4 ≤ R.frames) (hlo : W + 65 ≤ R.locals) :
    Back l R p e below s sargs yN len W (fun A₁ a₁ => A₁.cells + 1 ≤ R.cells ∧ A₁.slots + A.slots.size ≤ R.slots ∧ P a D fV fC b A z a₁ A₁.U) (fun A₁ _ v₁ B₁ => E a D fV fC A v₁ A₁.U B₁.U ∧ B₁.locs = A₁.locs ++ [⟨a, fC.slot⟩, ⟨a, fV.slot⟩] ∧ B₁.cells = A₁.cells + 1 ∧ B₁.slots = A₁.slots + A.slots.size) :=
  (law l a D fV fC b A z).pays htab hfr (by omega)
end New1
/-- the byte, read back as charAt reads it, is the char -/
theorem lo8_mask {x : Int32} (h0 : ¬ x < 0) (h1 : ¬ 255 < x) : lo8 x &&& 255 = x := by
  have t : ∀ k : Fin 256, lo8 (Int32.ofNat k.val) &&& 255 = Int32.ofNat k.val := by decide +kernel
  rw [Int32.lt_iff_toInt_lt] at h0 h1
  have e0 : (0 : Int32).toInt = 0 := rfl
  have e1 : (255 : Int32).toInt = 255 := rfl
  obtain ⟨k, hk⟩ : ∃ k : Nat, x.toInt = k := ⟨x.toInt.toNat, by omega⟩
  have hx : x = Int32.ofNat k := Int32.toInt_inj.mp (by rw [hk, Int32.toInt_ofNat_small (by omega)])
  rw [hx]
  exact t ⟨k, by omega⟩
end StrChars
namespace StrChars.Road
open Jvm Sem ClassFile Op Lib Jvm.Stand Jvm.Free Jvm.Free.XT
open Jvm.Lib.Cold (StaticIs)
abbrev ST : String := "java/lang/String"
/-- every table word that New1's law asks, flat -/
abbrev words : List Jvm.Cond := [.code New1.yN New1.yB 2 none, .initialized ST, .methodLink ST 27 New4.yN, .instanceMethod New4.yN,
  .code New4.yN New4.yB 6 none, .fieldLink ST 38 ST "COMPACT_STRINGS" "Z", .laysFinal ST ST "value" "[B", .fieldLink ST 9 ST "value" "[B", .laysFinal ST ST "coder" "B", .fieldLink ST 15 ST "coder" "B",
  .methodLink ST 1 Lib.objectInit, .instanceMethod Lib.objectInit, .code Lib.objectInit ⟨#[0xb1]⟩ 1 none, .methodLink ST 177 Cmp3.yN, .static Cmp3.yN, .methodLink ST 47 CodL.yN, .static CodL.yN,
  .code Cmp3.yN Cmp3.yB 6 (some (.array .byte)), .initialized U16, .arrayClass .byte, .methodLink U16 115 Cmp5.yN, .static Cmp5.yN, .code Cmp5.yN Cmp5.yB 7 (some .int), .code CodL.yN CodL.yB 2 (some .byte)]
theorem tab_of {a : Array Value} {s : State} (h : ∀ w ∈ words, w.before a s = true) : New1.tab.before a s = true := by
  have h5 : Cmp5.tab.before a s = true := unparts (wk h (.code Cmp5.yN Cmp5.yB 7 (some .int))) (wks h (.initialized Cmp5.yN.cls :: Cmp5.site))
  have hc : CodL.tab.before a s = true := unparts (wk h (.code CodL.yN CodL.yB 2 (some .byte))) (wks h (.initialized CodL.yN.cls :: CodL.site))
  have q5 : ∀ w ∈ Cmp5.tab :: words, w.before a s = true := fun w hw => (List.mem_cons.mp hw).elim (fun e => e ▸ h5) (h w)
  have h3 : Cmp3.tab.before a s = true := unparts (wk q5 (.code Cmp3.yN Cmp3.yB 6 (some (.array .byte)))) (wks q5 (.initialized Cmp3.yN.cls :: Cmp3.site))
  have q3 : ∀ w ∈ Cmp3.tab :: CodL.tab :: words, w.before a s = true := fun w hw => (List.mem_cons.mp hw).elim (fun e => e ▸ h3) fun hw => (List.mem_cons.mp hw).elim (fun e => e ▸ hc) (h w)
  have h4 : New4.tab.before a s = true := unparts (wk q3 (.code New4.yN New4.yB 6 none)) (wks q3 (.initialized New4.yN.cls :: New4.site))
  have q4 : ∀ w ∈ New4.tab :: words, w.before a s = true := fun w hw => (List.mem_cons.mp hw).elim (fun e => e ▸ h4) (h w)
  exact unparts (wk q4 (.code New1.yN New1.yB 2 none)) (wks q4 (.initialized New1.yN.cls :: New1.site))
/-- the words ride from the start Z to the walk's own state -/
theorem moved {Z s : State} {a0 args : Array Value} (hZ : Z.Warmed39 s.vm) (hw : ∀ d ∈ words, d.before a0 Z = true) : ∀ d ∈ words, d.before args s = true := fun d hd => by
  have q := hw d hd
  have t : ∀ d ∈ words, d = .arrayClass .byte ∨ (d.onTables && d.keepsFace) = true := by decide +kernel
  rcases t d hd with rfl | t
  · exact RoadKit.mvA hZ q
  · exact RoadKit.mv hZ q t
/-- WHAT COMES BACK, over the tables of the start Z: h the heap at the call, h' behind it -/
def Q (Z : State) (x : Addr) (A : Cell) (h : Heap) (v : Option Value) (h' : Heap) (L : List Loc) : Prop := v = none ∧ (∀ y ∈ L, y.base = x) ∧ RoadKit.Keep h h' [x] ∧ h'.size = h.size + 1 ∧ RoadKit.Exa Z h' x ST ∧ RoadKit.Fld Z h' x ST "value" "[B" (.ref h.size) ∧ RoadKit.Fld Z h' x ST "coder" "B" (.int 0) ∧
  (∃ V : Cell, RoadKit.Arr Z h' h.size V .byte ∧ V.vm = .none ∧ Z.vm.findClass "[B" = some V.cls ∧ V.slots.size = A.slots.size ∧ ∀ j, j < A.slots.size → V.slots[j]? = some (.int (lo8 (cv A j)))) ∧
  ∀ (O n d : String) (w : Value), RoadKit.Fld Z h x O n d w → RoadKit.slotOf Z O n d ≠ RoadKit.slotOf Z ST "value" "[B" → RoadKit.slotOf Z O n d ≠ RoadKit.slotOf Z ST "coder" "B" → RoadKit.Fld Z h' x O n d w
/-- **new String(chars) AT A CALL, IN THE ROAD'S FORM**: for specialBack behind newO: x the fresh String, b the char[] with the cell A -/
theorem back {p : Program} {l : Launch} {e : Env} {R : Room} {s : State} {args : Array Value} {below : List Frame} {len W : Nat} {Z : State} {a0 : Array Value} {h : Heap} (hZ : Z.Warmed39 s.vm) (hw : ∀ d ∈ words, d.before a0 Z = true) {kI : Nat} (wi : (Jvm.Cond.instantiable ST kI).before a0 Z = true)
    {x b : Addr} {A : Cell} {z : Int32} {v0 c0 : Value} (E : RoadKit.Exa Z h x ST) (V : RoadKit.Fld Z h x ST "value" "[B" v0) (C : RoadKit.Fld Z h x ST "coder" "B" c0) (K : RoadKit.Arr Z h b A .char) (hty : Typed .char A) (S : RoadKit.Sta Z h ST "COMPACT_STRINGS" "Z" (.int z)) (hz : ¬ z = 0)
    (l0 : 0 < A.slots.size) (l2 : A.slots.size ≤ 536870912) (hp : ∀ i, i < A.slots.size → ¬ 255 < cv A i) (hfr : 4 ≤ R.frames) (hlo : W + 65 ≤ R.locals) :
    Back l R p e below s args New1.yN len W (fun P a => a = #[.ref x, .ref b] ∧ P.U.heap = h ∧ P.cells + 1 ≤ R.cells ∧ P.slots + A.slots.size ≤ R.slots)
      (fun P _ v B => ∃ L, Q Z x A h v B.U.heap L ∧ B.locs = P.locs ++ L ∧ B.cells = P.cells + 1 ∧ B.slots = P.slots + A.slots.size) := by
  intro m meth c P g ig mk a X hg hsize hdg hW hn hp'
  obtain ⟨rfl, rfl, r1, r2⟩ := hp'
  have al : Z.vm.Alike P.U.vm := hZ.alike.trans X.warmed.alike
  obtain ⟨D, cfV, kV, iV, fV, hD, gV, stV, knV, obV, asV, slV⟩ := id V
  obtain ⟨D', cfC, kC, iC, fC, hD', gC, stC, -, -, asC, slC⟩ := id C
  cases hD.symm.trans hD'
  obtain ⟨D2, kD, e1, e2, e3, e4, e5⟩ := id E
  cases hD.symm.trans e1
  obtain ⟨c2, k2, i1, i2, i3, -⟩ := Cond.instantiable_spec wi
  cases e2.symm.trans i1
  cases e3.symm.trans i2
  obtain ⟨kU, u1, u2⟩ := al.2.2 _ _ e3
  have hB : Blank ST x D P.U := ⟨hD, ⟨knV, fun q hq => by rw [hq] at obV; cases obV⟩, by rw [al.findClass]; exact e2, kU, u1, by rw [u2]; exact i3, by rw [u2]; exact e5 i3⟩
  have F1 : Found ST "value" "[B" fV P.U := ⟨SBG.found_only al ⟨cfV, kV, iV, gV⟩, stV⟩
  have F2 : Found ST "coder" "B" fC P.U := ⟨SBG.found_only al ⟨cfC, kC, iC, gC⟩, stC⟩
  have hA : Ch b A P.U := ⟨⟨K.1, State.isArrayOf_alike al K.2.1, K.2.2, by omega⟩, hty⟩
  have hS : StaticIs P.U ST "COMPACT_STRINGS" "Z" (.int z) := by
    obtain ⟨cfS, iS, kS, fS, st, cS, t1, t2, t3, t4, t5, t6, t7⟩ := S
    exact StaticIs.there (s := { Z with heap := P.U.heap }) ⟨cfS, iS, kS, fS, st, cS, t1, t2, t3, t4, t5, (fun q => by rw [q] at t6; cases t6), t7⟩ al rfl
  obtain ⟨v, B, X', ⟨⟨hv, E', V', q1, q2, q3, q4, q5, q6, q7, q8, q9, q10, q11⟩, hl, hc, hs⟩, st⟩ := New1.pays x D fV fC b A z (tab_of (moved hZ hw)) hfr hlo m meth c P g ig mk _ X hg hsize hdg hW hn ⟨r1, r2, rfl, hB, F1, F2, hA, hS, hz, l0, l2, hp⟩
  have al' : Z.vm.Alike B.U.vm := hZ.alike.trans X'.warmed.alike
  have hsz : E'.slots.size = D.slots.size := by
    obtain ⟨-, -, -, kB, w1, w2, w3⟩ := q1
    obtain ⟨kB', y1, y2⟩ := al'.2.2 _ _ e3
    rw [q2.2.1] at w1
    cases w1.symm.trans y1
    rw [w3, e5 i3, y2]
  refine ⟨v, B, X', ⟨_, ⟨hv, ?_, ⟨by omega, fun y cy hy hn' => q10 y cy (by simpa using hn') hy, fun y cy hy => ?_⟩, q11, ⟨E', _, q1.1, by rw [q2.2.1]; exact e2, by rw [q2.2.1]; exact e3, by rw [q2.1]; exact obV, fun _ => by rw [hsz]; exact e5 i3⟩,
    ⟨E', cfV, kV, iV, fV, q1.1, gV, stV, by rw [q2.1]; exact knV, by rw [q2.1]; exact obV, by rw [q2.2.1]; exact asV, q3⟩, ⟨E', cfC, kC, iC, fC, q1.1, gC, stC, by rw [q2.1]; exact knV, by rw [q2.1]; exact obV, by rw [q2.2.1]; exact asC, q4⟩,
    ⟨V', ⟨q5.1, State.isArrayOf_alike al'.symm q5.2.1, q5.2.2.1⟩, q6, by rw [← al'.findClass]; exact q7, q8, fun j hj => by have := q9 j hj; rwa [Nat.zero_add] at this⟩, fun O n d w F n1 n2 => ?_⟩, hl, hc, hs⟩, st⟩
  · intro y hy
    simp only [List.mem_cons, List.not_mem_nil, or_false] at hy
    rcases hy with rfl | rfl <;> rfl
  · by_cases q : y = x
    · subst q
      cases hD.symm.trans hy
      exact ⟨E', q1.1, q2.2.1, q2.1, hsz⟩
    · exact ⟨cy, q10 y cy q hy, rfl, rfl, rfl⟩
  · obtain ⟨D3, cf, k, i, f, g1, g2, g3, g4, g5, g6, g7⟩ := F
    cases hD.symm.trans g1
    simp only [RoadKit.slotOf, g2, gV, gC, Option.map_some, Option.getD_some] at n1 n2
    exact ⟨E', cf, k, i, f, q1.1, g2, g3, by rw [q2.1]; exact g4, by rw [q2.1]; exact g5, by rw [q2.2.1]; exact g6, by rw [q2.2.2 f.slot (by simp [n1, n2])]; exact g7⟩
end StrChars.Road
namespace StrChars.Road
open Jvm Sem ClassFile Op Lib Jvm.Stand Jvm.Free Jvm.Free.XT
/-- WHAT COMES BACK, the byte[] as a list of values -/
def QA (Z : State) (x : Addr) (zn : Int32) (cs : List Int32) (h : Heap) (v : Option Value) (h' : Heap) (L : List Loc) : Prop := v = none ∧ (∀ y ∈ L, y.base = x) ∧ RoadKit.Keep h h' [x] ∧ h'.size = h.size + 1 ∧ RoadKit.Exa Z h' x ST ∧ RoadKit.Fld Z h' x ST "value" "[B" (.ref h.size) ∧ RoadKit.Fld Z h' x ST "coder" "B" (.int 0) ∧
  (∃ kb, Z.vm.findClass "[B" = some kb ∧ RoadKit.Arv Z h' h.size kb .byte zn (cs.map fun c => .int (lo8 c)) (.int 0)) ∧
  ∀ (O n d : String) (w : Value), RoadKit.Fld Z h x O n d w → RoadKit.slotOf Z O n d ≠ RoadKit.slotOf Z ST "value" "[B" → RoadKit.slotOf Z O n d ≠ RoadKit.slotOf Z ST "coder" "B" → RoadKit.Fld Z h' x O n d w
/-- **new String(chars) AT A CALL, THE ARRAYS AS LISTS**: the char[] at b holds cs, not empty, no char above 255 -/
theorem backArv {p : Program} {l : Launch} {e : Env} {R : Room} {s : State} {args : Array Value} {below : List Frame} {len W : Nat} {Z : State} {a0 : Array Value} {h : Heap} (hZ : Z.Warmed39 s.vm) (hw : ∀ d ∈ words, d.before a0 Z = true) {kI : Nat} (wi : (Jvm.Cond.instantiable ST kI).before a0 Z = true)
    {x b : Addr} {k : ClassId} {zn z : Int32} {cs : List Int32} {dv v0 c0 : Value} (E : RoadKit.Exa Z h x ST) (V : RoadKit.Fld Z h x ST "value" "[B" v0) (C : RoadKit.Fld Z h x ST "coder" "B" c0) (K : RoadKit.Arv Z h b k .char zn (cs.map Value.int) dv) (S : RoadKit.Sta Z h ST "COMPACT_STRINGS" "Z" (.int z)) (hz : ¬ z = 0)
    (hlen : zn.toNatClampNeg = cs.length) (h0 : 0 < cs.length) (hbig : cs.length ≤ 536870912) (hall : ∀ c ∈ cs, ¬ 255 < c) (hfr : 4 ≤ R.frames) (hlo : W + 65 ≤ R.locals) :
    Back l R p e below s args New1.yN len W (fun P a => a = #[.ref x, .ref b] ∧ P.U.heap = h ∧ P.cells + 1 ≤ R.cells ∧ P.slots + cs.length ≤ R.slots)
      (fun P _ v B => ∃ L, QA Z x zn cs h v B.U.heap L ∧ B.locs = P.locs ++ L ∧ B.cells = P.cells + 1 ∧ B.slots = P.slots + cs.length) := by
  obtain ⟨A, K1, K2, K3, K4, K5, K6⟩ := K
  have e : A.slots.size = cs.length := K3.trans hlen
  have hat : ∀ (i : Nat) (hi : i < cs.length), A.slots[i]? = some (.int cs[i]) := fun i hi => by rw [K5 i (by omega)]; simp [List.getD_eq_getElem?_getD, hi]
  have hcv : ∀ (i : Nat) (hi : i < cs.length), cv A i = cs[i] := fun i hi => by unfold cv; rw [hat i hi]
  have hty : Typed .char A := fun i v hv => by
    have hi : i < A.slots.size := (Array.getElem?_eq_some_iff.mp hv).1
    have q := K5 i hi
    rw [hv] at q
    rw [Option.some.inj q]
    exact K6 i hi
  refine Back.mono (back hZ hw wi E V C K1 hty S hz (by omega) (by omega) (fun i hi => by rw [hcv i (by omega)]; exact hall _ (List.getElem_mem _)) hfr hlo) (fun P a hp => ⟨hp.1, hp.2.1, hp.2.2.1, by rw [e]; exact hp.2.2.2⟩) (fun P a v B hp hq => ?_)
  obtain ⟨L, ⟨q1, q2, q3, q4, q5, q6, q7, ⟨V', v1, v2, v3, v4, v5⟩, q9⟩, hl, hc, hs⟩ := hq
  refine ⟨L, ⟨q1, q2, q3, q4, q5, q6, q7, ⟨V'.cls, v3, V', v1, rfl, by rw [v4, e, hlen], K4, fun i hi => ?_, fun i hi => ?_⟩, q9⟩, hl, hc, by rw [hs, e]⟩
  · have hi' : i < cs.length := by omega
    rw [v5 i (by omega), hcv i hi']; simp [List.getD_eq_getElem?_getD, hi']
  · have hi' : i < cs.length := by omega
    simp only [List.getD_eq_getElem?_getD, List.getElem?_map, List.getElem?_eq_getElem hi', Option.map_some, Option.getD_some]
    exact fits_lo8 _
end StrChars.Road
namespace StrChars.Road
open Jvm Sem ClassFile Op Lib Jvm.Stand Jvm.Free Jvm.Free.XT
/-- WHAT COMES BACK, in the writer's own shape -/
def QV (Z : State) (x : Addr) (N : Int32) (bs : List Int32) (h : Heap) (n0 : Nat) (v : Option Value) (h' : Heap) (L : List Loc) : Prop := v = none ∧ RoadKit.Fr n0 L ∧ RoadKit.Keep h h' [x] ∧ RoadKit.Exa Z h' x ST ∧ RoadKit.Fld Z h' x ST "coder" "B" (.int 0) ∧
  ∃ (t : Addr) (kb : ClassId), n0 ≤ t ∧ h.size ≤ t ∧ ¬ t = x ∧ RoadKit.Fld Z h' x ST "value" "[B" (.ref t) ∧ RoadKit.Arv Z h' t kb .byte N (bs.map Value.int) (.int 0)
/-- **new String(chars) AT A CALL, FOR THE WRITER**: a char[] of n known ints, each 0 to 255 -/
theorem backV {p : Program} {l : Launch} {e : Env} {R : Room} {s : State} {args : Array Value} {below : List Frame} {len W : Nat} {Z : State} {a0 : Array Value} {h : Heap} (hZ : Z.Warmed39 s.vm) (hw : ∀ d ∈ words, d.before a0 Z = true) {kI : Nat} (wi : (Jvm.Cond.instantiable ST kI).before a0 Z = true)
    {x b : Addr} {kC : ClassId} {cs bs : List Int32} {d v0 c0 : Value} {z N : Int32} {n n0 : Nat} (hx0 : n0 ≤ x) (hh0 : n0 ≤ h.size) (E : RoadKit.Exa Z h x ST) (V : RoadKit.Fld Z h x ST "value" "[B" v0) (C : RoadKit.Fld Z h x ST "coder" "B" c0) (K : RoadKit.Arv Z h b kC .char N (cs.map Value.int) d) (S : RoadKit.Sta Z h ST "COMPACT_STRINGS" "Z" (.int z)) (hz : ¬ z = 0)
    (hn : cs.length = n) (hN : N = Int32.ofNat n) (l0 : 0 < n) (l2 : n ≤ 4000) (hp : ∀ c ∈ cs, ¬ c < 0 ∧ ¬ (255 : Int32) < c) (hb : bs = cs.map (fun c => c.toInt8.toInt32)) (hfr : 4 ≤ R.frames) (hlo : W + 65 ≤ R.locals) :
    Back l R p e below s args (⟨"java/lang/String", "<init>", "([C)V"⟩ : MethodName) len W (fun P a => a = #[.ref x, .ref b] ∧ P.U.heap = h ∧ P.cells + 1 ≤ R.cells ∧ P.slots + n ≤ R.slots)
      (fun P _ v B => ∃ L, QV Z x N bs h n0 v B.U.heap L ∧ B.locs = P.locs ++ L ∧ B.cells = P.cells + 1 ∧ B.slots = P.slots + n) := by
  subst hn hN hb
  refine Back.mono (backArv hZ hw wi E V C K S hz (n32 (by omega)) l0 (by omega) (fun c hc => (hp c hc).2) hfr hlo) (fun P a hp => hp) (fun P a v B hp hq => ?_)
  obtain ⟨L, ⟨q1, q2, q3, q4, q5, q6, q7, ⟨kb, v1, v2⟩, q9⟩, hl, hc, hs⟩ := hq
  exact ⟨L, ⟨q1, fun y hy => by rw [q2 y hy]; exact hx0, q3, q5, q7, h.size, kb, hh0, Nat.le_refl _, Nat.ne_of_gt E.lt, q6, by rw [List.map_map]; exact v2⟩, hl, hc, hs⟩
end StrChars.Road
namespace StrChars
open Jvm Sem ClassFile Op Lib Jvm.Stand Jvm.Free.XT Jvm.Free.ALB Jvm.Free.JM Jvm.Free
open Jvm.Lib.Cold (StaticIs)
def hi8 (x : Int32) : Int32 := lo8 (x >>> ((8 : Int32) &&& 31))
/-- what StringUTF16.getChar makes of two bytes -/
def pairCh (u v : Int32) : Int32 := (((u &&& 255) <<< ((0 : Int32) &&& 31)) ||| ((v &&& 255) <<< ((8 : Int32) &&& 31))).toUInt32.toUInt16.toUInt32.toInt32
theorem lo8_and (x : Int32) : (lo8 x &&& 255).toBitVec.toNat = x.toBitVec.toNat % 256 := by
  have h : (lo8 x).toBitVec = (x.toBitVec.signExtend 8).signExtend 32 := by rw [lo8, Int8.toBitVec_toInt32, Int32.toBitVec_toInt8]
  rw [Int32.toBitVec_and, BitVec.toNat_and, h]
  have e : ((x.toBitVec.signExtend 8).signExtend 32).toNat % 256 = x.toBitVec.toNat % 256 := by
    rw [BitVec.toNat_signExtend]
    have hlt := x.toBitVec.isLt
    simp only [BitVec.toNat_setWidth, BitVec.toNat_signExtend]
    split <;> split <;> omega
  rw [← e]
  exact Nat.and_two_pow_sub_one_eq_mod _ 8
theorem pair_says {c : Int32} (h0 : ¬ c < 0) (h1 : ¬ 65535 < c) : pairCh (lo8 c) (hi8 c) = c := by
  rw [Int32.lt_iff_toInt_lt] at h0 h1
  have e0 : (0 : Int32).toInt = 0 := rfl
  have e1 : (65535 : Int32).toInt = 65535 := rfl
  have hc : c.toInt = c.toBitVec.toNat := by
    have := c.toBitVec.isLt
    have e : c.toInt = c.toBitVec.toInt := rfl
    rw [e] at h0 h1
    rw [e]
    rw [BitVec.toInt_eq_toNat_cond] at h0 h1 ⊢
    split at h0 <;> split <;> omega
  have hn : c.toBitVec.toNat < 65536 := by omega
  have a1 := lo8_and c
  have a2 : (hi8 c &&& 255).toBitVec.toNat = c.toBitVec.toNat / 256 := by
    rw [hi8, lo8_and]
    have e : ((8 : Int32) &&& 31) = 8 := by decide
    rw [e, Int32.toBitVec_shiftRight]
    have e2 : ((8 : Int32).toBitVec.smod 32) = 8#32 := by decide
    rw [e2, BitVec.sshiftRight_eq', BitVec.toNat_sshiftRight_of_msb_false (by rw [BitVec.msb_eq_false_iff_two_mul_lt]; omega)]
    show c.toBitVec.toNat >>> 8 % 256 = _
    rw [Nat.shiftRight_eq_div_pow]
    omega
  unfold pairCh
  apply Int32.toBitVec_inj.mp
  apply BitVec.eq_of_toNat_eq
  have f0 : ((0 : Int32) &&& 31) = 0 := by decide
  have f8 : ((8 : Int32) &&& 31) = 8 := by decide
  rw [f0, f8]
  have g : (((lo8 c &&& 255) <<< (0 : Int32)) ||| ((hi8 c &&& 255) <<< (8 : Int32))).toBitVec.toNat = c.toBitVec.toNat := by
    rw [Int32.toBitVec_or, Int32.toBitVec_shiftLeft, Int32.toBitVec_shiftLeft]
    have s0 : ((0 : Int32).toBitVec.smod 32) = 0#32 := by decide
    have s8 : ((8 : Int32).toBitVec.smod 32) = 8#32 := by decide
    rw [s0, s8, BitVec.toNat_or]
    simp only [BitVec.shiftLeft_eq', BitVec.toNat_shiftLeft, a1, a2]
    show (c.toBitVec.toNat % 256) <<< 0 % 2 ^ 32 ||| (c.toBitVec.toNat / 256) <<< 8 % 2 ^ 32 = _
    rw [Nat.shiftLeft_zero, Nat.mod_eq_of_lt (show c.toBitVec.toNat % 256 < 2 ^ 32 by omega), Nat.mod_eq_of_lt (show (c.toBitVec.toNat / 256) <<< 8 < 2 ^ 32 by rw [Nat.shiftLeft_eq]; omega), Nat.or_comm, ← Nat.shiftLeft_add_eq_or_of_lt (by omega), Nat.shiftLeft_eq]
    omega
  show BitVec.toNat (((((lo8 c &&& 255) <<< (0 : Int32)) ||| ((hi8 c &&& 255) <<< (8 : Int32))).toBitVec.setWidth 16).setWidth 32) = _
  rw [BitVec.toNat_setWidth, BitVec.toNat_setWidth, g]
  omega
end StrChars
namespace StrChars
open Jvm Sem ClassFile Op Lib Jvm.Stand Jvm.Free.XT Jvm.Free.ALB Jvm.Free.JM Jvm.Free
open Jvm.Lib.Cold (StaticIs)
/-- the array's cell V codes the n chars f 0 .. f (n - 1) by the coder cd, as the JDK does: coder 1 just where some char is above 255 -/
def Cod (cd : Int32) (n : Nat) (f : Nat → Int32) (V : Cell) : Prop := (cd = 0 ∧ V.slots.size = n ∧ ∀ j, j < n → V.slots[j]? = some (.int (lo8 (f j))) ∧ ¬ 255 < f j) ∨ (cd = 1 ∧ V.slots.size = 2 * n ∧ (∀ j, j < n → V.slots[2 * j]? = some (.int (lo8 (f j))) ∧ V.slots[2 * j + 1]? = some (.int (hi8 (f j)))) ∧ ∃ j, j < n ∧ 255 < f j)
/-- **x is a String of the n chars f 0 .. f (n - 1)**, Latin-1 or UTF-16; its array at t has the cell V -/
def Txt (x t : Addr) (V : Cell) (cd : Int32) (n : Nat) (f : Nat → Int32) (U : State) : Prop := Exact "java/lang/String" x U ∧ Has x "java/lang/String" "value" "[B" (.ref t) U ∧ Has x "java/lang/String" "coder" "B" (.int cd) U ∧ XT.Arr .byte t V U ∧ Cod cd n f V ∧ ∀ j, j < n → ¬ f j < 0 ∧ ¬ 65535 < f j
theorem Txt.mv {x t : Addr} {V : Cell} {cd : Int32} {n : Nat} {f : Nat → Int32} {U U' : State} (h : Txt x t V cd n f U) (hal : U.vm.Alike U'.vm) (hh : U'.heap = U.heap) : Txt x t V cd n f U' := ⟨h.1.mv hal hh, h.2.1.mv hal hh, h.2.2.1.mv hal hh, h.2.2.2.1.mv hal hh, h.2.2.2.2⟩
end StrChars
namespace StrChars.Road
open Jvm Sem ClassFile Op Lib Jvm.Stand Jvm.Free Jvm.Free.XT
open Jvm.Lib.Cold (StaticIs)
theorem consq {a : Array Value} {s : State} {c : Jvm.Cond} {L : List Jvm.Cond} (h0 : c.before a s = true) (h : ∀ w ∈ L, w.before a s = true) : ∀ w ∈ c :: L, w.before a s = true := fun w hw => (List.mem_cons.mp hw).elim (fun e => e ▸ h0) (h w)
/-- the bytes of the chars cs, low before high -/
def wideBytes : List Int32 → List Value
  | [] => []
  | c :: cs => .int (lo8 c) :: .int (hi8 c) :: wideBytes cs
theorem wide_lo (d : Value) : ∀ (cs : List Int32) (j : Nat), j < cs.length → (wideBytes cs).getD (2 * j) d = .int (lo8 (cs.getD j 0))
  | [], j, h => absurd h (Nat.not_lt_zero j)
  | c :: cs, 0, _ => rfl
  | c :: cs, j + 1, h => by
    have q := wide_lo d cs j (by simpa using h)
    rw [show 2 * (j + 1) = 2 * j + 1 + 1 from by omega]
    simpa [wideBytes] using q
theorem wide_hi (d : Value) : ∀ (cs : List Int32) (j : Nat), j < cs.length → (wideBytes cs).getD (2 * j + 1) d = .int (hi8 (cs.getD j 0))
  | [], j, h => absurd h (Nat.not_lt_zero j)
  | c :: cs, 0, _ => rfl
  | c :: cs, j + 1, h => by
    have q := wide_hi d cs j (by simpa using h)
    rw [show 2 * (j + 1) + 1 = 2 * j + 1 + 1 + 1 from by omega]
    simpa [wideBytes] using q
theorem low_at (d : Value) (cs : List Int32) (j : Nat) (h : j < cs.length) : (cs.map fun c => Value.int (lo8 c)).getD j d = .int (lo8 (cs.getD j 0)) := by
  simp [List.getD_eq_getElem?_getD, h]
/-- an array of N2 bytes vs codes the chars cs by the coder cd -/
def CodA (cs : List Int32) (cd N2 : Int32) (vs : List Value) : Prop := (cd = 0 ∧ N2 = Int32.ofNat cs.length ∧ vs = (cs.map fun c => Value.int (lo8 c)) ∧ ∀ c ∈ cs, ¬ 255 < c) ∨ (cd = 1 ∧ N2 = Int32.ofNat (2 * cs.length) ∧ vs = wideBytes cs ∧ ∃ c ∈ cs, 255 < c)
theorem CodA.cod {cs : List Int32} {cd N2 : Int32} {vs : List Value} {V : Cell} (h : CodA cs cd N2 vs) (hn : 2 * cs.length < 2 ^ 31) (hs : V.slots.size = N2.toNatClampNeg) (hv : RoadKit.Has V vs (.int 0)) : Cod cd cs.length (fun j => cs.getD j 0) V := by
  rcases h with ⟨rfl, rfl, rfl, h⟩ | ⟨rfl, rfl, rfl, c, hc, hw⟩
  · rw [n32 (by omega)] at hs
    exact Or.inl ⟨rfl, hs, fun j hj => ⟨by rw [hv j (by omega), low_at _ _ _ hj], by
      have e : cs.getD j 0 = cs[j] := by simp [List.getD_eq_getElem?_getD, hj]
      show ¬ 255 < cs.getD j 0
      rw [e]; exact h _ (List.getElem_mem _)⟩⟩
  · rw [n32 (by omega)] at hs
    obtain ⟨j, hj, rfl⟩ := List.getElem_of_mem hc
    exact Or.inr ⟨rfl, hs, fun j hj => ⟨by rw [hv _ (by omega), wide_lo _ _ _ hj], by rw [hv _ (by omega), wide_hi _ _ _ hj]⟩, j, hj, by
      have e : cs.getD j 0 = cs[j] := by simp [List.getD_eq_getElem?_getD, hj]
      show 255 < cs.getD j 0
      rw [e]; exact hw⟩
/-- an object of exactly java/lang/String, its two fields found: as the laws ask it -/
theorem strObj {Z U : State} {a0 : Array Value} {kI : Nat} (wi : (Jvm.Cond.instantiable ST kI).before a0 Z = true) (al : Z.vm.Alike U.vm) {x : Addr} {v0 c0 : Value} (E : RoadKit.Exa Z U.heap x ST) (V : RoadKit.Fld Z U.heap x ST "value" "[B" v0) (C : RoadKit.Fld Z U.heap x ST "coder" "B" c0) :
    ∃ (D : Cell) (fV fC : Field), Blank ST x D U ∧ Found ST "value" "[B" fV U ∧ Found ST "coder" "B" fC U ∧ D.slots[fV.slot]? = some v0 ∧ D.slots[fC.slot]? = some c0 ∧ RoadKit.slotOf Z ST "value" "[B" = fV.slot ∧ RoadKit.slotOf Z ST "coder" "B" = fC.slot := by
  obtain ⟨D, cfV, kV, iV, fV, hD, gV, stV, knV, obV, asV, slV⟩ := V
  obtain ⟨D', cfC, kC, iC, fC, hD', gC, stC, -, -, asC, slC⟩ := C
  cases hD.symm.trans hD'
  obtain ⟨D2, kD, e1, e2, e3, e4, e5⟩ := E
  cases hD.symm.trans e1
  obtain ⟨c2, k2, i1, i2, i3, -⟩ := Cond.instantiable_spec wi
  cases e2.symm.trans i1
  cases e3.symm.trans i2
  obtain ⟨kU, u1, u2⟩ := al.2.2 _ _ e3
  exact ⟨D, fV, fC, ⟨hD, ⟨knV, fun q hq => by rw [hq] at obV; cases obV⟩, by rw [al.findClass]; exact e2, kU, u1, by rw [u2]; exact i3, by rw [u2]; exact e5 i3⟩, ⟨SBG.found_only al ⟨cfV, kV, iV, gV⟩, stV⟩, ⟨SBG.found_only al ⟨cfC, kC, iC, gC⟩, stC⟩, slV, slC, by simp [RoadKit.slotOf, gV], by simp [RoadKit.slotOf, gC]⟩
theorem sta_is {Z U : State} (al : Z.vm.Alike U.vm) {C n d : String} {v : Value} (S : RoadKit.Sta Z U.heap C n d v) : StaticIs U C n d v := by
  obtain ⟨cfS, iS, kS, fS, st, cS, t1, t2, t3, t4, t5, t6, t7⟩ := S
  exact StaticIs.there (s := { Z with heap := U.heap }) ⟨cfS, iS, kS, fS, st, cS, t1, t2, t3, t4, t5, (fun q => by rw [q] at t6; cases t6), t7⟩ al rfl
end StrChars.Road
namespace StrChars
open Jvm Sem ClassFile Op Lib Jvm.Stand Jvm.Free.XT Jvm.Free.ALB Jvm.Free.JM Jvm.Free
open Jvm.Lib.Cold (StaticIs)
/-- what place i of a byte[]'s cell holds -/
def yv (A : Cell) (i : Nat) : Int32 := match A.slots[i]? with | some (.int x) => x | _ => 0
theorem yv_get {a : Addr} {A : Cell} {U : State} (h : XT.Arr .byte a A U) (ht : Typed .byte A) {i : Nat} (hi : i < A.slots.size) : A.slots[i]? = some (.int (yv A i)) := by
  have e := Array.getElem?_eq_getElem hi
  have f := ht i _ e
  unfold yv; rw [e]
  generalize A.slots[i] = v at f
  cases v <;> simp [fits] at f ⊢
/-- the two arrays are equal, place for place -/
def EqC (A B : Cell) : Prop := A.slots.size = B.slots.size ∧ ∀ i, i < A.slots.size → yv A i = yv B i
/-- a boolean that says whether p -/
def Says01 (q : Prop) (r : Option Value) (s u : State) : Prop := ∃ v : Int32, r = some (.int v) ∧ u.heap = s.heap ∧ ((v = 1 ∧ q) ∨ (v = 0 ∧ ¬ q))
theorem Says01.mv {q : Prop} : ∀ r (U U' V V' : State), U'.heap = U.heap → V.vm.Alike V'.vm → V'.heap = V.heap → Says01 q r U V → Says01 q r U' V' :=
  fun r U U' V V' h1 _ h2 ⟨v, a, b, c⟩ => ⟨v, a, by rw [h1, h2]; exact b, c⟩
namespace LEq
def yN : MethodName := ⟨"java/lang/StringLatin1", "equals", "([B[B)Z"⟩
abbrev yB : ByteArray := jdk_43_method_13_code
theorem d0 : decode yB 0 = .ok (.aload_n 0, 1) := by decide +kernel
theorem d1 : decode yB 1 = .ok (.arraylength, 1) := by decide +kernel
theorem d2 : decode yB 2 = .ok (.aload_n 1, 1) := by decide +kernel
theorem d3 : decode yB 3 = .ok (.arraylength, 1) := by decide +kernel
theorem d4 : decode yB 4 = .ok (.if_icmp (.ne) 30, 3) := by decide +kernel
theorem d7 : decode yB 7 = .ok (.iconst 0, 1) := by decide +kernel
theorem d8 : decode yB 8 = .ok (.istore_n 2, 1) := by decide +kernel
theorem d9 : decode yB 9 = .ok (.iload_n 2, 1) := by decide +kernel
theorem d10 : decode yB 10 = .ok (.aload_n 0, 1) := by decide +kernel
theorem d11 : decode yB 11 = .ok (.arraylength, 1) := by decide +kernel
theorem d12 : decode yB 12 = .ok (.if_icmp (.ge) 20, 3) := by decide +kernel
theorem d15 : decode yB 15 = .ok (.aload_n 0, 1) := by decide +kernel
theorem d16 : decode yB 16 = .ok (.iload_n 2, 1) := by decide +kernel
theorem d17 : decode yB 17 = .ok (.baload, 1) := by decide +kernel
theorem d18 : decode yB 18 = .ok (.aload_n 1, 1) := by decide +kernel
theorem d19 : decode yB 19 = .ok (.iload_n 2, 1) := by decide +kernel
theorem d20 : decode yB 20 = .ok (.baload, 1) := by decide +kernel
theorem d21 : decode yB 21 = .ok (.if_icmp (.eq) 5, 3) := by decide +kernel
theorem d24 : decode yB 24 = .ok (.iconst 0, 1) := by decide +kernel
theorem d25 : decode yB 25 = .ok (.ireturn, 1) := by decide +kernel
theorem d26 : decode yB 26 = .ok (.iinc 2 1, 3) := by decide +kernel
theorem d29 : decode yB 29 = .ok (.goto (-20), 3) := by decide +kernel
theorem d32 : decode yB 32 = .ok (.iconst 1, 1) := by decide +kernel
theorem d33 : decode yB 33 = .ok (.ireturn, 1) := by decide +kernel
theorem d34 : decode yB 34 = .ok (.iconst 0, 1) := by decide +kernel
theorem d35 : decode yB 35 = .ok (.ireturn, 1) := by decide +kernel
def site : List Cond := []
def tab : Cond := tabOf yN yB 3 (some .boolean) site
def P (a : Addr) (A : Cell) (b : Addr) (B : Cell) (args : Array Value) (s : State) : Prop := args = #[.ref a, .ref b] ∧ XT.Arr .byte a A s ∧ Typed .byte A ∧ XT.Arr .byte b B s ∧ Typed .byte B
/-- whether two byte[] are equal, place for place -/
theorem law (l : Launch) (a : Addr) (A : Cell) (b : Addr) (B : Cell) : Law l yN 2 2 0 0 yB 3 (some .boolean) site (P a A b B) (Says01 (EqC A B)) [] 0 0 := by
  refine Law.of_walk (plainFor_of_name (by decide +kernel)) (by decide +kernel) (by decide +kernel) (by decide) (fun _ _ h => by rw [h.1]; rfl) (fun _ U U' hal hh h => ⟨h.1, h.2.1.mv hal hh, h.2.2.1, h.2.2.2.1.mv hal hh, h.2.2.2.2⟩) (fun r U U' V V' h1 hal h2 h => Says01.mv r U U' V V' h1 hal h2 h) ?_
  intro p e s m args below meth c s₁ X0 hexec hbytes hml hret hlk hnm hown hh0 W hP
  obtain ⟨rfl, hA, tA, hB, tB⟩ := hP
  have a31 := hA.2.2.2
  have b31 := hB.2.2.2
  have hA0 := hA.mv X0.warmed.alike hh0
  have hB0 := hB.mv X0.warmed.alike hh0
  have c1 : Steps p.tables e below (s₁.setTop (entryFrame m #[.ref a, .ref b] 3)) (s₁.setTop (mkF m 0 #[.val (.ref a), .val (.ref b), .unset] [])) := entry rfl
  have c2 : Steps p.tables e below (s₁.setTop (entryFrame m #[.ref a, .ref b] 3)) (s₁.setTop (mkF m 4 #[.val (.ref a), .val (.ref b), .unset] [.int (Int32.ofNat B.slots.size), .int (Int32.ofNat A.slots.size)])) := c1.trans (by
    refine XS.aloadN X0.here hexec rfl (hb hbytes d0) rfl rfl ?_
    refine X0.alen hexec hA0 rfl rfl (hb hbytes d1) ?_
    refine XS.aloadN X0.here hexec rfl (hb hbytes d2) rfl rfl ?_
    refine X0.alen hexec hB0 rfl rfl (hb hbytes d3) ?_
    exact Steps.refl _)
  by_cases hs : A.slots.size = B.slots.size
  · have c3 : Steps p.tables e below (s₁.setTop (entryFrame m #[.ref a, .ref b] 3)) (s₁.setTop (mkF m 9 #[.val (.ref a), .val (.ref b), .val (.int 0)] [])) := c2.trans (by
      refine XS.icmpNo X0.here hexec rfl (hb hbytes d4) rfl (ii_ne_f (by rw [hs])) ?_
      refine iconstV X0.here hexec rfl 0 (hb hbytes d7) (by decide) ?_
      refine XS.istoreN X0.here hexec rfl (hb hbytes d8) rfl rfl ?_
      exact Steps.refl _)
    have loop : ∀ (r i : Nat), i + r = A.slots.size → (∀ j, j < i → yv A j = yv B j) → Steps p.tables e below (s₁.setTop (entryFrame m #[.ref a, .ref b] 3)) (s₁.setTop (mkF m 9 #[.val (.ref a), .val (.ref b), .val (.int (Int32.ofNat i))] [])) → ∃ (pc : Nat) (Ls : Array Slot) (v : Int32), (pc = 25 ∨ pc = 33) ∧ ((v = 1 ∧ EqC A B) ∨ (v = 0 ∧ ¬ EqC A B)) ∧ Steps p.tables e below (s₁.setTop (entryFrame m #[.ref a, .ref b] 3)) (s₁.setTop (mkF m pc Ls [.int v])) := by
      intro r
      induction r with
      | zero =>
        intro i hi he cl
        exact ⟨33, _, 1, Or.inr rfl, Or.inl ⟨rfl, hs, fun j hj => he j (by omega)⟩, cl.trans (by
          refine XS.iloadN X0.here hexec rfl (hb hbytes d9) rfl ?_
          refine XS.aloadN X0.here hexec rfl (hb hbytes d10) rfl rfl ?_
          refine X0.alen hexec hA0 rfl rfl (hb hbytes d11) ?_
          refine XS.icmpYes X0.here hexec rfl (pc0 := 12) rfl (hb hbytes d12) rfl (ii_ge_t (nlt32 (by omega) (by omega))) (by decide) rfl ?_
          refine iconstV X0.here hexec rfl 1 (hb hbytes d32) (by decide) ?_
          exact Steps.refl _)⟩
      | succ r ih =>
        intro i hi he cl
        have c4 : Steps p.tables e below (s₁.setTop (entryFrame m #[.ref a, .ref b] 3)) (s₁.setTop (mkF m 21 #[.val (.ref a), .val (.ref b), .val (.int (Int32.ofNat i))] [.int (yv B i), .int (yv A i)])) := cl.trans (by
          refine XS.iloadN X0.here hexec rfl (hb hbytes d9) rfl ?_
          refine XS.aloadN X0.here hexec rfl (hb hbytes d10) rfl rfl ?_
          refine X0.alen hexec hA0 rfl rfl (hb hbytes d11) ?_
          refine XS.icmpNo X0.here hexec rfl (hb hbytes d12) rfl (ii_ge_f (lt32 (by omega) (by omega))) ?_
          refine XS.aloadN X0.here hexec rfl (hb hbytes d15) rfl rfl ?_
          refine XS.iloadN X0.here hexec rfl (hb hbytes d16) rfl ?_
          refine X0.aget hexec hA0 rfl (yv_get hA tA (i := i) (by omega)) rfl rfl (hb hbytes d17) ?_
          refine XS.aloadN X0.here hexec rfl (hb hbytes d18) rfl rfl ?_
          refine XS.iloadN X0.here hexec rfl (hb hbytes d19) rfl ?_
          refine X0.aget hexec hB0 rfl (yv_get hB tB (i := i) (by omega)) rfl rfl (hb hbytes d20) ?_
          exact Steps.refl _)
        by_cases hv : yv A i = yv B i
        · have c5 : Steps p.tables e below (s₁.setTop (entryFrame m #[.ref a, .ref b] 3)) (s₁.setTop (mkF m 9 #[.val (.ref a), .val (.ref b), .val (.int (Int32.ofNat i + 1))] [])) := c4.trans (by
            refine XS.icmpYes X0.here hexec rfl (pc0 := 21) rfl (hb hbytes d21) rfl (ii_eq_t hv) (by decide) rfl ?_
            refine iincV X0.here hexec rfl 1 (hb hbytes d26) (by decide) rfl rfl ?_
            refine XS.goto X0.here hexec rfl (pc0 := 29) rfl (hb hbytes d29) (by decide) rfl ?_
            exact Steps.refl _)
          rw [succ32] at c5
          exact ih (i + 1) (by omega) (fun j hj => by
            by_cases e : j = i
            · rw [e]; exact hv
            · exact he j (by omega)) c5
        · exact ⟨25, _, 0, Or.inl rfl, Or.inr ⟨rfl, fun q => hv (q.2 i (by omega))⟩, c4.trans (by
            refine XS.icmpNo X0.here hexec rfl (hb hbytes d21) rfl (ii_eq_f hv) ?_
            refine iconstV X0.here hexec rfl 0 (hb hbytes d24) (by decide) ?_
            exact Steps.refl _)⟩
    obtain ⟨pc, Ls, v, hpc, hv, cz⟩ := loop A.slots.size 0 (by omega) (fun j hj => absurd hj (Nat.not_lt_zero j)) c3
    have nv : narrow .boolean (.int v) = .int v := by rcases hv with ⟨rfl, -⟩ | ⟨rfl, -⟩ <;> rfl
    rcases hpc with rfl | rfl
    · exact ⟨s₁, some (.int v), _, _, _, X0, rfl, rfl, rfl, (fun h => by cases h), ⟨v, rfl, hh0, hv⟩, fun fs hl => cz.trans (X0.ireturnOut hexec hret nv (Or.inr (Or.inl rfl)) (hb hbytes d25) hl)⟩
    · exact ⟨s₁, some (.int v), _, _, _, X0, rfl, rfl, rfl, (fun h => by cases h), ⟨v, rfl, hh0, hv⟩, fun fs hl => cz.trans (X0.ireturnOut hexec hret nv (Or.inr (Or.inl rfl)) (hb hbytes d33) hl)⟩
  · have c3 : Steps p.tables e below (s₁.setTop (entryFrame m #[.ref a, .ref b] 3)) (s₁.setTop (mkF m 35 #[.val (.ref a), .val (.ref b), .unset] [.int 0])) := c2.trans (by
      refine XS.icmpYes X0.here hexec rfl (pc0 := 4) rfl (hb hbytes d4) rfl (ii_ne_t (ne32 a31 b31 hs)) (by decide) rfl ?_
      refine iconstV X0.here hexec rfl 0 (hb hbytes d34) (by decide) ?_
      exact Steps.refl _)
    exact ⟨s₁, some (.int 0), _, _, _, X0, rfl, rfl, rfl, (fun h => by cases h), ⟨0, rfl, hh0, Or.inr ⟨rfl, fun q => hs q.1⟩⟩, fun fs hl => c3.trans (X0.ireturnOut hexec hret rfl (Or.inr (Or.inl rfl)) (hb hbytes d35) hl)⟩
end LEq
theorem Cod.ty {cd : Int32} {n : Nat} {f : Nat → Int32} {V : Cell} (h : Cod cd n f V) : Typed .byte V := fun i v hv => by
  have hi : i < V.slots.size := (Array.getElem?_eq_some_iff.mp hv).1
  rcases h with ⟨-, k1, k2⟩ | ⟨-, k1, k2, -⟩
  · rw [(k2 i (by omega)).1] at hv; cases hv; exact fits_lo8 _
  · rcases Nat.mod_two_eq_zero_or_one i with e | e
    · obtain ⟨j, rfl⟩ : ∃ j, i = 2 * j := ⟨i / 2, by omega⟩
      rw [(k2 j (by omega)).1] at hv; cases hv; exact fits_lo8 _
    · obtain ⟨j, rfl⟩ : ∃ j, i = 2 * j + 1 := ⟨i / 2, by omega⟩
      rw [(k2 j (by omega)).2] at hv; cases hv; exact fits_lo8 _
/-- the same text -/
def SameT (n : Nat) (f : Nat → Int32) (k : Nat) (g : Nat → Int32) : Prop := n = k ∧ ∀ j, j < n → f j = g j
theorem lo8_inj {x y : Int32} (h0 : ¬ x < 0) (h1 : ¬ 255 < x) (k0 : ¬ y < 0) (k1 : ¬ 255 < y) (h : lo8 x = lo8 y) : x = y := by
  rw [← lo8_mask h0 h1, ← lo8_mask k0 k1, h]
/-- arrays coded by one coder are equal just where the texts are -/
theorem Cod.eqv {cd : Int32} {n k : Nat} {f g : Nat → Int32} {V V' : Cell} (h : Cod cd n f V) (h' : Cod cd k g V') (hf : ∀ j, j < n → ¬ f j < 0 ∧ ¬ 65535 < f j) (hg : ∀ j, j < k → ¬ g j < 0 ∧ ¬ 65535 < g j) : EqC V V' ↔ SameT n f k g := by
  have yvv : ∀ {W : Cell} {i : Nat} {x : Int32}, W.slots[i]? = some (.int x) → yv W i = x := fun q => by unfold yv; rw [q]
  rcases h with ⟨rfl, k1, k2⟩ | ⟨rfl, k1, k2, -⟩
  · rcases h' with ⟨-, m1, m2⟩ | ⟨e, -⟩
    · constructor
      · rintro ⟨e1, e2⟩
        refine ⟨by omega, fun j hj => ?_⟩
        have q := e2 j (by omega)
        rw [yvv (k2 j hj).1, yvv (m2 j (by omega)).1] at q
        exact lo8_inj (hf j hj).1 (k2 j hj).2 (hg j (by omega)).1 (m2 j (by omega)).2 q
      · rintro ⟨rfl, e2⟩
        refine ⟨by omega, fun j hj => ?_⟩
        rw [yvv (k2 j (by omega)).1, yvv (m2 j (by omega)).1, e2 j (by omega)]
    · exact absurd e (by decide)
  · rcases h' with ⟨e, -⟩ | ⟨-, m1, m2, -⟩
    · exact absurd e (by decide)
    · constructor
      · rintro ⟨e1, e2⟩
        refine ⟨by omega, fun j hj => ?_⟩
        have q1 := e2 (2 * j) (by omega)
        have q2 := e2 (2 * j + 1) (by omega)
        rw [yvv (k2 j hj).1, yvv (m2 j (by omega)).1] at q1
        rw [yvv (k2 j hj).2, yvv (m2 j (by omega)).2] at q2
        rw [← pair_says (hf j hj).1 (hf j hj).2, ← pair_says (hg j (by omega)).1 (hg j (by omega)).2, q1, q2]
      · rintro ⟨rfl, e2⟩
        refine ⟨by omega, fun i hi => ?_⟩
        rcases Nat.mod_two_eq_zero_or_one i with e | e
        · obtain ⟨j, rfl⟩ : ∃ j, i = 2 * j := ⟨i / 2, by omega⟩
          rw [yvv (k2 j (by omega)).1, yvv (m2 j (by omega)).1, e2 j (by omega)]
        · obtain ⟨j, rfl⟩ : ∃ j, i = 2 * j + 1 := ⟨i / 2, by omega⟩
          rw [yvv (k2 j (by omega)).2, yvv (m2 j (by omega)).2, e2 j (by omega)]
/-- two codings differ: so do the texts -/
theorem Cod.dif {cd cd' : Int32} {n k : Nat} {f g : Nat → Int32} {V V' : Cell} (h : Cod cd n f V) (h' : Cod cd' k g V') (hne : ¬ cd = cd') : ¬ SameT n f k g := by
  rintro ⟨rfl, e⟩
  rcases h with ⟨rfl, -, k2⟩ | ⟨rfl, -, -, j, hj, hw⟩
  · rcases h' with ⟨rfl, -⟩ | ⟨-, -, -, j, hj, hw⟩
    · exact hne rfl
    · exact (k2 j hj).2 (by rw [e j hj]; exact hw)
  · rcases h' with ⟨-, -, m2⟩ | ⟨rfl, -⟩
    · exact (m2 j hj).2 (by rw [← e j hj]; exact hw)
    · exact hne rfl
/-- an object of exactly C is an instance of C -/
theorem cinst {p : Program} {l : Launch} {e : Env} {R : Room} {s : State} {m : MethodId} {args : Array Value} {below : List Frame} {meth : Method} {c : Code} {T : State} {locs : List Loc} {cells slots : Nat} (X : Stand p l e R s m args below meth c T locs cells slots) (hexec : p.tables.exec = Jvm.exec) {own C : String} {index : Nat} (hown : s.vm.findClass own = some m.cls) (hlink : (Cond.classLink own index C).before args s = true) {a : Addr} (hE : Exact C a T)
    {g : JFrame} (hg : g.method = m) {rest : List Value} (hstack : g.stack = .ref a :: rest) (hdg : decode c.code g.pc = .ok (.instanceof index, 3)) :
    ∃ T', Stand p l e R s m args below meth c T' locs cells slots ∧ T'.heap = T.heap ∧ ∀ target, Steps p.tables e below (T'.setTop { g with pc := g.pc + 3, stack := .int 1 :: rest }) target → Steps p.tables e below (T.setTop g) target := by
  obtain ⟨cB, h1, D, h2, h3, h4⟩ := hE
  have h1' : s.vm.findClass C = some cB := by rw [← X.warmed.alike.findClass]; exact h1
  obtain ⟨vm', X', st⟩ := X.instanceofYes hexec hown hlink h2 h4 h1' (by rw [h3]; exact Jvm.Free.SB.assignable_self _ _) hg hstack hdg
  exact ⟨_, X', rfl, st⟩
theorem cself {p : Program} {l : Launch} {e : Env} {R : Room} {s : State} {m : MethodId} {args : Array Value} {below : List Frame} {meth : Method} {c : Code} {T : State} {locs : List Loc} {cells slots : Nat} (X : Stand p l e R s m args below meth c T locs cells slots) (hexec : p.tables.exec = Jvm.exec) {own C : String} {index : Nat} (hown : s.vm.findClass own = some m.cls) (hlink : (Cond.classLink own index C).before args s = true) {a : Addr} (hE : Exact C a T)
    {g : JFrame} (hg : g.method = m) {rest : List Value} (hstack : g.stack = .ref a :: rest) (hdg : decode c.code g.pc = .ok (.checkcast index, 3)) :
    ∃ T', Stand p l e R s m args below meth c T' locs cells slots ∧ T'.heap = T.heap ∧ ∀ target, Steps p.tables e below (T'.setTop { g with pc := g.pc + 3, stack := .ref a :: rest }) target → Steps p.tables e below (T.setTop g) target := by
  obtain ⟨cB, h1, D, h2, h3, h4⟩ := hE
  have h1' : s.vm.findClass C = some cB := by rw [← X.warmed.alike.findClass]; exact h1
  obtain ⟨vm', X', st⟩ := X.checkcastYes hexec hown hlink h2 h4 h1' (by rw [h3]; exact Jvm.Free.SB.assignable_self _ _) hg hstack hdg
  exact ⟨_, X', rfl, fun t h => st t (by rw [← hstack] at h; exact h)⟩
namespace SEq
def yN : MethodName := ⟨"java/lang/String", "equals", "(Ljava/lang/Object;)Z"⟩
abbrev yB : ByteArray := jdk_42_method_66_code
theorem d0 : decode yB 0 = .ok (.aload_n 0, 1) := by decide +kernel
theorem d1 : decode yB 1 = .ok (.aload_n 1, 1) := by decide +kernel
theorem d2 : decode yB 2 = .ok (.if_acmp (.ne) 5, 3) := by decide +kernel
theorem d5 : decode yB 5 = .ok (.iconst 1, 1) := by decide +kernel
theorem d6 : decode yB 6 = .ok (.ireturn, 1) := by decide +kernel
theorem d7 : decode yB 7 = .ok (.aload_n 1, 1) := by decide +kernel
theorem d8 : decode yB 8 = .ok (.instanceof 10, 3) := by decide +kernel
theorem d11 : decode yB 11 = .ok (.ifCond (.eq) 43, 3) := by decide +kernel
theorem d14 : decode yB 14 = .ok (.aload_n 1, 1) := by decide +kernel
theorem d15 : decode yB 15 = .ok (.checkcast 10, 3) := by decide +kernel
theorem d18 : decode yB 18 = .ok (.astore_n 2, 1) := by decide +kernel
theorem d19 : decode yB 19 = .ok (.getstatic 38, 3) := by decide +kernel
theorem d22 : decode yB 22 = .ok (.ifCond (.eq) 14, 3) := by decide +kernel
theorem d25 : decode yB 25 = .ok (.aload_n 0, 1) := by decide +kernel
theorem d26 : decode yB 26 = .ok (.getfield 15, 3) := by decide +kernel
theorem d29 : decode yB 29 = .ok (.aload_n 2, 1) := by decide +kernel
theorem d30 : decode yB 30 = .ok (.getfield 15, 3) := by decide +kernel
theorem d33 : decode yB 33 = .ok (.if_icmp (.ne) 21, 3) := by decide +kernel
theorem d36 : decode yB 36 = .ok (.aload_n 0, 1) := by decide +kernel
theorem d37 : decode yB 37 = .ok (.getfield 9, 3) := by decide +kernel
theorem d40 : decode yB 40 = .ok (.aload_n 2, 1) := by decide +kernel
theorem d41 : decode yB 41 = .ok (.getfield 9, 3) := by decide +kernel
theorem d44 : decode yB 44 = .ok (.invokestatic 541, 3) := by decide +kernel
theorem d47 : decode yB 47 = .ok (.ifCond (.eq) 7, 3) := by decide +kernel
theorem d50 : decode yB 50 = .ok (.iconst 1, 1) := by decide +kernel
theorem d51 : decode yB 51 = .ok (.goto 4, 3) := by decide +kernel
theorem d54 : decode yB 54 = .ok (.iconst 0, 1) := by decide +kernel
theorem d55 : decode yB 55 = .ok (.ireturn, 1) := by decide +kernel
def site : List Cond := [.classLink "java/lang/String" 10 "java/lang/String", .fieldLink "java/lang/String" 38 "java/lang/String" "COMPACT_STRINGS" "Z", .fieldLink "java/lang/String" 15 "java/lang/String" "coder" "B", .fieldLink "java/lang/String" 9 "java/lang/String" "value" "[B", LEq.tab] ++ staticW "java/lang/String" 541 LEq.yN
def tab : Cond := tabOf yN yB 3 (some .boolean) site
def P (x t : Addr) (V : Cell) (cd : Int32) (n : Nat) (f : Nat → Int32) (y t' : Addr) (V' : Cell) (cd' : Int32) (k : Nat) (g : Nat → Int32) (z : Int32) (args : Array Value) (s : State) : Prop := args = #[.ref x, .ref y] ∧ Txt x t V cd n f s ∧ Txt y t' V' cd' k g s ∧ StaticIs s "java/lang/String" "COMPACT_STRINGS" "Z" (.int z) ∧ ¬ z = 0
/-- equals(Object) of two Strings: whether the texts are the same -/
theorem law (l : Launch) (x t : Addr) (V : Cell) (cd : Int32) (n : Nat) (f : Nat → Int32) (y t' : Addr) (V' : Cell) (cd' : Int32) (k : Nat) (g : Nat → Int32) (z : Int32) : Law l yN 2 1 1 14 yB 3 (some .boolean) site (P x t V cd n f y t' V' cd' k g z) (Says01 (SameT n f k g)) [] 0 0 := by
  refine Law.of_walk (plainFor_of_name (by decide +kernel)) (by decide +kernel) (by decide +kernel) (by decide) (fun _ _ h => by rw [h.1]; rfl) (fun _ U U' hal hh h => ⟨h.1, h.2.1.mv hal hh, h.2.2.1.mv hal hh, h.2.2.2.1.there hal hh, h.2.2.2.2⟩) (fun r U U' V V' h1 hal h2 h => Says01.mv r U U' V V' h1 hal h2 h) ?_
  intro p e s m args below meth c s₁ X0 hexec hbytes hml hret hlk hnm hown hh0 W hP
  obtain ⟨rfl, hx, hy, s1, hz⟩ := hP
  have c1 : Steps p.tables e below (s₁.setTop (entryFrame m #[.ref x, .ref y] 3)) (s₁.setTop (mkF m 2 #[.val (.ref x), .val (.ref y), .unset] [.ref y, .ref x])) := Steps.trans (entry rfl) (by
    show Steps p.tables e below (s₁.setTop (mkF m 0 #[.val (.ref x), .val (.ref y), .unset] [])) _
    refine XS.aloadN X0.here hexec rfl (hb hbytes d0) rfl rfl ?_
    refine XS.aloadN X0.here hexec rfl (hb hbytes d1) rfl rfl ?_
    exact Steps.refl _)
  by_cases hxy : x = y
  · have c2 : Steps p.tables e below (s₁.setTop (entryFrame m #[.ref x, .ref y] 3)) (s₁.setTop (mkF m 6 #[.val (.ref x), .val (.ref y), .unset] [.int 1])) := c1.trans (by
      refine acmpNo X0.here hexec rfl (hb hbytes d2) rfl rfl rfl (by simp [acmp, hxy]) ?_
      refine iconstV X0.here hexec rfl 1 (hb hbytes d5) (by decide) ?_
      exact Steps.refl _)
    subst hxy
    have ec : cd = cd' := by
      obtain ⟨D, fd, a1, a2, a3⟩ := hx.2.2.1
      obtain ⟨D', fd', b1, b2, b3⟩ := hy.2.2.1
      cases a1.symm.trans b1
      obtain ⟨q1, q2, q3, q4⟩ := a2.1
      obtain ⟨r1, r2, r3, r4⟩ := b2.1
      cases q4.symm.trans r4
      cases a3.symm.trans b3; rfl
    have et : t = t' := by
      obtain ⟨D, fd, a1, a2, a3⟩ := hx.2.1
      obtain ⟨D', fd', b1, b2, b3⟩ := hy.2.1
      cases a1.symm.trans b1
      obtain ⟨q1, q2, q3, q4⟩ := a2.1
      obtain ⟨r1, r2, r3, r4⟩ := b2.1
      cases q4.symm.trans r4
      cases a3.symm.trans b3; rfl
    subst ec et
    have ev : V = V' := by cases hx.2.2.2.1.1.symm.trans hy.2.2.2.1.1; rfl
    subst ev
    have hs : SameT n f k g := (Cod.eqv hx.2.2.2.2.1 hy.2.2.2.2.1 hx.2.2.2.2.2 hy.2.2.2.2.2).mp ⟨rfl, fun _ _ => rfl⟩
    exact ⟨s₁, some (.int 1), _, _, _, X0, rfl, rfl, rfl, (fun h => by cases h), ⟨1, rfl, hh0, Or.inl ⟨rfl, hs⟩⟩, fun fs hl => c2.trans (X0.ireturnOut hexec hret rfl (Or.inr (Or.inl rfl)) (hb hbytes d6) hl)⟩
  · have c2 : Steps p.tables e below (s₁.setTop (entryFrame m #[.ref x, .ref y] 3)) (s₁.setTop (mkF m 8 #[.val (.ref x), .val (.ref y), .unset] [.ref y])) := c1.trans (by
      refine acmpYes X0.here hexec rfl (pc0 := 2) rfl (hb hbytes d2) rfl rfl rfl (by simp [acmp, hxy]) (by decide) rfl ?_
      refine XS.aloadN X0.here hexec rfl (hb hbytes d7) rfl rfl ?_
      exact Steps.refl _)
    obtain ⟨T3, X3, q3, st3⟩ := cinst X0 hexec hown (wk W (.classLink "java/lang/String" 10 "java/lang/String")) (hy.mv X0.warmed.alike hh0).1 (g := (mkF m 8 #[.val (.ref x), .val (.ref y), .unset] [.ref y])) rfl (rest := []) rfl (hb hbytes d8)
    have hh3 := q3.trans hh0
    have c4 : Steps p.tables e below (s₁.setTop (entryFrame m #[.ref x, .ref y] 3)) (T3.setTop (mkF m 15 #[.val (.ref x), .val (.ref y), .unset] [.ref y])) := (c2.trans (st3 _ (Steps.refl _))).trans (by
      refine XS.ifNo X3.here hexec rfl (hb hbytes d11) rfl (i0_eq_f (by decide)) ?_
      refine XS.aloadN X3.here hexec rfl (hb hbytes d14) rfl rfl ?_
      exact Steps.refl _)
    obtain ⟨T5, X5, q5, st5⟩ := cself X3 hexec hown (wk W (.classLink "java/lang/String" 10 "java/lang/String")) (hy.mv X3.warmed.alike hh3).1 (g := (mkF m 15 #[.val (.ref x), .val (.ref y), .unset] [.ref y])) rfl (rest := []) rfl (hb hbytes d15)
    have hh5 := q5.trans hh3
    have c6 : Steps p.tables e below (s₁.setTop (entryFrame m #[.ref x, .ref y] 3)) (T5.setTop (mkF m 19 #[.val (.ref x), .val (.ref y), .val (.ref y)] [])) := (c4.trans (st5 _ (Steps.refl _))).trans (by
      refine XS.astoreN X5.here hexec rfl (hb hbytes d18) rfl rfl rfl ?_
      exact Steps.refl _)
    obtain ⟨T7, X7, q7, st7⟩ := X5.sget hexec hown (wk W (.fieldLink "java/lang/String" 38 "java/lang/String" "COMPACT_STRINGS" "Z")) s1 (fun _ _ h => by rw [hh5]; exact h) (g := (mkF m 19 #[.val (.ref x), .val (.ref y), .val (.ref y)] [])) rfl (hb hbytes d19)
    have hh7 := q7.trans hh5
    have c8 : Steps p.tables e below (s₁.setTop (entryFrame m #[.ref x, .ref y] 3)) (T7.setTop (mkF m 26 #[.val (.ref x), .val (.ref y), .val (.ref y)] [.ref x])) := (c6.trans (st7 _ (Steps.refl _))).trans (by
      refine XS.ifNo X7.here hexec rfl (hb hbytes d22) rfl (i0_eq_f hz) ?_
      refine XS.aloadN X7.here hexec rfl (hb hbytes d25) rfl rfl ?_
      exact Steps.refl _)
    obtain ⟨T9, X9, q9, st9⟩ := X7.hget hexec hown (wk W (.fieldLink "java/lang/String" 15 "java/lang/String" "coder" "B")) (hx.mv X7.warmed.alike hh7).2.2.1 (g := (mkF m 26 #[.val (.ref x), .val (.ref y), .val (.ref y)] [.ref x])) rfl (rest := []) rfl (hb hbytes d26)
    have hh9 := q9.trans hh7
    have c10 : Steps p.tables e below (s₁.setTop (entryFrame m #[.ref x, .ref y] 3)) (T9.setTop (mkF m 30 #[.val (.ref x), .val (.ref y), .val (.ref y)] [.ref y, .int cd])) := (c8.trans (st9 _ (Steps.refl _))).trans (by
      refine XS.aloadN X9.here hexec rfl (hb hbytes d29) rfl rfl ?_
      exact Steps.refl _)
    obtain ⟨T11, X11, q11, st11⟩ := X9.hget hexec hown (wk W (.fieldLink "java/lang/String" 15 "java/lang/String" "coder" "B")) (hy.mv X9.warmed.alike hh9).2.2.1 (g := (mkF m 30 #[.val (.ref x), .val (.ref y), .val (.ref y)] [.ref y, .int cd])) rfl (rest := [.int cd]) rfl (hb hbytes d30)
    have hh11 := q11.trans hh9
    have c12 : Steps p.tables e below (s₁.setTop (entryFrame m #[.ref x, .ref y] 3)) (T11.setTop (mkF m 33 #[.val (.ref x), .val (.ref y), .val (.ref y)] [.int cd', .int cd])) := c10.trans (st11 _ (Steps.refl _))
    by_cases hcd : cd = cd'
    · subst hcd
      have c13 : Steps p.tables e below (s₁.setTop (entryFrame m #[.ref x, .ref y] 3)) (T11.setTop (mkF m 37 #[.val (.ref x), .val (.ref y), .val (.ref y)] [.ref x])) := c12.trans (by
        refine XS.icmpNo X11.here hexec rfl (hb hbytes d33) rfl (ii_ne_f rfl) ?_
        refine XS.aloadN X11.here hexec rfl (hb hbytes d36) rfl rfl ?_
        exact Steps.refl _)
      obtain ⟨T14, X14, q14, st14⟩ := X11.hget hexec hown (wk W (.fieldLink "java/lang/String" 9 "java/lang/String" "value" "[B")) (hx.mv X11.warmed.alike hh11).2.1 (g := (mkF m 37 #[.val (.ref x), .val (.ref y), .val (.ref y)] [.ref x])) rfl (rest := []) rfl (hb hbytes d37)
      have hh14 := q14.trans hh11
      have c15 : Steps p.tables e below (s₁.setTop (entryFrame m #[.ref x, .ref y] 3)) (T14.setTop (mkF m 41 #[.val (.ref x), .val (.ref y), .val (.ref y)] [.ref y, .ref t])) := (c13.trans (st14 _ (Steps.refl _))).trans (by
        refine XS.aloadN X14.here hexec rfl (hb hbytes d40) rfl rfl ?_
        exact Steps.refl _)
      obtain ⟨T16, X16, q16, st16⟩ := X14.hget hexec hown (wk W (.fieldLink "java/lang/String" 9 "java/lang/String" "value" "[B")) (hy.mv X14.warmed.alike hh14).2.1 (g := (mkF m 41 #[.val (.ref x), .val (.ref y), .val (.ref y)] [.ref y, .ref t])) rfl (rest := [.ref t]) rfl (hb hbytes d41)
      have hh16 := q16.trans hh14
      have c17 : Steps p.tables e below (s₁.setTop (entryFrame m #[.ref x, .ref y] 3)) (T16.setTop (mkF m 44 #[.val (.ref x), .val (.ref y), .val (.ref y)] [.ref t', .ref t])) := c15.trans (st16 _ (Steps.refl _))
      obtain ⟨v18, T18, X18, E18, g18⟩ := X16.callS hexec (LEq.law l t V t' V') hown (wks W (staticW "java/lang/String" 541 LEq.yN)) (wk W LEq.tab) (W := 0) (Nat.le_of_ble_eq_true rfl) (Nat.le_of_ble_eq_true rfl) (Nat.le_refl _) (Nat.le_refl _) (g := (mkF m 44 #[.val (.ref x), .val (.ref y), .val (.ref y)] [.ref t', .ref t])) rfl (by rw [hml]; rfl) c17 (argsL := [.ref t, .ref t']) (rest := []) rfl rfl (by show 2 * 0 + 0 ≤ _; decide) (hb hbytes d44) (⟨rfl, hx.2.2.2.1.mv X16.warmed.alike hh16, hx.2.2.2.2.1.ty, hy.2.2.2.1.mv X16.warmed.alike hh16, hy.2.2.2.2.1.ty⟩)
      obtain ⟨v, rfl, q18, hv⟩ := E18
      have iff := Cod.eqv hx.2.2.2.2.1 hy.2.2.2.2.1 hx.2.2.2.2.2 hy.2.2.2.2.2
      rcases hv with ⟨rfl, he⟩ | ⟨rfl, he⟩
      · have c19 : Steps p.tables e below (s₁.setTop (entryFrame m #[.ref x, .ref y] 3)) (T18.setTop (mkF m 55 #[.val (.ref x), .val (.ref y), .val (.ref y)] [.int 1])) := Steps.trans g18 (by
          refine XS.ifNo X18.here hexec rfl (hb hbytes d47) rfl (i0_eq_f (by decide)) ?_
          refine iconstV X18.here hexec rfl 1 (hb hbytes d50) (by decide) ?_
          refine XS.goto X18.here hexec rfl (pc0 := 51) rfl (hb hbytes d51) (by decide) rfl ?_
          exact Steps.refl _)
        exact ⟨T18, some (.int 1), _, _, _, X18, rfl, rfl, rfl, (fun h => by cases h), ⟨1, rfl, q18.trans hh16, Or.inl ⟨rfl, iff.mp he⟩⟩, fun fs hl => c19.trans (X18.ireturnOut hexec hret rfl (Or.inr (Or.inl rfl)) (hb hbytes d55) hl)⟩
      · have c19 : Steps p.tables e below (s₁.setTop (entryFrame m #[.ref x, .ref y] 3)) (T18.setTop (mkF m 55 #[.val (.ref x), .val (.ref y), .val (.ref y)] [.int 0])) := Steps.trans g18 (by
          refine XS.ifYes X18.here hexec rfl (pc0 := 47) rfl (hb hbytes d47) rfl (i0_eq_t rfl) (by decide) rfl ?_
          refine iconstV X18.here hexec rfl 0 (hb hbytes d54) (by decide) ?_
          exact Steps.refl _)
        exact ⟨T18, some (.int 0), _, _, _, X18, rfl, rfl, rfl, (fun h => by cases h), ⟨0, rfl, q18.trans hh16, Or.inr ⟨rfl, fun q => he (iff.mpr q)⟩⟩, fun fs hl => c19.trans (X18.ireturnOut hexec hret rfl (Or.inr (Or.inl rfl)) (hb hbytes d55) hl)⟩
    · have c13 : Steps p.tables e below (s₁.setTop (entryFrame m #[.ref x, .ref y] 3)) (T11.setTop (mkF m 55 #[.val (.ref x), .val (.ref y), .val (.ref y)] [.int 0])) := c12.trans (by
        refine XS.icmpYes X11.here hexec rfl (pc0 := 33) rfl (hb hbytes d33) rfl (ii_ne_t hcd) (by decide) rfl ?_
        refine iconstV X11.here hexec rfl 0 (hb hbytes d54) (by decide) ?_
        exact Steps.refl _)
      exact ⟨T11, some (.int 0), _, _, _, X11, rfl, rfl, rfl, (fun h => by cases h), ⟨0, rfl, hh11, Or.inr ⟨rfl, Cod.dif hx.2.2.2.2.1 hy.2.2.2.2.1 hcd⟩⟩, fun fs hl => c13.trans (X11.ireturnOut hexec hret rfl (Or.inr (Or.inl rfl)) (hb hbytes d55) hl)⟩
theorem pays {l : Launch} {R : Room} {p : Program} {e : Env} {below : List Frame} {s : State} {sargs : Array Value} {len W : Nat} (x t : Addr) (V : Cell) (cd : Int32) (n : Nat) (f : Nat → Int32) (y t' : Addr) (V' : Cell) (cd' : Int32) (k : Nat) (g : Nat → Int32) (z : Int32) (htab : tab.before sargs s = true) (hfr : 2 ≤ R.frames) (hlo : W + 28 ≤ R.locals) :
    Back l R p e below s sargs yN len W (fun A₁ a₁ => A₁.cells + 0 ≤ R.cells ∧ A₁.slots + 0 ≤ R.slots ∧ P x t V cd n f y t' V' cd' k g z a₁ A₁.U) (fun A₁ _ v₁ B₁ => Says01 (SameT n f k g) v₁ A₁.U B₁.U ∧ B₁.locs = A₁.locs ++ [] ∧ B₁.cells = A₁.cells + 0 ∧ B₁.slots = A₁.slots + 0) :=
  (law l x t V cd n f y t' V' cd' k g z).pays htab hfr (by omega)
end SEq
end StrChars
namespace StrChars.Road
open Jvm Sem ClassFile Op Lib Jvm.Stand Jvm.Free Jvm.Free.XT
open Jvm.Lib.Cold (StaticIs)
/-- the words of String.equals(Object) -/
abbrev wordsEq : List Jvm.Cond := [.code SEq.yN SEq.yB 3 (some .boolean), .initialized ST, .classLink ST 10 ST, .fieldLink ST 38 ST "COMPACT_STRINGS" "Z", .fieldLink ST 15 ST "coder" "B", .fieldLink ST 9 ST "value" "[B", .methodLink ST 541 LEq.yN, .static LEq.yN, .code LEq.yN LEq.yB 3 (some .boolean), .initialized "java/lang/StringLatin1"]
theorem tabEq_of {a : Array Value} {s : State} (h : ∀ w ∈ wordsEq, w.before a s = true) : SEq.tab.before a s = true := by
  have hl : LEq.tab.before a s = true := unparts (wk h (.code LEq.yN LEq.yB 3 (some .boolean))) (wks h (.initialized LEq.yN.cls :: LEq.site))
  have q := consq hl h
  exact unparts (wk q (.code SEq.yN SEq.yB 3 (some .boolean))) (wks q (.initialized SEq.yN.cls :: SEq.site))
theorem movedEq {Z s : State} {a0 args : Array Value} (hZ : Z.Warmed39 s.vm) (hw : ∀ d ∈ wordsEq, d.before a0 Z = true) : ∀ d ∈ wordsEq, d.before args s = true := fun d hd => by
  have t : ∀ d ∈ wordsEq, (d.onTables && d.keepsFace) = true := by decide +kernel
  exact RoadKit.mv hZ (hw d hd) (t d hd)
/-- the road's facts of a String, as the laws ask it -/
theorem txt_of {Z U : State} {a0 : Array Value} {kI : Nat} (wi : (Jvm.Cond.instantiable ST kI).before a0 Z = true) (al : Z.vm.Alike U.vm) {x t : Addr} {kb : ClassId} {cs : List Int32} {cd N2 : Int32} {vs : List Value} (E : RoadKit.Exa Z U.heap x ST) (V : RoadKit.Fld Z U.heap x ST "value" "[B" (.ref t)) (C : RoadKit.Fld Z U.heap x ST "coder" "B" (.int cd)) (K : RoadKit.Arv Z U.heap t kb .byte N2 vs (.int 0)) (hc : CodA cs cd N2 vs) (hb : ∀ c ∈ cs, ¬ c < 0 ∧ ¬ (65535 : Int32) < c) (l2 : cs.length ≤ 4000) :
    ∃ A, Txt x t A cd cs.length (fun j => cs.getD j 0) U := by
  obtain ⟨A, K1, K2, K3, K4, K5, K6⟩ := K
  have hcod := hc.cod (by omega) K3 K5
  obtain ⟨D, fV, fC, hB, F1, F2, g1, g2, -, -⟩ := strObj wi al E V C
  exact ⟨A, ⟨_, hB.2.2.1, D, hB.1, rfl, by cases q : D.vm <;> first | rfl | exact absurd q (hB.2.1.2 _)⟩, Has.of hB F1 g1, Has.of hB F2 g2, ⟨K1.1, State.isArrayOf_alike al K1.2.1, K1.2.2, by rcases hcod with ⟨-, q, -⟩ | ⟨-, q, -⟩ <;> omega⟩, hcod, fun j hj => by
    have e : cs.getD j 0 = cs[j] := by simp [List.getD_eq_getElem?_getD, hj]
    show ¬ cs.getD j 0 < 0 ∧ ¬ 65535 < cs.getD j 0
    rw [e]; exact hb _ (List.getElem_mem _)⟩
theorem same_list (cs ds : List Int32) : SameT cs.length (fun j => cs.getD j 0) ds.length (fun j => ds.getD j 0) ↔ cs = ds := by
  constructor
  · rintro ⟨e, q⟩
    refine List.ext_getElem e fun j h1 h2 => ?_
    have := q j h1
    simpa [List.getD_eq_getElem?_getD, h1, h2] using this
  · rintro rfl
    exact ⟨rfl, fun _ _ => rfl⟩
/-- **equals(Object) OF TWO SUCH STRINGS**: 1 just where the chars are the same -/
theorem eqW {p : Program} {l : Launch} {e : Env} {R : Room} {s : State} {args : Array Value} {below : List Frame} {len W : Nat} {Z : State} {a0 : Array Value} {h : Heap} (hZ : Z.Warmed39 s.vm) (hw : ∀ d ∈ wordsEq, d.before a0 Z = true) {kI : Nat} (wi : (Jvm.Cond.instantiable ST kI).before a0 Z = true)
    {x t : Addr} {kb : ClassId} {cs : List Int32} {cd N2 : Int32} {vs : List Value} (E : RoadKit.Exa Z h x ST) (V : RoadKit.Fld Z h x ST "value" "[B" (.ref t)) (C : RoadKit.Fld Z h x ST "coder" "B" (.int cd)) (K : RoadKit.Arv Z h t kb .byte N2 vs (.int 0)) (hc : CodA cs cd N2 vs) (hb : ∀ c ∈ cs, ¬ c < 0 ∧ ¬ (65535 : Int32) < c) (l2 : cs.length ≤ 4000)
    {y t' : Addr} {kb' : ClassId} {ds : List Int32} {cd' N2' : Int32} {vs' : List Value} (E' : RoadKit.Exa Z h y ST) (V' : RoadKit.Fld Z h y ST "value" "[B" (.ref t')) (C' : RoadKit.Fld Z h y ST "coder" "B" (.int cd')) (K' : RoadKit.Arv Z h t' kb' .byte N2' vs' (.int 0)) (hc' : CodA ds cd' N2' vs') (hb' : ∀ c ∈ ds, ¬ c < 0 ∧ ¬ (65535 : Int32) < c) (l2' : ds.length ≤ 4000)
    {z : Int32} (S : RoadKit.Sta Z h ST "COMPACT_STRINGS" "Z" (.int z)) (hz : ¬ z = 0) (hfr : 2 ≤ R.frames) (hlo : W + 28 ≤ R.locals) :
    Back l R p e below s args (⟨"java/lang/String", "equals", "(Ljava/lang/Object;)Z"⟩ : MethodName) len W (fun P a => a = #[.ref x, .ref y] ∧ P.U.heap = h ∧ P.cells + 0 ≤ R.cells ∧ P.slots + 0 ≤ R.slots)
      (fun P _ v B => ∃ L, (((v = some (.int 1) ∧ cs = ds) ∨ (v = some (.int 0) ∧ ¬ cs = ds)) ∧ L = [] ∧ B.U.heap = h) ∧ B.locs = P.locs ++ L ∧ B.cells = P.cells + 0 ∧ B.slots = P.slots + 0) := by
  intro m meth c P g ig mk a X hg hsize hdg hW hn hp'
  obtain ⟨rfl, rfl, r1, r2⟩ := hp'
  have al : Z.vm.Alike P.U.vm := hZ.alike.trans X.warmed.alike
  obtain ⟨A, hx⟩ := txt_of wi al E V C K hc hb l2
  obtain ⟨A', hy⟩ := txt_of wi al E' V' C' K' hc' hb' l2'
  obtain ⟨v, B, X', ⟨⟨w, hv, hh, hq⟩, hl, hk, hs⟩, st⟩ := SEq.pays x t A cd cs.length (fun j => cs.getD j 0) y t' A' cd' ds.length (fun j => ds.getD j 0) z (tabEq_of (movedEq hZ hw)) hfr hlo m meth c P g ig mk _ X hg hsize hdg hW hn ⟨r1, r2, rfl, hx, hy, sta_is al S, hz⟩
  refine ⟨v, B, X', ⟨[], ⟨?_, rfl, hh⟩, hl, hk, hs⟩, st⟩
  rcases hq with ⟨rfl, q⟩ | ⟨rfl, q⟩
  · exact Or.inl ⟨hv, (same_list cs ds).mp q⟩
  · exact Or.inr ⟨hv, fun e => q ((same_list cs ds).mpr e)⟩
end StrChars.Road
namespace StrChars.Road
open Jvm Sem ClassFile Op Lib Jvm.Stand Jvm.Free Jvm.Free.XT
open Jvm.Lib.Cold (StaticIs)
/-- what backV says of its String, as the contracts of this text ask it: cs's low bytes, coder 0 -/
theorem codOf {cs : List Int32} {n : Nat} (hn : cs.length = n) (hb : ∀ c ∈ cs, ¬ 255 < c) : CodA cs 0 (Int32.ofNat n) ((cs.map lo8).map Value.int) := Or.inl ⟨rfl, by rw [hn], by simp [List.map_map, Function.comp_def], hb⟩
end StrChars.Road
end Jvm.Pilot.@@N@@
namespace Jvm.Pilot.@@N@@
open Jvm Jvm.ClassFile Sem Op Lib Jvm.Free Jvm.Stand Jvm.LawKit Jvm.RoadKit Bundle Jvm.Pilot.@@N@@.Jvm.D
set_option maxRecDepth 65536
set_option maxHeartbeats 40000000
def oB (cs : List Int32) : List Value := (cs.map (fun c => c.toInt8.toInt32)).map Value.int
def nC (c : Int32) : Int32 := nar .char c
theorem own_wi {α : Type} {l : List α} (i : Nat) {a : α} (h : l[i]? = some a) : a ∈ l := List.mem_of_getElem? h
def Kq {p : Program} {l : Launch} {e : Env} {R : Room} {s : State} {m : MethodId} {args : Array Value} {below : List Frame} {meth : Method} {c : Code} {T0 : State} {a : List Loc} {i j : Nat} (_ : Stand p l e R s m args below meth c T0 a i j) (n : Nat) (T : State) (g : JFrame) : Prop := ∀ t, Steps p.tables e below (T.setTop g) t → Steps p.tables e below (T0.setTop (entryFrame m args n)) t
theorem ww {a0 : Array Value} {Z : State} (hw : ∀ d ∈ tables_1, d.before a0 Z = true) (i : Nat) {d : Jvm.Cond} (h : tables_1[i]? = some d) : d.before a0 Z = true := hw d (List.mem_of_getElem? h)
theorem mw {a0 args : Array Value} {Z s : State} {d : Jvm.Cond} (hZ : Z.Warmed39 s.vm) (hw : ∀ d ∈ tables_1, d.before a0 Z = true) (i : Nat) (h : tables_1[i]? = some d) (hd : (d.onTables && d.keepsFace) = true := by first | rfl | simp [Cond.onTables, Cond.keepsFace, Cond.keeps, Cond.steady]) : d.before args s = true := mvT hZ (hw d (List.mem_of_getElem? h)) hd
def gK {p : Program} {l : Launch} {e : Env} {R : Room} {s : State} {m : MethodId} {args : Array Value} {below : List Frame} {meth : Method} {c : Code} {T0 : State} {a : List Loc} {i j : Nat} {X : Stand p l e R s m args below meth c T0 a i j} {n : Nat} {T : State} {g : JFrame} (_ : Kq X n T g) : JFrame := g
def Sg {p : Program} {l : Launch} {e : Env} {R : Room} {s : State} {m : MethodId} {args : Array Value} {below : List Frame} {meth : Method} {c : Code} {T0 : State} {a : List Loc} {i j : Nat} (_ : Stand p l e R s m args below meth c T0 a i j) (T : State) (pc : Nat) (ls : Array Slot) (st : List Value) (t : State) : Prop := Steps p.tables e below (T.setTop (mkF m pc ls st)) t
def oZ8 : List Value := (.int (0 : Int32)) :: (.int (0 : Int32)) :: (.int (0 : Int32)) :: (.int (0 : Int32)) :: (.int (0 : Int32)) :: (.int (0 : Int32)) :: (.int (0 : Int32)) :: (.int (0 : Int32)) :: []
def oZ10 : List Value := (.int (0 : Int32)) :: (.int (0 : Int32)) :: (.int (0 : Int32)) :: (.int (0 : Int32)) :: (.int (0 : Int32)) :: (.int (0 : Int32)) :: (.int (0 : Int32)) :: (.int (0 : Int32)) :: (.int (0 : Int32)) :: (.int (0 : Int32)) :: []
def oZ16 : List Value := (.int (0 : Int32)) :: (.int (0 : Int32)) :: (.int (0 : Int32)) :: (.int (0 : Int32)) :: (.int (0 : Int32)) :: (.int (0 : Int32)) :: (.int (0 : Int32)) :: (.int (0 : Int32)) :: (.int (0 : Int32)) :: (.int (0 : Int32)) :: (.int (0 : Int32)) :: (.int (0 : Int32)) :: (.int (0 : Int32)) :: (.int (0 : Int32)) :: (.int (0 : Int32)) :: (.int (0 : Int32)) :: []
def oZ20 : List Value := (.int (0 : Int32)) :: (.int (0 : Int32)) :: (.int (0 : Int32)) :: (.int (0 : Int32)) :: (.int (0 : Int32)) :: (.int (0 : Int32)) :: (.int (0 : Int32)) :: (.int (0 : Int32)) :: (.int (0 : Int32)) :: (.int (0 : Int32)) :: (.int (0 : Int32)) :: (.int (0 : Int32)) :: (.int (0 : Int32)) :: (.int (0 : Int32)) :: (.int (0 : Int32)) :: (.int (0 : Int32)) :: (.int (0 : Int32)) :: (.int (0 : Int32)) :: (.int (0 : Int32)) :: (.int (0 : Int32)) :: []
def oZ34 : List Value := (.int (0 : Int32)) :: (.int (0 : Int32)) :: (.int (0 : Int32)) :: (.int (0 : Int32)) :: (.int (0 : Int32)) :: (.int (0 : Int32)) :: (.int (0 : Int32)) :: (.int (0 : Int32)) :: (.int (0 : Int32)) :: (.int (0 : Int32)) :: (.int (0 : Int32)) :: (.int (0 : Int32)) :: (.int (0 : Int32)) :: (.int (0 : Int32)) :: (.int (0 : Int32)) :: (.int (0 : Int32)) :: (.int (0 : Int32)) :: (.int (0 : Int32)) :: (.int (0 : Int32)) :: (.int (0 : Int32)) :: (.int (0 : Int32)) :: (.int (0 : Int32)) :: (.int (0 : Int32)) :: (.int (0 : Int32)) :: (.int (0 : Int32)) :: (.int (0 : Int32)) :: (.int (0 : Int32)) :: (.int (0 : Int32)) :: (.int (0 : Int32)) :: (.int (0 : Int32)) :: (.int (0 : Int32)) :: (.int (0 : Int32)) :: (.int (0 : Int32)) :: (.int (0 : Int32)) :: []
theorem own_selp {s : State} {args : Array Value} {C : String} {y : MethodName} (h : (Cond.selects C y y).before args s = true) (hp : s.PrivateAt y) (hi : (Cond.instanceMethod y).before args s = true) (hx : y.cls ≠ "java/lang/invoke/MethodHandle" ∧ y.cls ≠ "java/lang/invoke/VarHandle") : (Cond.selects y.cls y y).before args s = true := by
  obtain ⟨c, r, m, h1, h2, h3, h4, k, h5, h6⟩ := Cond.selects_spec h
  obtain ⟨mk, meth, g1, g2, g3, g4⟩ := Cond.instanceMethod_spec hi
  have em := Option.some.inj (h3.symm.trans g1)
  subst em
  have er := Option.some.inj (h2.symm.trans (State.methodFound?_of_named h3 hx))
  subst er
  have hc := findClass_of_methodNamed h3
  have hs : selectMethod {} s.vm r.cls r = .method r := selectMethod_private g2 (hp _ _ h3 g2)
  simp [Cond.before, Cond.holds, Cond.value, hc, h2, h3, hs, h5, h6]
theorem own_same {s : State} {args : Array Value} {C : String} {y z : MethodName} (hz : (Cond.selects C z z).before args s = true) (hzc : z.cls = y.cls) (hi : (Cond.instanceMethod y).before args s = true) (hx : y.cls ≠ "java/lang/invoke/MethodHandle" ∧ y.cls ≠ "java/lang/invoke/VarHandle") : (Cond.sameMethod y.cls y.cls y.name y.desc).before args s = true := by
  obtain ⟨c, r, m, h1, h2, h3, h4, k, h5, h6⟩ := Cond.selects_spec hz
  obtain ⟨mk, meth, g1, g2, g3, g4⟩ := Cond.instanceMethod_spec hi
  have hc := findClass_of_methodNamed h3
  have hc' := findClass_of_methodNamed g1
  rw [hzc] at hc
  have ec : m.cls = mk.cls := Option.some.inj (hc.symm.trans hc')
  rw [ec] at h5
  have e := State.methodFound?_of_named g1 hx
  have g1' : s.methodNamed? ⟨y.cls, y.name, y.desc⟩ = some mk := g1
  simp [Cond.before, Cond.holds, Cond.value, hc', e, g1', h5, h6]
theorem own_nf {s : State} {args : Array Value} {C : String} {y z : MethodName} (hz : (Cond.selects C z z).before args s = true) (hzc : z.cls = y.cls) : NotFace s y := by
  intro r0 h0
  obtain ⟨c, r, m, h1, h2, h3, h4, k, h5, h6⟩ := Cond.selects_spec hz
  have hc := findClass_of_methodNamed h3
  have hc' := findClass_of_methodNamed h0
  rw [hzc] at hc
  have ec : m.cls = r0.cls := Option.some.inj (hc.symm.trans hc')
  rw [ec] at h5
  exact ⟨k, h5, h6⟩

def own_ins (vd us : List Value) (c n : Nat) : List Value := vd.take c ++ us ++ vd.drop (c + n)
theorem own_ins_len {vd us : List Value} {c n cap : Nat} (h1 : vd.length = cap) (h2 : us.length = n) (h : c + n ≤ cap) : (own_ins vd us c n).length = cap := by simp [own_ins, h1, h2]; omega
theorem own_tk {us : List Value} {d : Value} {n : Nat} (h : n ≤ us.length) : us.take n = (List.range n).map fun i => us.getD (0 + i) d := by
  apply List.ext_getElem
  · simp [h]
  · intro i h1 h2
    have hi : i < n := by simpa using h2
    simp [List.getD_eq_getElem?_getD, List.getElem?_eq_getElem (Nat.lt_of_lt_of_le hi h)]
theorem own_us {us : List Value} {d : Value} {n : Nat} (h : us.length = n) : us = (List.range n).map fun i => us.getD (0 + i) d := by
  have q := own_tk (us := us) (d := d) (n := n) (Nat.le_of_eq h.symm)
  rwa [List.take_of_length_le (Nat.le_of_eq h)] at q
def oC14 : ByteArray := jdk_68_method_2_code
theorem d14_0 : decode oC14 0 = .ok (.aload_n 0, 1) := by decide +kernel
theorem d14_1 : decode oC14 1 = .ok (.invokespecial 3, 3) := by decide +kernel
theorem d14_4 : decode oC14 4 = .ok (.getstatic 18, 3) := by decide +kernel
theorem d14_7 : decode oC14 7 = .ok (.ifCond .eq 18, 3) := by decide +kernel
theorem d14_10 : decode oC14 10 = .ok (.aload_n 0, 1) := by decide +kernel
theorem d14_11 : decode oC14 11 = .ok (.iload_n 1, 1) := by decide +kernel
theorem d14_12 : decode oC14 12 = .ok (.newarray .byte, 2) := by decide +kernel
theorem d14_14 : decode oC14 14 = .ok (.putfield 15, 3) := by decide +kernel
theorem d14_17 : decode oC14 17 = .ok (.aload_n 0, 1) := by decide +kernel
theorem d14_18 : decode oC14 18 = .ok (.iconst 0, 1) := by decide +kernel
theorem d14_19 : decode oC14 19 = .ok (.putfield 22, 3) := by decide +kernel
theorem d14_22 : decode oC14 22 = .ok (.goto 16, 3) := by decide +kernel
theorem d14_25 : decode oC14 25 = .ok (.aload_n 0, 1) := by decide +kernel
theorem d14_26 : decode oC14 26 = .ok (.iload_n 1, 1) := by decide +kernel
theorem d14_27 : decode oC14 27 = .ok (.invokestatic 26, 3) := by decide +kernel
theorem d14_30 : decode oC14 30 = .ok (.putfield 15, 3) := by decide +kernel
theorem d14_33 : decode oC14 33 = .ok (.aload_n 0, 1) := by decide +kernel
theorem d14_34 : decode oC14 34 = .ok (.iconst 1, 1) := by decide +kernel
theorem d14_35 : decode oC14 35 = .ok (.putfield 22, 3) := by decide +kernel
theorem d14_38 : decode oC14 38 = .ok (.return_, 1) := by decide +kernel
theorem ef_14 (m : MethodId) (x0 : Addr) (x1 : Int32) : entryFrame m #[(.ref x0), (.int x1)] 2 = mkF m 0 #[.val (.ref x0), .val (.int x1)] [] := by first | (simp [entryFrame, mkF, argsToLocals, Value.category]; done) | rfl
theorem pn_0 : plainName "java/lang/AbstractStringBuilder" = true := by first | (simp [plainName, overriddenIn]; done) | decide +kernel
def Q14 (Z : State) (r0 : Addr) (G1 : Int32) (h0 : Heap) (n0 : Nat) (v : Option Value) (h : Heap) (L : List Loc) : Prop := v = none ∧ Fr n0 L ∧ Keep h0 h [r0] ∧ ∃ t k, h0.size ≤ t ∧ Fld Z h r0 "java/lang/AbstractStringBuilder" "value" "[B" (.ref t) ∧ Fld Z h r0 "java/lang/AbstractStringBuilder" "coder" "B" (.int (0 : Int32)) ∧ Fld Z h r0 "java/lang/AbstractStringBuilder" "count" "I" (.int (0 : Int32)) ∧ Exa Z h r0 "java/lang/StringBuilder" ∧ Arv Z h t k .byte (16 : Int32) oZ16 (.int (0 : Int32))
def oR0 : Room := { frames := 1, cells := 1, slots := 16, locals := 12 }
def mN0 : MethodName := ⟨"java/lang/AbstractStringBuilder", "<init>", "(I)V"⟩
def oL0 (r0 : Addr) : Array Slot := #[.val (.ref r0), .val (.int (16 : Int32))]
theorem rm14 (l : Launch) (Z : State) (a0 : Array Value) (hw : ∀ d ∈ tables_1, d.before a0 Z = true) (ws : List Jvm.Cond) (r0 : Addr) (G1 : Int32) (h0 : Heap) (n0 : Nat) (Z0 : n0 ≤ h0.size) (F_value_r0 : Fld Z h0 r0 "java/lang/AbstractStringBuilder" "value" "[B" .null) (F_coder_r0 : Fld Z h0 r0 "java/lang/AbstractStringBuilder" "coder" "B" (.int (0 : Int32))) (F_count_r0 : Fld Z h0 r0 "java/lang/AbstractStringBuilder" "count" "I" (.int (0 : Int32))) (E_r0 : Exa Z h0 r0 "java/lang/StringBuilder") (g_r0 : n0 ≤ r0) (S_CS : Sta Z Z.heap "java/lang/String" "COMPACT_STRINGS" "Z" (.int G1)) (P5 : ¬ (G1 = (0 : Int32))) (X00 : Old Z n0 h0) :
    MetFree l mN0 (head1 (Jvm.Cond.code mN0 jdk_68_method_2_code 2 none :: ws) oR0) (fun a U => a = #[(.ref r0), (.int (16 : Int32))] ∧ Z.Warmed39 U.vm ∧ U.heap = h0) (fun _ _ _ _ _ => True) (fun _ U o U' => ∃ v L, o = .returned v ∧ Q14 Z r0 G1 h0 n0 v U'.heap L ∧ FrameEnd U o U' L oR0.cells oR0.slots) := by
  refine MetFree.of_bodySF (plainFor_of_name pn_0) hisR ?_
  intro p e s m args below meth c s₁ Bd hml0 hP hK
  obtain ⟨rfl, hZ, hh⟩ := hP
  have hx := Bd.exec
  have hby := Bd.bytes
  have hml : c.maxLocals = 2 := hml0
  have hown : s.vm.findClass "java/lang/AbstractStringBuilder" = some m.cls := findClass_of_methodNamed Bd.named
  have X0 : Stand p l e oR0 s m #[(.ref r0), (.int (16 : Int32))] below meth c s₁ [] 0 0 := Stand.of_body Bd
  have e0 : s₁.heap = h0 := by rw [← hh, Bd.state]; rfl
  have N0 := Fr.nil n0
  have k0 : Kq X0 2 s₁ (mkF m 0 (oL0 r0) []) := fun t k => castTop (ef_14 m r0 (16 : Int32)) k
  have k1 : Kq X0 2 s₁ (mkF m 1 (oL0 r0) [(.ref r0)]) := fun t k => k0 t (XS.aloadN X0.here hx rfl (hb hby d14_0) rfl rfl k)
  obtain ⟨T2, X2, e2, st2⟩ := initO X0 hx hZ hown (ww hw 96 rfl) (ww hw 18 rfl) (ww hw 19 rfl) e0 (g := gK k1) rfl (by rw [hml]; rfl) rfl (hb hby d14_1) (by decide) (W := 0) (by show 2 * 0 + _ ≤ _; exact Nat.le_of_eq rfl) (by decide)
  have k3 : Kq X0 2 T2 (mkF m 4 (oL0 r0) []) := fun t k => k1 t (st2 _ k)
  obtain ⟨T4, X4, e4, st4⟩ := getS2 X2 hx hZ hown (host := "") (Or.inl (ww hw 97 rfl)) Via.refl e2 (S_CS.ext X00.2) (g := gK k3) rfl (hb hby d14_4)
  have hc7 : ¬ (G1 = (0 : Int32)) := P5
  have k6 : Kq X0 2 T4 (mkF m 12 (oL0 r0) [(.int (16 : Int32)), (.ref r0)]) := fun t k => k3 t (st4 _ (XS.ifNo X4.here hx rfl (hb hby d14_7) rfl ((if0 _ _).trans (feq hc7).1) (XS.aloadN X4.here hx rfl (hb hby d14_10) rfl rfl (XS.iloadN X4.here hx rfl (hb hby d14_11) rfl k))))
  obtain ⟨T7, h7, ka7, X7, e7, E7, A7, st7⟩ := newP X4 hx hZ (ww hw 6 rfl) e4 (g := gK k6) rfl (hb hby d14_12) rfl (by decide) (cap := 16) (by decide) (by decide) (by decide) (by decide)
  obtain ⟨b7, g7⟩ : ∃ z, z = h0.size := ⟨_, rfl⟩
  rw [← g7] at A7 st7
  have ne_r0_b7 : r0 ≠ b7 := Nat.ne_of_lt (Nat.lt_of_lt_of_le F_value_r0.lt (Nat.le_of_eq g7.symm))
  have V_b7 : Arv Z h7 b7 ka7 .byte (16 : Int32) oZ16 (.int (0 : Int32)) := (Arv.new A7 (by decide)).pad (pad_rep [] (.int (0 : Int32)) 16)
  have sz_b7 : h0.size ≤ b7 := Nat.le_trans (Keep.refl h0 [r0]).1 (Nat.le_of_eq g7.symm)
  have k8 : Kq X0 2 T7 (mkF m 14 (oL0 r0) [(.ref b7), (.ref r0)]) := fun t k => k6 t (st7 _ k)
  obtain ⟨T9, h9, X9, e9, W9, st9⟩ := putF X7 hx hZ hown (host := "") (Or.inl (ww hw 98 rfl)) Via.refl e7 (F_value_r0.ext E7) (E_r0.ext E7) (Or.inl (ww hw 99 rfl)) (ww hw 85 rfl) (ty := (.array .byte)) (by decide) rfl rfl (g := gK k8) rfl rfl (hb hby d14_14)
  have fc10 := ((F_coder_r0.ext E7).other W9 (Or.inr (slot_ne (Or.inl (ww hw 101 rfl)) (Or.inl (ww hw 99 rfl)) (by decide) (t := .byte) (t' := (.array .byte)) (by decide) (by decide))))
  have fc11 := ((F_count_r0.ext E7).other W9 (Or.inr (slot_ne (Or.inl (ww hw 124 rfl)) (Or.inl (ww hw 99 rfl)) (by decide) (t := .int) (t' := (.array .byte)) (by decide) (by decide))))
  have N9 := Fr.snoc X9 N0 g_r0
  have k13 : Kq X0 2 T9 (mkF m 19 (oL0 r0) [(.int (0 : Int32)), (.ref r0)]) := fun t k => k8 t (st9 _ (XS.aloadN X9.here hx rfl (hb hby d14_17) rfl rfl (XS.iconst X9.here hx rfl (hb hby d14_18) k)))
  obtain ⟨T14, h14, X14, e14, W14, st14⟩ := putFN X9 hx hZ hown (ww hw 100 rfl) Via.refl e9 fc10 ((E_r0.ext E7).wr W9) (Or.inl (ww hw 101 rfl)) (ww hw 85 rfl) (ty := .byte) (v' := (.int (0 : Int32))) (by decide) rfl rfl (g := gK k13) rfl rfl (hb hby d14_19)
  have fc15 := (((F_value_r0.ext E7).same W9).other W14 (Or.inr (slot_ne (Or.inl (ww hw 99 rfl)) (Or.inl (ww hw 101 rfl)) (by decide) (t := (.array .byte)) (t' := .byte) (by decide) (by decide))))
  have fc16 := (fc11.other W14 (Or.inr (slot_ne (Or.inl (ww hw 124 rfl)) (Or.inl (ww hw 101 rfl)) (by decide) (t := .int) (t' := .byte) (by decide) (by decide))))
  have N14 := Fr.snoc X14 N9 g_r0
  have k18 : Kq X0 2 T14 (mkF m 38 (oL0 r0) []) := fun t k => k13 t (st14 _ (XS.goto X14.here hx rfl (pc0 := 22) (pc' := 38) rfl (hb hby d14_22) (by decide) (by decide) k))
  obtain ⟨fs, hr, hrun, hended, hW, hsame⟩ := X14.leave (v := none) (fun _ => rfl)
  refine ⟨_, _, k18 _ ?_, hrun, hended, _, _, rfl, ?_, ⟨_, rfl⟩, hW, hsame.mono (by decide) (by decide)⟩
  · exact X14.returnOut hx Bd.returns (hb hby d14_38) hr
  · show Q14 Z r0 G1 h0 n0 _ T14.heap _
    rw [e14]
    exact ⟨rfl, N14, ((((Keep.refl h0 [r0]).ext E7).wr W9 (Or.inl (own_wi 0 rfl))).wr W14 (Or.inl (own_wi 0 rfl))), b7, ka7, sz_b7, fc15, (fc10.same W14), fc16, (((E_r0.ext E7).wr W9).wr W14), ((V_b7.other W9 ne_r0_b7.symm).other W14 ne_r0_b7.symm)⟩
def oC13 : ByteArray := jdk_67_method_1_code
theorem d13_0 : decode oC13 0 = .ok (.aload_n 0, 1) := by decide +kernel
theorem d13_1 : decode oC13 1 = .ok (.bipush 16, 2) := by decide +kernel
theorem d13_3 : decode oC13 3 = .ok (.invokespecial 1, 3) := by decide +kernel
theorem d13_6 : decode oC13 6 = .ok (.return_, 1) := by decide +kernel
theorem ef_13 (m : MethodId) (x0 : Addr) : entryFrame m #[(.ref x0)] 1 = mkF m 0 #[.val (.ref x0)] [] := by first | (simp [entryFrame, mkF, argsToLocals, Value.category]; done) | rfl
theorem pn_1 : plainName "java/lang/StringBuilder" = true := by first | (simp [plainName, overriddenIn]; done) | decide +kernel
theorem pd_0 : parseMethodDescriptor "(I)V" = some ⟨[.int], none⟩ := by decide +kernel
def Q13 (Z : State) (r0 : Addr) (G1 : Int32) (h0 : Heap) (n0 : Nat) (v : Option Value) (h : Heap) (L : List Loc) : Prop := v = none ∧ Fr n0 L ∧ Keep h0 h [r0] ∧ ∃ t k, h0.size ≤ t ∧ Fld Z h r0 "java/lang/AbstractStringBuilder" "value" "[B" (.ref t) ∧ Fld Z h r0 "java/lang/AbstractStringBuilder" "coder" "B" (.int (0 : Int32)) ∧ Fld Z h r0 "java/lang/AbstractStringBuilder" "count" "I" (.int (0 : Int32)) ∧ Exa Z h r0 "java/lang/StringBuilder" ∧ Arv Z h t k .byte (16 : Int32) oZ16 (.int (0 : Int32))
def oR1 : Room := { frames := 2, cells := 1, slots := 16, locals := 25 }
def mN1 : MethodName := ⟨"java/lang/StringBuilder", "<init>", "()V"⟩
theorem rm13 (l : Launch) (Z : State) (a0 : Array Value) (hw : ∀ d ∈ tables_1, d.before a0 Z = true) (ws : List Jvm.Cond) (r0 : Addr) (G1 : Int32) (h0 : Heap) (n0 : Nat) (Z0 : n0 ≤ h0.size) (F_value_r0 : Fld Z h0 r0 "java/lang/AbstractStringBuilder" "value" "[B" .null) (F_coder_r0 : Fld Z h0 r0 "java/lang/AbstractStringBuilder" "coder" "B" (.int (0 : Int32))) (F_count_r0 : Fld Z h0 r0 "java/lang/AbstractStringBuilder" "count" "I" (.int (0 : Int32))) (E_r0 : Exa Z h0 r0 "java/lang/StringBuilder") (g_r0 : n0 ≤ r0) (S_CS : Sta Z Z.heap "java/lang/String" "COMPACT_STRINGS" "Z" (.int G1)) (P5 : ¬ (G1 = (0 : Int32))) (X00 : Old Z n0 h0) :
    MetFree l mN1 (head1 (Jvm.Cond.code mN1 jdk_67_method_1_code 1 none :: ws) oR1) (fun a U => a = #[(.ref r0)] ∧ Z.Warmed39 U.vm ∧ U.heap = h0) (fun _ _ _ _ _ => True) (fun _ U o U' => ∃ v L, o = .returned v ∧ Q13 Z r0 G1 h0 n0 v U'.heap L ∧ FrameEnd U o U' L oR1.cells oR1.slots) := by
  refine MetFree.of_bodySF (plainFor_of_name pn_1) hisR ?_
  intro p e s m args below meth c s₁ Bd hml0 hP hK
  obtain ⟨rfl, hZ, hh⟩ := hP
  have hx := Bd.exec
  have hby := Bd.bytes
  have hml : c.maxLocals = 1 := hml0
  have hown : s.vm.findClass "java/lang/StringBuilder" = some m.cls := findClass_of_methodNamed Bd.named
  have X0 : Stand p l e oR1 s m #[(.ref r0)] below meth c s₁ [] 0 0 := Stand.of_body Bd
  have e0 : s₁.heap = h0 := by rw [← hh, Bd.state]; rfl
  have N0 := Fr.nil n0
  have k0 : Kq X0 1 s₁ (mkF m 0 #[.val (.ref r0)] []) := fun t k => castTop (ef_13 m r0) k
  have k1 : Kq X0 1 s₁ (mkF m 3 #[.val (.ref r0)] [(.int (16 : Int32)), (.ref r0)]) := fun t k => k0 t (XS.aloadN X0.here hx rfl (hb hby d13_0) rfl rfl (XS.bipush X0.here hx rfl (hb hby d13_1) k))
  obtain ⟨_, _, ⟨T2, L2, kq2, n2⟩, -, X2, ⟨Lc2, hQ2, l2, y2, z2⟩, st2⟩ := X0.specialBack hx (y := mN0) rfl hown (mw hZ hw 90 rfl) (mw hZ hw 91 rfl) (mw hZ hw 95 rfl) (by decide) (backOf (W := 0) (rm14 l Z a0 hw [] r0 G1 h0 n0 Z0 F_value_r0 F_coder_r0 F_count_r0 E_r0 g_r0 S_CS P5 X00) hZ (ww hw 95 rfl) (ww hw 94 rfl) (by decide) (by decide)) (g := gK k1) rfl (by rw [hml]; rfl) (Steps.refl _) (a := r0) (argsL := [(.int (16 : Int32))]) (rest := []) (lenOf pd_0 rfl) rfl (by show 2 * 0 + _ ≤ _; exact Nat.le_of_eq rfl) (hb hby d13_3) (fun _ _ => ⟨rfl, e0, (by decide : 0 + 1 ≤ _), (by decide : 0 + 16 ≤ _)⟩)
  dsimp only [Pt.U, Pt.locs, Pt.cells, Pt.slots] at X2 l2 y2 z2 st2 hQ2
  replace l2 := l2.symm; subst l2 y2 z2
  obtain ⟨rfl, N2q, K2, t2, kt2, zt2, Fx2_0, Fx2_1, Fx2_2, Ex2, Vt2⟩ := hQ2
  have N2 := Fr.app N0 N2q
  have sz_t2 : h0.size ≤ t2 := Nat.le_trans (Keep.refl h0 [r0]).1 zt2
  have k3 : Kq X0 1 T2 (mkF m 6 #[.val (.ref r0)] []) := fun t k => k1 t (st2.trans k)
  obtain ⟨fs, hr, hrun, hended, hW, hsame⟩ := X2.leave (v := none) (fun _ => rfl)
  refine ⟨_, _, k3 _ ?_, hrun, hended, _, _, rfl, ?_, ⟨_, rfl⟩, hW, hsame.mono (by decide) (by decide)⟩
  · exact X2.returnOut hx Bd.returns (hb hby d13_6) hr
  · show Q13 Z r0 G1 h0 n0 _ T2.heap _
    exact ⟨rfl, N2, ((Keep.refl h0 [r0]).trans K2 (allS (Or.inl (own_wi 0 rfl)) all0)), t2, kt2, sz_t2, Fx2_0, Fx2_1, Fx2_2, Ex2, Vt2⟩
def oC18 : ByteArray := jdk_42_method_152_code
theorem d18_0 : decode oC18 0 = .ok (.getstatic 38, 3) := by decide +kernel
theorem d18_3 : decode oC18 3 = .ok (.ifCond .eq 10, 3) := by decide +kernel
theorem d18_6 : decode oC18 6 = .ok (.aload_n 0, 1) := by decide +kernel
theorem d18_7 : decode oC18 7 = .ok (.getfield 15, 3) := by decide +kernel
theorem d18_10 : decode oC18 10 = .ok (.goto 4, 3) := by decide +kernel
theorem d18_13 : decode oC18 13 = .ok (.iconst 1, 1) := by decide +kernel
theorem d18_14 : decode oC18 14 = .ok (.ireturn, 1) := by decide +kernel
theorem pn_2 : plainName "java/lang/String" = true := by first | (simp [plainName, overriddenIn]; done) | decide +kernel
def Q18 (Z : State) (r0 : Addr) (G1 : Int32) (h0 : Heap) (n0 : Nat) (v : Option Value) (h : Heap) (L : List Loc) : Prop := v = some (.int (0 : Int32)) ∧ Fr n0 L ∧ h = h0
def oR2 : Room := { frames := 0, cells := 0, slots := 0, locals := 0 }
def mN2 : MethodName := ⟨"java/lang/String", "coder", "()B"⟩
theorem rm18 (l : Launch) (Z : State) (a0 : Array Value) (hw : ∀ d ∈ tables_1, d.before a0 Z = true) (ws : List Jvm.Cond) (r0 : Addr) (G1 : Int32) (h0 : Heap) (n0 : Nat) (Z0 : n0 ≤ h0.size) (F_coder_r0 : Fld Z h0 r0 "java/lang/String" "coder" "B" (.int (0 : Int32))) (S_CS : Sta Z Z.heap "java/lang/String" "COMPACT_STRINGS" "Z" (.int G1)) (P5 : ¬ (G1 = (0 : Int32))) (X00 : Old Z n0 h0) :
    MetFree l mN2 (head1 (Jvm.Cond.code mN2 jdk_42_method_152_code 1 (some .byte) :: ws) oR2) (fun a U => a = #[(.ref r0)] ∧ Z.Warmed39 U.vm ∧ U.heap = h0) (fun _ _ _ _ _ => True) (fun _ U o U' => ∃ v L, o = .returned v ∧ Q18 Z r0 G1 h0 n0 v U'.heap L ∧ FrameEnd U o U' L oR2.cells oR2.slots) := by
  refine MetFree.of_bodySF (plainFor_of_name pn_2) hisR ?_
  intro p e s m args below meth c s₁ Bd hml0 hP hK
  obtain ⟨rfl, hZ, hh⟩ := hP
  have hx := Bd.exec
  have hby := Bd.bytes
  have hml : c.maxLocals = 1 := hml0
  have hown : s.vm.findClass "java/lang/String" = some m.cls := findClass_of_methodNamed Bd.named
  have X0 : Stand p l e oR2 s m #[(.ref r0)] below meth c s₁ [] 0 0 := Stand.of_body Bd
  have e0 : s₁.heap = h0 := by rw [← hh, Bd.state]; rfl
  have N0 := Fr.nil n0
  have k0 : Kq X0 1 s₁ (mkF m 0 #[.val (.ref r0)] []) := fun t k => castTop (ef_13 m r0) k
  obtain ⟨T1, X1, e1, st1⟩ := getS2 X0 hx hZ hown (host := "") (Or.inl (ww hw 70 rfl)) Via.refl e0 (S_CS.ext X00.2) (g := gK k0) rfl (hb hby d18_0)
  have hc3 : ¬ (G1 = (0 : Int32)) := P5
  have k3 : Kq X0 1 T1 (mkF m 7 #[.val (.ref r0)] [(.ref r0)]) := fun t k => k0 t (st1 _ (XS.ifNo X1.here hx rfl (hb hby d18_3) rfl ((if0 _ _).trans (feq hc3).1) (XS.aloadN X1.here hx rfl (hb hby d18_6) rfl rfl k)))
  obtain ⟨T4, X4, e4, st4⟩ := getF X1 hx hZ hown (host := "") (Or.inl (ww hw 81 rfl)) Via.refl e1 F_coder_r0 (g := gK k3) rfl rfl (hb hby d18_7)
  have k6 : Kq X0 1 T4 (mkF m 14 #[.val (.ref r0)] [(.int (0 : Int32))]) := fun t k => k3 t (st4 _ (XS.goto X4.here hx rfl (pc0 := 10) (pc' := 14) rfl (hb hby d18_10) (by decide) (by decide) k))
  obtain ⟨fs, hr, hrun, hended, hW, hsame⟩ := X4.leave (v := (some (.int (0 : Int32)))) (fun h => by rw [Bd.returns] at h; cases h)
  refine ⟨_, _, k6 _ ?_, hrun, hended, _, _, rfl, ?_, ⟨_, rfl⟩, hW, hsame.mono (by decide) (by decide)⟩
  · exact retN X4 hx (t := .byte) Bd.returns (by simp) (hb hby d18_14) hr
  · show Q18 Z r0 G1 h0 n0 _ T4.heap _
    rw [e4]
    exact ⟨rfl, N0, rfl⟩
def oC17 : ByteArray := jdk_42_method_54_code
theorem d17_0 : decode oC17 0 = .ok (.aload_n 0, 1) := by decide +kernel
theorem d17_1 : decode oC17 1 = .ok (.getfield 9, 3) := by decide +kernel
theorem d17_4 : decode oC17 4 = .ok (.arraylength, 1) := by decide +kernel
theorem d17_5 : decode oC17 5 = .ok (.aload_n 0, 1) := by decide +kernel
theorem d17_6 : decode oC17 6 = .ok (.invokevirtual 335, 3) := by decide +kernel
theorem d17_9 : decode oC17 9 = .ok (.ishr, 1) := by decide +kernel
theorem d17_10 : decode oC17 10 = .ok (.ireturn, 1) := by decide +kernel
theorem pd_1 : parseMethodDescriptor "()B" = some ⟨[], some .byte⟩ := by decide +kernel
def Q17n2 (Z : State) (r0 : Addr) (tr : Addr) (kr : ClassId) (us : List Value) (G1 : Int32) (h0 : Heap) (n0 : Nat) (v : Option Value) (h : Heap) (L : List Loc) : Prop := v = some (.int (2 : Int32)) ∧ Fr n0 L ∧ h = h0
def oR3 : Room := { frames := 1, cells := 0, slots := 0, locals := 13 }
def mN3 : MethodName := ⟨"java/lang/String", "length", "()I"⟩
theorem rm17n2 (l : Launch) (Z : State) (a0 : Array Value) (hw : ∀ d ∈ tables_1, d.before a0 Z = true) (ws : List Jvm.Cond) (r0 : Addr) (tr : Addr) (kr : ClassId) (us : List Value) (G1 : Int32) (h0 : Heap) (n0 : Nat) (Z0 : n0 ≤ h0.size) (E_r0 : Exa Z h0 r0 "java/lang/String") (F_value_r0 : Fld Z h0 r0 "java/lang/String" "value" "[B" (.ref tr)) (F_coder_r0 : Fld Z h0 r0 "java/lang/String" "coder" "B" (.int (0 : Int32))) (V_tr : Arv Z h0 tr kr .byte (2 : Int32) us (.int (0 : Int32))) (S_CS : Sta Z Z.heap "java/lang/String" "COMPACT_STRINGS" "Z" (.int G1)) (P5 : ¬ (G1 = (0 : Int32))) (X00 : Old Z n0 h0) :
    MetFree l mN3 (head1 (Jvm.Cond.code mN3 jdk_42_method_54_code 1 (some .int) :: ws) oR3) (fun a U => a = #[(.ref r0)] ∧ Z.Warmed39 U.vm ∧ U.heap = h0) (fun _ _ _ _ _ => True) (fun _ U o U' => ∃ v L, o = .returned v ∧ Q17n2 Z r0 tr kr us G1 h0 n0 v U'.heap L ∧ FrameEnd U o U' L oR3.cells oR3.slots) := by
  refine MetFree.of_bodySF (plainFor_of_name pn_2) hisR ?_
  intro p e s m args below meth c s₁ Bd hml0 hP hK
  obtain ⟨rfl, hZ, hh⟩ := hP
  have hx := Bd.exec
  have hby := Bd.bytes
  have hml : c.maxLocals = 1 := hml0
  have hown : s.vm.findClass "java/lang/String" = some m.cls := findClass_of_methodNamed Bd.named
  have X0 : Stand p l e oR3 s m #[(.ref r0)] below meth c s₁ [] 0 0 := Stand.of_body Bd
  have e0 : s₁.heap = h0 := by rw [← hh, Bd.state]; rfl
  have N0 := Fr.nil n0
  have k0 : Kq X0 1 s₁ (mkF m 0 #[.val (.ref r0)] []) := fun t k => castTop (ef_13 m r0) k
  have k1 : Kq X0 1 s₁ (mkF m 1 #[.val (.ref r0)] [(.ref r0)]) := fun t k => k0 t (XS.aloadN X0.here hx rfl (hb hby d17_0) rfl rfl k)
  obtain ⟨T2, X2, e2, st2⟩ := getF X0 hx hZ hown (host := "") (Or.inl (ww hw 82 rfl)) Via.refl e0 F_value_r0 (g := gK k1) rfl rfl (hb hby d17_1)
  have k3 : Kq X0 1 T2 (mkF m 4 #[.val (.ref r0)] [(.ref tr)]) := fun t k => k1 t (st2 _ k)
  obtain ⟨cl4, Ar4, q4, S4, N4_, H4, G4⟩ := (id V_tr)
  have S4' : cl4.slots.size = 2 := S4
  have L4 : (cl4.slots.size).toInt32 = (2 : Int32) := by rw [S4']; rfl
  have k5 : Kq X0 1 T2 (mkF m 6 #[.val (.ref r0)] [(.ref r0), (.int (2 : Int32))]) := fun t k => k3 t (by
      refine X2.arraylength hx (by rw [e2]; exact Ar4.1) (State.isArrayOf_alike hZ.alike Ar4.2.1) (g := (mkF m 4 #[.val (.ref r0)] [(.ref tr)])) rfl rfl (hb hby d17_4) _ ?_
      rw [L4]
      show Sg X0 T2 5 #[.val (.ref r0)] [(.int (2 : Int32))] _
      refine XS.aloadN X2.here hx rfl (hb hby d17_5) rfl rfl ?_
      exact k)
  obtain ⟨cq6, kcq6, q6a, q6b, q6c⟩ := isOf hZ e2 E_r0
  obtain ⟨_, _, ⟨T6, L6, kq6, n6⟩, -, X6, ⟨Lc6, hQ6, l6, y6, z6⟩, st6⟩ := X2.virtualBack hx (y := mN2) (z := mN2) hown (mw hZ hw 118 rfl) (mw hZ hw 119 rfl) (notFace_of_selects (args := #[]) (mw hZ hw 121 rfl)) (mw hZ hw 121 rfl) (mw hZ hw 120 rfl) (by decide) (backOf (W := 1) (rm18 l Z a0 hw [] r0 G1 h0 n0 Z0 F_coder_r0 S_CS P5 X00) hZ (ww hw 122 rfl) (ww hw 4 rfl) (by decide) (by decide)) q6a q6c (g := gK k5) rfl (by rw [hml]; rfl) (Steps.refl _) (argsL := []) (rest := [(.int (2 : Int32))]) (lenOf pd_1 rfl) rfl (by show 2 * 0 + _ ≤ _; exact Nat.le_of_eq rfl) (hb hby d17_6) (fun _ _ => ⟨rfl, e2, (by decide : 0 + 0 ≤ _), (by decide : 0 + 0 ≤ _)⟩)
  dsimp only [Pt.U, Pt.locs, Pt.cells, Pt.slots] at X6 l6 y6 z6 st6 hQ6
  replace l6 := l6.symm; subst l6 y6 z6
  obtain ⟨rfl, N6q, e6⟩ := hQ6
  have N6 := Fr.app N0 N6q
  have k8 : Kq X0 1 T6 (mkF m 10 #[.val (.ref r0)] [(.int (2 : Int32))]) := fun t k => k5 t (st6.trans (XS.ishr X6.here hx rfl (hb hby d17_9) rfl k))
  obtain ⟨fs, hr, hrun, hended, hW, hsame⟩ := X6.leave (v := (some (.int (2 : Int32)))) (fun h => by rw [Bd.returns] at h; cases h)
  refine ⟨_, _, k8 _ ?_, hrun, hended, _, _, rfl, ?_, ⟨_, rfl⟩, hW, hsame.mono (by decide) (by decide)⟩
  · exact retOut X6 hx Bd.returns rfl (Or.inl ⟨rfl, Or.inl rfl, _, rfl⟩) (hb hby d17_10) hr
  · show Q17n2 Z r0 tr kr us G1 h0 n0 _ T6.heap _
    rw [e6]
    exact ⟨rfl, N6, rfl⟩
def Q17n6 (Z : State) (r0 : Addr) (tr : Addr) (kr : ClassId) (us : List Value) (G1 : Int32) (h0 : Heap) (n0 : Nat) (v : Option Value) (h : Heap) (L : List Loc) : Prop := v = some (.int (6 : Int32)) ∧ Fr n0 L ∧ h = h0
theorem rm17n6 (l : Launch) (Z : State) (a0 : Array Value) (hw : ∀ d ∈ tables_1, d.before a0 Z = true) (ws : List Jvm.Cond) (r0 : Addr) (tr : Addr) (kr : ClassId) (us : List Value) (G1 : Int32) (h0 : Heap) (n0 : Nat) (Z0 : n0 ≤ h0.size) (E_r0 : Exa Z h0 r0 "java/lang/String") (F_value_r0 : Fld Z h0 r0 "java/lang/String" "value" "[B" (.ref tr)) (F_coder_r0 : Fld Z h0 r0 "java/lang/String" "coder" "B" (.int (0 : Int32))) (V_tr : Arv Z h0 tr kr .byte (6 : Int32) us (.int (0 : Int32))) (S_CS : Sta Z Z.heap "java/lang/String" "COMPACT_STRINGS" "Z" (.int G1)) (P5 : ¬ (G1 = (0 : Int32))) (X00 : Old Z n0 h0) :
    MetFree l mN3 (head1 (Jvm.Cond.code mN3 jdk_42_method_54_code 1 (some .int) :: ws) oR3) (fun a U => a = #[(.ref r0)] ∧ Z.Warmed39 U.vm ∧ U.heap = h0) (fun _ _ _ _ _ => True) (fun _ U o U' => ∃ v L, o = .returned v ∧ Q17n6 Z r0 tr kr us G1 h0 n0 v U'.heap L ∧ FrameEnd U o U' L oR3.cells oR3.slots) := by
  refine MetFree.of_bodySF (plainFor_of_name pn_2) hisR ?_
  intro p e s m args below meth c s₁ Bd hml0 hP hK
  obtain ⟨rfl, hZ, hh⟩ := hP
  have hx := Bd.exec
  have hby := Bd.bytes
  have hml : c.maxLocals = 1 := hml0
  have hown : s.vm.findClass "java/lang/String" = some m.cls := findClass_of_methodNamed Bd.named
  have X0 : Stand p l e oR3 s m #[(.ref r0)] below meth c s₁ [] 0 0 := Stand.of_body Bd
  have e0 : s₁.heap = h0 := by rw [← hh, Bd.state]; rfl
  have N0 := Fr.nil n0
  have k0 : Kq X0 1 s₁ (mkF m 0 #[.val (.ref r0)] []) := fun t k => castTop (ef_13 m r0) k
  have k1 : Kq X0 1 s₁ (mkF m 1 #[.val (.ref r0)] [(.ref r0)]) := fun t k => k0 t (XS.aloadN X0.here hx rfl (hb hby d17_0) rfl rfl k)
  obtain ⟨T2, X2, e2, st2⟩ := getF X0 hx hZ hown (host := "") (Or.inl (ww hw 82 rfl)) Via.refl e0 F_value_r0 (g := gK k1) rfl rfl (hb hby d17_1)
  have k3 : Kq X0 1 T2 (mkF m 4 #[.val (.ref r0)] [(.ref tr)]) := fun t k => k1 t (st2 _ k)
  obtain ⟨cl4, Ar4, q4, S4, N4_, H4, G4⟩ := (id V_tr)
  have S4' : cl4.slots.size = 6 := S4
  have L4 : (cl4.slots.size).toInt32 = (6 : Int32) := by rw [S4']; rfl
  have k5 : Kq X0 1 T2 (mkF m 6 #[.val (.ref r0)] [(.ref r0), (.int (6 : Int32))]) := fun t k => k3 t (by
      refine X2.arraylength hx (by rw [e2]; exact Ar4.1) (State.isArrayOf_alike hZ.alike Ar4.2.1) (g := (mkF m 4 #[.val (.ref r0)] [(.ref tr)])) rfl rfl (hb hby d17_4) _ ?_
      rw [L4]
      show Sg X0 T2 5 #[.val (.ref r0)] [(.int (6 : Int32))] _
      refine XS.aloadN X2.here hx rfl (hb hby d17_5) rfl rfl ?_
      exact k)
  obtain ⟨cq6, kcq6, q6a, q6b, q6c⟩ := isOf hZ e2 E_r0
  obtain ⟨_, _, ⟨T6, L6, kq6, n6⟩, -, X6, ⟨Lc6, hQ6, l6, y6, z6⟩, st6⟩ := X2.virtualBack hx (y := mN2) (z := mN2) hown (mw hZ hw 118 rfl) (mw hZ hw 119 rfl) (notFace_of_selects (args := #[]) (mw hZ hw 121 rfl)) (mw hZ hw 121 rfl) (mw hZ hw 120 rfl) (by decide) (backOf (W := 1) (rm18 l Z a0 hw [] r0 G1 h0 n0 Z0 F_coder_r0 S_CS P5 X00) hZ (ww hw 122 rfl) (ww hw 4 rfl) (by decide) (by decide)) q6a q6c (g := gK k5) rfl (by rw [hml]; rfl) (Steps.refl _) (argsL := []) (rest := [(.int (6 : Int32))]) (lenOf pd_1 rfl) rfl (by show 2 * 0 + _ ≤ _; exact Nat.le_of_eq rfl) (hb hby d17_6) (fun _ _ => ⟨rfl, e2, (by decide : 0 + 0 ≤ _), (by decide : 0 + 0 ≤ _)⟩)
  dsimp only [Pt.U, Pt.locs, Pt.cells, Pt.slots] at X6 l6 y6 z6 st6 hQ6
  replace l6 := l6.symm; subst l6 y6 z6
  obtain ⟨rfl, N6q, e6⟩ := hQ6
  have N6 := Fr.app N0 N6q
  have k8 : Kq X0 1 T6 (mkF m 10 #[.val (.ref r0)] [(.int (6 : Int32))]) := fun t k => k5 t (st6.trans (XS.ishr X6.here hx rfl (hb hby d17_9) rfl k))
  obtain ⟨fs, hr, hrun, hended, hW, hsame⟩ := X6.leave (v := (some (.int (6 : Int32)))) (fun h => by rw [Bd.returns] at h; cases h)
  refine ⟨_, _, k8 _ ?_, hrun, hended, _, _, rfl, ?_, ⟨_, rfl⟩, hW, hsame.mono (by decide) (by decide)⟩
  · exact retOut X6 hx Bd.returns rfl (Or.inl ⟨rfl, Or.inl rfl, _, rfl⟩) (hb hby d17_10) hr
  · show Q17n6 Z r0 tr kr us G1 h0 n0 _ T6.heap _
    rw [e6]
    exact ⟨rfl, N6, rfl⟩
def Q17n8 (Z : State) (r0 : Addr) (tr : Addr) (kr : ClassId) (us : List Value) (G1 : Int32) (h0 : Heap) (n0 : Nat) (v : Option Value) (h : Heap) (L : List Loc) : Prop := v = some (.int (8 : Int32)) ∧ Fr n0 L ∧ h = h0
theorem rm17n8 (l : Launch) (Z : State) (a0 : Array Value) (hw : ∀ d ∈ tables_1, d.before a0 Z = true) (ws : List Jvm.Cond) (r0 : Addr) (tr : Addr) (kr : ClassId) (us : List Value) (G1 : Int32) (h0 : Heap) (n0 : Nat) (Z0 : n0 ≤ h0.size) (E_r0 : Exa Z h0 r0 "java/lang/String") (F_value_r0 : Fld Z h0 r0 "java/lang/String" "value" "[B" (.ref tr)) (F_coder_r0 : Fld Z h0 r0 "java/lang/String" "coder" "B" (.int (0 : Int32))) (V_tr : Arv Z h0 tr kr .byte (8 : Int32) us (.int (0 : Int32))) (S_CS : Sta Z Z.heap "java/lang/String" "COMPACT_STRINGS" "Z" (.int G1)) (P5 : ¬ (G1 = (0 : Int32))) (X00 : Old Z n0 h0) :
    MetFree l mN3 (head1 (Jvm.Cond.code mN3 jdk_42_method_54_code 1 (some .int) :: ws) oR3) (fun a U => a = #[(.ref r0)] ∧ Z.Warmed39 U.vm ∧ U.heap = h0) (fun _ _ _ _ _ => True) (fun _ U o U' => ∃ v L, o = .returned v ∧ Q17n8 Z r0 tr kr us G1 h0 n0 v U'.heap L ∧ FrameEnd U o U' L oR3.cells oR3.slots) := by
  refine MetFree.of_bodySF (plainFor_of_name pn_2) hisR ?_
  intro p e s m args below meth c s₁ Bd hml0 hP hK
  obtain ⟨rfl, hZ, hh⟩ := hP
  have hx := Bd.exec
  have hby := Bd.bytes
  have hml : c.maxLocals = 1 := hml0
  have hown : s.vm.findClass "java/lang/String" = some m.cls := findClass_of_methodNamed Bd.named
  have X0 : Stand p l e oR3 s m #[(.ref r0)] below meth c s₁ [] 0 0 := Stand.of_body Bd
  have e0 : s₁.heap = h0 := by rw [← hh, Bd.state]; rfl
  have N0 := Fr.nil n0
  have k0 : Kq X0 1 s₁ (mkF m 0 #[.val (.ref r0)] []) := fun t k => castTop (ef_13 m r0) k
  have k1 : Kq X0 1 s₁ (mkF m 1 #[.val (.ref r0)] [(.ref r0)]) := fun t k => k0 t (XS.aloadN X0.here hx rfl (hb hby d17_0) rfl rfl k)
  obtain ⟨T2, X2, e2, st2⟩ := getF X0 hx hZ hown (host := "") (Or.inl (ww hw 82 rfl)) Via.refl e0 F_value_r0 (g := gK k1) rfl rfl (hb hby d17_1)
  have k3 : Kq X0 1 T2 (mkF m 4 #[.val (.ref r0)] [(.ref tr)]) := fun t k => k1 t (st2 _ k)
  obtain ⟨cl4, Ar4, q4, S4, N4_, H4, G4⟩ := (id V_tr)
  have S4' : cl4.slots.size = 8 := S4
  have L4 : (cl4.slots.size).toInt32 = (8 : Int32) := by rw [S4']; rfl
  have k5 : Kq X0 1 T2 (mkF m 6 #[.val (.ref r0)] [(.ref r0), (.int (8 : Int32))]) := fun t k => k3 t (by
      refine X2.arraylength hx (by rw [e2]; exact Ar4.1) (State.isArrayOf_alike hZ.alike Ar4.2.1) (g := (mkF m 4 #[.val (.ref r0)] [(.ref tr)])) rfl rfl (hb hby d17_4) _ ?_
      rw [L4]
      show Sg X0 T2 5 #[.val (.ref r0)] [(.int (8 : Int32))] _
      refine XS.aloadN X2.here hx rfl (hb hby d17_5) rfl rfl ?_
      exact k)
  obtain ⟨cq6, kcq6, q6a, q6b, q6c⟩ := isOf hZ e2 E_r0
  obtain ⟨_, _, ⟨T6, L6, kq6, n6⟩, -, X6, ⟨Lc6, hQ6, l6, y6, z6⟩, st6⟩ := X2.virtualBack hx (y := mN2) (z := mN2) hown (mw hZ hw 118 rfl) (mw hZ hw 119 rfl) (notFace_of_selects (args := #[]) (mw hZ hw 121 rfl)) (mw hZ hw 121 rfl) (mw hZ hw 120 rfl) (by decide) (backOf (W := 1) (rm18 l Z a0 hw [] r0 G1 h0 n0 Z0 F_coder_r0 S_CS P5 X00) hZ (ww hw 122 rfl) (ww hw 4 rfl) (by decide) (by decide)) q6a q6c (g := gK k5) rfl (by rw [hml]; rfl) (Steps.refl _) (argsL := []) (rest := [(.int (8 : Int32))]) (lenOf pd_1 rfl) rfl (by show 2 * 0 + _ ≤ _; exact Nat.le_of_eq rfl) (hb hby d17_6) (fun _ _ => ⟨rfl, e2, (by decide : 0 + 0 ≤ _), (by decide : 0 + 0 ≤ _)⟩)
  dsimp only [Pt.U, Pt.locs, Pt.cells, Pt.slots] at X6 l6 y6 z6 st6 hQ6
  replace l6 := l6.symm; subst l6 y6 z6
  obtain ⟨rfl, N6q, e6⟩ := hQ6
  have N6 := Fr.app N0 N6q
  have k8 : Kq X0 1 T6 (mkF m 10 #[.val (.ref r0)] [(.int (8 : Int32))]) := fun t k => k5 t (st6.trans (XS.ishr X6.here hx rfl (hb hby d17_9) rfl k))
  obtain ⟨fs, hr, hrun, hended, hW, hsame⟩ := X6.leave (v := (some (.int (8 : Int32)))) (fun h => by rw [Bd.returns] at h; cases h)
  refine ⟨_, _, k8 _ ?_, hrun, hended, _, _, rfl, ?_, ⟨_, rfl⟩, hW, hsame.mono (by decide) (by decide)⟩
  · exact retOut X6 hx Bd.returns rfl (Or.inl ⟨rfl, Or.inl rfl, _, rfl⟩) (hb hby d17_10) hr
  · show Q17n8 Z r0 tr kr us G1 h0 n0 _ T6.heap _
    rw [e6]
    exact ⟨rfl, N6, rfl⟩
def Q17n10 (Z : State) (r0 : Addr) (tr : Addr) (kr : ClassId) (us : List Value) (G1 : Int32) (h0 : Heap) (n0 : Nat) (v : Option Value) (h : Heap) (L : List Loc) : Prop := v = some (.int (10 : Int32)) ∧ Fr n0 L ∧ h = h0
theorem rm17n10 (l : Launch) (Z : State) (a0 : Array Value) (hw : ∀ d ∈ tables_1, d.before a0 Z = true) (ws : List Jvm.Cond) (r0 : Addr) (tr : Addr) (kr : ClassId) (us : List Value) (G1 : Int32) (h0 : Heap) (n0 : Nat) (Z0 : n0 ≤ h0.size) (E_r0 : Exa Z h0 r0 "java/lang/String") (F_value_r0 : Fld Z h0 r0 "java/lang/String" "value" "[B" (.ref tr)) (F_coder_r0 : Fld Z h0 r0 "java/lang/String" "coder" "B" (.int (0 : Int32))) (V_tr : Arv Z h0 tr kr .byte (10 : Int32) us (.int (0 : Int32))) (S_CS : Sta Z Z.heap "java/lang/String" "COMPACT_STRINGS" "Z" (.int G1)) (P5 : ¬ (G1 = (0 : Int32))) (X00 : Old Z n0 h0) :
    MetFree l mN3 (head1 (Jvm.Cond.code mN3 jdk_42_method_54_code 1 (some .int) :: ws) oR3) (fun a U => a = #[(.ref r0)] ∧ Z.Warmed39 U.vm ∧ U.heap = h0) (fun _ _ _ _ _ => True) (fun _ U o U' => ∃ v L, o = .returned v ∧ Q17n10 Z r0 tr kr us G1 h0 n0 v U'.heap L ∧ FrameEnd U o U' L oR3.cells oR3.slots) := by
  refine MetFree.of_bodySF (plainFor_of_name pn_2) hisR ?_
  intro p e s m args below meth c s₁ Bd hml0 hP hK
  obtain ⟨rfl, hZ, hh⟩ := hP
  have hx := Bd.exec
  have hby := Bd.bytes
  have hml : c.maxLocals = 1 := hml0
  have hown : s.vm.findClass "java/lang/String" = some m.cls := findClass_of_methodNamed Bd.named
  have X0 : Stand p l e oR3 s m #[(.ref r0)] below meth c s₁ [] 0 0 := Stand.of_body Bd
  have e0 : s₁.heap = h0 := by rw [← hh, Bd.state]; rfl
  have N0 := Fr.nil n0
  have k0 : Kq X0 1 s₁ (mkF m 0 #[.val (.ref r0)] []) := fun t k => castTop (ef_13 m r0) k
  have k1 : Kq X0 1 s₁ (mkF m 1 #[.val (.ref r0)] [(.ref r0)]) := fun t k => k0 t (XS.aloadN X0.here hx rfl (hb hby d17_0) rfl rfl k)
  obtain ⟨T2, X2, e2, st2⟩ := getF X0 hx hZ hown (host := "") (Or.inl (ww hw 82 rfl)) Via.refl e0 F_value_r0 (g := gK k1) rfl rfl (hb hby d17_1)
  have k3 : Kq X0 1 T2 (mkF m 4 #[.val (.ref r0)] [(.ref tr)]) := fun t k => k1 t (st2 _ k)
  obtain ⟨cl4, Ar4, q4, S4, N4_, H4, G4⟩ := (id V_tr)
  have S4' : cl4.slots.size = 10 := S4
  have L4 : (cl4.slots.size).toInt32 = (10 : Int32) := by rw [S4']; rfl
  have k5 : Kq X0 1 T2 (mkF m 6 #[.val (.ref r0)] [(.ref r0), (.int (10 : Int32))]) := fun t k => k3 t (by
      refine X2.arraylength hx (by rw [e2]; exact Ar4.1) (State.isArrayOf_alike hZ.alike Ar4.2.1) (g := (mkF m 4 #[.val (.ref r0)] [(.ref tr)])) rfl rfl (hb hby d17_4) _ ?_
      rw [L4]
      show Sg X0 T2 5 #[.val (.ref r0)] [(.int (10 : Int32))] _
      refine XS.aloadN X2.here hx rfl (hb hby d17_5) rfl rfl ?_
      exact k)
  obtain ⟨cq6, kcq6, q6a, q6b, q6c⟩ := isOf hZ e2 E_r0
  obtain ⟨_, _, ⟨T6, L6, kq6, n6⟩, -, X6, ⟨Lc6, hQ6, l6, y6, z6⟩, st6⟩ := X2.virtualBack hx (y := mN2) (z := mN2) hown (mw hZ hw 118 rfl) (mw hZ hw 119 rfl) (notFace_of_selects (args := #[]) (mw hZ hw 121 rfl)) (mw hZ hw 121 rfl) (mw hZ hw 120 rfl) (by decide) (backOf (W := 1) (rm18 l Z a0 hw [] r0 G1 h0 n0 Z0 F_coder_r0 S_CS P5 X00) hZ (ww hw 122 rfl) (ww hw 4 rfl) (by decide) (by decide)) q6a q6c (g := gK k5) rfl (by rw [hml]; rfl) (Steps.refl _) (argsL := []) (rest := [(.int (10 : Int32))]) (lenOf pd_1 rfl) rfl (by show 2 * 0 + _ ≤ _; exact Nat.le_of_eq rfl) (hb hby d17_6) (fun _ _ => ⟨rfl, e2, (by decide : 0 + 0 ≤ _), (by decide : 0 + 0 ≤ _)⟩)
  dsimp only [Pt.U, Pt.locs, Pt.cells, Pt.slots] at X6 l6 y6 z6 st6 hQ6
  replace l6 := l6.symm; subst l6 y6 z6
  obtain ⟨rfl, N6q, e6⟩ := hQ6
  have N6 := Fr.app N0 N6q
  have k8 : Kq X0 1 T6 (mkF m 10 #[.val (.ref r0)] [(.int (10 : Int32))]) := fun t k => k5 t (st6.trans (XS.ishr X6.here hx rfl (hb hby d17_9) rfl k))
  obtain ⟨fs, hr, hrun, hended, hW, hsame⟩ := X6.leave (v := (some (.int (10 : Int32)))) (fun h => by rw [Bd.returns] at h; cases h)
  refine ⟨_, _, k8 _ ?_, hrun, hended, _, _, rfl, ?_, ⟨_, rfl⟩, hW, hsame.mono (by decide) (by decide)⟩
  · exact retOut X6 hx Bd.returns rfl (Or.inl ⟨rfl, Or.inl rfl, _, rfl⟩) (hb hby d17_10) hr
  · show Q17n10 Z r0 tr kr us G1 h0 n0 _ T6.heap _
    rw [e6]
    exact ⟨rfl, N6, rfl⟩
def oC21 : ByteArray := jdk_68_method_71_code
theorem d21_0 : decode oC21 0 = .ok (.getstatic 18, 3) := by decide +kernel
theorem d21_3 : decode oC21 3 = .ok (.ifCond .eq 18, 3) := by decide +kernel
theorem d21_6 : decode oC21 6 = .ok (.aload_n 0, 1) := by decide +kernel
theorem d21_7 : decode oC21 7 = .ok (.getfield 22, 3) := by decide +kernel
theorem d21_10 : decode oC21 10 = .ok (.aload_n 1, 1) := by decide +kernel
theorem d21_11 : decode oC21 11 = .ok (.invokevirtual 40, 3) := by decide +kernel
theorem d21_14 : decode oC21 14 = .ok (.if_icmp .eq 7, 3) := by decide +kernel
theorem d21_17 : decode oC21 17 = .ok (.aload_n 0, 1) := by decide +kernel
theorem d21_18 : decode oC21 18 = .ok (.invokevirtual 195, 3) := by decide +kernel
theorem d21_21 : decode oC21 21 = .ok (.return_, 1) := by decide +kernel
theorem ef_21 (m : MethodId) (x0 : Addr) (x1 : Addr) : entryFrame m #[(.ref x0), (.ref x1)] 2 = mkF m 0 #[.val (.ref x0), .val (.ref x1)] [] := by first | (simp [entryFrame, mkF, argsToLocals, Value.category]; done) | rfl
def Q21 (Z : State) (r0 : Addr) (r1 : Addr) (G1 : Int32) (h0 : Heap) (n0 : Nat) (v : Option Value) (h : Heap) (L : List Loc) : Prop := v = none ∧ Fr n0 L ∧ h = h0
def mN4 : MethodName := ⟨"java/lang/AbstractStringBuilder", "inflateIfNeededFor", "(Ljava/lang/String;)V"⟩
def oL1 (r0 : Addr) (r1 : Addr) : Array Slot := #[.val (.ref r0), .val (.ref r1)]
theorem rm21 (l : Launch) (Z : State) (a0 : Array Value) (hw : ∀ d ∈ tables_1, d.before a0 Z = true) (ws : List Jvm.Cond) (r0 : Addr) (r1 : Addr) (G1 : Int32) (h0 : Heap) (n0 : Nat) (Z0 : n0 ≤ h0.size) (F_coder_r0 : Fld Z h0 r0 "java/lang/AbstractStringBuilder" "coder" "B" (.int (0 : Int32))) (F_coder_r1 : Fld Z h0 r1 "java/lang/String" "coder" "B" (.int (0 : Int32))) (E_r1 : Exa Z h0 r1 "java/lang/String") (S_CS : Sta Z Z.heap "java/lang/String" "COMPACT_STRINGS" "Z" (.int G1)) (P5 : ¬ (G1 = (0 : Int32))) (X00 : Old Z n0 h0) :
    MetFree l mN4 (head1 (Jvm.Cond.code mN4 jdk_68_method_71_code 2 none :: ws) oR3) (fun a U => a = #[(.ref r0), (.ref r1)] ∧ Z.Warmed39 U.vm ∧ U.heap = h0) (fun _ _ _ _ _ => True) (fun _ U o U' => ∃ v L, o = .returned v ∧ Q21 Z r0 r1 G1 h0 n0 v U'.heap L ∧ FrameEnd U o U' L oR3.cells oR3.slots) := by
  refine MetFree.of_bodySF (plainFor_of_name pn_0) hisR ?_
  intro p e s m args below meth c s₁ Bd hml0 hP hK
  obtain ⟨rfl, hZ, hh⟩ := hP
  have hx := Bd.exec
  have hby := Bd.bytes
  have hml : c.maxLocals = 2 := hml0
  have hown : s.vm.findClass "java/lang/AbstractStringBuilder" = some m.cls := findClass_of_methodNamed Bd.named
  have X0 : Stand p l e oR3 s m #[(.ref r0), (.ref r1)] below meth c s₁ [] 0 0 := Stand.of_body Bd
  have e0 : s₁.heap = h0 := by rw [← hh, Bd.state]; rfl
  have N0 := Fr.nil n0
  have k0 : Kq X0 2 s₁ (mkF m 0 (oL1 r0 r1) []) := fun t k => castTop (ef_21 m r0 r1) k
  obtain ⟨T1, X1, e1, st1⟩ := getS2 X0 hx hZ hown (host := "") (Or.inl (ww hw 97 rfl)) Via.refl e0 (S_CS.ext X00.2) (g := gK k0) rfl (hb hby d21_0)
  have hc3 : ¬ (G1 = (0 : Int32)) := P5
  have k3 : Kq X0 2 T1 (mkF m 7 (oL1 r0 r1) [(.ref r0)]) := fun t k => k0 t (st1 _ (XS.ifNo X1.here hx rfl (hb hby d21_3) rfl ((if0 _ _).trans (feq hc3).1) (XS.aloadN X1.here hx rfl (hb hby d21_6) rfl rfl k)))
  obtain ⟨T4, X4, e4, st4⟩ := getF X1 hx hZ hown (host := "") (Or.inl (ww hw 100 rfl)) Via.refl e1 F_coder_r0 (g := gK k3) rfl rfl (hb hby d21_7)
  have k6 : Kq X0 2 T4 (mkF m 11 (oL1 r0 r1) [(.ref r1), (.int (0 : Int32))]) := fun t k => k3 t (st4 _ (XS.aloadN X4.here hx rfl (hb hby d21_10) rfl rfl k))
  obtain ⟨cq7, kcq7, q7a, q7b, q7c⟩ := isOf hZ e4 E_r1
  obtain ⟨_, _, ⟨T7, L7, kq7, n7⟩, -, X7, ⟨Lc7, hQ7, l7, y7, z7⟩, st7⟩ := X4.virtualBack hx (y := mN2) (z := mN2) hown (mw hZ hw 140 rfl) (mw hZ hw 119 rfl) (notFace_of_selects (args := #[]) (mw hZ hw 121 rfl)) (mw hZ hw 121 rfl) (mw hZ hw 120 rfl) (by decide) (backOf (W := 1) (rm18 l Z a0 hw [] r1 G1 h0 n0 Z0 F_coder_r1 S_CS P5 X00) hZ (ww hw 122 rfl) (ww hw 4 rfl) (by decide) (by decide)) q7a q7c (g := gK k6) rfl (by rw [hml]; rfl) (Steps.refl _) (argsL := []) (rest := [(.int (0 : Int32))]) (lenOf pd_1 rfl) rfl (by show 2 * 0 + _ ≤ _; exact Nat.le_of_eq rfl) (hb hby d21_11) (fun _ _ => ⟨rfl, e4, (by decide : 0 + 0 ≤ _), (by decide : 0 + 0 ≤ _)⟩)
  dsimp only [Pt.U, Pt.locs, Pt.cells, Pt.slots] at X7 l7 y7 z7 st7 hQ7
  replace l7 := l7.symm; subst l7 y7 z7
  obtain ⟨rfl, N7q, e7⟩ := hQ7
  have N7 := Fr.app N0 N7q
  have hc14 : (0 : Int32) = (0 : Int32) := by decide
  have k9 : Kq X0 2 T7 (mkF m 21 (oL1 r0 r1) []) := fun t k => k6 t (st7.trans (XS.icmpYes X7.here hx rfl (pc0 := 14) (pc' := 21) rfl (hb hby d21_14) rfl (teq hc14).1 (by decide) (by decide) k))
  obtain ⟨fs, hr, hrun, hended, hW, hsame⟩ := X7.leave (v := none) (fun _ => rfl)
  refine ⟨_, _, k9 _ ?_, hrun, hended, _, _, rfl, ?_, ⟨_, rfl⟩, hW, hsame.mono (by decide) (by decide)⟩
  · exact X7.returnOut hx Bd.returns (hb hby d21_21) hr
  · show Q21 Z r0 r1 G1 h0 n0 _ T7.heap _
    rw [e7]
    exact ⟨rfl, N7, rfl⟩
def oC38 : ByteArray := jdk_29_method_65_code
theorem d38_0 : decode oC38 0 = .ok (.iload_n 0, 1) := by decide +kernel
theorem d38_1 : decode oC38 1 = .ok (.iload_n 1, 1) := by decide +kernel
theorem d38_2 : decode oC38 2 = .ok (.if_icmp .lt 7, 3) := by decide +kernel
theorem d38_5 : decode oC38 5 = .ok (.iload_n 0, 1) := by decide +kernel
theorem d38_6 : decode oC38 6 = .ok (.goto 4, 3) := by decide +kernel
theorem d38_9 : decode oC38 9 = .ok (.iload_n 1, 1) := by decide +kernel
theorem d38_10 : decode oC38 10 = .ok (.ireturn, 1) := by decide +kernel
theorem ef_38 (m : MethodId) (x0 : Int32) (x1 : Int32) : entryFrame m #[(.int x0), (.int x1)] 2 = mkF m 0 #[.val (.int x0), .val (.int x1)] [] := by first | (simp [entryFrame, mkF, argsToLocals, Value.category]; done) | rfl
def Q38 (Z : State)  (h0 : Heap) (n0 : Nat) (v : Option Value) (h : Heap) (L : List Loc) : Prop := v = some (.int (18 : Int32)) ∧ Fr n0 L ∧ h = h0
def mN5 : MethodName := ⟨"java/lang/Math", "max", "(II)I"⟩
def oL2  : Array Slot := #[.val (.int (2 : Int32)), .val (.int (18 : Int32))]
theorem rm38 (l : Launch) (Z : State) (a0 : Array Value) (hw : ∀ d ∈ tables_1, d.before a0 Z = true) (ws : List Jvm.Cond)  (h0 : Heap) (n0 : Nat) (Z0 : n0 ≤ h0.size) :
    MetFree l mN5 (head1 (Jvm.Cond.code mN5 jdk_29_method_65_code 2 (some .int) :: ws) oR2) (fun a U => a = #[(.int (2 : Int32)), (.int (18 : Int32))] ∧ Z.Warmed39 U.vm ∧ U.heap = h0) (fun _ _ _ _ _ => True) (fun _ U o U' => ∃ v L, o = .returned v ∧ Q38 Z  h0 n0 v U'.heap L ∧ FrameEnd U o U' L oR2.cells oR2.slots) := by
  refine MetFree.of_bodySF (Jvm.Free.JP.mathPlain rfl (by decide +kernel)) hisR ?_
  intro p e s m args below meth c s₁ Bd hml0 hP hK
  obtain ⟨rfl, hZ, hh⟩ := hP
  have hx := Bd.exec
  have hby := Bd.bytes
  have hml : c.maxLocals = 2 := hml0
  have hown : s.vm.findClass "java/lang/Math" = some m.cls := findClass_of_methodNamed Bd.named
  have X0 : Stand p l e oR2 s m #[(.int (2 : Int32)), (.int (18 : Int32))] below meth c s₁ [] 0 0 := Stand.of_body Bd
  have e0 : s₁.heap = h0 := by rw [← hh, Bd.state]; rfl
  have N0 := Fr.nil n0
  have k0 : Kq X0 2 s₁ (mkF m 0 oL2 []) := fun t k => castTop (ef_38 m (2 : Int32) (18 : Int32)) k
  have hc2 : (2 : Int32) < (18 : Int32) := by decide
  have k1 : Kq X0 2 s₁ (mkF m 10 oL2 [(.int (18 : Int32))]) := fun t k => k0 t (XS.iloadN X0.here hx rfl (hb hby d38_0) rfl (XS.iloadN X0.here hx rfl (hb hby d38_1) rfl (XS.icmpYes X0.here hx rfl (pc0 := 2) (pc' := 9) rfl (hb hby d38_2) rfl (tlt hc2).1 (by decide) (by decide) (XS.iloadN X0.here hx rfl (hb hby d38_9) rfl k))))
  obtain ⟨fs, hr, hrun, hended, hW, hsame⟩ := X0.leave (v := (some (.int (18 : Int32)))) (fun h => by rw [Bd.returns] at h; cases h)
  refine ⟨_, _, k1 _ ?_, hrun, hended, _, _, rfl, ?_, ⟨_, rfl⟩, hW, hsame.mono (by decide) (by decide)⟩
  · exact retOut X0 hx Bd.returns rfl (Or.inl ⟨rfl, Or.inl rfl, _, rfl⟩) (hb hby d38_10) hr
  · show Q38 Z  h0 n0 _ s₁.heap _
    rw [e0]
    exact ⟨rfl, N0, rfl⟩
def oC37 : ByteArray := jdk_48_method_27_code
theorem d37_0 : decode oC37 0 = .ok (.iload_n 0, 1) := by decide +kernel
theorem d37_1 : decode oC37 1 = .ok (.iload_n 1, 1) := by decide +kernel
theorem d37_2 : decode oC37 2 = .ok (.iload_n 2, 1) := by decide +kernel
theorem d37_3 : decode oC37 3 = .ok (.invokestatic 194, 3) := by decide +kernel
theorem d37_6 : decode oC37 6 = .ok (.iadd, 1) := by decide +kernel
theorem d37_7 : decode oC37 7 = .ok (.istore_n 3, 1) := by decide +kernel
theorem d37_8 : decode oC37 8 = .ok (.iconst 0, 1) := by decide +kernel
theorem d37_9 : decode oC37 9 = .ok (.iload_n 3, 1) := by decide +kernel
theorem d37_10 : decode oC37 10 = .ok (.if_icmp .ge 11, 3) := by decide +kernel
theorem d37_13 : decode oC37 13 = .ok (.iload_n 3, 1) := by decide +kernel
theorem d37_14 : decode oC37 14 = .ok (.ldc 200, 2) := by decide +kernel
theorem d37_16 : decode oC37 16 = .ok (.if_icmp .gt 5, 3) := by decide +kernel
theorem d37_19 : decode oC37 19 = .ok (.iload_n 3, 1) := by decide +kernel
theorem d37_20 : decode oC37 20 = .ok (.ireturn, 1) := by decide +kernel
theorem d37_21 : decode oC37 21 = .ok (.iload_n 0, 1) := by decide +kernel
theorem d37_22 : decode oC37 22 = .ok (.iload_n 1, 1) := by decide +kernel
theorem d37_23 : decode oC37 23 = .ok (.invokestatic 201, 3) := by decide +kernel
theorem d37_26 : decode oC37 26 = .ok (.ireturn, 1) := by decide +kernel
theorem ef_37 (m : MethodId) (x0 : Int32) (x1 : Int32) (x2 : Int32) : entryFrame m #[(.int x0), (.int x1), (.int x2)] 4 = mkF m 0 #[.val (.int x0), .val (.int x1), .val (.int x2), .unset] [] := by first | (simp [entryFrame, mkF, argsToLocals, Value.category]; done) | rfl
theorem pn_3 : plainName "jdk/internal/util/ArraysSupport" = true := by first | (simp [plainName, overriddenIn]; done) | decide +kernel
theorem pd_2 : parseMethodDescriptor "(II)I" = some ⟨[.int, .int], some .int⟩ := by decide +kernel
def Q37 (Z : State)  (h0 : Heap) (n0 : Nat) (v : Option Value) (h : Heap) (L : List Loc) : Prop := v = some (.int (34 : Int32)) ∧ Fr n0 L ∧ h = h0
def oR4 : Room := { frames := 1, cells := 0, slots := 0, locals := 14 }
def mN6 : MethodName := ⟨"jdk/internal/util/ArraysSupport", "newLength", "(III)I"⟩
def oL3  : Array Slot := #[.val (.int (16 : Int32)), .val (.int (2 : Int32)), .val (.int (18 : Int32)), .unset]
def oL4  : Array Slot := #[.val (.int (16 : Int32)), .val (.int (2 : Int32)), .val (.int (18 : Int32)), .val (.int (34 : Int32))]
theorem rm37 (l : Launch) (Z : State) (a0 : Array Value) (hw : ∀ d ∈ tables_1, d.before a0 Z = true) (ws : List Jvm.Cond)  (h0 : Heap) (n0 : Nat) (Z0 : n0 ≤ h0.size) :
    MetFree l mN6 (head1 (Jvm.Cond.code mN6 jdk_48_method_27_code 4 (some .int) :: ws) oR4) (fun a U => a = #[(.int (16 : Int32)), (.int (2 : Int32)), (.int (18 : Int32))] ∧ Z.Warmed39 U.vm ∧ U.heap = h0) (fun _ _ _ _ _ => True) (fun _ U o U' => ∃ v L, o = .returned v ∧ Q37 Z  h0 n0 v U'.heap L ∧ FrameEnd U o U' L oR4.cells oR4.slots) := by
  refine MetFree.of_bodySF (plainFor_of_name pn_3) hisR ?_
  intro p e s m args below meth c s₁ Bd hml0 hP hK
  obtain ⟨rfl, hZ, hh⟩ := hP
  have hx := Bd.exec
  have hby := Bd.bytes
  have hml : c.maxLocals = 4 := hml0
  have hown : s.vm.findClass "jdk/internal/util/ArraysSupport" = some m.cls := findClass_of_methodNamed Bd.named
  have X0 : Stand p l e oR4 s m #[(.int (16 : Int32)), (.int (2 : Int32)), (.int (18 : Int32))] below meth c s₁ [] 0 0 := Stand.of_body Bd
  have e0 : s₁.heap = h0 := by rw [← hh, Bd.state]; rfl
  have N0 := Fr.nil n0
  have k0 : Kq X0 4 s₁ (mkF m 0 oL3 []) := fun t k => castTop (ef_37 m (16 : Int32) (2 : Int32) (18 : Int32)) k
  have k1 : Kq X0 4 s₁ (mkF m 3 oL3 [(.int (18 : Int32)), (.int (2 : Int32)), (.int (16 : Int32))]) := fun t k => k0 t (XS.iloadN X0.here hx rfl (hb hby d37_0) rfl (XS.iloadN X0.here hx rfl (hb hby d37_1) rfl (XS.iloadN X0.here hx rfl (hb hby d37_2) rfl k)))
  obtain ⟨_, _, ⟨T2, L2, kq2, n2⟩, -, X2, ⟨Lc2, hQ2, l2, y2, z2⟩, st2⟩ := Jvm.LawKit.callS X0 hx (y := mN5) hown (mw hZ hw 216 rfl) (mw hZ hw 217 rfl) (mw hZ hw 197 rfl) (mw hZ hw 218 rfl) (by decide) (backOf (W := 1) (rm38 l Z a0 hw []  h0 n0 Z0) hZ (ww hw 218 rfl) (ww hw 197 rfl) (by decide) (by decide)) (g := gK k1) rfl (by rw [hml]; rfl) (argsL := [(.int (2 : Int32)), (.int (18 : Int32))]) (rest := [(.int (16 : Int32))]) (lenOf pd_2 rfl) rfl (by show 2 * 0 + _ ≤ _; exact Nat.le_of_eq rfl) (hb hby d37_3) (fun _ _ => ⟨rfl, e0, (by decide : 0 + 0 ≤ _), (by decide : 0 + 0 ≤ _)⟩)
  dsimp only [Pt.U, Pt.locs, Pt.cells, Pt.slots] at X2 l2 y2 z2 st2 hQ2
  replace l2 := l2.symm; subst l2 y2 z2
  obtain ⟨rfl, N2q, e2⟩ := hQ2
  have N2 := Fr.app N0 N2q
  have hc10 : (0 : Int32) < (34 : Int32) := by decide
  have hc16 : ¬ ((2147483639 : Int32) < (34 : Int32)) := by decide
  have k4 : Kq X0 4 T2 (mkF m 20 oL4 [(.int (34 : Int32))]) := fun t k => k1 t (st2 _ (XS.iadd X2.here hx rfl (hb hby d37_6) rfl (XS.istoreN X2.here hx rfl (hb hby d37_7) rfl (l' := oL4) rfl (XS.iconst X2.here hx rfl (hb hby d37_8) (XS.iloadN X2.here hx rfl (hb hby d37_9) rfl (XS.icmpNo X2.here hx rfl (hb hby d37_10) rfl (tlt hc10).2.1 (XS.iloadN X2.here hx rfl (hb hby d37_13) rfl (show Sg X0 T2 14 oL4 [(.int (34 : Int32))] t from (X2.ldcInt hx hown (mw hZ hw 219 rfl) (g := (mkF m 14 oL4 [(.int (34 : Int32))])) rfl (hb hby d37_14) _ (XS.icmpNo X2.here hx rfl (hb hby d37_16) rfl (flt hc16).2.2.1 (XS.iloadN X2.here hx rfl (hb hby d37_19) rfl k)))))))))))
  obtain ⟨fs, hr, hrun, hended, hW, hsame⟩ := X2.leave (v := (some (.int (34 : Int32)))) (fun h => by rw [Bd.returns] at h; cases h)
  refine ⟨_, _, k4 _ ?_, hrun, hended, _, _, rfl, ?_, ⟨_, rfl⟩, hW, hsame.mono (by decide) (by decide)⟩
  · exact retOut X2 hx Bd.returns rfl (Or.inl ⟨rfl, Or.inl rfl, _, rfl⟩) (hb hby d37_20) hr
  · show Q37 Z  h0 n0 _ T2.heap _
    rw [e2]
    exact ⟨rfl, N2, rfl⟩
def oC36 : ByteArray := jdk_68_method_10_code
theorem d36_0 : decode oC36 0 = .ok (.aload_n 0, 1) := by decide +kernel
theorem d36_1 : decode oC36 1 = .ok (.getfield 15, 3) := by decide +kernel
theorem d36_4 : decode oC36 4 = .ok (.arraylength, 1) := by decide +kernel
theorem d36_5 : decode oC36 5 = .ok (.istore_n 2, 1) := by decide +kernel
theorem d36_6 : decode oC36 6 = .ok (.iload_n 1, 1) := by decide +kernel
theorem d36_7 : decode oC36 7 = .ok (.aload_n 0, 1) := by decide +kernel
theorem d36_8 : decode oC36 8 = .ok (.getfield 22, 3) := by decide +kernel
theorem d36_11 : decode oC36 11 = .ok (.ishl, 1) := by decide +kernel
theorem d36_12 : decode oC36 12 = .ok (.istore_n 3, 1) := by decide +kernel
theorem d36_13 : decode oC36 13 = .ok (.iload_n 3, 1) := by decide +kernel
theorem d36_14 : decode oC36 14 = .ok (.iload_n 2, 1) := by decide +kernel
theorem d36_15 : decode oC36 15 = .ok (.isub, 1) := by decide +kernel
theorem d36_16 : decode oC36 16 = .ok (.istore 4, 2) := by decide +kernel
theorem d36_18 : decode oC36 18 = .ok (.iload_n 2, 1) := by decide +kernel
theorem d36_19 : decode oC36 19 = .ok (.iload 4, 2) := by decide +kernel
theorem d36_21 : decode oC36 21 = .ok (.iload_n 2, 1) := by decide +kernel
theorem d36_22 : decode oC36 22 = .ok (.iconst 2, 1) := by decide +kernel
theorem d36_23 : decode oC36 23 = .ok (.aload_n 0, 1) := by decide +kernel
theorem d36_24 : decode oC36 24 = .ok (.getfield 22, 3) := by decide +kernel
theorem d36_27 : decode oC36 27 = .ok (.ishl, 1) := by decide +kernel
theorem d36_28 : decode oC36 28 = .ok (.iadd, 1) := by decide +kernel
theorem d36_29 : decode oC36 29 = .ok (.invokestatic 114, 3) := by decide +kernel
theorem d36_32 : decode oC36 32 = .ok (.istore 5, 2) := by decide +kernel
theorem d36_34 : decode oC36 34 = .ok (.iload 5, 2) := by decide +kernel
theorem d36_36 : decode oC36 36 = .ok (.ldc 39, 2) := by decide +kernel
theorem d36_38 : decode oC36 38 = .ok (.if_icmp .ne 13, 3) := by decide +kernel
theorem d36_41 : decode oC36 41 = .ok (.new 120, 3) := by decide +kernel
theorem d36_44 : decode oC36 44 = .ok (.dup, 1) := by decide +kernel
theorem d36_45 : decode oC36 45 = .ok (.ldc 122, 2) := by decide +kernel
theorem d36_47 : decode oC36 47 = .ok (.invokespecial 124, 3) := by decide +kernel
theorem d36_50 : decode oC36 50 = .ok (.athrow, 1) := by decide +kernel
theorem d36_51 : decode oC36 51 = .ok (.iload 5, 2) := by decide +kernel
theorem d36_53 : decode oC36 53 = .ok (.aload_n 0, 1) := by decide +kernel
theorem d36_54 : decode oC36 54 = .ok (.getfield 22, 3) := by decide +kernel
theorem d36_57 : decode oC36 57 = .ok (.ishr, 1) := by decide +kernel
theorem d36_58 : decode oC36 58 = .ok (.ireturn, 1) := by decide +kernel
theorem ef_36 (m : MethodId) (x0 : Addr) (x1 : Int32) : entryFrame m #[(.ref x0), (.int x1)] 6 = mkF m 0 #[.val (.ref x0), .val (.int x1), .unset, .unset, .unset, .unset] [] := by first | (simp [entryFrame, mkF, argsToLocals, Value.category]; done) | rfl
theorem pd_3 : parseMethodDescriptor "(III)I" = some ⟨[.int, .int, .int], some .int⟩ := by decide +kernel
def Q36 (Z : State) (r0 : Addr) (tb : Addr) (kb : ClassId) (vd : List Value) (h0 : Heap) (n0 : Nat) (v : Option Value) (h : Heap) (L : List Loc) : Prop := v = some (.int (34 : Int32)) ∧ Fr n0 L ∧ h = h0
def oR5 : Room := { frames := 2, cells := 0, slots := 0, locals := 29 }
def mN7 : MethodName := ⟨"java/lang/AbstractStringBuilder", "newCapacity", "(I)I"⟩
def oL5 (r0 : Addr) : Array Slot := #[.val (.ref r0), .val (.int (18 : Int32)), .unset, .unset, .unset, .unset]
def oL6 (r0 : Addr) : Array Slot := #[.val (.ref r0), .val (.int (18 : Int32)), .val (.int (16 : Int32)), .unset, .unset, .unset]
def oL7 (r0 : Addr) : Array Slot := #[.val (.ref r0), .val (.int (18 : Int32)), .val (.int (16 : Int32)), .val (.int (18 : Int32)), .val (.int (2 : Int32)), .unset]
def oL8 (r0 : Addr) : Array Slot := #[.val (.ref r0), .val (.int (18 : Int32)), .val (.int (16 : Int32)), .val (.int (18 : Int32)), .unset, .unset]
def oL9 (r0 : Addr) : Array Slot := #[.val (.ref r0), .val (.int (18 : Int32)), .val (.int (16 : Int32)), .val (.int (18 : Int32)), .val (.int (2 : Int32)), .val (.int (34 : Int32))]
theorem rm36 (l : Launch) (Z : State) (a0 : Array Value) (hw : ∀ d ∈ tables_1, d.before a0 Z = true) (ws : List Jvm.Cond) (r0 : Addr) (tb : Addr) (kb : ClassId) (vd : List Value) (h0 : Heap) (n0 : Nat) (Z0 : n0 ≤ h0.size) (F_value_r0 : Fld Z h0 r0 "java/lang/AbstractStringBuilder" "value" "[B" (.ref tb)) (F_coder_r0 : Fld Z h0 r0 "java/lang/AbstractStringBuilder" "coder" "B" (.int (0 : Int32))) (V_tb : Arv Z h0 tb kb .byte (16 : Int32) vd (.int (0 : Int32))) :
    MetFree l mN7 (head1 (Jvm.Cond.code mN7 jdk_68_method_10_code 6 (some .int) :: ws) oR5) (fun a U => a = #[(.ref r0), (.int (18 : Int32))] ∧ Z.Warmed39 U.vm ∧ U.heap = h0) (fun _ _ _ _ _ => True) (fun _ U o U' => ∃ v L, o = .returned v ∧ Q36 Z r0 tb kb vd h0 n0 v U'.heap L ∧ FrameEnd U o U' L oR5.cells oR5.slots) := by
  refine MetFree.of_bodySF (plainFor_of_name pn_0) hisR ?_
  intro p e s m args below meth c s₁ Bd hml0 hP hK
  obtain ⟨rfl, hZ, hh⟩ := hP
  have hx := Bd.exec
  have hby := Bd.bytes
  have hml : c.maxLocals = 6 := hml0
  have hown : s.vm.findClass "java/lang/AbstractStringBuilder" = some m.cls := findClass_of_methodNamed Bd.named
  have X0 : Stand p l e oR5 s m #[(.ref r0), (.int (18 : Int32))] below meth c s₁ [] 0 0 := Stand.of_body Bd
  have e0 : s₁.heap = h0 := by rw [← hh, Bd.state]; rfl
  have N0 := Fr.nil n0
  have k0 : Kq X0 6 s₁ (mkF m 0 (oL5 r0) []) := fun t k => castTop (ef_36 m r0 (18 : Int32)) k
  have k1 : Kq X0 6 s₁ (mkF m 1 (oL5 r0) [(.ref r0)]) := fun t k => k0 t (XS.aloadN X0.here hx rfl (hb hby d36_0) rfl rfl k)
  obtain ⟨T2, X2, e2, st2⟩ := getF X0 hx hZ hown (host := "") (Or.inl (ww hw 98 rfl)) Via.refl e0 F_value_r0 (g := gK k1) rfl rfl (hb hby d36_1)
  have k3 : Kq X0 6 T2 (mkF m 4 (oL5 r0) [(.ref tb)]) := fun t k => k1 t (st2 _ k)
  obtain ⟨cl4, Ar4, q4, S4, N4_, H4, G4⟩ := (id V_tb)
  have S4' : cl4.slots.size = 16 := S4
  have L4 : (cl4.slots.size).toInt32 = (16 : Int32) := by rw [S4']; rfl
  have k5 : Kq X0 6 T2 (mkF m 8 (oL6 r0) [(.ref r0), (.int (18 : Int32))]) := fun t k => k3 t (by
      refine X2.arraylength hx (by rw [e2]; exact Ar4.1) (State.isArrayOf_alike hZ.alike Ar4.2.1) (g := (mkF m 4 (oL5 r0) [(.ref tb)])) rfl rfl (hb hby d36_4) _ ?_
      rw [L4]
      show Sg X0 T2 5 (oL5 r0) [(.int (16 : Int32))] _
      refine XS.istoreN X2.here hx rfl (hb hby d36_5) rfl (l' := (oL6 r0)) rfl ?_
      show Sg X0 T2 6 (oL6 r0) [] _
      refine XS.iloadN X2.here hx rfl (hb hby d36_6) rfl ?_
      show Sg X0 T2 7 (oL6 r0) [(.int (18 : Int32))] _
      refine XS.aloadN X2.here hx rfl (hb hby d36_7) rfl rfl ?_
      exact k)
  obtain ⟨T6, X6, e6, st6⟩ := getF X2 hx hZ hown (host := "") (Or.inl (ww hw 100 rfl)) Via.refl e2 F_coder_r0 (g := gK k5) rfl rfl (hb hby d36_8)
  have k8 : Kq X0 6 T6 (mkF m 24 (oL7 r0) [(.ref r0), (.int (2 : Int32)), (.int (16 : Int32)), (.int (2 : Int32)), (.int (16 : Int32))]) := fun t k => k5 t (st6 _ (XS.ishl X6.here hx rfl (hb hby d36_11) rfl (XS.istoreN X6.here hx rfl (hb hby d36_12) rfl (l' := (oL8 r0)) rfl (XS.iloadN X6.here hx rfl (hb hby d36_13) rfl (XS.iloadN X6.here hx rfl (hb hby d36_14) rfl (XS.isub X6.here hx rfl (hb hby d36_15) rfl (XS.istore X6.here hx rfl (hb hby d36_16) rfl (l' := (oL7 r0)) rfl (show Sg X0 T6 18 (oL7 r0) [] t from (XS.iloadN X6.here hx rfl (hb hby d36_18) rfl (XS.iload X6.here hx rfl (hb hby d36_19) rfl (XS.iloadN X6.here hx rfl (hb hby d36_21) rfl (XS.iconst X6.here hx rfl (hb hby d36_22) (XS.aloadN X6.here hx rfl (hb hby d36_23) rfl rfl k)))))))))))))
  obtain ⟨T9, X9, e9, st9⟩ := getF X6 hx hZ hown (host := "") (Or.inl (ww hw 100 rfl)) Via.refl e6 F_coder_r0 (g := gK k8) rfl rfl (hb hby d36_24)
  have k11 : Kq X0 6 T9 (mkF m 29 (oL7 r0) [(.int (18 : Int32)), (.int (2 : Int32)), (.int (16 : Int32))]) := fun t k => k8 t (st9 _ (XS.ishl X9.here hx rfl (hb hby d36_27) rfl (XS.iadd X9.here hx rfl (hb hby d36_28) rfl k)))
  obtain ⟨_, _, ⟨T12, L12, kq12, n12⟩, -, X12, ⟨Lc12, hQ12, l12, y12, z12⟩, st12⟩ := Jvm.LawKit.callS X9 hx (y := mN6) hown (mw hZ hw 212 rfl) (mw hZ hw 213 rfl) (mw hZ hw 214 rfl) (mw hZ hw 215 rfl) (by decide) (backOf (W := 0) (rm37 l Z a0 hw []  h0 n0 Z0) hZ (ww hw 215 rfl) (ww hw 214 rfl) (by decide) (by decide)) (g := gK k11) rfl (by rw [hml]; rfl) (argsL := [(.int (16 : Int32)), (.int (2 : Int32)), (.int (18 : Int32))]) (rest := []) (lenOf pd_3 rfl) rfl (by show 2 * 0 + _ ≤ _; exact Nat.le_of_eq rfl) (hb hby d36_29) (fun _ _ => ⟨rfl, e9, (by decide : 0 + 0 ≤ _), (by decide : 0 + 0 ≤ _)⟩)
  dsimp only [Pt.U, Pt.locs, Pt.cells, Pt.slots] at X12 l12 y12 z12 st12 hQ12
  replace l12 := l12.symm; subst l12 y12 z12
  obtain ⟨rfl, N12q, e12⟩ := hQ12
  have N12 := Fr.app N0 N12q
  have hc38 : ¬ ((34 : Int32) = (2147483647 : Int32)) := by decide
  have k14 : Kq X0 6 T12 (mkF m 54 (oL9 r0) [(.ref r0), (.int (34 : Int32))]) := fun t k => k11 t (st12 _ (XS.istore X12.here hx rfl (hb hby d36_32) rfl (l' := (oL9 r0)) rfl (XS.iload X12.here hx rfl (hb hby d36_34) rfl (X12.ldcInt hx hown (mw hZ hw 220 rfl) (g := (mkF m 36 (oL9 r0) [(.int (34 : Int32))])) rfl (hb hby d36_36) _ (XS.icmpYes X12.here hx rfl (pc0 := 38) (pc' := 51) rfl (hb hby d36_38) rfl (feq hc38).2 (by decide) (by decide) (XS.iload X12.here hx rfl (hb hby d36_51) rfl (XS.aloadN X12.here hx rfl (hb hby d36_53) rfl rfl k)))))))
  obtain ⟨T15, X15, e15, st15⟩ := getF X12 hx hZ hown (host := "") (Or.inl (ww hw 100 rfl)) Via.refl e12 F_coder_r0 (g := gK k14) rfl rfl (hb hby d36_54)
  have k17 : Kq X0 6 T15 (mkF m 58 (oL9 r0) [(.int (34 : Int32))]) := fun t k => k14 t (st15 _ (XS.ishr X15.here hx rfl (hb hby d36_57) rfl k))
  obtain ⟨fs, hr, hrun, hended, hW, hsame⟩ := X15.leave (v := (some (.int (34 : Int32)))) (fun h => by rw [Bd.returns] at h; cases h)
  refine ⟨_, _, k17 _ ?_, hrun, hended, _, _, rfl, ?_, ⟨_, rfl⟩, hW, hsame.mono (by decide) (by decide)⟩
  · exact retOut X15 hx Bd.returns rfl (Or.inl ⟨rfl, Or.inl rfl, _, rfl⟩) (hb hby d36_58) hr
  · show Q36 Z r0 tb kb vd h0 n0 _ T15.heap _
    rw [e15]
    exact ⟨rfl, N12, rfl⟩
def oC34 : ByteArray := jdk_29_method_69_code
theorem d34_0 : decode oC34 0 = .ok (.iload_n 0, 1) := by decide +kernel
theorem d34_1 : decode oC34 1 = .ok (.iload_n 1, 1) := by decide +kernel
theorem d34_2 : decode oC34 2 = .ok (.if_icmp .gt 7, 3) := by decide +kernel
theorem d34_5 : decode oC34 5 = .ok (.iload_n 0, 1) := by decide +kernel
theorem d34_6 : decode oC34 6 = .ok (.goto 4, 3) := by decide +kernel
theorem d34_9 : decode oC34 9 = .ok (.iload_n 1, 1) := by decide +kernel
theorem d34_10 : decode oC34 10 = .ok (.ireturn, 1) := by decide +kernel
def Q34m16_34 (Z : State)  (h0 : Heap) (n0 : Nat) (v : Option Value) (h : Heap) (L : List Loc) : Prop := v = some (.int (16 : Int32)) ∧ Fr n0 L ∧ h = h0
def mN8 : MethodName := ⟨"java/lang/Math", "min", "(II)I"⟩
def oL10  : Array Slot := #[.val (.int (16 : Int32)), .val (.int (34 : Int32))]
theorem rm34m16_34 (l : Launch) (Z : State) (a0 : Array Value) (hw : ∀ d ∈ tables_1, d.before a0 Z = true) (ws : List Jvm.Cond)  (h0 : Heap) (n0 : Nat) (Z0 : n0 ≤ h0.size) :
    MetFree l mN8 (head1 (Jvm.Cond.code mN8 jdk_29_method_69_code 2 (some .int) :: ws) oR2) (fun a U => a = #[(.int (16 : Int32)), (.int (34 : Int32))] ∧ Z.Warmed39 U.vm ∧ U.heap = h0) (fun _ _ _ _ _ => True) (fun _ U o U' => ∃ v L, o = .returned v ∧ Q34m16_34 Z  h0 n0 v U'.heap L ∧ FrameEnd U o U' L oR2.cells oR2.slots) := by
  refine MetFree.of_bodySF (Jvm.Free.JP.mathPlain rfl (by decide +kernel)) hisR ?_
  intro p e s m args below meth c s₁ Bd hml0 hP hK
  obtain ⟨rfl, hZ, hh⟩ := hP
  have hx := Bd.exec
  have hby := Bd.bytes
  have hml : c.maxLocals = 2 := hml0
  have hown : s.vm.findClass "java/lang/Math" = some m.cls := findClass_of_methodNamed Bd.named
  have X0 : Stand p l e oR2 s m #[(.int (16 : Int32)), (.int (34 : Int32))] below meth c s₁ [] 0 0 := Stand.of_body Bd
  have e0 : s₁.heap = h0 := by rw [← hh, Bd.state]; rfl
  have N0 := Fr.nil n0
  have k0 : Kq X0 2 s₁ (mkF m 0 oL10 []) := fun t k => castTop (ef_38 m (16 : Int32) (34 : Int32)) k
  have hc2 : ¬ ((34 : Int32) < (16 : Int32)) := by decide
  have k1 : Kq X0 2 s₁ (mkF m 10 oL10 [(.int (16 : Int32))]) := fun t k => k0 t (XS.iloadN X0.here hx rfl (hb hby d34_0) rfl (XS.iloadN X0.here hx rfl (hb hby d34_1) rfl (XS.icmpNo X0.here hx rfl (hb hby d34_2) rfl (flt hc2).2.2.1 (XS.iloadN X0.here hx rfl (hb hby d34_5) rfl (XS.goto X0.here hx rfl (pc0 := 6) (pc' := 10) rfl (hb hby d34_6) (by decide) (by decide) k)))))
  obtain ⟨fs, hr, hrun, hended, hW, hsame⟩ := X0.leave (v := (some (.int (16 : Int32)))) (fun h => by rw [Bd.returns] at h; cases h)
  refine ⟨_, _, k1 _ ?_, hrun, hended, _, _, rfl, ?_, ⟨_, rfl⟩, hW, hsame.mono (by decide) (by decide)⟩
  · exact retOut X0 hx Bd.returns rfl (Or.inl ⟨rfl, Or.inl rfl, _, rfl⟩) (hb hby d34_10) hr
  · show Q34m16_34 Z  h0 n0 _ s₁.heap _
    rw [e0]
    exact ⟨rfl, N0, rfl⟩
def oC39 : ByteArray := jdk_65_method_121_code
theorem d39_0 : decode oC39 0 = .ok (.iload_n 1, 1) := by decide +kernel
theorem d39_1 : decode oC39 1 = .ok (.aload_n 0, 1) := by decide +kernel
theorem d39_2 : decode oC39 2 = .ok (.arraylength, 1) := by decide +kernel
theorem d39_3 : decode oC39 3 = .ok (.if_icmp .ne 11, 3) := by decide +kernel
theorem d39_6 : decode oC39 6 = .ok (.aload_n 0, 1) := by decide +kernel
theorem d39_7 : decode oC39 7 = .ok (.invokevirtual 310, 3) := by decide +kernel
theorem d39_10 : decode oC39 10 = .ok (.checkcast 311, 3) := by decide +kernel
theorem d39_13 : decode oC39 13 = .ok (.areturn, 1) := by decide +kernel
theorem d39_14 : decode oC39 14 = .ok (.iload_n 1, 1) := by decide +kernel
theorem d39_15 : decode oC39 15 = .ok (.newarray .byte, 2) := by decide +kernel
theorem d39_17 : decode oC39 17 = .ok (.astore_n 2, 1) := by decide +kernel
theorem d39_18 : decode oC39 18 = .ok (.aload_n 0, 1) := by decide +kernel
theorem d39_19 : decode oC39 19 = .ok (.iconst 0, 1) := by decide +kernel
theorem d39_20 : decode oC39 20 = .ok (.aload_n 2, 1) := by decide +kernel
theorem d39_21 : decode oC39 21 = .ok (.iconst 0, 1) := by decide +kernel
theorem d39_22 : decode oC39 22 = .ok (.aload_n 0, 1) := by decide +kernel
theorem d39_23 : decode oC39 23 = .ok (.arraylength, 1) := by decide +kernel
theorem d39_24 : decode oC39 24 = .ok (.iload_n 1, 1) := by decide +kernel
theorem d39_25 : decode oC39 25 = .ok (.invokestatic 304, 3) := by decide +kernel
theorem d39_28 : decode oC39 28 = .ok (.invokestatic 150, 3) := by decide +kernel
theorem d39_31 : decode oC39 31 = .ok (.aload_n 2, 1) := by decide +kernel
theorem d39_32 : decode oC39 32 = .ok (.areturn, 1) := by decide +kernel
theorem ef_39 (m : MethodId) (x0 : Addr) (x1 : Int32) : entryFrame m #[(.ref x0), (.int x1)] 3 = mkF m 0 #[.val (.ref x0), .val (.int x1), .unset] [] := by first | (simp [entryFrame, mkF, argsToLocals, Value.category]; done) | rfl
theorem pn_4 : plainName "java/util/Arrays" = true := by first | (simp [plainName, overriddenIn]; done) | decide +kernel
def Q39 (Z : State) (r0 : Addr) (kb : ClassId) (vd : List Value) (h0 : Heap) (n0 : Nat) (v : Option Value) (h : Heap) (L : List Loc) : Prop := ∃ x, v = some (.ref x) ∧ h0.size ≤ x ∧ Fr n0 L ∧ Keep h0 h [] ∧ ∃ k, Arv Z h x k .byte (34 : Int32) (own_ins oZ34 vd 0 16) (.int (0 : Int32))
def oR6 : Room := { frames := 1, cells := 1, slots := 34, locals := 36 }
def mN9 : MethodName := ⟨"java/util/Arrays", "copyOf", "([BI)[B"⟩
def oL11 (r0 : Addr) : Array Slot := #[.val (.ref r0), .val (.int (34 : Int32)), .unset]
def oL12 (r0 : Addr) (b4 : Addr) : Array Slot := #[.val (.ref r0), .val (.int (34 : Int32)), .val (.ref b4)]
theorem rm39 (l : Launch) (Z : State) (a0 : Array Value) (hw : ∀ d ∈ tables_1, d.before a0 Z = true) (ws : List Jvm.Cond) (r0 : Addr) (kb : ClassId) (vd : List Value) (h0 : Heap) (n0 : Nat) (Z0 : n0 ≤ h0.size) (V_r0 : Arv Z h0 r0 kb .byte (16 : Int32) vd (.int (0 : Int32))) (hlv : vd.length = 16) :
    MetFree l mN9 (head1 (Jvm.Cond.code mN9 jdk_65_method_121_code 3 (some (.array .byte)) :: ws) oR6) (fun a U => a = #[(.ref r0), (.int (34 : Int32))] ∧ Z.Warmed39 U.vm ∧ U.heap = h0) (fun _ _ _ _ _ => True) (fun _ U o U' => ∃ v L, o = .returned v ∧ Q39 Z r0 kb vd h0 n0 v U'.heap L ∧ FrameEnd U o U' L oR6.cells oR6.slots) := by
  refine MetFree.of_bodySF (plainFor_of_name pn_4) hisR ?_
  intro p e s m args below meth c s₁ Bd hml0 hP hK
  obtain ⟨rfl, hZ, hh⟩ := hP
  have hx := Bd.exec
  have hby := Bd.bytes
  have hml : c.maxLocals = 3 := hml0
  have hown : s.vm.findClass "java/util/Arrays" = some m.cls := findClass_of_methodNamed Bd.named
  have X0 : Stand p l e oR6 s m #[(.ref r0), (.int (34 : Int32))] below meth c s₁ [] 0 0 := Stand.of_body Bd
  have e0 : s₁.heap = h0 := by rw [← hh, Bd.state]; rfl
  have N0 := Fr.nil n0
  have k0 : Kq X0 3 s₁ (mkF m 0 (oL11 r0) []) := fun t k => castTop (ef_39 m r0 (34 : Int32)) k
  have k1 : Kq X0 3 s₁ (mkF m 2 (oL11 r0) [(.ref r0), (.int (34 : Int32))]) := fun t k => k0 t (XS.iloadN X0.here hx rfl (hb hby d39_0) rfl (XS.aloadN X0.here hx rfl (hb hby d39_1) rfl rfl k))
  obtain ⟨cl2, Ar2, q2, S2, N2_, H2, G2⟩ := (id V_r0)
  have S2' : cl2.slots.size = 16 := S2
  have L2 : (cl2.slots.size).toInt32 = (16 : Int32) := by rw [S2']; rfl
  have hc3 : ¬ ((34 : Int32) = (16 : Int32)) := by decide
  have k3 : Kq X0 3 s₁ (mkF m 15 (oL11 r0) [(.int (34 : Int32))]) := fun t k => k1 t (by
      refine X0.arraylength hx (by rw [e0]; exact Ar2.1) (State.isArrayOf_alike hZ.alike Ar2.2.1) (g := (mkF m 2 (oL11 r0) [(.ref r0), (.int (34 : Int32))])) rfl rfl (hb hby d39_2) _ ?_
      rw [L2]
      show Sg X0 s₁ 3 (oL11 r0) [(.int (16 : Int32)), (.int (34 : Int32))] _
      refine XS.icmpYes X0.here hx rfl (pc0 := 3) (pc' := 14) rfl (hb hby d39_3) rfl (feq hc3).2 (by decide) (by decide) ?_
      show Sg X0 s₁ 14 (oL11 r0) [] _
      refine XS.iloadN X0.here hx rfl (hb hby d39_14) rfl ?_
      exact k)
  obtain ⟨T4, h4, ka4, X4, e4, E4, A4, st4⟩ := newP X0 hx hZ (ww hw 6 rfl) e0 (g := gK k3) rfl (hb hby d39_15) rfl (by decide) (cap := 34) (by decide) (by decide) (by decide) (by decide)
  obtain ⟨b4, g4⟩ : ∃ z, z = h0.size := ⟨_, rfl⟩
  rw [← g4] at A4 st4
  have V_b4 : Arv Z h4 b4 ka4 .byte (34 : Int32) oZ34 (.int (0 : Int32)) := (Arv.new A4 (by decide)).pad (pad_rep [] (.int (0 : Int32)) 34)
  have g_b4 : n0 ≤ b4 := Nat.le_trans Z0 (Nat.le_of_eq g4.symm)
  have sz_b4 : h0.size ≤ b4 := Nat.le_trans (Keep.refl h0 []).1 (Nat.le_of_eq g4.symm)
  have Zs4 : n0 ≤ h4.size := Nat.le_trans Z0 E4.1
  have k6 : Kq X0 3 T4 (mkF m 23 (oL12 r0 b4) [(.ref r0), (.int (0 : Int32)), (.ref b4), (.int (0 : Int32)), (.ref r0)]) := fun t k => k3 t (st4 _ (XS.astoreN X4.here hx rfl (hb hby d39_17) rfl rfl (l' := (oL12 r0 b4)) rfl (XS.aloadN X4.here hx rfl (hb hby d39_18) rfl rfl (XS.iconst X4.here hx rfl (hb hby d39_19) (XS.aloadN X4.here hx rfl (hb hby d39_20) rfl rfl (XS.iconst X4.here hx rfl (hb hby d39_21) (XS.aloadN X4.here hx rfl (hb hby d39_22) rfl rfl k)))))))
  obtain ⟨cl7, Ar7, q7, S7, N7_, H7, G7⟩ := (id (V_r0.ext E4))
  have S7' : cl7.slots.size = 16 := S7
  have L7 : (cl7.slots.size).toInt32 = (16 : Int32) := by rw [S7']; rfl
  have k8 : Kq X0 3 T4 (mkF m 25 (oL12 r0 b4) [(.int (34 : Int32)), (.int (16 : Int32)), (.int (0 : Int32)), (.ref b4), (.int (0 : Int32)), (.ref r0)]) := fun t k => k6 t (by
      refine X4.arraylength hx (by rw [e4]; exact Ar7.1) (State.isArrayOf_alike hZ.alike Ar7.2.1) (g := (mkF m 23 (oL12 r0 b4) [(.ref r0), (.int (0 : Int32)), (.ref b4), (.int (0 : Int32)), (.ref r0)])) rfl rfl (hb hby d39_23) _ ?_
      rw [L7]
      show Sg X0 T4 24 (oL12 r0 b4) [(.int (16 : Int32)), (.int (0 : Int32)), (.ref b4), (.int (0 : Int32)), (.ref r0)] _
      refine XS.iloadN X4.here hx rfl (hb hby d39_24) rfl ?_
      exact k)
  obtain ⟨_, _, ⟨T9, L9, kq9, n9⟩, -, X9, ⟨Lc9, hQ9, l9, y9, z9⟩, st9⟩ := Jvm.LawKit.callS X4 hx (y := mN8) hown (mw hZ hw 195 rfl) (mw hZ hw 196 rfl) (mw hZ hw 197 rfl) (mw hZ hw 198 rfl) (by decide) (backOf (W := 4) (rm34m16_34 l Z a0 hw []  h4 n0 Zs4) hZ (ww hw 198 rfl) (ww hw 197 rfl) (by decide) (by decide)) (g := gK k8) rfl (by rw [hml]; rfl) (argsL := [(.int (16 : Int32)), (.int (34 : Int32))]) (rest := [(.int (0 : Int32)), (.ref b4), (.int (0 : Int32)), (.ref r0)]) (lenOf pd_2 rfl) rfl (by show 2 * 0 + _ ≤ _; exact Nat.le_of_eq rfl) (hb hby d39_25) (fun _ _ => ⟨rfl, e4, (by decide : 1 + 0 ≤ _), (by decide : 34 + 0 ≤ _)⟩)
  dsimp only [Pt.U, Pt.locs, Pt.cells, Pt.slots] at X9 l9 y9 z9 st9 hQ9
  replace l9 := l9.symm; subst l9 y9 z9
  obtain ⟨rfl, N9q, e9⟩ := hQ9
  have N9 := Fr.app N0 N9q
  have k10 : Kq X0 3 T9 (mkF m 28 (oL12 r0 b4) [(.int (16 : Int32)), (.int (0 : Int32)), (.ref b4), (.int (0 : Int32)), (.ref r0)]) := fun t k => k8 t (st9 _ k)
  obtain ⟨T12, h12, L12, X12, e12, N12, K12, V12, st12⟩ := cpA X9 hx hZ hown (ww hw 199 rfl) (ww hw 149 rfl) (ww hw 147 rfl) (ww hw 148 rfl) e9 (V_r0.ext E4) V_b4 (us := vd) (sp := (0 : Int32)) (dp := (0 : Int32)) (nn := (16 : Int32)) (Or.inl ⟨rfl, rfl⟩) (by decide) (by decide) (by decide) (by decide) (by decide) (own_us hlv) (Nat.le_of_ble_eq_true rfl) N9 g_b4 (g := gK k10) rfl (by rw [hml]; rfl) rfl (hb hby d39_28) (by decide) (W := 0) (by show 2 * 0 + _ ≤ _; exact Nat.le_of_eq rfl) (by decide)
  have Vc12 : Arv Z h12 b4 ka4 .byte (34 : Int32) (own_ins oZ34 vd 0 16) (.int (0 : Int32)) := V12
  have k14 : Kq X0 3 T12 (mkF m 32 (oL12 r0 b4) [(.ref b4)]) := fun t k => k10 t (st12 _ (XS.aloadN X12.here hx rfl (hb hby d39_31) rfl rfl k))
  obtain ⟨fs, hr, hrun, hended, hW, hsame⟩ := X12.leave (v := (some (.ref b4))) (fun h => by rw [Bd.returns] at h; cases h)
  refine ⟨_, _, k14 _ ?_, hrun, hended, _, _, rfl, ?_, ⟨_, rfl⟩, hW, hsame.mono (by decide) (by decide)⟩
  · exact retOut X12 hx Bd.returns rfl (Or.inr (Or.inr (Or.inr (Or.inr ⟨rfl, rfl, rfl⟩)))) (hb hby d39_32) hr
  · show Q39 Z r0 kb vd h0 n0 _ T12.heap _
    rw [e12]
    exact ⟨b4, rfl, sz_b4, N12, (((Keep.refl h0 []).ext E4).trans K12 (allS (Or.inr sz_b4) all0)), ka4, Vc12⟩
def oC19 : ByteArray := jdk_68_method_9_code
theorem d19_0 : decode oC19 0 = .ok (.aload_n 0, 1) := by decide +kernel
theorem d19_1 : decode oC19 1 = .ok (.getfield 15, 3) := by decide +kernel
theorem d19_4 : decode oC19 4 = .ok (.arraylength, 1) := by decide +kernel
theorem d19_5 : decode oC19 5 = .ok (.aload_n 0, 1) := by decide +kernel
theorem d19_6 : decode oC19 6 = .ok (.getfield 22, 3) := by decide +kernel
theorem d19_9 : decode oC19 9 = .ok (.ishr, 1) := by decide +kernel
theorem d19_10 : decode oC19 10 = .ok (.istore_n 2, 1) := by decide +kernel
theorem d19_11 : decode oC19 11 = .ok (.iload_n 1, 1) := by decide +kernel
theorem d19_12 : decode oC19 12 = .ok (.iload_n 2, 1) := by decide +kernel
theorem d19_13 : decode oC19 13 = .ok (.isub, 1) := by decide +kernel
theorem d19_14 : decode oC19 14 = .ok (.ifCond .le 24, 3) := by decide +kernel
theorem d19_17 : decode oC19 17 = .ok (.aload_n 0, 1) := by decide +kernel
theorem d19_18 : decode oC19 18 = .ok (.aload_n 0, 1) := by decide +kernel
theorem d19_19 : decode oC19 19 = .ok (.getfield 15, 3) := by decide +kernel
theorem d19_22 : decode oC19 22 = .ok (.aload_n 0, 1) := by decide +kernel
theorem d19_23 : decode oC19 23 = .ok (.iload_n 1, 1) := by decide +kernel
theorem d19_24 : decode oC19 24 = .ok (.invokevirtual 104, 3) := by decide +kernel
theorem d19_27 : decode oC19 27 = .ok (.aload_n 0, 1) := by decide +kernel
theorem d19_28 : decode oC19 28 = .ok (.getfield 22, 3) := by decide +kernel
theorem d19_31 : decode oC19 31 = .ok (.ishl, 1) := by decide +kernel
theorem d19_32 : decode oC19 32 = .ok (.invokestatic 108, 3) := by decide +kernel
theorem d19_35 : decode oC19 35 = .ok (.putfield 15, 3) := by decide +kernel
theorem d19_38 : decode oC19 38 = .ok (.return_, 1) := by decide +kernel
theorem pd_4 : parseMethodDescriptor "(I)I" = some ⟨[.int], some .int⟩ := by decide +kernel
theorem pd_5 : parseMethodDescriptor "([BI)[B" = some ⟨[(.array .byte), .int], some (.array .byte)⟩ := by decide +kernel
def Q19g (Z : State) (r0 : Addr) (tb : Addr) (kb : ClassId) (vd : List Value) (h0 : Heap) (n0 : Nat) (v : Option Value) (h : Heap) (L : List Loc) : Prop := v = none ∧ Fr n0 L ∧ Keep h0 h [r0] ∧ ∃ t k, h0.size ≤ t ∧ Fld Z h r0 "java/lang/AbstractStringBuilder" "value" "[B" (.ref t) ∧ Fld Z h r0 "java/lang/AbstractStringBuilder" "coder" "B" (.int (0 : Int32)) ∧ Fld Z h r0 "java/lang/AbstractStringBuilder" "count" "I" (.int (8 : Int32)) ∧ Exa Z h r0 "java/lang/StringBuilder" ∧ Arv Z h t k .byte (34 : Int32) (own_ins oZ34 vd 0 16) (.int (0 : Int32))
def oR7 : Room := { frames := 3, cells := 1, slots := 34, locals := 51 }
def mN10 : MethodName := ⟨"java/lang/AbstractStringBuilder", "ensureCapacityInternal", "(I)V"⟩
def oL13 (r0 : Addr) : Array Slot := #[.val (.ref r0), .val (.int (18 : Int32)), .unset]
def oL14 (r0 : Addr) : Array Slot := #[.val (.ref r0), .val (.int (18 : Int32)), .val (.int (16 : Int32))]
theorem rm19g (l : Launch) (Z : State) (a0 : Array Value) (hw : ∀ d ∈ tables_1, d.before a0 Z = true) (ws : List Jvm.Cond) (r0 : Addr) (tb : Addr) (kb : ClassId) (vd : List Value) (h0 : Heap) (n0 : Nat) (Z0 : n0 ≤ h0.size) (F_value_r0 : Fld Z h0 r0 "java/lang/AbstractStringBuilder" "value" "[B" (.ref tb)) (F_coder_r0 : Fld Z h0 r0 "java/lang/AbstractStringBuilder" "coder" "B" (.int (0 : Int32))) (F_count_r0 : Fld Z h0 r0 "java/lang/AbstractStringBuilder" "count" "I" (.int (8 : Int32))) (E_r0 : Exa Z h0 r0 "java/lang/StringBuilder") (g_r0 : n0 ≤ r0) (V_tb : Arv Z h0 tb kb .byte (16 : Int32) vd (.int (0 : Int32))) (hlv : vd.length = 16) (ne_r0_tb : r0 ≠ tb) (X00 : Old Z n0 h0) :
    MetFree l mN10 (head1 (Jvm.Cond.code mN10 jdk_68_method_9_code 3 none :: ws) oR7) (fun a U => a = #[(.ref r0), (.int (18 : Int32))] ∧ Z.Warmed39 U.vm ∧ U.heap = h0) (fun _ _ _ _ _ => True) (fun _ U o U' => ∃ v L, o = .returned v ∧ Q19g Z r0 tb kb vd h0 n0 v U'.heap L ∧ FrameEnd U o U' L oR7.cells oR7.slots) := by
  refine MetFree.of_bodySF (plainFor_of_name pn_0) hisR ?_
  intro p e s m args below meth c s₁ Bd hml0 hP hK
  obtain ⟨rfl, hZ, hh⟩ := hP
  have hx := Bd.exec
  have hby := Bd.bytes
  have hml : c.maxLocals = 3 := hml0
  have hown : s.vm.findClass "java/lang/AbstractStringBuilder" = some m.cls := findClass_of_methodNamed Bd.named
  have X0 : Stand p l e oR7 s m #[(.ref r0), (.int (18 : Int32))] below meth c s₁ [] 0 0 := Stand.of_body Bd
  have e0 : s₁.heap = h0 := by rw [← hh, Bd.state]; rfl
  have N0 := Fr.nil n0
  have k0 : Kq X0 3 s₁ (mkF m 0 (oL13 r0) []) := fun t k => castTop (ef_39 m r0 (18 : Int32)) k
  have k1 : Kq X0 3 s₁ (mkF m 1 (oL13 r0) [(.ref r0)]) := fun t k => k0 t (XS.aloadN X0.here hx rfl (hb hby d19_0) rfl rfl k)
  obtain ⟨T2, X2, e2, st2⟩ := getF X0 hx hZ hown (host := "") (Or.inl (ww hw 98 rfl)) Via.refl e0 F_value_r0 (g := gK k1) rfl rfl (hb hby d19_1)
  have k3 : Kq X0 3 T2 (mkF m 4 (oL13 r0) [(.ref tb)]) := fun t k => k1 t (st2 _ k)
  obtain ⟨cl4, Ar4, q4, S4, N4_, H4, G4⟩ := (id V_tb)
  have S4' : cl4.slots.size = 16 := S4
  have L4 : (cl4.slots.size).toInt32 = (16 : Int32) := by rw [S4']; rfl
  have k5 : Kq X0 3 T2 (mkF m 6 (oL13 r0) [(.ref r0), (.int (16 : Int32))]) := fun t k => k3 t (by
      refine X2.arraylength hx (by rw [e2]; exact Ar4.1) (State.isArrayOf_alike hZ.alike Ar4.2.1) (g := (mkF m 4 (oL13 r0) [(.ref tb)])) rfl rfl (hb hby d19_4) _ ?_
      rw [L4]
      show Sg X0 T2 5 (oL13 r0) [(.int (16 : Int32))] _
      refine XS.aloadN X2.here hx rfl (hb hby d19_5) rfl rfl ?_
      exact k)
  obtain ⟨T6, X6, e6, st6⟩ := getF X2 hx hZ hown (host := "") (Or.inl (ww hw 100 rfl)) Via.refl e2 F_coder_r0 (g := gK k5) rfl rfl (hb hby d19_6)
  have hc14 : (0 : Int32) < (2 : Int32) := by decide
  have k8 : Kq X0 3 T6 (mkF m 19 (oL14 r0) [(.ref r0), (.ref r0)]) := fun t k => k5 t (st6 _ (XS.ishr X6.here hx rfl (hb hby d19_9) rfl (XS.istoreN X6.here hx rfl (hb hby d19_10) rfl (l' := (oL14 r0)) rfl (XS.iloadN X6.here hx rfl (hb hby d19_11) rfl (XS.iloadN X6.here hx rfl (hb hby d19_12) rfl (XS.isub X6.here hx rfl (hb hby d19_13) rfl (XS.ifNo X6.here hx rfl (hb hby d19_14) rfl ((if0 _ _).trans (tlt hc14).2.2.2) (show Sg X0 T6 17 (oL14 r0) [] t from (XS.aloadN X6.here hx rfl (hb hby d19_17) rfl rfl (XS.aloadN X6.here hx rfl (hb hby d19_18) rfl rfl k))))))))))
  obtain ⟨T9, X9, e9, st9⟩ := getF X6 hx hZ hown (host := "") (Or.inl (ww hw 98 rfl)) Via.refl e6 F_value_r0 (g := gK k8) rfl rfl (hb hby d19_19)
  have k11 : Kq X0 3 T9 (mkF m 24 (oL14 r0) [(.int (18 : Int32)), (.ref r0), (.ref tb), (.ref r0)]) := fun t k => k8 t (st9 _ (XS.aloadN X9.here hx rfl (hb hby d19_22) rfl rfl (XS.iloadN X9.here hx rfl (hb hby d19_23) rfl k)))
  obtain ⟨cq12, kcq12, q12a, q12b, q12c⟩ := isOf hZ e9 E_r0
  obtain ⟨cc12, qc12_1, -, qc12_2⟩ := q12c
  obtain ⟨_, _, ⟨T12, L12, kq12, n12⟩, -, X12, ⟨Lc12, hQ12, l12, y12, z12⟩, st12⟩ := X9.privateBack hx (y := mN7) hown (mw hZ hw 207 rfl) (mw hZ hw 208 rfl) (own_selp (y := mN7) (mw hZ hw 210 rfl) (Cond.privateMethod_at (args := #[]) (mvP hZ (ww hw 209 rfl))) (mw hZ hw 208 rfl) ⟨by decide, by decide⟩) (Cond.privateMethod_at (args := #[]) (mvP hZ (ww hw 209 rfl))) (mw hZ hw 211 rfl) ⟨by decide, by decide⟩ (backOf (W := 2) (rm36 l Z a0 hw [] r0 tb kb vd h0 n0 Z0 F_value_r0 F_coder_r0 V_tb) hZ (ww hw 211 rfl) (ww hw 94 rfl) (by decide) (by decide)) (g := gK k11) rfl (by rw [hml]; rfl) (Steps.refl _) qc12_1 (fun q h => by rw [h] at qc12_2; cases qc12_2) (argsL := [(.int (18 : Int32))]) (rest := [(.ref tb), (.ref r0)]) (lenOf pd_4 rfl) rfl (by show 2 * 0 + _ ≤ _; exact Nat.le_of_eq rfl) (hb hby d19_24) (fun _ _ => ⟨rfl, e9, (by decide : 0 + 0 ≤ _), (by decide : 0 + 0 ≤ _)⟩)
  dsimp only [Pt.U, Pt.locs, Pt.cells, Pt.slots] at X12 l12 y12 z12 st12 hQ12
  replace l12 := l12.symm; subst l12 y12 z12
  obtain ⟨rfl, N12q, e12⟩ := hQ12
  have N12 := Fr.app N0 N12q
  have k14 : Kq X0 3 T12 (mkF m 28 (oL14 r0) [(.ref r0), (.int (34 : Int32)), (.ref tb), (.ref r0)]) := fun t k => k11 t (st12.trans (XS.aloadN X12.here hx rfl (hb hby d19_27) rfl rfl k))
  obtain ⟨T15, X15, e15, st15⟩ := getF X12 hx hZ hown (host := "") (Or.inl (ww hw 100 rfl)) Via.refl e12 F_coder_r0 (g := gK k14) rfl rfl (hb hby d19_28)
  have k17 : Kq X0 3 T15 (mkF m 32 (oL14 r0) [(.int (34 : Int32)), (.ref tb), (.ref r0)]) := fun t k => k14 t (st15 _ (XS.ishl X15.here hx rfl (hb hby d19_31) rfl k))
  obtain ⟨_, _, ⟨T18, L18, kq18, n18⟩, -, X18, ⟨Lc18, hQ18, l18, y18, z18⟩, st18⟩ := Jvm.LawKit.callS X15 hx (y := mN9) hown (mw hZ hw 221 rfl) (mw hZ hw 222 rfl) (mw hZ hw 187 rfl) (mw hZ hw 223 rfl) (by decide) (backOf (W := 1) (rm39 l Z a0 hw [] tb kb vd h0 n0 Z0 V_tb hlv) hZ (ww hw 223 rfl) (ww hw 187 rfl) (by decide) (by decide)) (g := gK k17) rfl (by rw [hml]; rfl) (argsL := [(.ref tb), (.int (34 : Int32))]) (rest := [(.ref r0)]) (lenOf pd_5 rfl) rfl (by show 2 * 0 + _ ≤ _; exact Nat.le_of_eq rfl) (hb hby d19_32) (fun _ _ => ⟨rfl, e15, (by decide : 0 + 1 ≤ _), (by decide : 0 + 34 ≤ _)⟩)
  dsimp only [Pt.U, Pt.locs, Pt.cells, Pt.slots] at X18 l18 y18 z18 st18 hQ18
  replace l18 := l18.symm; subst l18 y18 z18
  obtain ⟨t18, rfl, zt18, N18q, K18, kt18, Vt18⟩ := hQ18
  have N18 := Fr.app N12 N18q
  have ne_r0_t18 : r0 ≠ t18 := Nat.ne_of_lt (Nat.lt_of_lt_of_le F_value_r0.lt zt18)
  have sz_t18 : h0.size ≤ t18 := Nat.le_trans (Keep.refl h0 [r0]).1 zt18
  have k19 : Kq X0 3 T18 (mkF m 35 (oL14 r0) [(.ref t18), (.ref r0)]) := fun t k => k17 t (st18 _ k)
  obtain ⟨T20, h20, X20, e20, W20, st20⟩ := putF X18 hx hZ hown (host := "") (Or.inl (ww hw 98 rfl)) Via.refl rfl (F_value_r0.keep K18 nin0) (E_r0.keep K18) (Or.inl (ww hw 99 rfl)) (ww hw 85 rfl) (ty := (.array .byte)) (by decide) rfl rfl (g := gK k19) rfl rfl (hb hby d19_35)
  have fc21 := ((F_coder_r0.keep K18 nin0).other W20 (Or.inr (slot_ne (Or.inl (ww hw 101 rfl)) (Or.inl (ww hw 99 rfl)) (by decide) (t := .byte) (t' := (.array .byte)) (by decide) (by decide))))
  have fc22 := ((F_count_r0.keep K18 nin0).other W20 (Or.inr (slot_ne (Or.inl (ww hw 124 rfl)) (Or.inl (ww hw 99 rfl)) (by decide) (t := .int) (t' := (.array .byte)) (by decide) (by decide))))
  have N20 := Fr.snoc X20 N18 g_r0
  have k23 : Kq X0 3 T20 (mkF m 38 (oL14 r0) []) := fun t k => k19 t (st20 _ k)
  obtain ⟨fs, hr, hrun, hended, hW, hsame⟩ := X20.leave (v := none) (fun _ => rfl)
  refine ⟨_, _, k23 _ ?_, hrun, hended, _, _, rfl, ?_, ⟨_, rfl⟩, hW, hsame.mono (by decide) (by decide)⟩
  · exact X20.returnOut hx Bd.returns (hb hby d19_38) hr
  · show Q19g Z r0 tb kb vd h0 n0 _ T20.heap _
    rw [e20]
    exact ⟨rfl, N20, (((Keep.refl h0 [r0]).trans K18 all0).wr W20 (Or.inl (own_wi 0 rfl))), t18, kt18, sz_t18, ((F_value_r0.keep K18 nin0).same W20), fc21, fc22, ((E_r0.keep K18).wr W20), (Vt18.other W20 ne_r0_t18.symm)⟩
def oC22 : ByteArray := jdk_42_method_147_code
theorem d22_0 : decode oC22 0 = .ok (.aload_n 0, 1) := by decide +kernel
theorem d22_1 : decode oC22 1 = .ok (.invokevirtual 335, 3) := by decide +kernel
theorem d22_4 : decode oC22 4 = .ok (.iload_n 3, 1) := by decide +kernel
theorem d22_5 : decode oC22 5 = .ok (.if_icmp .ne 23, 3) := by decide +kernel
theorem d22_8 : decode oC22 8 = .ok (.aload_n 0, 1) := by decide +kernel
theorem d22_9 : decode oC22 9 = .ok (.getfield 9, 3) := by decide +kernel
theorem d22_12 : decode oC22 12 = .ok (.iconst 0, 1) := by decide +kernel
theorem d22_13 : decode oC22 13 = .ok (.aload_n 1, 1) := by decide +kernel
theorem d22_14 : decode oC22 14 = .ok (.iload_n 2, 1) := by decide +kernel
theorem d22_15 : decode oC22 15 = .ok (.iload_n 3, 1) := by decide +kernel
theorem d22_16 : decode oC22 16 = .ok (.ishl, 1) := by decide +kernel
theorem d22_17 : decode oC22 17 = .ok (.aload_n 0, 1) := by decide +kernel
theorem d22_18 : decode oC22 18 = .ok (.getfield 9, 3) := by decide +kernel
theorem d22_21 : decode oC22 21 = .ok (.arraylength, 1) := by decide +kernel
theorem d22_22 : decode oC22 22 = .ok (.invokestatic 212, 3) := by decide +kernel
theorem d22_25 : decode oC22 25 = .ok (.goto 18, 3) := by decide +kernel
theorem d22_28 : decode oC22 28 = .ok (.aload_n 0, 1) := by decide +kernel
theorem d22_29 : decode oC22 29 = .ok (.getfield 9, 3) := by decide +kernel
theorem d22_32 : decode oC22 32 = .ok (.iconst 0, 1) := by decide +kernel
theorem d22_33 : decode oC22 33 = .ok (.aload_n 1, 1) := by decide +kernel
theorem d22_34 : decode oC22 34 = .ok (.iload_n 2, 1) := by decide +kernel
theorem d22_35 : decode oC22 35 = .ok (.aload_n 0, 1) := by decide +kernel
theorem d22_36 : decode oC22 36 = .ok (.getfield 9, 3) := by decide +kernel
theorem d22_39 : decode oC22 39 = .ok (.arraylength, 1) := by decide +kernel
theorem d22_40 : decode oC22 40 = .ok (.invokestatic 106, 3) := by decide +kernel
theorem d22_43 : decode oC22 43 = .ok (.return_, 1) := by decide +kernel
theorem ef_22g_0_8_16 (m : MethodId) (x0 : Addr) (x1 : Addr) (x2 : Int32) (x3 : Int32) : entryFrame m #[(.ref x0), (.ref x1), (.int x2), (.int x3)] 4 = mkF m 0 #[.val (.ref x0), .val (.ref x1), .val (.int x2), .val (.int x3)] [] := by first | (simp [entryFrame, mkF, argsToLocals, Value.category]; done) | rfl
def Q22g_0_8_16 (Z : State) (r0 : Addr) (tb : Addr) (tr : Addr) (kr : ClassId) (us : List Value) (kb : ClassId) (vd : List Value) (G1 : Int32) (h0 : Heap) (n0 : Nat) (v : Option Value) (h : Heap) (L : List Loc) : Prop := v = none ∧ Fr n0 L ∧ Keep h0 h [tb] ∧ Arv Z h tb kb .byte (16 : Int32) (own_ins vd us 0 8) (.int (0 : Int32))
def oR8 : Room := { frames := 1, cells := 0, slots := 0, locals := 36 }
def mN11 : MethodName := ⟨"java/lang/String", "getBytes", "([BIB)V"⟩
def oL15 (r0 : Addr) (tb : Addr) : Array Slot := #[.val (.ref r0), .val (.ref tb), .val (.int (0 : Int32)), .val (.int (0 : Int32))]
theorem rm22g_0_8_16 (l : Launch) (Z : State) (a0 : Array Value) (hw : ∀ d ∈ tables_1, d.before a0 Z = true) (ws : List Jvm.Cond) (r0 : Addr) (tb : Addr) (tr : Addr) (kr : ClassId) (us : List Value) (kb : ClassId) (vd : List Value) (G1 : Int32) (h0 : Heap) (n0 : Nat) (Z0 : n0 ≤ h0.size) (E_r0 : Exa Z h0 r0 "java/lang/String") (F_value_r0 : Fld Z h0 r0 "java/lang/String" "value" "[B" (.ref tr)) (F_coder_r0 : Fld Z h0 r0 "java/lang/String" "coder" "B" (.int (0 : Int32))) (V_tr : Arv Z h0 tr kr .byte (8 : Int32) us (.int (0 : Int32))) (V_tb : Arv Z h0 tb kb .byte (16 : Int32) vd (.int (0 : Int32))) (hlv : vd.length = 16) (hlu : us.length = 8) (g_tb : n0 ≤ tb) (S_CS : Sta Z Z.heap "java/lang/String" "COMPACT_STRINGS" "Z" (.int G1)) (P5 : ¬ (G1 = (0 : Int32))) (X00 : Old Z n0 h0) :
    MetFree l mN11 (head1 (Jvm.Cond.code mN11 jdk_42_method_147_code 4 none :: ws) oR8) (fun a U => a = #[(.ref r0), (.ref tb), (.int (0 : Int32)), (.int (0 : Int32))] ∧ Z.Warmed39 U.vm ∧ U.heap = h0) (fun _ _ _ _ _ => True) (fun _ U o U' => ∃ v L, o = .returned v ∧ Q22g_0_8_16 Z r0 tb tr kr us kb vd G1 h0 n0 v U'.heap L ∧ FrameEnd U o U' L oR8.cells oR8.slots) := by
  refine MetFree.of_bodySF (plainFor_of_name pn_2) hisR ?_
  intro p e s m args below meth c s₁ Bd hml0 hP hK
  obtain ⟨rfl, hZ, hh⟩ := hP
  have hx := Bd.exec
  have hby := Bd.bytes
  have hml : c.maxLocals = 4 := hml0
  have hown : s.vm.findClass "java/lang/String" = some m.cls := findClass_of_methodNamed Bd.named
  have X0 : Stand p l e oR8 s m #[(.ref r0), (.ref tb), (.int (0 : Int32)), (.int (0 : Int32))] below meth c s₁ [] 0 0 := Stand.of_body Bd
  have e0 : s₁.heap = h0 := by rw [← hh, Bd.state]; rfl
  have N0 := Fr.nil n0
  have k0 : Kq X0 4 s₁ (mkF m 0 (oL15 r0 tb) []) := fun t k => castTop (ef_22g_0_8_16 m r0 tb (0 : Int32) (0 : Int32)) k
  have k1 : Kq X0 4 s₁ (mkF m 1 (oL15 r0 tb) [(.ref r0)]) := fun t k => k0 t (XS.aloadN X0.here hx rfl (hb hby d22_0) rfl rfl k)
  obtain ⟨cq2, kcq2, q2a, q2b, q2c⟩ := isOf hZ e0 E_r0
  obtain ⟨_, _, ⟨T2, L2, kq2, n2⟩, -, X2, ⟨Lc2, hQ2, l2, y2, z2⟩, st2⟩ := X0.virtualBack hx (y := mN2) (z := mN2) hown (mw hZ hw 118 rfl) (mw hZ hw 119 rfl) (notFace_of_selects (args := #[]) (mw hZ hw 121 rfl)) (mw hZ hw 121 rfl) (mw hZ hw 120 rfl) (by decide) (backOf (W := 0) (rm18 l Z a0 hw [] r0 G1 h0 n0 Z0 F_coder_r0 S_CS P5 X00) hZ (ww hw 122 rfl) (ww hw 4 rfl) (by decide) (by decide)) q2a q2c (g := gK k1) rfl (by rw [hml]; rfl) (Steps.refl _) (argsL := []) (rest := []) (lenOf pd_1 rfl) rfl (by show 2 * 0 + _ ≤ _; exact Nat.le_of_eq rfl) (hb hby d22_1) (fun _ _ => ⟨rfl, e0, (by decide : 0 + 0 ≤ _), (by decide : 0 + 0 ≤ _)⟩)
  dsimp only [Pt.U, Pt.locs, Pt.cells, Pt.slots] at X2 l2 y2 z2 st2 hQ2
  replace l2 := l2.symm; subst l2 y2 z2
  obtain ⟨rfl, N2q, e2⟩ := hQ2
  have N2 := Fr.app N0 N2q
  have hc5 : (0 : Int32) = (0 : Int32) := by decide
  have k4 : Kq X0 4 T2 (mkF m 9 (oL15 r0 tb) [(.ref r0)]) := fun t k => k1 t (st2.trans (XS.iloadN X2.here hx rfl (hb hby d22_4) rfl (XS.icmpNo X2.here hx rfl (hb hby d22_5) rfl (teq hc5).2 (XS.aloadN X2.here hx rfl (hb hby d22_8) rfl rfl k))))
  obtain ⟨T5, X5, e5, st5⟩ := getF X2 hx hZ hown (host := "") (Or.inl (ww hw 82 rfl)) Via.refl e2 F_value_r0 (g := gK k4) rfl rfl (hb hby d22_9)
  have k7 : Kq X0 4 T5 (mkF m 18 (oL15 r0 tb) [(.ref r0), (.int (0 : Int32)), (.ref tb), (.int (0 : Int32)), (.ref tr)]) := fun t k => k4 t (st5 _ (XS.iconst X5.here hx rfl (hb hby d22_12) (XS.aloadN X5.here hx rfl (hb hby d22_13) rfl rfl (XS.iloadN X5.here hx rfl (hb hby d22_14) rfl (XS.iloadN X5.here hx rfl (hb hby d22_15) rfl (XS.ishl X5.here hx rfl (hb hby d22_16) rfl (XS.aloadN X5.here hx rfl (hb hby d22_17) rfl rfl k)))))))
  obtain ⟨T8, X8, e8, st8⟩ := getF X5 hx hZ hown (host := "") (Or.inl (ww hw 82 rfl)) Via.refl e5 F_value_r0 (g := gK k7) rfl rfl (hb hby d22_18)
  have k9 : Kq X0 4 T8 (mkF m 21 (oL15 r0 tb) [(.ref tr), (.int (0 : Int32)), (.ref tb), (.int (0 : Int32)), (.ref tr)]) := fun t k => k7 t (st8 _ k)
  obtain ⟨cl10, Ar10, q10, S10, N10_, H10, G10⟩ := (id V_tr)
  have S10' : cl10.slots.size = 8 := S10
  have L10 : (cl10.slots.size).toInt32 = (8 : Int32) := by rw [S10']; rfl
  have k11 : Kq X0 4 T8 (mkF m 22 (oL15 r0 tb) [(.int (8 : Int32)), (.int (0 : Int32)), (.ref tb), (.int (0 : Int32)), (.ref tr)]) := fun t k => k9 t (by
      refine X8.arraylength hx (by rw [e8]; exact Ar10.1) (State.isArrayOf_alike hZ.alike Ar10.2.1) (g := (mkF m 21 (oL15 r0 tb) [(.ref tr), (.int (0 : Int32)), (.ref tb), (.int (0 : Int32)), (.ref tr)])) rfl rfl (hb hby d22_21) _ ?_
      rw [L10]
      exact k)
  obtain ⟨T13, h13, L13, X13, e13, N13, K13, V13, st13⟩ := cpA X8 hx hZ hown (ww hw 146 rfl) (ww hw 149 rfl) (ww hw 147 rfl) (ww hw 148 rfl) e8 V_tr V_tb (us := us) (sp := (0 : Int32)) (dp := (0 : Int32)) (nn := (8 : Int32)) (Or.inl ⟨rfl, rfl⟩) (by decide) (by decide) (by decide) (by decide) (by decide) (own_us hlu) (by rw [hlv]; decide) N2 g_tb (g := gK k11) rfl (by rw [hml]; rfl) rfl (hb hby d22_22) (by decide) (W := 0) (by show 2 * 0 + _ ≤ _; exact Nat.le_of_eq rfl) (by decide)
  have Vc13 : Arv Z h13 tb kb .byte (16 : Int32) (own_ins vd us 0 8) (.int (0 : Int32)) := V13
  have k15 : Kq X0 4 T13 (mkF m 43 (oL15 r0 tb) []) := fun t k => k11 t (st13 _ (XS.goto X13.here hx rfl (pc0 := 25) (pc' := 43) rfl (hb hby d22_25) (by decide) (by decide) k))
  obtain ⟨fs, hr, hrun, hended, hW, hsame⟩ := X13.leave (v := none) (fun _ => rfl)
  refine ⟨_, _, k15 _ ?_, hrun, hended, _, _, rfl, ?_, ⟨_, rfl⟩, hW, hsame.mono (by decide) (by decide)⟩
  · exact X13.returnOut hx Bd.returns (hb hby d22_43) hr
  · show Q22g_0_8_16 Z r0 tb tr kr us kb vd G1 h0 n0 _ T13.heap _
    rw [e13]
    exact ⟨rfl, N13, ((Keep.refl h0 [tb]).trans K13 (allS (Or.inl (own_wi 0 rfl)) all0)), Vc13⟩
def oC20 : ByteArray := jdk_68_method_73_code
theorem d20_0 : decode oC20 0 = .ok (.aload_n 0, 1) := by decide +kernel
theorem d20_1 : decode oC20 1 = .ok (.aload_n 2, 1) := by decide +kernel
theorem d20_2 : decode oC20 2 = .ok (.invokevirtual 397, 3) := by decide +kernel
theorem d20_5 : decode oC20 5 = .ok (.aload_n 2, 1) := by decide +kernel
theorem d20_6 : decode oC20 6 = .ok (.aload_n 0, 1) := by decide +kernel
theorem d20_7 : decode oC20 7 = .ok (.getfield 15, 3) := by decide +kernel
theorem d20_10 : decode oC20 10 = .ok (.iload_n 1, 1) := by decide +kernel
theorem d20_11 : decode oC20 11 = .ok (.aload_n 0, 1) := by decide +kernel
theorem d20_12 : decode oC20 12 = .ok (.getfield 22, 3) := by decide +kernel
theorem d20_15 : decode oC20 15 = .ok (.invokevirtual 399, 3) := by decide +kernel
theorem d20_18 : decode oC20 18 = .ok (.return_, 1) := by decide +kernel
theorem ef_20p_0_8_16 (m : MethodId) (x0 : Addr) (x1 : Int32) (x2 : Addr) : entryFrame m #[(.ref x0), (.int x1), (.ref x2)] 3 = mkF m 0 #[.val (.ref x0), .val (.int x1), .val (.ref x2)] [] := by first | (simp [entryFrame, mkF, argsToLocals, Value.category]; done) | rfl
theorem pd_6 : parseMethodDescriptor "(Ljava/lang/String;)V" = some ⟨[(.object "java/lang/String")], none⟩ := by decide +kernel
theorem pd_7 : parseMethodDescriptor "([BIB)V" = some ⟨[(.array .byte), .int, .byte], none⟩ := by decide +kernel
def Q20p_0_8_16 (Z : State) (r0 : Addr) (r2 : Addr) (tb : Addr) (kb : ClassId) (vd : List Value) (tr : Addr) (kr : ClassId) (us : List Value) (G1 : Int32) (h0 : Heap) (n0 : Nat) (v : Option Value) (h : Heap) (L : List Loc) : Prop := v = none ∧ Fr n0 L ∧ Keep h0 h [tb] ∧ Arv Z h tb kb .byte (16 : Int32) (own_ins vd us 0 8) (.int (0 : Int32))
def oR9 : Room := { frames := 2, cells := 0, slots := 0, locals := 51 }
def mN12 : MethodName := ⟨"java/lang/AbstractStringBuilder", "putStringAt", "(ILjava/lang/String;)V"⟩
def oL16 (r0 : Addr) (r2 : Addr) : Array Slot := #[.val (.ref r0), .val (.int (0 : Int32)), .val (.ref r2)]
theorem rm20p_0_8_16 (l : Launch) (Z : State) (a0 : Array Value) (hw : ∀ d ∈ tables_1, d.before a0 Z = true) (ws : List Jvm.Cond) (r0 : Addr) (r2 : Addr) (tb : Addr) (kb : ClassId) (vd : List Value) (tr : Addr) (kr : ClassId) (us : List Value) (G1 : Int32) (h0 : Heap) (n0 : Nat) (Z0 : n0 ≤ h0.size) (F_value_r0 : Fld Z h0 r0 "java/lang/AbstractStringBuilder" "value" "[B" (.ref tb)) (F_coder_r0 : Fld Z h0 r0 "java/lang/AbstractStringBuilder" "coder" "B" (.int (0 : Int32))) (F_count_r0 : Fld Z h0 r0 "java/lang/AbstractStringBuilder" "count" "I" (.int (0 : Int32))) (E_r0 : Exa Z h0 r0 "java/lang/StringBuilder") (g_r0 : n0 ≤ r0) (V_tb : Arv Z h0 tb kb .byte (16 : Int32) vd (.int (0 : Int32))) (hlv : vd.length = 16) (ne_r0_tb : r0 ≠ tb) (g_tb : n0 ≤ tb) (E_r2 : Exa Z h0 r2 "java/lang/String") (F_value_r2 : Fld Z h0 r2 "java/lang/String" "value" "[B" (.ref tr)) (F_coder_r2 : Fld Z h0 r2 "java/lang/String" "coder" "B" (.int (0 : Int32))) (V_tr : Arv Z h0 tr kr .byte (8 : Int32) us (.int (0 : Int32))) (hlu : us.length = 8) (S_CS : Sta Z Z.heap "java/lang/String" "COMPACT_STRINGS" "Z" (.int G1)) (P5 : ¬ (G1 = (0 : Int32))) (X00 : Old Z n0 h0) :
    MetFree l mN12 (head1 (Jvm.Cond.code mN12 jdk_68_method_73_code 3 none :: ws) oR9) (fun a U => a = #[(.ref r0), (.int (0 : Int32)), (.ref r2)] ∧ Z.Warmed39 U.vm ∧ U.heap = h0) (fun _ _ _ _ _ => True) (fun _ U o U' => ∃ v L, o = .returned v ∧ Q20p_0_8_16 Z r0 r2 tb kb vd tr kr us G1 h0 n0 v U'.heap L ∧ FrameEnd U o U' L oR9.cells oR9.slots) := by
  refine MetFree.of_bodySF (plainFor_of_name pn_0) hisR ?_
  intro p e s m args below meth c s₁ Bd hml0 hP hK
  obtain ⟨rfl, hZ, hh⟩ := hP
  have hx := Bd.exec
  have hby := Bd.bytes
  have hml : c.maxLocals = 3 := hml0
  have hown : s.vm.findClass "java/lang/AbstractStringBuilder" = some m.cls := findClass_of_methodNamed Bd.named
  have X0 : Stand p l e oR9 s m #[(.ref r0), (.int (0 : Int32)), (.ref r2)] below meth c s₁ [] 0 0 := Stand.of_body Bd
  have e0 : s₁.heap = h0 := by rw [← hh, Bd.state]; rfl
  have N0 := Fr.nil n0
  have k0 : Kq X0 3 s₁ (mkF m 0 (oL16 r0 r2) []) := fun t k => castTop (ef_20p_0_8_16 m r0 (0 : Int32) r2) k
  have k1 : Kq X0 3 s₁ (mkF m 2 (oL16 r0 r2) [(.ref r2), (.ref r0)]) := fun t k => k0 t (XS.aloadN X0.here hx rfl (hb hby d20_0) rfl rfl (XS.aloadN X0.here hx rfl (hb hby d20_1) rfl rfl k))
  obtain ⟨cq2, kcq2, q2a, q2b, q2c⟩ := isOf hZ e0 E_r0
  obtain ⟨cc2, qc2_1, -, qc2_2⟩ := q2c
  obtain ⟨_, _, ⟨T2, L2, kq2, n2⟩, -, X2, ⟨Lc2, hQ2, l2, y2, z2⟩, st2⟩ := X0.privateBack hx (y := mN4) hown (mw hZ hw 135 rfl) (mw hZ hw 136 rfl) (own_selp (y := mN4) (mw hZ hw 138 rfl) (Cond.privateMethod_at (args := #[]) (mvP hZ (ww hw 137 rfl))) (mw hZ hw 136 rfl) ⟨by decide, by decide⟩) (Cond.privateMethod_at (args := #[]) (mvP hZ (ww hw 137 rfl))) (mw hZ hw 139 rfl) ⟨by decide, by decide⟩ (backOf (W := 0) (rm21 l Z a0 hw [] r0 r2 G1 h0 n0 Z0 F_coder_r0 F_coder_r2 E_r2 S_CS P5 X00) hZ (ww hw 139 rfl) (ww hw 94 rfl) (by decide) (by decide)) (g := gK k1) rfl (by rw [hml]; rfl) (Steps.refl _) qc2_1 (fun q h => by rw [h] at qc2_2; cases qc2_2) (argsL := [(.ref r2)]) (rest := []) (lenOf pd_6 rfl) rfl (by show 2 * 0 + _ ≤ _; exact Nat.le_of_eq rfl) (hb hby d20_2) (fun _ _ => ⟨rfl, e0, (by decide : 0 + 0 ≤ _), (by decide : 0 + 0 ≤ _)⟩)
  dsimp only [Pt.U, Pt.locs, Pt.cells, Pt.slots] at X2 l2 y2 z2 st2 hQ2
  replace l2 := l2.symm; subst l2 y2 z2
  obtain ⟨rfl, N2q, e2⟩ := hQ2
  have N2 := Fr.app N0 N2q
  have k4 : Kq X0 3 T2 (mkF m 7 (oL16 r0 r2) [(.ref r0), (.ref r2)]) := fun t k => k1 t (st2.trans (XS.aloadN X2.here hx rfl (hb hby d20_5) rfl rfl (XS.aloadN X2.here hx rfl (hb hby d20_6) rfl rfl k)))
  obtain ⟨T5, X5, e5, st5⟩ := getF X2 hx hZ hown (host := "") (Or.inl (ww hw 98 rfl)) Via.refl e2 F_value_r0 (g := gK k4) rfl rfl (hb hby d20_7)
  have k7 : Kq X0 3 T5 (mkF m 12 (oL16 r0 r2) [(.ref r0), (.int (0 : Int32)), (.ref tb), (.ref r2)]) := fun t k => k4 t (st5 _ (XS.iloadN X5.here hx rfl (hb hby d20_10) rfl (XS.aloadN X5.here hx rfl (hb hby d20_11) rfl rfl k)))
  obtain ⟨T8, X8, e8, st8⟩ := getF X5 hx hZ hown (host := "") (Or.inl (ww hw 100 rfl)) Via.refl e5 F_coder_r0 (g := gK k7) rfl rfl (hb hby d20_12)
  have k9 : Kq X0 3 T8 (mkF m 15 (oL16 r0 r2) [(.int (0 : Int32)), (.int (0 : Int32)), (.ref tb), (.ref r2)]) := fun t k => k7 t (st8 _ k)
  obtain ⟨cq10, kcq10, q10a, q10b, q10c⟩ := isOf hZ e8 E_r2
  obtain ⟨_, _, ⟨T10, L10, kq10, n10⟩, -, X10, ⟨Lc10, hQ10, l10, y10, z10⟩, st10⟩ := X8.virtualBack hx (y := mN11) (z := mN11) hown (mw hZ hw 141 rfl) (mw hZ hw 142 rfl) (notFace_of_selects (args := #[]) (mw hZ hw 144 rfl)) (mw hZ hw 144 rfl) (mw hZ hw 143 rfl) (by decide) (backOf (W := 0) (rm22g_0_8_16 l Z a0 hw [] r2 tb tr kr us kb vd G1 h0 n0 Z0 E_r2 F_value_r2 F_coder_r2 V_tr V_tb hlv hlu g_tb S_CS P5 X00) hZ (ww hw 145 rfl) (ww hw 4 rfl) (by decide) (by decide)) q10a q10c (g := gK k9) rfl (by rw [hml]; rfl) (Steps.refl _) (argsL := [(.ref tb), (.int (0 : Int32)), (.int (0 : Int32))]) (rest := []) (lenOf pd_7 rfl) rfl (by show 2 * 0 + _ ≤ _; exact Nat.le_of_eq rfl) (hb hby d20_15) (fun _ _ => ⟨rfl, e8, (by decide : 0 + 0 ≤ _), (by decide : 0 + 0 ≤ _)⟩)
  dsimp only [Pt.U, Pt.locs, Pt.cells, Pt.slots] at X10 l10 y10 z10 st10 hQ10
  replace l10 := l10.symm; subst l10 y10 z10
  obtain ⟨rfl, N10q, K10, Vp10⟩ := hQ10
  have N10 := Fr.app N2 N10q
  have k11 : Kq X0 3 T10 (mkF m 18 (oL16 r0 r2) []) := fun t k => k9 t (st10.trans k)
  obtain ⟨fs, hr, hrun, hended, hW, hsame⟩ := X10.leave (v := none) (fun _ => rfl)
  refine ⟨_, _, k11 _ ?_, hrun, hended, _, _, rfl, ?_, ⟨_, rfl⟩, hW, hsame.mono (by decide) (by decide)⟩
  · exact X10.returnOut hx Bd.returns (hb hby d20_18) hr
  · show Q20p_0_8_16 Z r0 r2 tb kb vd tr kr us G1 h0 n0 _ T10.heap _
    exact ⟨rfl, N10, ((Keep.refl h0 [tb]).trans K10 (allS (Or.inl (own_wi 0 rfl)) all0)), Vp10⟩
def Q19e_0_8_16 (Z : State) (r0 : Addr) (tb : Addr) (kb : ClassId) (vd : List Value) (h0 : Heap) (n0 : Nat) (v : Option Value) (h : Heap) (L : List Loc) : Prop := v = none ∧ Fr n0 L ∧ h = h0
def oL17 (r0 : Addr) : Array Slot := #[.val (.ref r0), .val (.int (8 : Int32)), .unset]
def oL18 (r0 : Addr) : Array Slot := #[.val (.ref r0), .val (.int (8 : Int32)), .val (.int (16 : Int32))]
theorem rm19e_0_8_16 (l : Launch) (Z : State) (a0 : Array Value) (hw : ∀ d ∈ tables_1, d.before a0 Z = true) (ws : List Jvm.Cond) (r0 : Addr) (tb : Addr) (kb : ClassId) (vd : List Value) (h0 : Heap) (n0 : Nat) (Z0 : n0 ≤ h0.size) (F_value_r0 : Fld Z h0 r0 "java/lang/AbstractStringBuilder" "value" "[B" (.ref tb)) (F_coder_r0 : Fld Z h0 r0 "java/lang/AbstractStringBuilder" "coder" "B" (.int (0 : Int32))) (V_tb : Arv Z h0 tb kb .byte (16 : Int32) vd (.int (0 : Int32))) :
    MetFree l mN10 (head1 (Jvm.Cond.code mN10 jdk_68_method_9_code 3 none :: ws) oR2) (fun a U => a = #[(.ref r0), (.int (8 : Int32))] ∧ Z.Warmed39 U.vm ∧ U.heap = h0) (fun _ _ _ _ _ => True) (fun _ U o U' => ∃ v L, o = .returned v ∧ Q19e_0_8_16 Z r0 tb kb vd h0 n0 v U'.heap L ∧ FrameEnd U o U' L oR2.cells oR2.slots) := by
  refine MetFree.of_bodySF (plainFor_of_name pn_0) hisR ?_
  intro p e s m args below meth c s₁ Bd hml0 hP hK
  obtain ⟨rfl, hZ, hh⟩ := hP
  have hx := Bd.exec
  have hby := Bd.bytes
  have hml : c.maxLocals = 3 := hml0
  have hown : s.vm.findClass "java/lang/AbstractStringBuilder" = some m.cls := findClass_of_methodNamed Bd.named
  have X0 : Stand p l e oR2 s m #[(.ref r0), (.int (8 : Int32))] below meth c s₁ [] 0 0 := Stand.of_body Bd
  have e0 : s₁.heap = h0 := by rw [← hh, Bd.state]; rfl
  have N0 := Fr.nil n0
  have k0 : Kq X0 3 s₁ (mkF m 0 (oL17 r0) []) := fun t k => castTop (ef_39 m r0 (8 : Int32)) k
  have k1 : Kq X0 3 s₁ (mkF m 1 (oL17 r0) [(.ref r0)]) := fun t k => k0 t (XS.aloadN X0.here hx rfl (hb hby d19_0) rfl rfl k)
  obtain ⟨T2, X2, e2, st2⟩ := getF X0 hx hZ hown (host := "") (Or.inl (ww hw 98 rfl)) Via.refl e0 F_value_r0 (g := gK k1) rfl rfl (hb hby d19_1)
  have k3 : Kq X0 3 T2 (mkF m 4 (oL17 r0) [(.ref tb)]) := fun t k => k1 t (st2 _ k)
  obtain ⟨cl4, Ar4, q4, S4, N4_, H4, G4⟩ := (id V_tb)
  have S4' : cl4.slots.size = 16 := S4
  have L4 : (cl4.slots.size).toInt32 = (16 : Int32) := by rw [S4']; rfl
  have k5 : Kq X0 3 T2 (mkF m 6 (oL17 r0) [(.ref r0), (.int (16 : Int32))]) := fun t k => k3 t (by
      refine X2.arraylength hx (by rw [e2]; exact Ar4.1) (State.isArrayOf_alike hZ.alike Ar4.2.1) (g := (mkF m 4 (oL17 r0) [(.ref tb)])) rfl rfl (hb hby d19_4) _ ?_
      rw [L4]
      show Sg X0 T2 5 (oL17 r0) [(.int (16 : Int32))] _
      refine XS.aloadN X2.here hx rfl (hb hby d19_5) rfl rfl ?_
      exact k)
  obtain ⟨T6, X6, e6, st6⟩ := getF X2 hx hZ hown (host := "") (Or.inl (ww hw 100 rfl)) Via.refl e2 F_coder_r0 (g := gK k5) rfl rfl (hb hby d19_6)
  have hc14 : ¬ ((0 : Int32) < (-8 : Int32)) := by decide
  have k8 : Kq X0 3 T6 (mkF m 38 (oL18 r0) []) := fun t k => k5 t (st6 _ (XS.ishr X6.here hx rfl (hb hby d19_9) rfl (XS.istoreN X6.here hx rfl (hb hby d19_10) rfl (l' := (oL18 r0)) rfl (XS.iloadN X6.here hx rfl (hb hby d19_11) rfl (XS.iloadN X6.here hx rfl (hb hby d19_12) rfl (XS.isub X6.here hx rfl (hb hby d19_13) rfl (XS.ifYes X6.here hx rfl (pc0 := 14) (pc' := 38) rfl (hb hby d19_14) rfl ((if0 _ _).trans (flt hc14).2.2.2) (by decide) (by decide) k)))))))
  obtain ⟨fs, hr, hrun, hended, hW, hsame⟩ := X6.leave (v := none) (fun _ => rfl)
  refine ⟨_, _, k8 _ ?_, hrun, hended, _, _, rfl, ?_, ⟨_, rfl⟩, hW, hsame.mono (by decide) (by decide)⟩
  · exact X6.returnOut hx Bd.returns (hb hby d19_38) hr
  · show Q19e_0_8_16 Z r0 tb kb vd h0 n0 _ T6.heap _
    rw [e6]
    exact ⟨rfl, N0, rfl⟩
def oC16 : ByteArray := jdk_68_method_22_code
theorem d16_0 : decode oC16 0 = .ok (.aload_n 1, 1) := by decide +kernel
theorem d16_1 : decode oC16 1 = .ok (.ifnonnull 8, 3) := by decide +kernel
theorem d16_4 : decode oC16 4 = .ok (.aload_n 0, 1) := by decide +kernel
theorem d16_5 : decode oC16 5 = .ok (.invokevirtual 204, 3) := by decide +kernel
theorem d16_8 : decode oC16 8 = .ok (.areturn, 1) := by decide +kernel
theorem d16_9 : decode oC16 9 = .ok (.aload_n 1, 1) := by decide +kernel
theorem d16_10 : decode oC16 10 = .ok (.invokevirtual 32, 3) := by decide +kernel
theorem d16_13 : decode oC16 13 = .ok (.istore_n 2, 1) := by decide +kernel
theorem d16_14 : decode oC16 14 = .ok (.aload_n 0, 1) := by decide +kernel
theorem d16_15 : decode oC16 15 = .ok (.aload_n 0, 1) := by decide +kernel
theorem d16_16 : decode oC16 16 = .ok (.getfield 79, 3) := by decide +kernel
theorem d16_19 : decode oC16 19 = .ok (.iload_n 2, 1) := by decide +kernel
theorem d16_20 : decode oC16 20 = .ok (.iadd, 1) := by decide +kernel
theorem d16_21 : decode oC16 21 = .ok (.invokevirtual 100, 3) := by decide +kernel
theorem d16_24 : decode oC16 24 = .ok (.aload_n 0, 1) := by decide +kernel
theorem d16_25 : decode oC16 25 = .ok (.aload_n 0, 1) := by decide +kernel
theorem d16_26 : decode oC16 26 = .ok (.getfield 79, 3) := by decide +kernel
theorem d16_29 : decode oC16 29 = .ok (.aload_n 1, 1) := by decide +kernel
theorem d16_30 : decode oC16 30 = .ok (.invokevirtual 208, 3) := by decide +kernel
theorem d16_33 : decode oC16 33 = .ok (.aload_n 0, 1) := by decide +kernel
theorem d16_34 : decode oC16 34 = .ok (.dup, 1) := by decide +kernel
theorem d16_35 : decode oC16 35 = .ok (.getfield 79, 3) := by decide +kernel
theorem d16_38 : decode oC16 38 = .ok (.iload_n 2, 1) := by decide +kernel
theorem d16_39 : decode oC16 39 = .ok (.iadd, 1) := by decide +kernel
theorem d16_40 : decode oC16 40 = .ok (.putfield 79, 3) := by decide +kernel
theorem d16_43 : decode oC16 43 = .ok (.aload_n 0, 1) := by decide +kernel
theorem d16_44 : decode oC16 44 = .ok (.areturn, 1) := by decide +kernel
theorem ef_16a_0_8_16 (m : MethodId) (x0 : Addr) (x1 : Addr) : entryFrame m #[(.ref x0), (.ref x1)] 3 = mkF m 0 #[.val (.ref x0), .val (.ref x1), .unset] [] := by first | (simp [entryFrame, mkF, argsToLocals, Value.category]; done) | rfl
theorem pd_8 : parseMethodDescriptor "()I" = some ⟨[], some .int⟩ := by decide +kernel
theorem pd_9 : parseMethodDescriptor "(ILjava/lang/String;)V" = some ⟨[.int, (.object "java/lang/String")], none⟩ := by decide +kernel
def Q16a_0_8_16 (Z : State) (r0 : Addr) (r1 : Addr) (tb : Addr) (kb : ClassId) (vd : List Value) (tr : Addr) (kr : ClassId) (us : List Value) (G1 : Int32) (h0 : Heap) (n0 : Nat) (v : Option Value) (h : Heap) (L : List Loc) : Prop := v = some (.ref r0) ∧ Fr n0 L ∧ Keep h0 h [r0, tb] ∧ Fld Z h r0 "java/lang/AbstractStringBuilder" "value" "[B" (.ref tb) ∧ Fld Z h r0 "java/lang/AbstractStringBuilder" "coder" "B" (.int (0 : Int32)) ∧ Fld Z h r0 "java/lang/AbstractStringBuilder" "count" "I" (.int (8 : Int32)) ∧ Exa Z h r0 "java/lang/StringBuilder" ∧ Arv Z h tb kb .byte (16 : Int32) (own_ins vd us 0 8) (.int (0 : Int32))
def oR10 : Room := { frames := 3, cells := 0, slots := 0, locals := 65 }
def mN13 : MethodName := ⟨"java/lang/AbstractStringBuilder", "append", "(Ljava/lang/String;)Ljava/lang/AbstractStringBuilder;"⟩
def oL19 (r0 : Addr) (r1 : Addr) : Array Slot := #[.val (.ref r0), .val (.ref r1), .unset]
def oL20 (r0 : Addr) (r1 : Addr) : Array Slot := #[.val (.ref r0), .val (.ref r1), .val (.int (8 : Int32))]
theorem rm16a_0_8_16 (l : Launch) (Z : State) (a0 : Array Value) (hw : ∀ d ∈ tables_1, d.before a0 Z = true) (ws : List Jvm.Cond) (r0 : Addr) (r1 : Addr) (tb : Addr) (kb : ClassId) (vd : List Value) (tr : Addr) (kr : ClassId) (us : List Value) (G1 : Int32) (h0 : Heap) (n0 : Nat) (Z0 : n0 ≤ h0.size) (F_value_r0 : Fld Z h0 r0 "java/lang/AbstractStringBuilder" "value" "[B" (.ref tb)) (F_coder_r0 : Fld Z h0 r0 "java/lang/AbstractStringBuilder" "coder" "B" (.int (0 : Int32))) (F_count_r0 : Fld Z h0 r0 "java/lang/AbstractStringBuilder" "count" "I" (.int (0 : Int32))) (E_r0 : Exa Z h0 r0 "java/lang/StringBuilder") (g_r0 : n0 ≤ r0) (V_tb : Arv Z h0 tb kb .byte (16 : Int32) vd (.int (0 : Int32))) (hlv : vd.length = 16) (ne_r0_tb : r0 ≠ tb) (g_tb : n0 ≤ tb) (E_r1 : Exa Z h0 r1 "java/lang/String") (F_value_r1 : Fld Z h0 r1 "java/lang/String" "value" "[B" (.ref tr)) (F_coder_r1 : Fld Z h0 r1 "java/lang/String" "coder" "B" (.int (0 : Int32))) (V_tr : Arv Z h0 tr kr .byte (8 : Int32) us (.int (0 : Int32))) (hlu : us.length = 8) (ne_r1_r0 : r1 ≠ r0) (ne_tr_r0 : tr ≠ r0) (S_CS : Sta Z Z.heap "java/lang/String" "COMPACT_STRINGS" "Z" (.int G1)) (P5 : ¬ (G1 = (0 : Int32))) (X00 : Old Z n0 h0) :
    MetFree l mN13 (head1 (Jvm.Cond.code mN13 jdk_68_method_22_code 3 (some (.object "java/lang/AbstractStringBuilder")) :: ws) oR10) (fun a U => a = #[(.ref r0), (.ref r1)] ∧ Z.Warmed39 U.vm ∧ U.heap = h0) (fun _ _ _ _ _ => True) (fun _ U o U' => ∃ v L, o = .returned v ∧ Q16a_0_8_16 Z r0 r1 tb kb vd tr kr us G1 h0 n0 v U'.heap L ∧ FrameEnd U o U' L oR10.cells oR10.slots) := by
  refine MetFree.of_bodySF (plainFor_of_name pn_0) hisR ?_
  intro p e s m args below meth c s₁ Bd hml0 hP hK
  obtain ⟨rfl, hZ, hh⟩ := hP
  have hx := Bd.exec
  have hby := Bd.bytes
  have hml : c.maxLocals = 3 := hml0
  have hown : s.vm.findClass "java/lang/AbstractStringBuilder" = some m.cls := findClass_of_methodNamed Bd.named
  have X0 : Stand p l e oR10 s m #[(.ref r0), (.ref r1)] below meth c s₁ [] 0 0 := Stand.of_body Bd
  have e0 : s₁.heap = h0 := by rw [← hh, Bd.state]; rfl
  have N0 := Fr.nil n0
  have k0 : Kq X0 3 s₁ (mkF m 0 (oL19 r0 r1) []) := fun t k => castTop (ef_16a_0_8_16 m r0 r1) k
  have k1 : Kq X0 3 s₁ (mkF m 10 (oL19 r0 r1) [(.ref r1)]) := fun t k => k0 t (XS.aloadN X0.here hx rfl (hb hby d16_0) rfl rfl (XS.ifnonnullYes X0.here hx rfl (pc0 := 1) (pc' := 9) rfl (hb hby d16_1) rfl (by decide) (by decide) (XS.aloadN X0.here hx rfl (hb hby d16_9) rfl rfl k)))
  obtain ⟨cq2, kcq2, q2a, q2b, q2c⟩ := isOf hZ e0 E_r1
  obtain ⟨_, _, ⟨T2, L2, kq2, n2⟩, -, X2, ⟨Lc2, hQ2, l2, y2, z2⟩, st2⟩ := X0.virtualBack hx (y := mN3) (z := mN3) hown (mw hZ hw 113 rfl) (mw hZ hw 114 rfl) (notFace_of_selects (args := #[]) (mw hZ hw 116 rfl)) (mw hZ hw 116 rfl) (mw hZ hw 115 rfl) (by decide) (backOf (W := 0) (rm17n8 l Z a0 hw [] r1 tr kr us G1 h0 n0 Z0 E_r1 F_value_r1 F_coder_r1 V_tr S_CS P5 X00) hZ (ww hw 117 rfl) (ww hw 4 rfl) (by decide) (by decide)) q2a q2c (g := gK k1) rfl (by rw [hml]; rfl) (Steps.refl _) (argsL := []) (rest := []) (lenOf pd_8 rfl) rfl (by show 2 * 0 + _ ≤ _; exact Nat.le_of_eq rfl) (hb hby d16_10) (fun _ _ => ⟨rfl, e0, (by decide : 0 + 0 ≤ _), (by decide : 0 + 0 ≤ _)⟩)
  dsimp only [Pt.U, Pt.locs, Pt.cells, Pt.slots] at X2 l2 y2 z2 st2 hQ2
  replace l2 := l2.symm; subst l2 y2 z2
  obtain ⟨rfl, N2q, e2⟩ := hQ2
  have N2 := Fr.app N0 N2q
  have k4 : Kq X0 3 T2 (mkF m 16 (oL20 r0 r1) [(.ref r0), (.ref r0)]) := fun t k => k1 t (st2.trans (XS.istoreN X2.here hx rfl (hb hby d16_13) rfl (l' := (oL20 r0 r1)) rfl (XS.aloadN X2.here hx rfl (hb hby d16_14) rfl rfl (XS.aloadN X2.here hx rfl (hb hby d16_15) rfl rfl k))))
  obtain ⟨T5, X5, e5, st5⟩ := getF X2 hx hZ hown (host := "") (Or.inl (ww hw 123 rfl)) Via.refl e2 F_count_r0 (g := gK k4) rfl rfl (hb hby d16_16)
  have k7 : Kq X0 3 T5 (mkF m 21 (oL20 r0 r1) [(.int (8 : Int32)), (.ref r0)]) := fun t k => k4 t (st5 _ (XS.iloadN X5.here hx rfl (hb hby d16_19) rfl (XS.iadd X5.here hx rfl (hb hby d16_20) rfl k)))
  obtain ⟨cq8, kcq8, q8a, q8b, q8c⟩ := isOf hZ e5 E_r0
  obtain ⟨cc8, qc8_1, -, qc8_2⟩ := q8c
  obtain ⟨_, _, ⟨T8, L8, kq8, n8⟩, -, X8, ⟨Lc8, hQ8, l8, y8, z8⟩, st8⟩ := X5.privateBack hx (y := mN10) hown (mw hZ hw 125 rfl) (mw hZ hw 126 rfl) (own_selp (y := mN10) (mw hZ hw 128 rfl) (Cond.privateMethod_at (args := #[]) (mvP hZ (ww hw 127 rfl))) (mw hZ hw 126 rfl) ⟨by decide, by decide⟩) (Cond.privateMethod_at (args := #[]) (mvP hZ (ww hw 127 rfl))) (mw hZ hw 129 rfl) ⟨by decide, by decide⟩ (backOf (W := 0) (rm19e_0_8_16 l Z a0 hw [] r0 tb kb vd h0 n0 Z0 F_value_r0 F_coder_r0 V_tb) hZ (ww hw 129 rfl) (ww hw 94 rfl) (by decide) (by decide)) (g := gK k7) rfl (by rw [hml]; rfl) (Steps.refl _) qc8_1 (fun q h => by rw [h] at qc8_2; cases qc8_2) (argsL := [(.int (8 : Int32))]) (rest := []) (lenOf pd_0 rfl) rfl (by show 2 * 0 + _ ≤ _; exact Nat.le_of_eq rfl) (hb hby d16_21) (fun _ _ => ⟨rfl, e5, (by decide : 0 + 0 ≤ _), (by decide : 0 + 0 ≤ _)⟩)
  dsimp only [Pt.U, Pt.locs, Pt.cells, Pt.slots] at X8 l8 y8 z8 st8 hQ8
  replace l8 := l8.symm; subst l8 y8 z8
  obtain ⟨rfl, N8q, e8⟩ := hQ8
  have N8 := Fr.app N2 N8q
  have k10 : Kq X0 3 T8 (mkF m 26 (oL20 r0 r1) [(.ref r0), (.ref r0)]) := fun t k => k7 t (st8.trans (XS.aloadN X8.here hx rfl (hb hby d16_24) rfl rfl (XS.aloadN X8.here hx rfl (hb hby d16_25) rfl rfl k)))
  obtain ⟨T11, X11, e11, st11⟩ := getF X8 hx hZ hown (host := "") (Or.inl (ww hw 123 rfl)) Via.refl e8 F_count_r0 (g := gK k10) rfl rfl (hb hby d16_26)
  have k13 : Kq X0 3 T11 (mkF m 30 (oL20 r0 r1) [(.ref r1), (.int (0 : Int32)), (.ref r0)]) := fun t k => k10 t (st11 _ (XS.aloadN X11.here hx rfl (hb hby d16_29) rfl rfl k))
  obtain ⟨cq14, kcq14, q14a, q14b, q14c⟩ := isOf hZ e11 E_r0
  obtain ⟨cc14, qc14_1, -, qc14_2⟩ := q14c
  obtain ⟨_, _, ⟨T14, L14, kq14, n14⟩, -, X14, ⟨Lc14, hQ14, l14, y14, z14⟩, st14⟩ := X11.privateBack hx (y := mN12) hown (mw hZ hw 130 rfl) (mw hZ hw 131 rfl) (own_selp (y := mN12) (mw hZ hw 133 rfl) (Cond.privateMethod_at (args := #[]) (mvP hZ (ww hw 132 rfl))) (mw hZ hw 131 rfl) ⟨by decide, by decide⟩) (Cond.privateMethod_at (args := #[]) (mvP hZ (ww hw 132 rfl))) (mw hZ hw 134 rfl) ⟨by decide, by decide⟩ (backOf (W := 0) (rm20p_0_8_16 l Z a0 hw [] r0 r1 tb kb vd tr kr us G1 h0 n0 Z0 F_value_r0 F_coder_r0 F_count_r0 E_r0 g_r0 V_tb hlv ne_r0_tb g_tb E_r1 F_value_r1 F_coder_r1 V_tr hlu S_CS P5 X00) hZ (ww hw 134 rfl) (ww hw 94 rfl) (by decide) (by decide)) (g := gK k13) rfl (by rw [hml]; rfl) (Steps.refl _) qc14_1 (fun q h => by rw [h] at qc14_2; cases qc14_2) (argsL := [(.int (0 : Int32)), (.ref r1)]) (rest := []) (lenOf pd_9 rfl) rfl (by show 2 * 0 + _ ≤ _; exact Nat.le_of_eq rfl) (hb hby d16_30) (fun _ _ => ⟨rfl, e11, (by decide : 0 + 0 ≤ _), (by decide : 0 + 0 ≤ _)⟩)
  dsimp only [Pt.U, Pt.locs, Pt.cells, Pt.slots] at X14 l14 y14 z14 st14 hQ14
  replace l14 := l14.symm; subst l14 y14 z14
  obtain ⟨rfl, N14q, K14, Vp14⟩ := hQ14
  have N14 := Fr.app N8 N14q
  have k16 : Kq X0 3 T14 (mkF m 35 (oL20 r0 r1) [(.ref r0), (.ref r0)]) := fun t k => k13 t (st14.trans (XS.aloadN X14.here hx rfl (hb hby d16_33) rfl rfl (XS.dup X14.here hx rfl (hb hby d16_34) rfl rfl k)))
  obtain ⟨T17, X17, e17, st17⟩ := getF X14 hx hZ hown (host := "") (Or.inl (ww hw 123 rfl)) Via.refl rfl (F_count_r0.keep K14 (ninS ne_r0_tb nin0)) (g := gK k16) rfl rfl (hb hby d16_35)
  have k19 : Kq X0 3 T17 (mkF m 40 (oL20 r0 r1) [(.int (8 : Int32)), (.ref r0)]) := fun t k => k16 t (st17 _ (XS.iloadN X17.here hx rfl (hb hby d16_38) rfl (XS.iadd X17.here hx rfl (hb hby d16_39) rfl k)))
  obtain ⟨T20, h20, X20, e20, W20, st20⟩ := putF X17 hx hZ hown (host := "") (Or.inl (ww hw 123 rfl)) Via.refl e17 (F_count_r0.keep K14 (ninS ne_r0_tb nin0)) (E_r0.keep K14) (Or.inl (ww hw 124 rfl)) (ww hw 85 rfl) (ty := .int) (by decide) rfl rfl (g := gK k19) rfl rfl (hb hby d16_40)
  have fc21 := ((F_value_r0.keep K14 (ninS ne_r0_tb nin0)).other W20 (Or.inr (slot_ne (Or.inl (ww hw 99 rfl)) (Or.inl (ww hw 124 rfl)) (by decide) (t := (.array .byte)) (t' := .int) (by decide) (by decide))))
  have fc22 := ((F_coder_r0.keep K14 (ninS ne_r0_tb nin0)).other W20 (Or.inr (slot_ne (Or.inl (ww hw 101 rfl)) (Or.inl (ww hw 124 rfl)) (by decide) (t := .byte) (t' := .int) (by decide) (by decide))))
  have N20 := Fr.snoc X20 N14 g_r0
  have k24 : Kq X0 3 T20 (mkF m 44 (oL20 r0 r1) [(.ref r0)]) := fun t k => k19 t (st20 _ (XS.aloadN X20.here hx rfl (hb hby d16_43) rfl rfl k))
  obtain ⟨fs, hr, hrun, hended, hW, hsame⟩ := X20.leave (v := (some (.ref r0))) (fun h => by rw [Bd.returns] at h; cases h)
  refine ⟨_, _, k24 _ ?_, hrun, hended, _, _, rfl, ?_, ⟨_, rfl⟩, hW, hsame.mono (by decide) (by decide)⟩
  · exact retOut X20 hx Bd.returns rfl (Or.inr (Or.inr (Or.inr (Or.inr ⟨rfl, rfl, rfl⟩)))) (hb hby d16_44) hr
  · show Q16a_0_8_16 Z r0 r1 tb kb vd tr kr us G1 h0 n0 _ T20.heap _
    rw [e20]
    exact ⟨rfl, N20, (((Keep.refl h0 [r0, tb]).trans K14 (allS (Or.inl (own_wi 1 rfl)) all0)).wr W20 (Or.inl (own_wi 0 rfl))), fc21, fc22, ((F_count_r0.keep K14 (ninS ne_r0_tb nin0)).same W20), ((E_r0.keep K14).wr W20), (Vp14.other W20 ne_r0_tb.symm)⟩
def oC15 : ByteArray := jdk_67_method_7_code
theorem d15_0 : decode oC15 0 = .ok (.aload_n 0, 1) := by decide +kernel
theorem d15_1 : decode oC15 1 = .ok (.aload_n 1, 1) := by decide +kernel
theorem d15_2 : decode oC15 2 = .ok (.invokespecial 29, 3) := by decide +kernel
theorem d15_5 : decode oC15 5 = .ok (.pop, 1) := by decide +kernel
theorem d15_6 : decode oC15 6 = .ok (.aload_n 0, 1) := by decide +kernel
theorem d15_7 : decode oC15 7 = .ok (.areturn, 1) := by decide +kernel
theorem pd_10 : parseMethodDescriptor "(Ljava/lang/String;)Ljava/lang/AbstractStringBuilder;" = some ⟨[(.object "java/lang/String")], some (.object "java/lang/AbstractStringBuilder")⟩ := by decide +kernel
def Q15a_0_8_16 (Z : State) (r0 : Addr) (r1 : Addr) (tb : Addr) (kb : ClassId) (vd : List Value) (tr : Addr) (kr : ClassId) (us : List Value) (G1 : Int32) (h0 : Heap) (n0 : Nat) (v : Option Value) (h : Heap) (L : List Loc) : Prop := v = some (.ref r0) ∧ Fr n0 L ∧ Keep h0 h [r0, tb] ∧ Fld Z h r0 "java/lang/AbstractStringBuilder" "value" "[B" (.ref tb) ∧ Fld Z h r0 "java/lang/AbstractStringBuilder" "coder" "B" (.int (0 : Int32)) ∧ Fld Z h r0 "java/lang/AbstractStringBuilder" "count" "I" (.int (8 : Int32)) ∧ Exa Z h r0 "java/lang/StringBuilder" ∧ Arv Z h tb kb .byte (16 : Int32) (own_ins vd us 0 8) (.int (0 : Int32))
def oR11 : Room := { frames := 4, cells := 0, slots := 0, locals := 79 }
def mN14 : MethodName := ⟨"java/lang/StringBuilder", "append", "(Ljava/lang/String;)Ljava/lang/StringBuilder;"⟩
theorem rm15a_0_8_16 (l : Launch) (Z : State) (a0 : Array Value) (hw : ∀ d ∈ tables_1, d.before a0 Z = true) (ws : List Jvm.Cond) (r0 : Addr) (r1 : Addr) (tb : Addr) (kb : ClassId) (vd : List Value) (tr : Addr) (kr : ClassId) (us : List Value) (G1 : Int32) (h0 : Heap) (n0 : Nat) (Z0 : n0 ≤ h0.size) (F_value_r0 : Fld Z h0 r0 "java/lang/AbstractStringBuilder" "value" "[B" (.ref tb)) (F_coder_r0 : Fld Z h0 r0 "java/lang/AbstractStringBuilder" "coder" "B" (.int (0 : Int32))) (F_count_r0 : Fld Z h0 r0 "java/lang/AbstractStringBuilder" "count" "I" (.int (0 : Int32))) (E_r0 : Exa Z h0 r0 "java/lang/StringBuilder") (g_r0 : n0 ≤ r0) (V_tb : Arv Z h0 tb kb .byte (16 : Int32) vd (.int (0 : Int32))) (hlv : vd.length = 16) (ne_r0_tb : r0 ≠ tb) (g_tb : n0 ≤ tb) (E_r1 : Exa Z h0 r1 "java/lang/String") (F_value_r1 : Fld Z h0 r1 "java/lang/String" "value" "[B" (.ref tr)) (F_coder_r1 : Fld Z h0 r1 "java/lang/String" "coder" "B" (.int (0 : Int32))) (V_tr : Arv Z h0 tr kr .byte (8 : Int32) us (.int (0 : Int32))) (hlu : us.length = 8) (ne_r1_r0 : r1 ≠ r0) (ne_tr_r0 : tr ≠ r0) (S_CS : Sta Z Z.heap "java/lang/String" "COMPACT_STRINGS" "Z" (.int G1)) (P5 : ¬ (G1 = (0 : Int32))) (X00 : Old Z n0 h0) :
    MetFree l mN14 (head1 (Jvm.Cond.code mN14 jdk_67_method_7_code 2 (some (.object "java/lang/StringBuilder")) :: ws) oR11) (fun a U => a = #[(.ref r0), (.ref r1)] ∧ Z.Warmed39 U.vm ∧ U.heap = h0) (fun _ _ _ _ _ => True) (fun _ U o U' => ∃ v L, o = .returned v ∧ Q15a_0_8_16 Z r0 r1 tb kb vd tr kr us G1 h0 n0 v U'.heap L ∧ FrameEnd U o U' L oR11.cells oR11.slots) := by
  refine MetFree.of_bodySF (plainFor_of_name pn_1) hisR ?_
  intro p e s m args below meth c s₁ Bd hml0 hP hK
  obtain ⟨rfl, hZ, hh⟩ := hP
  have hx := Bd.exec
  have hby := Bd.bytes
  have hml : c.maxLocals = 2 := hml0
  have hown : s.vm.findClass "java/lang/StringBuilder" = some m.cls := findClass_of_methodNamed Bd.named
  have X0 : Stand p l e oR11 s m #[(.ref r0), (.ref r1)] below meth c s₁ [] 0 0 := Stand.of_body Bd
  have e0 : s₁.heap = h0 := by rw [← hh, Bd.state]; rfl
  have N0 := Fr.nil n0
  have k0 : Kq X0 2 s₁ (mkF m 0 (oL1 r0 r1) []) := fun t k => castTop (ef_21 m r0 r1) k
  have k1 : Kq X0 2 s₁ (mkF m 2 (oL1 r0 r1) [(.ref r1), (.ref r0)]) := fun t k => k0 t (XS.aloadN X0.here hx rfl (hb hby d15_0) rfl rfl (XS.aloadN X0.here hx rfl (hb hby d15_1) rfl rfl k))
  obtain ⟨_, _, ⟨T2, L2, kq2, n2⟩, -, X2, ⟨Lc2, hQ2, l2, y2, z2⟩, st2⟩ := superBack X0 hx hZ hown (ww hw 108 rfl) (own_same (y := mN13) (ww hw 128 rfl) rfl (ww hw 109 rfl) ⟨by decide, by decide⟩) (ww hw 109 rfl) (ww hw 110 rfl) (by decide) (backOf (W := 0) (rm16a_0_8_16 l Z a0 hw [] r0 r1 tb kb vd tr kr us G1 h0 n0 Z0 F_value_r0 F_coder_r0 F_count_r0 E_r0 g_r0 V_tb hlv ne_r0_tb g_tb E_r1 F_value_r1 F_coder_r1 V_tr hlu ne_r1_r0 ne_tr_r0 S_CS P5 X00) hZ (ww hw 112 rfl) (ww hw 94 rfl) (by decide) (by decide)) e0 (Ins.self E_r0) (g := gK k1) rfl (by rw [hml]; rfl) (ww hw 112 rfl) (argsL := [(.ref r1)]) (rest := []) (lenOf pd_10 rfl) rfl (by show 2 * 0 + _ ≤ _; exact Nat.le_of_eq rfl) (hb hby d15_2) (fun _ _ => ⟨rfl, e0, (by decide : 0 + 0 ≤ _), (by decide : 0 + 0 ≤ _)⟩)
  dsimp only [Pt.U, Pt.locs, Pt.cells, Pt.slots] at X2 l2 y2 z2 st2 hQ2
  replace l2 := l2.symm; subst l2 y2 z2
  obtain ⟨rfl, N2q, K2, Fx2_0, Fx2_1, Fx2_2, Ex2, Vp2⟩ := hQ2
  have N2 := Fr.app N0 N2q
  have k4 : Kq X0 2 T2 (mkF m 7 (oL1 r0 r1) [(.ref r0)]) := fun t k => k1 t (st2.trans (XS.pop X2.here hx rfl (hb hby d15_5) rfl rfl (XS.aloadN X2.here hx rfl (hb hby d15_6) rfl rfl k)))
  obtain ⟨fs, hr, hrun, hended, hW, hsame⟩ := X2.leave (v := (some (.ref r0))) (fun h => by rw [Bd.returns] at h; cases h)
  refine ⟨_, _, k4 _ ?_, hrun, hended, _, _, rfl, ?_, ⟨_, rfl⟩, hW, hsame.mono (by decide) (by decide)⟩
  · exact retOut X2 hx Bd.returns rfl (Or.inr (Or.inr (Or.inr (Or.inr ⟨rfl, rfl, rfl⟩)))) (hb hby d15_7) hr
  · show Q15a_0_8_16 Z r0 r1 tb kb vd tr kr us G1 h0 n0 _ T2.heap _
    exact ⟨rfl, N2, ((Keep.refl h0 [r0, tb]).trans K2 (allS (Or.inl (own_wi 0 rfl)) (allS (Or.inl (own_wi 1 rfl)) all0))), Fx2_0, Fx2_1, Fx2_2, Ex2, Vp2⟩
def Q22g_8_2_16 (Z : State) (r0 : Addr) (tb : Addr) (tr : Addr) (kr : ClassId) (us : List Value) (kb : ClassId) (vd : List Value) (G1 : Int32) (h0 : Heap) (n0 : Nat) (v : Option Value) (h : Heap) (L : List Loc) : Prop := v = none ∧ Fr n0 L ∧ Keep h0 h [tb] ∧ Arv Z h tb kb .byte (16 : Int32) (own_ins vd us 8 2) (.int (0 : Int32))
def oL21 (r0 : Addr) (tb : Addr) : Array Slot := #[.val (.ref r0), .val (.ref tb), .val (.int (8 : Int32)), .val (.int (0 : Int32))]
theorem rm22g_8_2_16 (l : Launch) (Z : State) (a0 : Array Value) (hw : ∀ d ∈ tables_1, d.before a0 Z = true) (ws : List Jvm.Cond) (r0 : Addr) (tb : Addr) (tr : Addr) (kr : ClassId) (us : List Value) (kb : ClassId) (vd : List Value) (G1 : Int32) (h0 : Heap) (n0 : Nat) (Z0 : n0 ≤ h0.size) (E_r0 : Exa Z h0 r0 "java/lang/String") (F_value_r0 : Fld Z h0 r0 "java/lang/String" "value" "[B" (.ref tr)) (F_coder_r0 : Fld Z h0 r0 "java/lang/String" "coder" "B" (.int (0 : Int32))) (V_tr : Arv Z h0 tr kr .byte (2 : Int32) us (.int (0 : Int32))) (V_tb : Arv Z h0 tb kb .byte (16 : Int32) vd (.int (0 : Int32))) (hlv : vd.length = 16) (hlu : us.length = 2) (g_tb : n0 ≤ tb) (S_CS : Sta Z Z.heap "java/lang/String" "COMPACT_STRINGS" "Z" (.int G1)) (P5 : ¬ (G1 = (0 : Int32))) (X00 : Old Z n0 h0) :
    MetFree l mN11 (head1 (Jvm.Cond.code mN11 jdk_42_method_147_code 4 none :: ws) oR8) (fun a U => a = #[(.ref r0), (.ref tb), (.int (8 : Int32)), (.int (0 : Int32))] ∧ Z.Warmed39 U.vm ∧ U.heap = h0) (fun _ _ _ _ _ => True) (fun _ U o U' => ∃ v L, o = .returned v ∧ Q22g_8_2_16 Z r0 tb tr kr us kb vd G1 h0 n0 v U'.heap L ∧ FrameEnd U o U' L oR8.cells oR8.slots) := by
  refine MetFree.of_bodySF (plainFor_of_name pn_2) hisR ?_
  intro p e s m args below meth c s₁ Bd hml0 hP hK
  obtain ⟨rfl, hZ, hh⟩ := hP
  have hx := Bd.exec
  have hby := Bd.bytes
  have hml : c.maxLocals = 4 := hml0
  have hown : s.vm.findClass "java/lang/String" = some m.cls := findClass_of_methodNamed Bd.named
  have X0 : Stand p l e oR8 s m #[(.ref r0), (.ref tb), (.int (8 : Int32)), (.int (0 : Int32))] below meth c s₁ [] 0 0 := Stand.of_body Bd
  have e0 : s₁.heap = h0 := by rw [← hh, Bd.state]; rfl
  have N0 := Fr.nil n0
  have k0 : Kq X0 4 s₁ (mkF m 0 (oL21 r0 tb) []) := fun t k => castTop (ef_22g_0_8_16 m r0 tb (8 : Int32) (0 : Int32)) k
  have k1 : Kq X0 4 s₁ (mkF m 1 (oL21 r0 tb) [(.ref r0)]) := fun t k => k0 t (XS.aloadN X0.here hx rfl (hb hby d22_0) rfl rfl k)
  obtain ⟨cq2, kcq2, q2a, q2b, q2c⟩ := isOf hZ e0 E_r0
  obtain ⟨_, _, ⟨T2, L2, kq2, n2⟩, -, X2, ⟨Lc2, hQ2, l2, y2, z2⟩, st2⟩ := X0.virtualBack hx (y := mN2) (z := mN2) hown (mw hZ hw 118 rfl) (mw hZ hw 119 rfl) (notFace_of_selects (args := #[]) (mw hZ hw 121 rfl)) (mw hZ hw 121 rfl) (mw hZ hw 120 rfl) (by decide) (backOf (W := 0) (rm18 l Z a0 hw [] r0 G1 h0 n0 Z0 F_coder_r0 S_CS P5 X00) hZ (ww hw 122 rfl) (ww hw 4 rfl) (by decide) (by decide)) q2a q2c (g := gK k1) rfl (by rw [hml]; rfl) (Steps.refl _) (argsL := []) (rest := []) (lenOf pd_1 rfl) rfl (by show 2 * 0 + _ ≤ _; exact Nat.le_of_eq rfl) (hb hby d22_1) (fun _ _ => ⟨rfl, e0, (by decide : 0 + 0 ≤ _), (by decide : 0 + 0 ≤ _)⟩)
  dsimp only [Pt.U, Pt.locs, Pt.cells, Pt.slots] at X2 l2 y2 z2 st2 hQ2
  replace l2 := l2.symm; subst l2 y2 z2
  obtain ⟨rfl, N2q, e2⟩ := hQ2
  have N2 := Fr.app N0 N2q
  have hc5 : (0 : Int32) = (0 : Int32) := by decide
  have k4 : Kq X0 4 T2 (mkF m 9 (oL21 r0 tb) [(.ref r0)]) := fun t k => k1 t (st2.trans (XS.iloadN X2.here hx rfl (hb hby d22_4) rfl (XS.icmpNo X2.here hx rfl (hb hby d22_5) rfl (teq hc5).2 (XS.aloadN X2.here hx rfl (hb hby d22_8) rfl rfl k))))
  obtain ⟨T5, X5, e5, st5⟩ := getF X2 hx hZ hown (host := "") (Or.inl (ww hw 82 rfl)) Via.refl e2 F_value_r0 (g := gK k4) rfl rfl (hb hby d22_9)
  have k7 : Kq X0 4 T5 (mkF m 18 (oL21 r0 tb) [(.ref r0), (.int (8 : Int32)), (.ref tb), (.int (0 : Int32)), (.ref tr)]) := fun t k => k4 t (st5 _ (XS.iconst X5.here hx rfl (hb hby d22_12) (XS.aloadN X5.here hx rfl (hb hby d22_13) rfl rfl (XS.iloadN X5.here hx rfl (hb hby d22_14) rfl (XS.iloadN X5.here hx rfl (hb hby d22_15) rfl (XS.ishl X5.here hx rfl (hb hby d22_16) rfl (XS.aloadN X5.here hx rfl (hb hby d22_17) rfl rfl k)))))))
  obtain ⟨T8, X8, e8, st8⟩ := getF X5 hx hZ hown (host := "") (Or.inl (ww hw 82 rfl)) Via.refl e5 F_value_r0 (g := gK k7) rfl rfl (hb hby d22_18)
  have k9 : Kq X0 4 T8 (mkF m 21 (oL21 r0 tb) [(.ref tr), (.int (8 : Int32)), (.ref tb), (.int (0 : Int32)), (.ref tr)]) := fun t k => k7 t (st8 _ k)
  obtain ⟨cl10, Ar10, q10, S10, N10_, H10, G10⟩ := (id V_tr)
  have S10' : cl10.slots.size = 2 := S10
  have L10 : (cl10.slots.size).toInt32 = (2 : Int32) := by rw [S10']; rfl
  have k11 : Kq X0 4 T8 (mkF m 22 (oL21 r0 tb) [(.int (2 : Int32)), (.int (8 : Int32)), (.ref tb), (.int (0 : Int32)), (.ref tr)]) := fun t k => k9 t (by
      refine X8.arraylength hx (by rw [e8]; exact Ar10.1) (State.isArrayOf_alike hZ.alike Ar10.2.1) (g := (mkF m 21 (oL21 r0 tb) [(.ref tr), (.int (8 : Int32)), (.ref tb), (.int (0 : Int32)), (.ref tr)])) rfl rfl (hb hby d22_21) _ ?_
      rw [L10]
      exact k)
  obtain ⟨T13, h13, L13, X13, e13, N13, K13, V13, st13⟩ := cpA X8 hx hZ hown (ww hw 146 rfl) (ww hw 149 rfl) (ww hw 147 rfl) (ww hw 148 rfl) e8 V_tr V_tb (us := us) (sp := (0 : Int32)) (dp := (8 : Int32)) (nn := (2 : Int32)) (Or.inl ⟨rfl, rfl⟩) (by decide) (by decide) (by decide) (by decide) (by decide) (own_us hlu) (by rw [hlv]; decide) N2 g_tb (g := gK k11) rfl (by rw [hml]; rfl) rfl (hb hby d22_22) (by decide) (W := 0) (by show 2 * 0 + _ ≤ _; exact Nat.le_of_eq rfl) (by decide)
  have Vc13 : Arv Z h13 tb kb .byte (16 : Int32) (own_ins vd us 8 2) (.int (0 : Int32)) := V13
  have k15 : Kq X0 4 T13 (mkF m 43 (oL21 r0 tb) []) := fun t k => k11 t (st13 _ (XS.goto X13.here hx rfl (pc0 := 25) (pc' := 43) rfl (hb hby d22_25) (by decide) (by decide) k))
  obtain ⟨fs, hr, hrun, hended, hW, hsame⟩ := X13.leave (v := none) (fun _ => rfl)
  refine ⟨_, _, k15 _ ?_, hrun, hended, _, _, rfl, ?_, ⟨_, rfl⟩, hW, hsame.mono (by decide) (by decide)⟩
  · exact X13.returnOut hx Bd.returns (hb hby d22_43) hr
  · show Q22g_8_2_16 Z r0 tb tr kr us kb vd G1 h0 n0 _ T13.heap _
    rw [e13]
    exact ⟨rfl, N13, ((Keep.refl h0 [tb]).trans K13 (allS (Or.inl (own_wi 0 rfl)) all0)), Vc13⟩
def Q20p_8_2_16 (Z : State) (r0 : Addr) (r2 : Addr) (tb : Addr) (kb : ClassId) (vd : List Value) (tr : Addr) (kr : ClassId) (us : List Value) (G1 : Int32) (h0 : Heap) (n0 : Nat) (v : Option Value) (h : Heap) (L : List Loc) : Prop := v = none ∧ Fr n0 L ∧ Keep h0 h [tb] ∧ Arv Z h tb kb .byte (16 : Int32) (own_ins vd us 8 2) (.int (0 : Int32))
def oL22 (r0 : Addr) (r2 : Addr) : Array Slot := #[.val (.ref r0), .val (.int (8 : Int32)), .val (.ref r2)]
theorem rm20p_8_2_16 (l : Launch) (Z : State) (a0 : Array Value) (hw : ∀ d ∈ tables_1, d.before a0 Z = true) (ws : List Jvm.Cond) (r0 : Addr) (r2 : Addr) (tb : Addr) (kb : ClassId) (vd : List Value) (tr : Addr) (kr : ClassId) (us : List Value) (G1 : Int32) (h0 : Heap) (n0 : Nat) (Z0 : n0 ≤ h0.size) (F_value_r0 : Fld Z h0 r0 "java/lang/AbstractStringBuilder" "value" "[B" (.ref tb)) (F_coder_r0 : Fld Z h0 r0 "java/lang/AbstractStringBuilder" "coder" "B" (.int (0 : Int32))) (F_count_r0 : Fld Z h0 r0 "java/lang/AbstractStringBuilder" "count" "I" (.int (8 : Int32))) (E_r0 : Exa Z h0 r0 "java/lang/StringBuilder") (g_r0 : n0 ≤ r0) (V_tb : Arv Z h0 tb kb .byte (16 : Int32) vd (.int (0 : Int32))) (hlv : vd.length = 16) (ne_r0_tb : r0 ≠ tb) (g_tb : n0 ≤ tb) (E_r2 : Exa Z h0 r2 "java/lang/String") (F_value_r2 : Fld Z h0 r2 "java/lang/String" "value" "[B" (.ref tr)) (F_coder_r2 : Fld Z h0 r2 "java/lang/String" "coder" "B" (.int (0 : Int32))) (V_tr : Arv Z h0 tr kr .byte (2 : Int32) us (.int (0 : Int32))) (hlu : us.length = 2) (S_CS : Sta Z Z.heap "java/lang/String" "COMPACT_STRINGS" "Z" (.int G1)) (P5 : ¬ (G1 = (0 : Int32))) (X00 : Old Z n0 h0) :
    MetFree l mN12 (head1 (Jvm.Cond.code mN12 jdk_68_method_73_code 3 none :: ws) oR9) (fun a U => a = #[(.ref r0), (.int (8 : Int32)), (.ref r2)] ∧ Z.Warmed39 U.vm ∧ U.heap = h0) (fun _ _ _ _ _ => True) (fun _ U o U' => ∃ v L, o = .returned v ∧ Q20p_8_2_16 Z r0 r2 tb kb vd tr kr us G1 h0 n0 v U'.heap L ∧ FrameEnd U o U' L oR9.cells oR9.slots) := by
  refine MetFree.of_bodySF (plainFor_of_name pn_0) hisR ?_
  intro p e s m args below meth c s₁ Bd hml0 hP hK
  obtain ⟨rfl, hZ, hh⟩ := hP
  have hx := Bd.exec
  have hby := Bd.bytes
  have hml : c.maxLocals = 3 := hml0
  have hown : s.vm.findClass "java/lang/AbstractStringBuilder" = some m.cls := findClass_of_methodNamed Bd.named
  have X0 : Stand p l e oR9 s m #[(.ref r0), (.int (8 : Int32)), (.ref r2)] below meth c s₁ [] 0 0 := Stand.of_body Bd
  have e0 : s₁.heap = h0 := by rw [← hh, Bd.state]; rfl
  have N0 := Fr.nil n0
  have k0 : Kq X0 3 s₁ (mkF m 0 (oL22 r0 r2) []) := fun t k => castTop (ef_20p_0_8_16 m r0 (8 : Int32) r2) k
  have k1 : Kq X0 3 s₁ (mkF m 2 (oL22 r0 r2) [(.ref r2), (.ref r0)]) := fun t k => k0 t (XS.aloadN X0.here hx rfl (hb hby d20_0) rfl rfl (XS.aloadN X0.here hx rfl (hb hby d20_1) rfl rfl k))
  obtain ⟨cq2, kcq2, q2a, q2b, q2c⟩ := isOf hZ e0 E_r0
  obtain ⟨cc2, qc2_1, -, qc2_2⟩ := q2c
  obtain ⟨_, _, ⟨T2, L2, kq2, n2⟩, -, X2, ⟨Lc2, hQ2, l2, y2, z2⟩, st2⟩ := X0.privateBack hx (y := mN4) hown (mw hZ hw 135 rfl) (mw hZ hw 136 rfl) (own_selp (y := mN4) (mw hZ hw 138 rfl) (Cond.privateMethod_at (args := #[]) (mvP hZ (ww hw 137 rfl))) (mw hZ hw 136 rfl) ⟨by decide, by decide⟩) (Cond.privateMethod_at (args := #[]) (mvP hZ (ww hw 137 rfl))) (mw hZ hw 139 rfl) ⟨by decide, by decide⟩ (backOf (W := 0) (rm21 l Z a0 hw [] r0 r2 G1 h0 n0 Z0 F_coder_r0 F_coder_r2 E_r2 S_CS P5 X00) hZ (ww hw 139 rfl) (ww hw 94 rfl) (by decide) (by decide)) (g := gK k1) rfl (by rw [hml]; rfl) (Steps.refl _) qc2_1 (fun q h => by rw [h] at qc2_2; cases qc2_2) (argsL := [(.ref r2)]) (rest := []) (lenOf pd_6 rfl) rfl (by show 2 * 0 + _ ≤ _; exact Nat.le_of_eq rfl) (hb hby d20_2) (fun _ _ => ⟨rfl, e0, (by decide : 0 + 0 ≤ _), (by decide : 0 + 0 ≤ _)⟩)
  dsimp only [Pt.U, Pt.locs, Pt.cells, Pt.slots] at X2 l2 y2 z2 st2 hQ2
  replace l2 := l2.symm; subst l2 y2 z2
  obtain ⟨rfl, N2q, e2⟩ := hQ2
  have N2 := Fr.app N0 N2q
  have k4 : Kq X0 3 T2 (mkF m 7 (oL22 r0 r2) [(.ref r0), (.ref r2)]) := fun t k => k1 t (st2.trans (XS.aloadN X2.here hx rfl (hb hby d20_5) rfl rfl (XS.aloadN X2.here hx rfl (hb hby d20_6) rfl rfl k)))
  obtain ⟨T5, X5, e5, st5⟩ := getF X2 hx hZ hown (host := "") (Or.inl (ww hw 98 rfl)) Via.refl e2 F_value_r0 (g := gK k4) rfl rfl (hb hby d20_7)
  have k7 : Kq X0 3 T5 (mkF m 12 (oL22 r0 r2) [(.ref r0), (.int (8 : Int32)), (.ref tb), (.ref r2)]) := fun t k => k4 t (st5 _ (XS.iloadN X5.here hx rfl (hb hby d20_10) rfl (XS.aloadN X5.here hx rfl (hb hby d20_11) rfl rfl k)))
  obtain ⟨T8, X8, e8, st8⟩ := getF X5 hx hZ hown (host := "") (Or.inl (ww hw 100 rfl)) Via.refl e5 F_coder_r0 (g := gK k7) rfl rfl (hb hby d20_12)
  have k9 : Kq X0 3 T8 (mkF m 15 (oL22 r0 r2) [(.int (0 : Int32)), (.int (8 : Int32)), (.ref tb), (.ref r2)]) := fun t k => k7 t (st8 _ k)
  obtain ⟨cq10, kcq10, q10a, q10b, q10c⟩ := isOf hZ e8 E_r2
  obtain ⟨_, _, ⟨T10, L10, kq10, n10⟩, -, X10, ⟨Lc10, hQ10, l10, y10, z10⟩, st10⟩ := X8.virtualBack hx (y := mN11) (z := mN11) hown (mw hZ hw 141 rfl) (mw hZ hw 142 rfl) (notFace_of_selects (args := #[]) (mw hZ hw 144 rfl)) (mw hZ hw 144 rfl) (mw hZ hw 143 rfl) (by decide) (backOf (W := 0) (rm22g_8_2_16 l Z a0 hw [] r2 tb tr kr us kb vd G1 h0 n0 Z0 E_r2 F_value_r2 F_coder_r2 V_tr V_tb hlv hlu g_tb S_CS P5 X00) hZ (ww hw 145 rfl) (ww hw 4 rfl) (by decide) (by decide)) q10a q10c (g := gK k9) rfl (by rw [hml]; rfl) (Steps.refl _) (argsL := [(.ref tb), (.int (8 : Int32)), (.int (0 : Int32))]) (rest := []) (lenOf pd_7 rfl) rfl (by show 2 * 0 + _ ≤ _; exact Nat.le_of_eq rfl) (hb hby d20_15) (fun _ _ => ⟨rfl, e8, (by decide : 0 + 0 ≤ _), (by decide : 0 + 0 ≤ _)⟩)
  dsimp only [Pt.U, Pt.locs, Pt.cells, Pt.slots] at X10 l10 y10 z10 st10 hQ10
  replace l10 := l10.symm; subst l10 y10 z10
  obtain ⟨rfl, N10q, K10, Vp10⟩ := hQ10
  have N10 := Fr.app N2 N10q
  have k11 : Kq X0 3 T10 (mkF m 18 (oL22 r0 r2) []) := fun t k => k9 t (st10.trans k)
  obtain ⟨fs, hr, hrun, hended, hW, hsame⟩ := X10.leave (v := none) (fun _ => rfl)
  refine ⟨_, _, k11 _ ?_, hrun, hended, _, _, rfl, ?_, ⟨_, rfl⟩, hW, hsame.mono (by decide) (by decide)⟩
  · exact X10.returnOut hx Bd.returns (hb hby d20_18) hr
  · show Q20p_8_2_16 Z r0 r2 tb kb vd tr kr us G1 h0 n0 _ T10.heap _
    exact ⟨rfl, N10, ((Keep.refl h0 [tb]).trans K10 (allS (Or.inl (own_wi 0 rfl)) all0)), Vp10⟩
def Q19e_8_2_16 (Z : State) (r0 : Addr) (tb : Addr) (kb : ClassId) (vd : List Value) (h0 : Heap) (n0 : Nat) (v : Option Value) (h : Heap) (L : List Loc) : Prop := v = none ∧ Fr n0 L ∧ h = h0
def oL23 (r0 : Addr) : Array Slot := #[.val (.ref r0), .val (.int (10 : Int32)), .unset]
def oL24 (r0 : Addr) : Array Slot := #[.val (.ref r0), .val (.int (10 : Int32)), .val (.int (16 : Int32))]
theorem rm19e_8_2_16 (l : Launch) (Z : State) (a0 : Array Value) (hw : ∀ d ∈ tables_1, d.before a0 Z = true) (ws : List Jvm.Cond) (r0 : Addr) (tb : Addr) (kb : ClassId) (vd : List Value) (h0 : Heap) (n0 : Nat) (Z0 : n0 ≤ h0.size) (F_value_r0 : Fld Z h0 r0 "java/lang/AbstractStringBuilder" "value" "[B" (.ref tb)) (F_coder_r0 : Fld Z h0 r0 "java/lang/AbstractStringBuilder" "coder" "B" (.int (0 : Int32))) (V_tb : Arv Z h0 tb kb .byte (16 : Int32) vd (.int (0 : Int32))) :
    MetFree l mN10 (head1 (Jvm.Cond.code mN10 jdk_68_method_9_code 3 none :: ws) oR2) (fun a U => a = #[(.ref r0), (.int (10 : Int32))] ∧ Z.Warmed39 U.vm ∧ U.heap = h0) (fun _ _ _ _ _ => True) (fun _ U o U' => ∃ v L, o = .returned v ∧ Q19e_8_2_16 Z r0 tb kb vd h0 n0 v U'.heap L ∧ FrameEnd U o U' L oR2.cells oR2.slots) := by
  refine MetFree.of_bodySF (plainFor_of_name pn_0) hisR ?_
  intro p e s m args below meth c s₁ Bd hml0 hP hK
  obtain ⟨rfl, hZ, hh⟩ := hP
  have hx := Bd.exec
  have hby := Bd.bytes
  have hml : c.maxLocals = 3 := hml0
  have hown : s.vm.findClass "java/lang/AbstractStringBuilder" = some m.cls := findClass_of_methodNamed Bd.named
  have X0 : Stand p l e oR2 s m #[(.ref r0), (.int (10 : Int32))] below meth c s₁ [] 0 0 := Stand.of_body Bd
  have e0 : s₁.heap = h0 := by rw [← hh, Bd.state]; rfl
  have N0 := Fr.nil n0
  have k0 : Kq X0 3 s₁ (mkF m 0 (oL23 r0) []) := fun t k => castTop (ef_39 m r0 (10 : Int32)) k
  have k1 : Kq X0 3 s₁ (mkF m 1 (oL23 r0) [(.ref r0)]) := fun t k => k0 t (XS.aloadN X0.here hx rfl (hb hby d19_0) rfl rfl k)
  obtain ⟨T2, X2, e2, st2⟩ := getF X0 hx hZ hown (host := "") (Or.inl (ww hw 98 rfl)) Via.refl e0 F_value_r0 (g := gK k1) rfl rfl (hb hby d19_1)
  have k3 : Kq X0 3 T2 (mkF m 4 (oL23 r0) [(.ref tb)]) := fun t k => k1 t (st2 _ k)
  obtain ⟨cl4, Ar4, q4, S4, N4_, H4, G4⟩ := (id V_tb)
  have S4' : cl4.slots.size = 16 := S4
  have L4 : (cl4.slots.size).toInt32 = (16 : Int32) := by rw [S4']; rfl
  have k5 : Kq X0 3 T2 (mkF m 6 (oL23 r0) [(.ref r0), (.int (16 : Int32))]) := fun t k => k3 t (by
      refine X2.arraylength hx (by rw [e2]; exact Ar4.1) (State.isArrayOf_alike hZ.alike Ar4.2.1) (g := (mkF m 4 (oL23 r0) [(.ref tb)])) rfl rfl (hb hby d19_4) _ ?_
      rw [L4]
      show Sg X0 T2 5 (oL23 r0) [(.int (16 : Int32))] _
      refine XS.aloadN X2.here hx rfl (hb hby d19_5) rfl rfl ?_
      exact k)
  obtain ⟨T6, X6, e6, st6⟩ := getF X2 hx hZ hown (host := "") (Or.inl (ww hw 100 rfl)) Via.refl e2 F_coder_r0 (g := gK k5) rfl rfl (hb hby d19_6)
  have hc14 : ¬ ((0 : Int32) < (-6 : Int32)) := by decide
  have k8 : Kq X0 3 T6 (mkF m 38 (oL24 r0) []) := fun t k => k5 t (st6 _ (XS.ishr X6.here hx rfl (hb hby d19_9) rfl (XS.istoreN X6.here hx rfl (hb hby d19_10) rfl (l' := (oL24 r0)) rfl (XS.iloadN X6.here hx rfl (hb hby d19_11) rfl (XS.iloadN X6.here hx rfl (hb hby d19_12) rfl (XS.isub X6.here hx rfl (hb hby d19_13) rfl (XS.ifYes X6.here hx rfl (pc0 := 14) (pc' := 38) rfl (hb hby d19_14) rfl ((if0 _ _).trans (flt hc14).2.2.2) (by decide) (by decide) k)))))))
  obtain ⟨fs, hr, hrun, hended, hW, hsame⟩ := X6.leave (v := none) (fun _ => rfl)
  refine ⟨_, _, k8 _ ?_, hrun, hended, _, _, rfl, ?_, ⟨_, rfl⟩, hW, hsame.mono (by decide) (by decide)⟩
  · exact X6.returnOut hx Bd.returns (hb hby d19_38) hr
  · show Q19e_8_2_16 Z r0 tb kb vd h0 n0 _ T6.heap _
    rw [e6]
    exact ⟨rfl, N0, rfl⟩
def Q16a_8_2_16 (Z : State) (r0 : Addr) (r1 : Addr) (tb : Addr) (kb : ClassId) (vd : List Value) (tr : Addr) (kr : ClassId) (us : List Value) (G1 : Int32) (h0 : Heap) (n0 : Nat) (v : Option Value) (h : Heap) (L : List Loc) : Prop := v = some (.ref r0) ∧ Fr n0 L ∧ Keep h0 h [r0, tb] ∧ Fld Z h r0 "java/lang/AbstractStringBuilder" "value" "[B" (.ref tb) ∧ Fld Z h r0 "java/lang/AbstractStringBuilder" "coder" "B" (.int (0 : Int32)) ∧ Fld Z h r0 "java/lang/AbstractStringBuilder" "count" "I" (.int (10 : Int32)) ∧ Exa Z h r0 "java/lang/StringBuilder" ∧ Arv Z h tb kb .byte (16 : Int32) (own_ins vd us 8 2) (.int (0 : Int32))
def oL25 (r0 : Addr) (r1 : Addr) : Array Slot := #[.val (.ref r0), .val (.ref r1), .val (.int (2 : Int32))]
theorem rm16a_8_2_16 (l : Launch) (Z : State) (a0 : Array Value) (hw : ∀ d ∈ tables_1, d.before a0 Z = true) (ws : List Jvm.Cond) (r0 : Addr) (r1 : Addr) (tb : Addr) (kb : ClassId) (vd : List Value) (tr : Addr) (kr : ClassId) (us : List Value) (G1 : Int32) (h0 : Heap) (n0 : Nat) (Z0 : n0 ≤ h0.size) (F_value_r0 : Fld Z h0 r0 "java/lang/AbstractStringBuilder" "value" "[B" (.ref tb)) (F_coder_r0 : Fld Z h0 r0 "java/lang/AbstractStringBuilder" "coder" "B" (.int (0 : Int32))) (F_count_r0 : Fld Z h0 r0 "java/lang/AbstractStringBuilder" "count" "I" (.int (8 : Int32))) (E_r0 : Exa Z h0 r0 "java/lang/StringBuilder") (g_r0 : n0 ≤ r0) (V_tb : Arv Z h0 tb kb .byte (16 : Int32) vd (.int (0 : Int32))) (hlv : vd.length = 16) (ne_r0_tb : r0 ≠ tb) (g_tb : n0 ≤ tb) (E_r1 : Exa Z h0 r1 "java/lang/String") (F_value_r1 : Fld Z h0 r1 "java/lang/String" "value" "[B" (.ref tr)) (F_coder_r1 : Fld Z h0 r1 "java/lang/String" "coder" "B" (.int (0 : Int32))) (V_tr : Arv Z h0 tr kr .byte (2 : Int32) us (.int (0 : Int32))) (hlu : us.length = 2) (ne_r1_r0 : r1 ≠ r0) (ne_tr_r0 : tr ≠ r0) (S_CS : Sta Z Z.heap "java/lang/String" "COMPACT_STRINGS" "Z" (.int G1)) (P5 : ¬ (G1 = (0 : Int32))) (X00 : Old Z n0 h0) :
    MetFree l mN13 (head1 (Jvm.Cond.code mN13 jdk_68_method_22_code 3 (some (.object "java/lang/AbstractStringBuilder")) :: ws) oR10) (fun a U => a = #[(.ref r0), (.ref r1)] ∧ Z.Warmed39 U.vm ∧ U.heap = h0) (fun _ _ _ _ _ => True) (fun _ U o U' => ∃ v L, o = .returned v ∧ Q16a_8_2_16 Z r0 r1 tb kb vd tr kr us G1 h0 n0 v U'.heap L ∧ FrameEnd U o U' L oR10.cells oR10.slots) := by
  refine MetFree.of_bodySF (plainFor_of_name pn_0) hisR ?_
  intro p e s m args below meth c s₁ Bd hml0 hP hK
  obtain ⟨rfl, hZ, hh⟩ := hP
  have hx := Bd.exec
  have hby := Bd.bytes
  have hml : c.maxLocals = 3 := hml0
  have hown : s.vm.findClass "java/lang/AbstractStringBuilder" = some m.cls := findClass_of_methodNamed Bd.named
  have X0 : Stand p l e oR10 s m #[(.ref r0), (.ref r1)] below meth c s₁ [] 0 0 := Stand.of_body Bd
  have e0 : s₁.heap = h0 := by rw [← hh, Bd.state]; rfl
  have N0 := Fr.nil n0
  have k0 : Kq X0 3 s₁ (mkF m 0 (oL19 r0 r1) []) := fun t k => castTop (ef_16a_0_8_16 m r0 r1) k
  have k1 : Kq X0 3 s₁ (mkF m 10 (oL19 r0 r1) [(.ref r1)]) := fun t k => k0 t (XS.aloadN X0.here hx rfl (hb hby d16_0) rfl rfl (XS.ifnonnullYes X0.here hx rfl (pc0 := 1) (pc' := 9) rfl (hb hby d16_1) rfl (by decide) (by decide) (XS.aloadN X0.here hx rfl (hb hby d16_9) rfl rfl k)))
  obtain ⟨cq2, kcq2, q2a, q2b, q2c⟩ := isOf hZ e0 E_r1
  obtain ⟨_, _, ⟨T2, L2, kq2, n2⟩, -, X2, ⟨Lc2, hQ2, l2, y2, z2⟩, st2⟩ := X0.virtualBack hx (y := mN3) (z := mN3) hown (mw hZ hw 113 rfl) (mw hZ hw 114 rfl) (notFace_of_selects (args := #[]) (mw hZ hw 116 rfl)) (mw hZ hw 116 rfl) (mw hZ hw 115 rfl) (by decide) (backOf (W := 0) (rm17n2 l Z a0 hw [] r1 tr kr us G1 h0 n0 Z0 E_r1 F_value_r1 F_coder_r1 V_tr S_CS P5 X00) hZ (ww hw 117 rfl) (ww hw 4 rfl) (by decide) (by decide)) q2a q2c (g := gK k1) rfl (by rw [hml]; rfl) (Steps.refl _) (argsL := []) (rest := []) (lenOf pd_8 rfl) rfl (by show 2 * 0 + _ ≤ _; exact Nat.le_of_eq rfl) (hb hby d16_10) (fun _ _ => ⟨rfl, e0, (by decide : 0 + 0 ≤ _), (by decide : 0 + 0 ≤ _)⟩)
  dsimp only [Pt.U, Pt.locs, Pt.cells, Pt.slots] at X2 l2 y2 z2 st2 hQ2
  replace l2 := l2.symm; subst l2 y2 z2
  obtain ⟨rfl, N2q, e2⟩ := hQ2
  have N2 := Fr.app N0 N2q
  have k4 : Kq X0 3 T2 (mkF m 16 (oL25 r0 r1) [(.ref r0), (.ref r0)]) := fun t k => k1 t (st2.trans (XS.istoreN X2.here hx rfl (hb hby d16_13) rfl (l' := (oL25 r0 r1)) rfl (XS.aloadN X2.here hx rfl (hb hby d16_14) rfl rfl (XS.aloadN X2.here hx rfl (hb hby d16_15) rfl rfl k))))
  obtain ⟨T5, X5, e5, st5⟩ := getF X2 hx hZ hown (host := "") (Or.inl (ww hw 123 rfl)) Via.refl e2 F_count_r0 (g := gK k4) rfl rfl (hb hby d16_16)
  have k7 : Kq X0 3 T5 (mkF m 21 (oL25 r0 r1) [(.int (10 : Int32)), (.ref r0)]) := fun t k => k4 t (st5 _ (XS.iloadN X5.here hx rfl (hb hby d16_19) rfl (XS.iadd X5.here hx rfl (hb hby d16_20) rfl k)))
  obtain ⟨cq8, kcq8, q8a, q8b, q8c⟩ := isOf hZ e5 E_r0
  obtain ⟨cc8, qc8_1, -, qc8_2⟩ := q8c
  obtain ⟨_, _, ⟨T8, L8, kq8, n8⟩, -, X8, ⟨Lc8, hQ8, l8, y8, z8⟩, st8⟩ := X5.privateBack hx (y := mN10) hown (mw hZ hw 125 rfl) (mw hZ hw 126 rfl) (own_selp (y := mN10) (mw hZ hw 128 rfl) (Cond.privateMethod_at (args := #[]) (mvP hZ (ww hw 127 rfl))) (mw hZ hw 126 rfl) ⟨by decide, by decide⟩) (Cond.privateMethod_at (args := #[]) (mvP hZ (ww hw 127 rfl))) (mw hZ hw 129 rfl) ⟨by decide, by decide⟩ (backOf (W := 0) (rm19e_8_2_16 l Z a0 hw [] r0 tb kb vd h0 n0 Z0 F_value_r0 F_coder_r0 V_tb) hZ (ww hw 129 rfl) (ww hw 94 rfl) (by decide) (by decide)) (g := gK k7) rfl (by rw [hml]; rfl) (Steps.refl _) qc8_1 (fun q h => by rw [h] at qc8_2; cases qc8_2) (argsL := [(.int (10 : Int32))]) (rest := []) (lenOf pd_0 rfl) rfl (by show 2 * 0 + _ ≤ _; exact Nat.le_of_eq rfl) (hb hby d16_21) (fun _ _ => ⟨rfl, e5, (by decide : 0 + 0 ≤ _), (by decide : 0 + 0 ≤ _)⟩)
  dsimp only [Pt.U, Pt.locs, Pt.cells, Pt.slots] at X8 l8 y8 z8 st8 hQ8
  replace l8 := l8.symm; subst l8 y8 z8
  obtain ⟨rfl, N8q, e8⟩ := hQ8
  have N8 := Fr.app N2 N8q
  have k10 : Kq X0 3 T8 (mkF m 26 (oL25 r0 r1) [(.ref r0), (.ref r0)]) := fun t k => k7 t (st8.trans (XS.aloadN X8.here hx rfl (hb hby d16_24) rfl rfl (XS.aloadN X8.here hx rfl (hb hby d16_25) rfl rfl k)))
  obtain ⟨T11, X11, e11, st11⟩ := getF X8 hx hZ hown (host := "") (Or.inl (ww hw 123 rfl)) Via.refl e8 F_count_r0 (g := gK k10) rfl rfl (hb hby d16_26)
  have k13 : Kq X0 3 T11 (mkF m 30 (oL25 r0 r1) [(.ref r1), (.int (8 : Int32)), (.ref r0)]) := fun t k => k10 t (st11 _ (XS.aloadN X11.here hx rfl (hb hby d16_29) rfl rfl k))
  obtain ⟨cq14, kcq14, q14a, q14b, q14c⟩ := isOf hZ e11 E_r0
  obtain ⟨cc14, qc14_1, -, qc14_2⟩ := q14c
  obtain ⟨_, _, ⟨T14, L14, kq14, n14⟩, -, X14, ⟨Lc14, hQ14, l14, y14, z14⟩, st14⟩ := X11.privateBack hx (y := mN12) hown (mw hZ hw 130 rfl) (mw hZ hw 131 rfl) (own_selp (y := mN12) (mw hZ hw 133 rfl) (Cond.privateMethod_at (args := #[]) (mvP hZ (ww hw 132 rfl))) (mw hZ hw 131 rfl) ⟨by decide, by decide⟩) (Cond.privateMethod_at (args := #[]) (mvP hZ (ww hw 132 rfl))) (mw hZ hw 134 rfl) ⟨by decide, by decide⟩ (backOf (W := 0) (rm20p_8_2_16 l Z a0 hw [] r0 r1 tb kb vd tr kr us G1 h0 n0 Z0 F_value_r0 F_coder_r0 F_count_r0 E_r0 g_r0 V_tb hlv ne_r0_tb g_tb E_r1 F_value_r1 F_coder_r1 V_tr hlu S_CS P5 X00) hZ (ww hw 134 rfl) (ww hw 94 rfl) (by decide) (by decide)) (g := gK k13) rfl (by rw [hml]; rfl) (Steps.refl _) qc14_1 (fun q h => by rw [h] at qc14_2; cases qc14_2) (argsL := [(.int (8 : Int32)), (.ref r1)]) (rest := []) (lenOf pd_9 rfl) rfl (by show 2 * 0 + _ ≤ _; exact Nat.le_of_eq rfl) (hb hby d16_30) (fun _ _ => ⟨rfl, e11, (by decide : 0 + 0 ≤ _), (by decide : 0 + 0 ≤ _)⟩)
  dsimp only [Pt.U, Pt.locs, Pt.cells, Pt.slots] at X14 l14 y14 z14 st14 hQ14
  replace l14 := l14.symm; subst l14 y14 z14
  obtain ⟨rfl, N14q, K14, Vp14⟩ := hQ14
  have N14 := Fr.app N8 N14q
  have k16 : Kq X0 3 T14 (mkF m 35 (oL25 r0 r1) [(.ref r0), (.ref r0)]) := fun t k => k13 t (st14.trans (XS.aloadN X14.here hx rfl (hb hby d16_33) rfl rfl (XS.dup X14.here hx rfl (hb hby d16_34) rfl rfl k)))
  obtain ⟨T17, X17, e17, st17⟩ := getF X14 hx hZ hown (host := "") (Or.inl (ww hw 123 rfl)) Via.refl rfl (F_count_r0.keep K14 (ninS ne_r0_tb nin0)) (g := gK k16) rfl rfl (hb hby d16_35)
  have k19 : Kq X0 3 T17 (mkF m 40 (oL25 r0 r1) [(.int (10 : Int32)), (.ref r0)]) := fun t k => k16 t (st17 _ (XS.iloadN X17.here hx rfl (hb hby d16_38) rfl (XS.iadd X17.here hx rfl (hb hby d16_39) rfl k)))
  obtain ⟨T20, h20, X20, e20, W20, st20⟩ := putF X17 hx hZ hown (host := "") (Or.inl (ww hw 123 rfl)) Via.refl e17 (F_count_r0.keep K14 (ninS ne_r0_tb nin0)) (E_r0.keep K14) (Or.inl (ww hw 124 rfl)) (ww hw 85 rfl) (ty := .int) (by decide) rfl rfl (g := gK k19) rfl rfl (hb hby d16_40)
  have fc21 := ((F_value_r0.keep K14 (ninS ne_r0_tb nin0)).other W20 (Or.inr (slot_ne (Or.inl (ww hw 99 rfl)) (Or.inl (ww hw 124 rfl)) (by decide) (t := (.array .byte)) (t' := .int) (by decide) (by decide))))
  have fc22 := ((F_coder_r0.keep K14 (ninS ne_r0_tb nin0)).other W20 (Or.inr (slot_ne (Or.inl (ww hw 101 rfl)) (Or.inl (ww hw 124 rfl)) (by decide) (t := .byte) (t' := .int) (by decide) (by decide))))
  have N20 := Fr.snoc X20 N14 g_r0
  have k24 : Kq X0 3 T20 (mkF m 44 (oL25 r0 r1) [(.ref r0)]) := fun t k => k19 t (st20 _ (XS.aloadN X20.here hx rfl (hb hby d16_43) rfl rfl k))
  obtain ⟨fs, hr, hrun, hended, hW, hsame⟩ := X20.leave (v := (some (.ref r0))) (fun h => by rw [Bd.returns] at h; cases h)
  refine ⟨_, _, k24 _ ?_, hrun, hended, _, _, rfl, ?_, ⟨_, rfl⟩, hW, hsame.mono (by decide) (by decide)⟩
  · exact retOut X20 hx Bd.returns rfl (Or.inr (Or.inr (Or.inr (Or.inr ⟨rfl, rfl, rfl⟩)))) (hb hby d16_44) hr
  · show Q16a_8_2_16 Z r0 r1 tb kb vd tr kr us G1 h0 n0 _ T20.heap _
    rw [e20]
    exact ⟨rfl, N20, (((Keep.refl h0 [r0, tb]).trans K14 (allS (Or.inl (own_wi 1 rfl)) all0)).wr W20 (Or.inl (own_wi 0 rfl))), fc21, fc22, ((F_count_r0.keep K14 (ninS ne_r0_tb nin0)).same W20), ((E_r0.keep K14).wr W20), (Vp14.other W20 ne_r0_tb.symm)⟩
def Q15a_8_2_16 (Z : State) (r0 : Addr) (r1 : Addr) (tb : Addr) (kb : ClassId) (vd : List Value) (tr : Addr) (kr : ClassId) (us : List Value) (G1 : Int32) (h0 : Heap) (n0 : Nat) (v : Option Value) (h : Heap) (L : List Loc) : Prop := v = some (.ref r0) ∧ Fr n0 L ∧ Keep h0 h [r0, tb] ∧ Fld Z h r0 "java/lang/AbstractStringBuilder" "value" "[B" (.ref tb) ∧ Fld Z h r0 "java/lang/AbstractStringBuilder" "coder" "B" (.int (0 : Int32)) ∧ Fld Z h r0 "java/lang/AbstractStringBuilder" "count" "I" (.int (10 : Int32)) ∧ Exa Z h r0 "java/lang/StringBuilder" ∧ Arv Z h tb kb .byte (16 : Int32) (own_ins vd us 8 2) (.int (0 : Int32))
theorem rm15a_8_2_16 (l : Launch) (Z : State) (a0 : Array Value) (hw : ∀ d ∈ tables_1, d.before a0 Z = true) (ws : List Jvm.Cond) (r0 : Addr) (r1 : Addr) (tb : Addr) (kb : ClassId) (vd : List Value) (tr : Addr) (kr : ClassId) (us : List Value) (G1 : Int32) (h0 : Heap) (n0 : Nat) (Z0 : n0 ≤ h0.size) (F_value_r0 : Fld Z h0 r0 "java/lang/AbstractStringBuilder" "value" "[B" (.ref tb)) (F_coder_r0 : Fld Z h0 r0 "java/lang/AbstractStringBuilder" "coder" "B" (.int (0 : Int32))) (F_count_r0 : Fld Z h0 r0 "java/lang/AbstractStringBuilder" "count" "I" (.int (8 : Int32))) (E_r0 : Exa Z h0 r0 "java/lang/StringBuilder") (g_r0 : n0 ≤ r0) (V_tb : Arv Z h0 tb kb .byte (16 : Int32) vd (.int (0 : Int32))) (hlv : vd.length = 16) (ne_r0_tb : r0 ≠ tb) (g_tb : n0 ≤ tb) (E_r1 : Exa Z h0 r1 "java/lang/String") (F_value_r1 : Fld Z h0 r1 "java/lang/String" "value" "[B" (.ref tr)) (F_coder_r1 : Fld Z h0 r1 "java/lang/String" "coder" "B" (.int (0 : Int32))) (V_tr : Arv Z h0 tr kr .byte (2 : Int32) us (.int (0 : Int32))) (hlu : us.length = 2) (ne_r1_r0 : r1 ≠ r0) (ne_tr_r0 : tr ≠ r0) (S_CS : Sta Z Z.heap "java/lang/String" "COMPACT_STRINGS" "Z" (.int G1)) (P5 : ¬ (G1 = (0 : Int32))) (X00 : Old Z n0 h0) :
    MetFree l mN14 (head1 (Jvm.Cond.code mN14 jdk_67_method_7_code 2 (some (.object "java/lang/StringBuilder")) :: ws) oR11) (fun a U => a = #[(.ref r0), (.ref r1)] ∧ Z.Warmed39 U.vm ∧ U.heap = h0) (fun _ _ _ _ _ => True) (fun _ U o U' => ∃ v L, o = .returned v ∧ Q15a_8_2_16 Z r0 r1 tb kb vd tr kr us G1 h0 n0 v U'.heap L ∧ FrameEnd U o U' L oR11.cells oR11.slots) := by
  refine MetFree.of_bodySF (plainFor_of_name pn_1) hisR ?_
  intro p e s m args below meth c s₁ Bd hml0 hP hK
  obtain ⟨rfl, hZ, hh⟩ := hP
  have hx := Bd.exec
  have hby := Bd.bytes
  have hml : c.maxLocals = 2 := hml0
  have hown : s.vm.findClass "java/lang/StringBuilder" = some m.cls := findClass_of_methodNamed Bd.named
  have X0 : Stand p l e oR11 s m #[(.ref r0), (.ref r1)] below meth c s₁ [] 0 0 := Stand.of_body Bd
  have e0 : s₁.heap = h0 := by rw [← hh, Bd.state]; rfl
  have N0 := Fr.nil n0
  have k0 : Kq X0 2 s₁ (mkF m 0 (oL1 r0 r1) []) := fun t k => castTop (ef_21 m r0 r1) k
  have k1 : Kq X0 2 s₁ (mkF m 2 (oL1 r0 r1) [(.ref r1), (.ref r0)]) := fun t k => k0 t (XS.aloadN X0.here hx rfl (hb hby d15_0) rfl rfl (XS.aloadN X0.here hx rfl (hb hby d15_1) rfl rfl k))
  obtain ⟨_, _, ⟨T2, L2, kq2, n2⟩, -, X2, ⟨Lc2, hQ2, l2, y2, z2⟩, st2⟩ := superBack X0 hx hZ hown (ww hw 108 rfl) (own_same (y := mN13) (ww hw 128 rfl) rfl (ww hw 109 rfl) ⟨by decide, by decide⟩) (ww hw 109 rfl) (ww hw 110 rfl) (by decide) (backOf (W := 0) (rm16a_8_2_16 l Z a0 hw [] r0 r1 tb kb vd tr kr us G1 h0 n0 Z0 F_value_r0 F_coder_r0 F_count_r0 E_r0 g_r0 V_tb hlv ne_r0_tb g_tb E_r1 F_value_r1 F_coder_r1 V_tr hlu ne_r1_r0 ne_tr_r0 S_CS P5 X00) hZ (ww hw 112 rfl) (ww hw 94 rfl) (by decide) (by decide)) e0 (Ins.self E_r0) (g := gK k1) rfl (by rw [hml]; rfl) (ww hw 112 rfl) (argsL := [(.ref r1)]) (rest := []) (lenOf pd_10 rfl) rfl (by show 2 * 0 + _ ≤ _; exact Nat.le_of_eq rfl) (hb hby d15_2) (fun _ _ => ⟨rfl, e0, (by decide : 0 + 0 ≤ _), (by decide : 0 + 0 ≤ _)⟩)
  dsimp only [Pt.U, Pt.locs, Pt.cells, Pt.slots] at X2 l2 y2 z2 st2 hQ2
  replace l2 := l2.symm; subst l2 y2 z2
  obtain ⟨rfl, N2q, K2, Fx2_0, Fx2_1, Fx2_2, Ex2, Vp2⟩ := hQ2
  have N2 := Fr.app N0 N2q
  have k4 : Kq X0 2 T2 (mkF m 7 (oL1 r0 r1) [(.ref r0)]) := fun t k => k1 t (st2.trans (XS.pop X2.here hx rfl (hb hby d15_5) rfl rfl (XS.aloadN X2.here hx rfl (hb hby d15_6) rfl rfl k)))
  obtain ⟨fs, hr, hrun, hended, hW, hsame⟩ := X2.leave (v := (some (.ref r0))) (fun h => by rw [Bd.returns] at h; cases h)
  refine ⟨_, _, k4 _ ?_, hrun, hended, _, _, rfl, ?_, ⟨_, rfl⟩, hW, hsame.mono (by decide) (by decide)⟩
  · exact retOut X2 hx Bd.returns rfl (Or.inr (Or.inr (Or.inr (Or.inr ⟨rfl, rfl, rfl⟩)))) (hb hby d15_7) hr
  · show Q15a_8_2_16 Z r0 r1 tb kb vd tr kr us G1 h0 n0 _ T2.heap _
    exact ⟨rfl, N2, ((Keep.refl h0 [r0, tb]).trans K2 (allS (Or.inl (own_wi 0 rfl)) (allS (Or.inl (own_wi 1 rfl)) all0))), Fx2_0, Fx2_1, Fx2_2, Ex2, Vp2⟩
def Q22g_0_6_16 (Z : State) (r0 : Addr) (tb : Addr) (tr : Addr) (kr : ClassId) (us : List Value) (kb : ClassId) (vd : List Value) (G1 : Int32) (h0 : Heap) (n0 : Nat) (v : Option Value) (h : Heap) (L : List Loc) : Prop := v = none ∧ Fr n0 L ∧ Keep h0 h [tb] ∧ Arv Z h tb kb .byte (16 : Int32) (own_ins vd us 0 6) (.int (0 : Int32))
theorem rm22g_0_6_16 (l : Launch) (Z : State) (a0 : Array Value) (hw : ∀ d ∈ tables_1, d.before a0 Z = true) (ws : List Jvm.Cond) (r0 : Addr) (tb : Addr) (tr : Addr) (kr : ClassId) (us : List Value) (kb : ClassId) (vd : List Value) (G1 : Int32) (h0 : Heap) (n0 : Nat) (Z0 : n0 ≤ h0.size) (E_r0 : Exa Z h0 r0 "java/lang/String") (F_value_r0 : Fld Z h0 r0 "java/lang/String" "value" "[B" (.ref tr)) (F_coder_r0 : Fld Z h0 r0 "java/lang/String" "coder" "B" (.int (0 : Int32))) (V_tr : Arv Z h0 tr kr .byte (6 : Int32) us (.int (0 : Int32))) (V_tb : Arv Z h0 tb kb .byte (16 : Int32) vd (.int (0 : Int32))) (hlv : vd.length = 16) (hlu : us.length = 6) (g_tb : n0 ≤ tb) (S_CS : Sta Z Z.heap "java/lang/String" "COMPACT_STRINGS" "Z" (.int G1)) (P5 : ¬ (G1 = (0 : Int32))) (X00 : Old Z n0 h0) :
    MetFree l mN11 (head1 (Jvm.Cond.code mN11 jdk_42_method_147_code 4 none :: ws) oR8) (fun a U => a = #[(.ref r0), (.ref tb), (.int (0 : Int32)), (.int (0 : Int32))] ∧ Z.Warmed39 U.vm ∧ U.heap = h0) (fun _ _ _ _ _ => True) (fun _ U o U' => ∃ v L, o = .returned v ∧ Q22g_0_6_16 Z r0 tb tr kr us kb vd G1 h0 n0 v U'.heap L ∧ FrameEnd U o U' L oR8.cells oR8.slots) := by
  refine MetFree.of_bodySF (plainFor_of_name pn_2) hisR ?_
  intro p e s m args below meth c s₁ Bd hml0 hP hK
  obtain ⟨rfl, hZ, hh⟩ := hP
  have hx := Bd.exec
  have hby := Bd.bytes
  have hml : c.maxLocals = 4 := hml0
  have hown : s.vm.findClass "java/lang/String" = some m.cls := findClass_of_methodNamed Bd.named
  have X0 : Stand p l e oR8 s m #[(.ref r0), (.ref tb), (.int (0 : Int32)), (.int (0 : Int32))] below meth c s₁ [] 0 0 := Stand.of_body Bd
  have e0 : s₁.heap = h0 := by rw [← hh, Bd.state]; rfl
  have N0 := Fr.nil n0
  have k0 : Kq X0 4 s₁ (mkF m 0 (oL15 r0 tb) []) := fun t k => castTop (ef_22g_0_8_16 m r0 tb (0 : Int32) (0 : Int32)) k
  have k1 : Kq X0 4 s₁ (mkF m 1 (oL15 r0 tb) [(.ref r0)]) := fun t k => k0 t (XS.aloadN X0.here hx rfl (hb hby d22_0) rfl rfl k)
  obtain ⟨cq2, kcq2, q2a, q2b, q2c⟩ := isOf hZ e0 E_r0
  obtain ⟨_, _, ⟨T2, L2, kq2, n2⟩, -, X2, ⟨Lc2, hQ2, l2, y2, z2⟩, st2⟩ := X0.virtualBack hx (y := mN2) (z := mN2) hown (mw hZ hw 118 rfl) (mw hZ hw 119 rfl) (notFace_of_selects (args := #[]) (mw hZ hw 121 rfl)) (mw hZ hw 121 rfl) (mw hZ hw 120 rfl) (by decide) (backOf (W := 0) (rm18 l Z a0 hw [] r0 G1 h0 n0 Z0 F_coder_r0 S_CS P5 X00) hZ (ww hw 122 rfl) (ww hw 4 rfl) (by decide) (by decide)) q2a q2c (g := gK k1) rfl (by rw [hml]; rfl) (Steps.refl _) (argsL := []) (rest := []) (lenOf pd_1 rfl) rfl (by show 2 * 0 + _ ≤ _; exact Nat.le_of_eq rfl) (hb hby d22_1) (fun _ _ => ⟨rfl, e0, (by decide : 0 + 0 ≤ _), (by decide : 0 + 0 ≤ _)⟩)
  dsimp only [Pt.U, Pt.locs, Pt.cells, Pt.slots] at X2 l2 y2 z2 st2 hQ2
  replace l2 := l2.symm; subst l2 y2 z2
  obtain ⟨rfl, N2q, e2⟩ := hQ2
  have N2 := Fr.app N0 N2q
  have hc5 : (0 : Int32) = (0 : Int32) := by decide
  have k4 : Kq X0 4 T2 (mkF m 9 (oL15 r0 tb) [(.ref r0)]) := fun t k => k1 t (st2.trans (XS.iloadN X2.here hx rfl (hb hby d22_4) rfl (XS.icmpNo X2.here hx rfl (hb hby d22_5) rfl (teq hc5).2 (XS.aloadN X2.here hx rfl (hb hby d22_8) rfl rfl k))))
  obtain ⟨T5, X5, e5, st5⟩ := getF X2 hx hZ hown (host := "") (Or.inl (ww hw 82 rfl)) Via.refl e2 F_value_r0 (g := gK k4) rfl rfl (hb hby d22_9)
  have k7 : Kq X0 4 T5 (mkF m 18 (oL15 r0 tb) [(.ref r0), (.int (0 : Int32)), (.ref tb), (.int (0 : Int32)), (.ref tr)]) := fun t k => k4 t (st5 _ (XS.iconst X5.here hx rfl (hb hby d22_12) (XS.aloadN X5.here hx rfl (hb hby d22_13) rfl rfl (XS.iloadN X5.here hx rfl (hb hby d22_14) rfl (XS.iloadN X5.here hx rfl (hb hby d22_15) rfl (XS.ishl X5.here hx rfl (hb hby d22_16) rfl (XS.aloadN X5.here hx rfl (hb hby d22_17) rfl rfl k)))))))
  obtain ⟨T8, X8, e8, st8⟩ := getF X5 hx hZ hown (host := "") (Or.inl (ww hw 82 rfl)) Via.refl e5 F_value_r0 (g := gK k7) rfl rfl (hb hby d22_18)
  have k9 : Kq X0 4 T8 (mkF m 21 (oL15 r0 tb) [(.ref tr), (.int (0 : Int32)), (.ref tb), (.int (0 : Int32)), (.ref tr)]) := fun t k => k7 t (st8 _ k)
  obtain ⟨cl10, Ar10, q10, S10, N10_, H10, G10⟩ := (id V_tr)
  have S10' : cl10.slots.size = 6 := S10
  have L10 : (cl10.slots.size).toInt32 = (6 : Int32) := by rw [S10']; rfl
  have k11 : Kq X0 4 T8 (mkF m 22 (oL15 r0 tb) [(.int (6 : Int32)), (.int (0 : Int32)), (.ref tb), (.int (0 : Int32)), (.ref tr)]) := fun t k => k9 t (by
      refine X8.arraylength hx (by rw [e8]; exact Ar10.1) (State.isArrayOf_alike hZ.alike Ar10.2.1) (g := (mkF m 21 (oL15 r0 tb) [(.ref tr), (.int (0 : Int32)), (.ref tb), (.int (0 : Int32)), (.ref tr)])) rfl rfl (hb hby d22_21) _ ?_
      rw [L10]
      exact k)
  obtain ⟨T13, h13, L13, X13, e13, N13, K13, V13, st13⟩ := cpA X8 hx hZ hown (ww hw 146 rfl) (ww hw 149 rfl) (ww hw 147 rfl) (ww hw 148 rfl) e8 V_tr V_tb (us := us) (sp := (0 : Int32)) (dp := (0 : Int32)) (nn := (6 : Int32)) (Or.inl ⟨rfl, rfl⟩) (by decide) (by decide) (by decide) (by decide) (by decide) (own_us hlu) (by rw [hlv]; decide) N2 g_tb (g := gK k11) rfl (by rw [hml]; rfl) rfl (hb hby d22_22) (by decide) (W := 0) (by show 2 * 0 + _ ≤ _; exact Nat.le_of_eq rfl) (by decide)
  have Vc13 : Arv Z h13 tb kb .byte (16 : Int32) (own_ins vd us 0 6) (.int (0 : Int32)) := V13
  have k15 : Kq X0 4 T13 (mkF m 43 (oL15 r0 tb) []) := fun t k => k11 t (st13 _ (XS.goto X13.here hx rfl (pc0 := 25) (pc' := 43) rfl (hb hby d22_25) (by decide) (by decide) k))
  obtain ⟨fs, hr, hrun, hended, hW, hsame⟩ := X13.leave (v := none) (fun _ => rfl)
  refine ⟨_, _, k15 _ ?_, hrun, hended, _, _, rfl, ?_, ⟨_, rfl⟩, hW, hsame.mono (by decide) (by decide)⟩
  · exact X13.returnOut hx Bd.returns (hb hby d22_43) hr
  · show Q22g_0_6_16 Z r0 tb tr kr us kb vd G1 h0 n0 _ T13.heap _
    rw [e13]
    exact ⟨rfl, N13, ((Keep.refl h0 [tb]).trans K13 (allS (Or.inl (own_wi 0 rfl)) all0)), Vc13⟩
def Q20p_0_6_16 (Z : State) (r0 : Addr) (r2 : Addr) (tb : Addr) (kb : ClassId) (vd : List Value) (tr : Addr) (kr : ClassId) (us : List Value) (G1 : Int32) (h0 : Heap) (n0 : Nat) (v : Option Value) (h : Heap) (L : List Loc) : Prop := v = none ∧ Fr n0 L ∧ Keep h0 h [tb] ∧ Arv Z h tb kb .byte (16 : Int32) (own_ins vd us 0 6) (.int (0 : Int32))
theorem rm20p_0_6_16 (l : Launch) (Z : State) (a0 : Array Value) (hw : ∀ d ∈ tables_1, d.before a0 Z = true) (ws : List Jvm.Cond) (r0 : Addr) (r2 : Addr) (tb : Addr) (kb : ClassId) (vd : List Value) (tr : Addr) (kr : ClassId) (us : List Value) (G1 : Int32) (h0 : Heap) (n0 : Nat) (Z0 : n0 ≤ h0.size) (F_value_r0 : Fld Z h0 r0 "java/lang/AbstractStringBuilder" "value" "[B" (.ref tb)) (F_coder_r0 : Fld Z h0 r0 "java/lang/AbstractStringBuilder" "coder" "B" (.int (0 : Int32))) (F_count_r0 : Fld Z h0 r0 "java/lang/AbstractStringBuilder" "count" "I" (.int (0 : Int32))) (E_r0 : Exa Z h0 r0 "java/lang/StringBuilder") (g_r0 : n0 ≤ r0) (V_tb : Arv Z h0 tb kb .byte (16 : Int32) vd (.int (0 : Int32))) (hlv : vd.length = 16) (ne_r0_tb : r0 ≠ tb) (g_tb : n0 ≤ tb) (E_r2 : Exa Z h0 r2 "java/lang/String") (F_value_r2 : Fld Z h0 r2 "java/lang/String" "value" "[B" (.ref tr)) (F_coder_r2 : Fld Z h0 r2 "java/lang/String" "coder" "B" (.int (0 : Int32))) (V_tr : Arv Z h0 tr kr .byte (6 : Int32) us (.int (0 : Int32))) (hlu : us.length = 6) (S_CS : Sta Z Z.heap "java/lang/String" "COMPACT_STRINGS" "Z" (.int G1)) (P5 : ¬ (G1 = (0 : Int32))) (X00 : Old Z n0 h0) :
    MetFree l mN12 (head1 (Jvm.Cond.code mN12 jdk_68_method_73_code 3 none :: ws) oR9) (fun a U => a = #[(.ref r0), (.int (0 : Int32)), (.ref r2)] ∧ Z.Warmed39 U.vm ∧ U.heap = h0) (fun _ _ _ _ _ => True) (fun _ U o U' => ∃ v L, o = .returned v ∧ Q20p_0_6_16 Z r0 r2 tb kb vd tr kr us G1 h0 n0 v U'.heap L ∧ FrameEnd U o U' L oR9.cells oR9.slots) := by
  refine MetFree.of_bodySF (plainFor_of_name pn_0) hisR ?_
  intro p e s m args below meth c s₁ Bd hml0 hP hK
  obtain ⟨rfl, hZ, hh⟩ := hP
  have hx := Bd.exec
  have hby := Bd.bytes
  have hml : c.maxLocals = 3 := hml0
  have hown : s.vm.findClass "java/lang/AbstractStringBuilder" = some m.cls := findClass_of_methodNamed Bd.named
  have X0 : Stand p l e oR9 s m #[(.ref r0), (.int (0 : Int32)), (.ref r2)] below meth c s₁ [] 0 0 := Stand.of_body Bd
  have e0 : s₁.heap = h0 := by rw [← hh, Bd.state]; rfl
  have N0 := Fr.nil n0
  have k0 : Kq X0 3 s₁ (mkF m 0 (oL16 r0 r2) []) := fun t k => castTop (ef_20p_0_8_16 m r0 (0 : Int32) r2) k
  have k1 : Kq X0 3 s₁ (mkF m 2 (oL16 r0 r2) [(.ref r2), (.ref r0)]) := fun t k => k0 t (XS.aloadN X0.here hx rfl (hb hby d20_0) rfl rfl (XS.aloadN X0.here hx rfl (hb hby d20_1) rfl rfl k))
  obtain ⟨cq2, kcq2, q2a, q2b, q2c⟩ := isOf hZ e0 E_r0
  obtain ⟨cc2, qc2_1, -, qc2_2⟩ := q2c
  obtain ⟨_, _, ⟨T2, L2, kq2, n2⟩, -, X2, ⟨Lc2, hQ2, l2, y2, z2⟩, st2⟩ := X0.privateBack hx (y := mN4) hown (mw hZ hw 135 rfl) (mw hZ hw 136 rfl) (own_selp (y := mN4) (mw hZ hw 138 rfl) (Cond.privateMethod_at (args := #[]) (mvP hZ (ww hw 137 rfl))) (mw hZ hw 136 rfl) ⟨by decide, by decide⟩) (Cond.privateMethod_at (args := #[]) (mvP hZ (ww hw 137 rfl))) (mw hZ hw 139 rfl) ⟨by decide, by decide⟩ (backOf (W := 0) (rm21 l Z a0 hw [] r0 r2 G1 h0 n0 Z0 F_coder_r0 F_coder_r2 E_r2 S_CS P5 X00) hZ (ww hw 139 rfl) (ww hw 94 rfl) (by decide) (by decide)) (g := gK k1) rfl (by rw [hml]; rfl) (Steps.refl _) qc2_1 (fun q h => by rw [h] at qc2_2; cases qc2_2) (argsL := [(.ref r2)]) (rest := []) (lenOf pd_6 rfl) rfl (by show 2 * 0 + _ ≤ _; exact Nat.le_of_eq rfl) (hb hby d20_2) (fun _ _ => ⟨rfl, e0, (by decide : 0 + 0 ≤ _), (by decide : 0 + 0 ≤ _)⟩)
  dsimp only [Pt.U, Pt.locs, Pt.cells, Pt.slots] at X2 l2 y2 z2 st2 hQ2
  replace l2 := l2.symm; subst l2 y2 z2
  obtain ⟨rfl, N2q, e2⟩ := hQ2
  have N2 := Fr.app N0 N2q
  have k4 : Kq X0 3 T2 (mkF m 7 (oL16 r0 r2) [(.ref r0), (.ref r2)]) := fun t k => k1 t (st2.trans (XS.aloadN X2.here hx rfl (hb hby d20_5) rfl rfl (XS.aloadN X2.here hx rfl (hb hby d20_6) rfl rfl k)))
  obtain ⟨T5, X5, e5, st5⟩ := getF X2 hx hZ hown (host := "") (Or.inl (ww hw 98 rfl)) Via.refl e2 F_value_r0 (g := gK k4) rfl rfl (hb hby d20_7)
  have k7 : Kq X0 3 T5 (mkF m 12 (oL16 r0 r2) [(.ref r0), (.int (0 : Int32)), (.ref tb), (.ref r2)]) := fun t k => k4 t (st5 _ (XS.iloadN X5.here hx rfl (hb hby d20_10) rfl (XS.aloadN X5.here hx rfl (hb hby d20_11) rfl rfl k)))
  obtain ⟨T8, X8, e8, st8⟩ := getF X5 hx hZ hown (host := "") (Or.inl (ww hw 100 rfl)) Via.refl e5 F_coder_r0 (g := gK k7) rfl rfl (hb hby d20_12)
  have k9 : Kq X0 3 T8 (mkF m 15 (oL16 r0 r2) [(.int (0 : Int32)), (.int (0 : Int32)), (.ref tb), (.ref r2)]) := fun t k => k7 t (st8 _ k)
  obtain ⟨cq10, kcq10, q10a, q10b, q10c⟩ := isOf hZ e8 E_r2
  obtain ⟨_, _, ⟨T10, L10, kq10, n10⟩, -, X10, ⟨Lc10, hQ10, l10, y10, z10⟩, st10⟩ := X8.virtualBack hx (y := mN11) (z := mN11) hown (mw hZ hw 141 rfl) (mw hZ hw 142 rfl) (notFace_of_selects (args := #[]) (mw hZ hw 144 rfl)) (mw hZ hw 144 rfl) (mw hZ hw 143 rfl) (by decide) (backOf (W := 0) (rm22g_0_6_16 l Z a0 hw [] r2 tb tr kr us kb vd G1 h0 n0 Z0 E_r2 F_value_r2 F_coder_r2 V_tr V_tb hlv hlu g_tb S_CS P5 X00) hZ (ww hw 145 rfl) (ww hw 4 rfl) (by decide) (by decide)) q10a q10c (g := gK k9) rfl (by rw [hml]; rfl) (Steps.refl _) (argsL := [(.ref tb), (.int (0 : Int32)), (.int (0 : Int32))]) (rest := []) (lenOf pd_7 rfl) rfl (by show 2 * 0 + _ ≤ _; exact Nat.le_of_eq rfl) (hb hby d20_15) (fun _ _ => ⟨rfl, e8, (by decide : 0 + 0 ≤ _), (by decide : 0 + 0 ≤ _)⟩)
  dsimp only [Pt.U, Pt.locs, Pt.cells, Pt.slots] at X10 l10 y10 z10 st10 hQ10
  replace l10 := l10.symm; subst l10 y10 z10
  obtain ⟨rfl, N10q, K10, Vp10⟩ := hQ10
  have N10 := Fr.app N2 N10q
  have k11 : Kq X0 3 T10 (mkF m 18 (oL16 r0 r2) []) := fun t k => k9 t (st10.trans k)
  obtain ⟨fs, hr, hrun, hended, hW, hsame⟩ := X10.leave (v := none) (fun _ => rfl)
  refine ⟨_, _, k11 _ ?_, hrun, hended, _, _, rfl, ?_, ⟨_, rfl⟩, hW, hsame.mono (by decide) (by decide)⟩
  · exact X10.returnOut hx Bd.returns (hb hby d20_18) hr
  · show Q20p_0_6_16 Z r0 r2 tb kb vd tr kr us G1 h0 n0 _ T10.heap _
    exact ⟨rfl, N10, ((Keep.refl h0 [tb]).trans K10 (allS (Or.inl (own_wi 0 rfl)) all0)), Vp10⟩
def Q19e_0_6_16 (Z : State) (r0 : Addr) (tb : Addr) (kb : ClassId) (vd : List Value) (h0 : Heap) (n0 : Nat) (v : Option Value) (h : Heap) (L : List Loc) : Prop := v = none ∧ Fr n0 L ∧ h = h0
def oL26 (r0 : Addr) : Array Slot := #[.val (.ref r0), .val (.int (6 : Int32)), .unset]
def oL27 (r0 : Addr) : Array Slot := #[.val (.ref r0), .val (.int (6 : Int32)), .val (.int (16 : Int32))]
theorem rm19e_0_6_16 (l : Launch) (Z : State) (a0 : Array Value) (hw : ∀ d ∈ tables_1, d.before a0 Z = true) (ws : List Jvm.Cond) (r0 : Addr) (tb : Addr) (kb : ClassId) (vd : List Value) (h0 : Heap) (n0 : Nat) (Z0 : n0 ≤ h0.size) (F_value_r0 : Fld Z h0 r0 "java/lang/AbstractStringBuilder" "value" "[B" (.ref tb)) (F_coder_r0 : Fld Z h0 r0 "java/lang/AbstractStringBuilder" "coder" "B" (.int (0 : Int32))) (V_tb : Arv Z h0 tb kb .byte (16 : Int32) vd (.int (0 : Int32))) :
    MetFree l mN10 (head1 (Jvm.Cond.code mN10 jdk_68_method_9_code 3 none :: ws) oR2) (fun a U => a = #[(.ref r0), (.int (6 : Int32))] ∧ Z.Warmed39 U.vm ∧ U.heap = h0) (fun _ _ _ _ _ => True) (fun _ U o U' => ∃ v L, o = .returned v ∧ Q19e_0_6_16 Z r0 tb kb vd h0 n0 v U'.heap L ∧ FrameEnd U o U' L oR2.cells oR2.slots) := by
  refine MetFree.of_bodySF (plainFor_of_name pn_0) hisR ?_
  intro p e s m args below meth c s₁ Bd hml0 hP hK
  obtain ⟨rfl, hZ, hh⟩ := hP
  have hx := Bd.exec
  have hby := Bd.bytes
  have hml : c.maxLocals = 3 := hml0
  have hown : s.vm.findClass "java/lang/AbstractStringBuilder" = some m.cls := findClass_of_methodNamed Bd.named
  have X0 : Stand p l e oR2 s m #[(.ref r0), (.int (6 : Int32))] below meth c s₁ [] 0 0 := Stand.of_body Bd
  have e0 : s₁.heap = h0 := by rw [← hh, Bd.state]; rfl
  have N0 := Fr.nil n0
  have k0 : Kq X0 3 s₁ (mkF m 0 (oL26 r0) []) := fun t k => castTop (ef_39 m r0 (6 : Int32)) k
  have k1 : Kq X0 3 s₁ (mkF m 1 (oL26 r0) [(.ref r0)]) := fun t k => k0 t (XS.aloadN X0.here hx rfl (hb hby d19_0) rfl rfl k)
  obtain ⟨T2, X2, e2, st2⟩ := getF X0 hx hZ hown (host := "") (Or.inl (ww hw 98 rfl)) Via.refl e0 F_value_r0 (g := gK k1) rfl rfl (hb hby d19_1)
  have k3 : Kq X0 3 T2 (mkF m 4 (oL26 r0) [(.ref tb)]) := fun t k => k1 t (st2 _ k)
  obtain ⟨cl4, Ar4, q4, S4, N4_, H4, G4⟩ := (id V_tb)
  have S4' : cl4.slots.size = 16 := S4
  have L4 : (cl4.slots.size).toInt32 = (16 : Int32) := by rw [S4']; rfl
  have k5 : Kq X0 3 T2 (mkF m 6 (oL26 r0) [(.ref r0), (.int (16 : Int32))]) := fun t k => k3 t (by
      refine X2.arraylength hx (by rw [e2]; exact Ar4.1) (State.isArrayOf_alike hZ.alike Ar4.2.1) (g := (mkF m 4 (oL26 r0) [(.ref tb)])) rfl rfl (hb hby d19_4) _ ?_
      rw [L4]
      show Sg X0 T2 5 (oL26 r0) [(.int (16 : Int32))] _
      refine XS.aloadN X2.here hx rfl (hb hby d19_5) rfl rfl ?_
      exact k)
  obtain ⟨T6, X6, e6, st6⟩ := getF X2 hx hZ hown (host := "") (Or.inl (ww hw 100 rfl)) Via.refl e2 F_coder_r0 (g := gK k5) rfl rfl (hb hby d19_6)
  have hc14 : ¬ ((0 : Int32) < (-10 : Int32)) := by decide
  have k8 : Kq X0 3 T6 (mkF m 38 (oL27 r0) []) := fun t k => k5 t (st6 _ (XS.ishr X6.here hx rfl (hb hby d19_9) rfl (XS.istoreN X6.here hx rfl (hb hby d19_10) rfl (l' := (oL27 r0)) rfl (XS.iloadN X6.here hx rfl (hb hby d19_11) rfl (XS.iloadN X6.here hx rfl (hb hby d19_12) rfl (XS.isub X6.here hx rfl (hb hby d19_13) rfl (XS.ifYes X6.here hx rfl (pc0 := 14) (pc' := 38) rfl (hb hby d19_14) rfl ((if0 _ _).trans (flt hc14).2.2.2) (by decide) (by decide) k)))))))
  obtain ⟨fs, hr, hrun, hended, hW, hsame⟩ := X6.leave (v := none) (fun _ => rfl)
  refine ⟨_, _, k8 _ ?_, hrun, hended, _, _, rfl, ?_, ⟨_, rfl⟩, hW, hsame.mono (by decide) (by decide)⟩
  · exact X6.returnOut hx Bd.returns (hb hby d19_38) hr
  · show Q19e_0_6_16 Z r0 tb kb vd h0 n0 _ T6.heap _
    rw [e6]
    exact ⟨rfl, N0, rfl⟩
def Q16a_0_6_16 (Z : State) (r0 : Addr) (r1 : Addr) (tb : Addr) (kb : ClassId) (vd : List Value) (tr : Addr) (kr : ClassId) (us : List Value) (G1 : Int32) (h0 : Heap) (n0 : Nat) (v : Option Value) (h : Heap) (L : List Loc) : Prop := v = some (.ref r0) ∧ Fr n0 L ∧ Keep h0 h [r0, tb] ∧ Fld Z h r0 "java/lang/AbstractStringBuilder" "value" "[B" (.ref tb) ∧ Fld Z h r0 "java/lang/AbstractStringBuilder" "coder" "B" (.int (0 : Int32)) ∧ Fld Z h r0 "java/lang/AbstractStringBuilder" "count" "I" (.int (6 : Int32)) ∧ Exa Z h r0 "java/lang/StringBuilder" ∧ Arv Z h tb kb .byte (16 : Int32) (own_ins vd us 0 6) (.int (0 : Int32))
def oL28 (r0 : Addr) (r1 : Addr) : Array Slot := #[.val (.ref r0), .val (.ref r1), .val (.int (6 : Int32))]
theorem rm16a_0_6_16 (l : Launch) (Z : State) (a0 : Array Value) (hw : ∀ d ∈ tables_1, d.before a0 Z = true) (ws : List Jvm.Cond) (r0 : Addr) (r1 : Addr) (tb : Addr) (kb : ClassId) (vd : List Value) (tr : Addr) (kr : ClassId) (us : List Value) (G1 : Int32) (h0 : Heap) (n0 : Nat) (Z0 : n0 ≤ h0.size) (F_value_r0 : Fld Z h0 r0 "java/lang/AbstractStringBuilder" "value" "[B" (.ref tb)) (F_coder_r0 : Fld Z h0 r0 "java/lang/AbstractStringBuilder" "coder" "B" (.int (0 : Int32))) (F_count_r0 : Fld Z h0 r0 "java/lang/AbstractStringBuilder" "count" "I" (.int (0 : Int32))) (E_r0 : Exa Z h0 r0 "java/lang/StringBuilder") (g_r0 : n0 ≤ r0) (V_tb : Arv Z h0 tb kb .byte (16 : Int32) vd (.int (0 : Int32))) (hlv : vd.length = 16) (ne_r0_tb : r0 ≠ tb) (g_tb : n0 ≤ tb) (E_r1 : Exa Z h0 r1 "java/lang/String") (F_value_r1 : Fld Z h0 r1 "java/lang/String" "value" "[B" (.ref tr)) (F_coder_r1 : Fld Z h0 r1 "java/lang/String" "coder" "B" (.int (0 : Int32))) (V_tr : Arv Z h0 tr kr .byte (6 : Int32) us (.int (0 : Int32))) (hlu : us.length = 6) (ne_r1_r0 : r1 ≠ r0) (ne_tr_r0 : tr ≠ r0) (S_CS : Sta Z Z.heap "java/lang/String" "COMPACT_STRINGS" "Z" (.int G1)) (P5 : ¬ (G1 = (0 : Int32))) (X00 : Old Z n0 h0) :
    MetFree l mN13 (head1 (Jvm.Cond.code mN13 jdk_68_method_22_code 3 (some (.object "java/lang/AbstractStringBuilder")) :: ws) oR10) (fun a U => a = #[(.ref r0), (.ref r1)] ∧ Z.Warmed39 U.vm ∧ U.heap = h0) (fun _ _ _ _ _ => True) (fun _ U o U' => ∃ v L, o = .returned v ∧ Q16a_0_6_16 Z r0 r1 tb kb vd tr kr us G1 h0 n0 v U'.heap L ∧ FrameEnd U o U' L oR10.cells oR10.slots) := by
  refine MetFree.of_bodySF (plainFor_of_name pn_0) hisR ?_
  intro p e s m args below meth c s₁ Bd hml0 hP hK
  obtain ⟨rfl, hZ, hh⟩ := hP
  have hx := Bd.exec
  have hby := Bd.bytes
  have hml : c.maxLocals = 3 := hml0
  have hown : s.vm.findClass "java/lang/AbstractStringBuilder" = some m.cls := findClass_of_methodNamed Bd.named
  have X0 : Stand p l e oR10 s m #[(.ref r0), (.ref r1)] below meth c s₁ [] 0 0 := Stand.of_body Bd
  have e0 : s₁.heap = h0 := by rw [← hh, Bd.state]; rfl
  have N0 := Fr.nil n0
  have k0 : Kq X0 3 s₁ (mkF m 0 (oL19 r0 r1) []) := fun t k => castTop (ef_16a_0_8_16 m r0 r1) k
  have k1 : Kq X0 3 s₁ (mkF m 10 (oL19 r0 r1) [(.ref r1)]) := fun t k => k0 t (XS.aloadN X0.here hx rfl (hb hby d16_0) rfl rfl (XS.ifnonnullYes X0.here hx rfl (pc0 := 1) (pc' := 9) rfl (hb hby d16_1) rfl (by decide) (by decide) (XS.aloadN X0.here hx rfl (hb hby d16_9) rfl rfl k)))
  obtain ⟨cq2, kcq2, q2a, q2b, q2c⟩ := isOf hZ e0 E_r1
  obtain ⟨_, _, ⟨T2, L2, kq2, n2⟩, -, X2, ⟨Lc2, hQ2, l2, y2, z2⟩, st2⟩ := X0.virtualBack hx (y := mN3) (z := mN3) hown (mw hZ hw 113 rfl) (mw hZ hw 114 rfl) (notFace_of_selects (args := #[]) (mw hZ hw 116 rfl)) (mw hZ hw 116 rfl) (mw hZ hw 115 rfl) (by decide) (backOf (W := 0) (rm17n6 l Z a0 hw [] r1 tr kr us G1 h0 n0 Z0 E_r1 F_value_r1 F_coder_r1 V_tr S_CS P5 X00) hZ (ww hw 117 rfl) (ww hw 4 rfl) (by decide) (by decide)) q2a q2c (g := gK k1) rfl (by rw [hml]; rfl) (Steps.refl _) (argsL := []) (rest := []) (lenOf pd_8 rfl) rfl (by show 2 * 0 + _ ≤ _; exact Nat.le_of_eq rfl) (hb hby d16_10) (fun _ _ => ⟨rfl, e0, (by decide : 0 + 0 ≤ _), (by decide : 0 + 0 ≤ _)⟩)
  dsimp only [Pt.U, Pt.locs, Pt.cells, Pt.slots] at X2 l2 y2 z2 st2 hQ2
  replace l2 := l2.symm; subst l2 y2 z2
  obtain ⟨rfl, N2q, e2⟩ := hQ2
  have N2 := Fr.app N0 N2q
  have k4 : Kq X0 3 T2 (mkF m 16 (oL28 r0 r1) [(.ref r0), (.ref r0)]) := fun t k => k1 t (st2.trans (XS.istoreN X2.here hx rfl (hb hby d16_13) rfl (l' := (oL28 r0 r1)) rfl (XS.aloadN X2.here hx rfl (hb hby d16_14) rfl rfl (XS.aloadN X2.here hx rfl (hb hby d16_15) rfl rfl k))))
  obtain ⟨T5, X5, e5, st5⟩ := getF X2 hx hZ hown (host := "") (Or.inl (ww hw 123 rfl)) Via.refl e2 F_count_r0 (g := gK k4) rfl rfl (hb hby d16_16)
  have k7 : Kq X0 3 T5 (mkF m 21 (oL28 r0 r1) [(.int (6 : Int32)), (.ref r0)]) := fun t k => k4 t (st5 _ (XS.iloadN X5.here hx rfl (hb hby d16_19) rfl (XS.iadd X5.here hx rfl (hb hby d16_20) rfl k)))
  obtain ⟨cq8, kcq8, q8a, q8b, q8c⟩ := isOf hZ e5 E_r0
  obtain ⟨cc8, qc8_1, -, qc8_2⟩ := q8c
  obtain ⟨_, _, ⟨T8, L8, kq8, n8⟩, -, X8, ⟨Lc8, hQ8, l8, y8, z8⟩, st8⟩ := X5.privateBack hx (y := mN10) hown (mw hZ hw 125 rfl) (mw hZ hw 126 rfl) (own_selp (y := mN10) (mw hZ hw 128 rfl) (Cond.privateMethod_at (args := #[]) (mvP hZ (ww hw 127 rfl))) (mw hZ hw 126 rfl) ⟨by decide, by decide⟩) (Cond.privateMethod_at (args := #[]) (mvP hZ (ww hw 127 rfl))) (mw hZ hw 129 rfl) ⟨by decide, by decide⟩ (backOf (W := 0) (rm19e_0_6_16 l Z a0 hw [] r0 tb kb vd h0 n0 Z0 F_value_r0 F_coder_r0 V_tb) hZ (ww hw 129 rfl) (ww hw 94 rfl) (by decide) (by decide)) (g := gK k7) rfl (by rw [hml]; rfl) (Steps.refl _) qc8_1 (fun q h => by rw [h] at qc8_2; cases qc8_2) (argsL := [(.int (6 : Int32))]) (rest := []) (lenOf pd_0 rfl) rfl (by show 2 * 0 + _ ≤ _; exact Nat.le_of_eq rfl) (hb hby d16_21) (fun _ _ => ⟨rfl, e5, (by decide : 0 + 0 ≤ _), (by decide : 0 + 0 ≤ _)⟩)
  dsimp only [Pt.U, Pt.locs, Pt.cells, Pt.slots] at X8 l8 y8 z8 st8 hQ8
  replace l8 := l8.symm; subst l8 y8 z8
  obtain ⟨rfl, N8q, e8⟩ := hQ8
  have N8 := Fr.app N2 N8q
  have k10 : Kq X0 3 T8 (mkF m 26 (oL28 r0 r1) [(.ref r0), (.ref r0)]) := fun t k => k7 t (st8.trans (XS.aloadN X8.here hx rfl (hb hby d16_24) rfl rfl (XS.aloadN X8.here hx rfl (hb hby d16_25) rfl rfl k)))
  obtain ⟨T11, X11, e11, st11⟩ := getF X8 hx hZ hown (host := "") (Or.inl (ww hw 123 rfl)) Via.refl e8 F_count_r0 (g := gK k10) rfl rfl (hb hby d16_26)
  have k13 : Kq X0 3 T11 (mkF m 30 (oL28 r0 r1) [(.ref r1), (.int (0 : Int32)), (.ref r0)]) := fun t k => k10 t (st11 _ (XS.aloadN X11.here hx rfl (hb hby d16_29) rfl rfl k))
  obtain ⟨cq14, kcq14, q14a, q14b, q14c⟩ := isOf hZ e11 E_r0
  obtain ⟨cc14, qc14_1, -, qc14_2⟩ := q14c
  obtain ⟨_, _, ⟨T14, L14, kq14, n14⟩, -, X14, ⟨Lc14, hQ14, l14, y14, z14⟩, st14⟩ := X11.privateBack hx (y := mN12) hown (mw hZ hw 130 rfl) (mw hZ hw 131 rfl) (own_selp (y := mN12) (mw hZ hw 133 rfl) (Cond.privateMethod_at (args := #[]) (mvP hZ (ww hw 132 rfl))) (mw hZ hw 131 rfl) ⟨by decide, by decide⟩) (Cond.privateMethod_at (args := #[]) (mvP hZ (ww hw 132 rfl))) (mw hZ hw 134 rfl) ⟨by decide, by decide⟩ (backOf (W := 0) (rm20p_0_6_16 l Z a0 hw [] r0 r1 tb kb vd tr kr us G1 h0 n0 Z0 F_value_r0 F_coder_r0 F_count_r0 E_r0 g_r0 V_tb hlv ne_r0_tb g_tb E_r1 F_value_r1 F_coder_r1 V_tr hlu S_CS P5 X00) hZ (ww hw 134 rfl) (ww hw 94 rfl) (by decide) (by decide)) (g := gK k13) rfl (by rw [hml]; rfl) (Steps.refl _) qc14_1 (fun q h => by rw [h] at qc14_2; cases qc14_2) (argsL := [(.int (0 : Int32)), (.ref r1)]) (rest := []) (lenOf pd_9 rfl) rfl (by show 2 * 0 + _ ≤ _; exact Nat.le_of_eq rfl) (hb hby d16_30) (fun _ _ => ⟨rfl, e11, (by decide : 0 + 0 ≤ _), (by decide : 0 + 0 ≤ _)⟩)
  dsimp only [Pt.U, Pt.locs, Pt.cells, Pt.slots] at X14 l14 y14 z14 st14 hQ14
  replace l14 := l14.symm; subst l14 y14 z14
  obtain ⟨rfl, N14q, K14, Vp14⟩ := hQ14
  have N14 := Fr.app N8 N14q
  have k16 : Kq X0 3 T14 (mkF m 35 (oL28 r0 r1) [(.ref r0), (.ref r0)]) := fun t k => k13 t (st14.trans (XS.aloadN X14.here hx rfl (hb hby d16_33) rfl rfl (XS.dup X14.here hx rfl (hb hby d16_34) rfl rfl k)))
  obtain ⟨T17, X17, e17, st17⟩ := getF X14 hx hZ hown (host := "") (Or.inl (ww hw 123 rfl)) Via.refl rfl (F_count_r0.keep K14 (ninS ne_r0_tb nin0)) (g := gK k16) rfl rfl (hb hby d16_35)
  have k19 : Kq X0 3 T17 (mkF m 40 (oL28 r0 r1) [(.int (6 : Int32)), (.ref r0)]) := fun t k => k16 t (st17 _ (XS.iloadN X17.here hx rfl (hb hby d16_38) rfl (XS.iadd X17.here hx rfl (hb hby d16_39) rfl k)))
  obtain ⟨T20, h20, X20, e20, W20, st20⟩ := putF X17 hx hZ hown (host := "") (Or.inl (ww hw 123 rfl)) Via.refl e17 (F_count_r0.keep K14 (ninS ne_r0_tb nin0)) (E_r0.keep K14) (Or.inl (ww hw 124 rfl)) (ww hw 85 rfl) (ty := .int) (by decide) rfl rfl (g := gK k19) rfl rfl (hb hby d16_40)
  have fc21 := ((F_value_r0.keep K14 (ninS ne_r0_tb nin0)).other W20 (Or.inr (slot_ne (Or.inl (ww hw 99 rfl)) (Or.inl (ww hw 124 rfl)) (by decide) (t := (.array .byte)) (t' := .int) (by decide) (by decide))))
  have fc22 := ((F_coder_r0.keep K14 (ninS ne_r0_tb nin0)).other W20 (Or.inr (slot_ne (Or.inl (ww hw 101 rfl)) (Or.inl (ww hw 124 rfl)) (by decide) (t := .byte) (t' := .int) (by decide) (by decide))))
  have N20 := Fr.snoc X20 N14 g_r0
  have k24 : Kq X0 3 T20 (mkF m 44 (oL28 r0 r1) [(.ref r0)]) := fun t k => k19 t (st20 _ (XS.aloadN X20.here hx rfl (hb hby d16_43) rfl rfl k))
  obtain ⟨fs, hr, hrun, hended, hW, hsame⟩ := X20.leave (v := (some (.ref r0))) (fun h => by rw [Bd.returns] at h; cases h)
  refine ⟨_, _, k24 _ ?_, hrun, hended, _, _, rfl, ?_, ⟨_, rfl⟩, hW, hsame.mono (by decide) (by decide)⟩
  · exact retOut X20 hx Bd.returns rfl (Or.inr (Or.inr (Or.inr (Or.inr ⟨rfl, rfl, rfl⟩)))) (hb hby d16_44) hr
  · show Q16a_0_6_16 Z r0 r1 tb kb vd tr kr us G1 h0 n0 _ T20.heap _
    rw [e20]
    exact ⟨rfl, N20, (((Keep.refl h0 [r0, tb]).trans K14 (allS (Or.inl (own_wi 1 rfl)) all0)).wr W20 (Or.inl (own_wi 0 rfl))), fc21, fc22, ((F_count_r0.keep K14 (ninS ne_r0_tb nin0)).same W20), ((E_r0.keep K14).wr W20), (Vp14.other W20 ne_r0_tb.symm)⟩
def Q15a_0_6_16 (Z : State) (r0 : Addr) (r1 : Addr) (tb : Addr) (kb : ClassId) (vd : List Value) (tr : Addr) (kr : ClassId) (us : List Value) (G1 : Int32) (h0 : Heap) (n0 : Nat) (v : Option Value) (h : Heap) (L : List Loc) : Prop := v = some (.ref r0) ∧ Fr n0 L ∧ Keep h0 h [r0, tb] ∧ Fld Z h r0 "java/lang/AbstractStringBuilder" "value" "[B" (.ref tb) ∧ Fld Z h r0 "java/lang/AbstractStringBuilder" "coder" "B" (.int (0 : Int32)) ∧ Fld Z h r0 "java/lang/AbstractStringBuilder" "count" "I" (.int (6 : Int32)) ∧ Exa Z h r0 "java/lang/StringBuilder" ∧ Arv Z h tb kb .byte (16 : Int32) (own_ins vd us 0 6) (.int (0 : Int32))
theorem rm15a_0_6_16 (l : Launch) (Z : State) (a0 : Array Value) (hw : ∀ d ∈ tables_1, d.before a0 Z = true) (ws : List Jvm.Cond) (r0 : Addr) (r1 : Addr) (tb : Addr) (kb : ClassId) (vd : List Value) (tr : Addr) (kr : ClassId) (us : List Value) (G1 : Int32) (h0 : Heap) (n0 : Nat) (Z0 : n0 ≤ h0.size) (F_value_r0 : Fld Z h0 r0 "java/lang/AbstractStringBuilder" "value" "[B" (.ref tb)) (F_coder_r0 : Fld Z h0 r0 "java/lang/AbstractStringBuilder" "coder" "B" (.int (0 : Int32))) (F_count_r0 : Fld Z h0 r0 "java/lang/AbstractStringBuilder" "count" "I" (.int (0 : Int32))) (E_r0 : Exa Z h0 r0 "java/lang/StringBuilder") (g_r0 : n0 ≤ r0) (V_tb : Arv Z h0 tb kb .byte (16 : Int32) vd (.int (0 : Int32))) (hlv : vd.length = 16) (ne_r0_tb : r0 ≠ tb) (g_tb : n0 ≤ tb) (E_r1 : Exa Z h0 r1 "java/lang/String") (F_value_r1 : Fld Z h0 r1 "java/lang/String" "value" "[B" (.ref tr)) (F_coder_r1 : Fld Z h0 r1 "java/lang/String" "coder" "B" (.int (0 : Int32))) (V_tr : Arv Z h0 tr kr .byte (6 : Int32) us (.int (0 : Int32))) (hlu : us.length = 6) (ne_r1_r0 : r1 ≠ r0) (ne_tr_r0 : tr ≠ r0) (S_CS : Sta Z Z.heap "java/lang/String" "COMPACT_STRINGS" "Z" (.int G1)) (P5 : ¬ (G1 = (0 : Int32))) (X00 : Old Z n0 h0) :
    MetFree l mN14 (head1 (Jvm.Cond.code mN14 jdk_67_method_7_code 2 (some (.object "java/lang/StringBuilder")) :: ws) oR11) (fun a U => a = #[(.ref r0), (.ref r1)] ∧ Z.Warmed39 U.vm ∧ U.heap = h0) (fun _ _ _ _ _ => True) (fun _ U o U' => ∃ v L, o = .returned v ∧ Q15a_0_6_16 Z r0 r1 tb kb vd tr kr us G1 h0 n0 v U'.heap L ∧ FrameEnd U o U' L oR11.cells oR11.slots) := by
  refine MetFree.of_bodySF (plainFor_of_name pn_1) hisR ?_
  intro p e s m args below meth c s₁ Bd hml0 hP hK
  obtain ⟨rfl, hZ, hh⟩ := hP
  have hx := Bd.exec
  have hby := Bd.bytes
  have hml : c.maxLocals = 2 := hml0
  have hown : s.vm.findClass "java/lang/StringBuilder" = some m.cls := findClass_of_methodNamed Bd.named
  have X0 : Stand p l e oR11 s m #[(.ref r0), (.ref r1)] below meth c s₁ [] 0 0 := Stand.of_body Bd
  have e0 : s₁.heap = h0 := by rw [← hh, Bd.state]; rfl
  have N0 := Fr.nil n0
  have k0 : Kq X0 2 s₁ (mkF m 0 (oL1 r0 r1) []) := fun t k => castTop (ef_21 m r0 r1) k
  have k1 : Kq X0 2 s₁ (mkF m 2 (oL1 r0 r1) [(.ref r1), (.ref r0)]) := fun t k => k0 t (XS.aloadN X0.here hx rfl (hb hby d15_0) rfl rfl (XS.aloadN X0.here hx rfl (hb hby d15_1) rfl rfl k))
  obtain ⟨_, _, ⟨T2, L2, kq2, n2⟩, -, X2, ⟨Lc2, hQ2, l2, y2, z2⟩, st2⟩ := superBack X0 hx hZ hown (ww hw 108 rfl) (own_same (y := mN13) (ww hw 128 rfl) rfl (ww hw 109 rfl) ⟨by decide, by decide⟩) (ww hw 109 rfl) (ww hw 110 rfl) (by decide) (backOf (W := 0) (rm16a_0_6_16 l Z a0 hw [] r0 r1 tb kb vd tr kr us G1 h0 n0 Z0 F_value_r0 F_coder_r0 F_count_r0 E_r0 g_r0 V_tb hlv ne_r0_tb g_tb E_r1 F_value_r1 F_coder_r1 V_tr hlu ne_r1_r0 ne_tr_r0 S_CS P5 X00) hZ (ww hw 112 rfl) (ww hw 94 rfl) (by decide) (by decide)) e0 (Ins.self E_r0) (g := gK k1) rfl (by rw [hml]; rfl) (ww hw 112 rfl) (argsL := [(.ref r1)]) (rest := []) (lenOf pd_10 rfl) rfl (by show 2 * 0 + _ ≤ _; exact Nat.le_of_eq rfl) (hb hby d15_2) (fun _ _ => ⟨rfl, e0, (by decide : 0 + 0 ≤ _), (by decide : 0 + 0 ≤ _)⟩)
  dsimp only [Pt.U, Pt.locs, Pt.cells, Pt.slots] at X2 l2 y2 z2 st2 hQ2
  replace l2 := l2.symm; subst l2 y2 z2
  obtain ⟨rfl, N2q, K2, Fx2_0, Fx2_1, Fx2_2, Ex2, Vp2⟩ := hQ2
  have N2 := Fr.app N0 N2q
  have k4 : Kq X0 2 T2 (mkF m 7 (oL1 r0 r1) [(.ref r0)]) := fun t k => k1 t (st2.trans (XS.pop X2.here hx rfl (hb hby d15_5) rfl rfl (XS.aloadN X2.here hx rfl (hb hby d15_6) rfl rfl k)))
  obtain ⟨fs, hr, hrun, hended, hW, hsame⟩ := X2.leave (v := (some (.ref r0))) (fun h => by rw [Bd.returns] at h; cases h)
  refine ⟨_, _, k4 _ ?_, hrun, hended, _, _, rfl, ?_, ⟨_, rfl⟩, hW, hsame.mono (by decide) (by decide)⟩
  · exact retOut X2 hx Bd.returns rfl (Or.inr (Or.inr (Or.inr (Or.inr ⟨rfl, rfl, rfl⟩)))) (hb hby d15_7) hr
  · show Q15a_0_6_16 Z r0 r1 tb kb vd tr kr us G1 h0 n0 _ T2.heap _
    exact ⟨rfl, N2, ((Keep.refl h0 [r0, tb]).trans K2 (allS (Or.inl (own_wi 0 rfl)) (allS (Or.inl (own_wi 1 rfl)) all0))), Fx2_0, Fx2_1, Fx2_2, Ex2, Vp2⟩
def Q22g_6_2_16 (Z : State) (r0 : Addr) (tb : Addr) (tr : Addr) (kr : ClassId) (us : List Value) (kb : ClassId) (vd : List Value) (G1 : Int32) (h0 : Heap) (n0 : Nat) (v : Option Value) (h : Heap) (L : List Loc) : Prop := v = none ∧ Fr n0 L ∧ Keep h0 h [tb] ∧ Arv Z h tb kb .byte (16 : Int32) (own_ins vd us 6 2) (.int (0 : Int32))
def oL29 (r0 : Addr) (tb : Addr) : Array Slot := #[.val (.ref r0), .val (.ref tb), .val (.int (6 : Int32)), .val (.int (0 : Int32))]
theorem rm22g_6_2_16 (l : Launch) (Z : State) (a0 : Array Value) (hw : ∀ d ∈ tables_1, d.before a0 Z = true) (ws : List Jvm.Cond) (r0 : Addr) (tb : Addr) (tr : Addr) (kr : ClassId) (us : List Value) (kb : ClassId) (vd : List Value) (G1 : Int32) (h0 : Heap) (n0 : Nat) (Z0 : n0 ≤ h0.size) (E_r0 : Exa Z h0 r0 "java/lang/String") (F_value_r0 : Fld Z h0 r0 "java/lang/String" "value" "[B" (.ref tr)) (F_coder_r0 : Fld Z h0 r0 "java/lang/String" "coder" "B" (.int (0 : Int32))) (V_tr : Arv Z h0 tr kr .byte (2 : Int32) us (.int (0 : Int32))) (V_tb : Arv Z h0 tb kb .byte (16 : Int32) vd (.int (0 : Int32))) (hlv : vd.length = 16) (hlu : us.length = 2) (g_tb : n0 ≤ tb) (S_CS : Sta Z Z.heap "java/lang/String" "COMPACT_STRINGS" "Z" (.int G1)) (P5 : ¬ (G1 = (0 : Int32))) (X00 : Old Z n0 h0) :
    MetFree l mN11 (head1 (Jvm.Cond.code mN11 jdk_42_method_147_code 4 none :: ws) oR8) (fun a U => a = #[(.ref r0), (.ref tb), (.int (6 : Int32)), (.int (0 : Int32))] ∧ Z.Warmed39 U.vm ∧ U.heap = h0) (fun _ _ _ _ _ => True) (fun _ U o U' => ∃ v L, o = .returned v ∧ Q22g_6_2_16 Z r0 tb tr kr us kb vd G1 h0 n0 v U'.heap L ∧ FrameEnd U o U' L oR8.cells oR8.slots) := by
  refine MetFree.of_bodySF (plainFor_of_name pn_2) hisR ?_
  intro p e s m args below meth c s₁ Bd hml0 hP hK
  obtain ⟨rfl, hZ, hh⟩ := hP
  have hx := Bd.exec
  have hby := Bd.bytes
  have hml : c.maxLocals = 4 := hml0
  have hown : s.vm.findClass "java/lang/String" = some m.cls := findClass_of_methodNamed Bd.named
  have X0 : Stand p l e oR8 s m #[(.ref r0), (.ref tb), (.int (6 : Int32)), (.int (0 : Int32))] below meth c s₁ [] 0 0 := Stand.of_body Bd
  have e0 : s₁.heap = h0 := by rw [← hh, Bd.state]; rfl
  have N0 := Fr.nil n0
  have k0 : Kq X0 4 s₁ (mkF m 0 (oL29 r0 tb) []) := fun t k => castTop (ef_22g_0_8_16 m r0 tb (6 : Int32) (0 : Int32)) k
  have k1 : Kq X0 4 s₁ (mkF m 1 (oL29 r0 tb) [(.ref r0)]) := fun t k => k0 t (XS.aloadN X0.here hx rfl (hb hby d22_0) rfl rfl k)
  obtain ⟨cq2, kcq2, q2a, q2b, q2c⟩ := isOf hZ e0 E_r0
  obtain ⟨_, _, ⟨T2, L2, kq2, n2⟩, -, X2, ⟨Lc2, hQ2, l2, y2, z2⟩, st2⟩ := X0.virtualBack hx (y := mN2) (z := mN2) hown (mw hZ hw 118 rfl) (mw hZ hw 119 rfl) (notFace_of_selects (args := #[]) (mw hZ hw 121 rfl)) (mw hZ hw 121 rfl) (mw hZ hw 120 rfl) (by decide) (backOf (W := 0) (rm18 l Z a0 hw [] r0 G1 h0 n0 Z0 F_coder_r0 S_CS P5 X00) hZ (ww hw 122 rfl) (ww hw 4 rfl) (by decide) (by decide)) q2a q2c (g := gK k1) rfl (by rw [hml]; rfl) (Steps.refl _) (argsL := []) (rest := []) (lenOf pd_1 rfl) rfl (by show 2 * 0 + _ ≤ _; exact Nat.le_of_eq rfl) (hb hby d22_1) (fun _ _ => ⟨rfl, e0, (by decide : 0 + 0 ≤ _), (by decide : 0 + 0 ≤ _)⟩)
  dsimp only [Pt.U, Pt.locs, Pt.cells, Pt.slots] at X2 l2 y2 z2 st2 hQ2
  replace l2 := l2.symm; subst l2 y2 z2
  obtain ⟨rfl, N2q, e2⟩ := hQ2
  have N2 := Fr.app N0 N2q
  have hc5 : (0 : Int32) = (0 : Int32) := by decide
  have k4 : Kq X0 4 T2 (mkF m 9 (oL29 r0 tb) [(.ref r0)]) := fun t k => k1 t (st2.trans (XS.iloadN X2.here hx rfl (hb hby d22_4) rfl (XS.icmpNo X2.here hx rfl (hb hby d22_5) rfl (teq hc5).2 (XS.aloadN X2.here hx rfl (hb hby d22_8) rfl rfl k))))
  obtain ⟨T5, X5, e5, st5⟩ := getF X2 hx hZ hown (host := "") (Or.inl (ww hw 82 rfl)) Via.refl e2 F_value_r0 (g := gK k4) rfl rfl (hb hby d22_9)
  have k7 : Kq X0 4 T5 (mkF m 18 (oL29 r0 tb) [(.ref r0), (.int (6 : Int32)), (.ref tb), (.int (0 : Int32)), (.ref tr)]) := fun t k => k4 t (st5 _ (XS.iconst X5.here hx rfl (hb hby d22_12) (XS.aloadN X5.here hx rfl (hb hby d22_13) rfl rfl (XS.iloadN X5.here hx rfl (hb hby d22_14) rfl (XS.iloadN X5.here hx rfl (hb hby d22_15) rfl (XS.ishl X5.here hx rfl (hb hby d22_16) rfl (XS.aloadN X5.here hx rfl (hb hby d22_17) rfl rfl k)))))))
  obtain ⟨T8, X8, e8, st8⟩ := getF X5 hx hZ hown (host := "") (Or.inl (ww hw 82 rfl)) Via.refl e5 F_value_r0 (g := gK k7) rfl rfl (hb hby d22_18)
  have k9 : Kq X0 4 T8 (mkF m 21 (oL29 r0 tb) [(.ref tr), (.int (6 : Int32)), (.ref tb), (.int (0 : Int32)), (.ref tr)]) := fun t k => k7 t (st8 _ k)
  obtain ⟨cl10, Ar10, q10, S10, N10_, H10, G10⟩ := (id V_tr)
  have S10' : cl10.slots.size = 2 := S10
  have L10 : (cl10.slots.size).toInt32 = (2 : Int32) := by rw [S10']; rfl
  have k11 : Kq X0 4 T8 (mkF m 22 (oL29 r0 tb) [(.int (2 : Int32)), (.int (6 : Int32)), (.ref tb), (.int (0 : Int32)), (.ref tr)]) := fun t k => k9 t (by
      refine X8.arraylength hx (by rw [e8]; exact Ar10.1) (State.isArrayOf_alike hZ.alike Ar10.2.1) (g := (mkF m 21 (oL29 r0 tb) [(.ref tr), (.int (6 : Int32)), (.ref tb), (.int (0 : Int32)), (.ref tr)])) rfl rfl (hb hby d22_21) _ ?_
      rw [L10]
      exact k)
  obtain ⟨T13, h13, L13, X13, e13, N13, K13, V13, st13⟩ := cpA X8 hx hZ hown (ww hw 146 rfl) (ww hw 149 rfl) (ww hw 147 rfl) (ww hw 148 rfl) e8 V_tr V_tb (us := us) (sp := (0 : Int32)) (dp := (6 : Int32)) (nn := (2 : Int32)) (Or.inl ⟨rfl, rfl⟩) (by decide) (by decide) (by decide) (by decide) (by decide) (own_us hlu) (by rw [hlv]; decide) N2 g_tb (g := gK k11) rfl (by rw [hml]; rfl) rfl (hb hby d22_22) (by decide) (W := 0) (by show 2 * 0 + _ ≤ _; exact Nat.le_of_eq rfl) (by decide)
  have Vc13 : Arv Z h13 tb kb .byte (16 : Int32) (own_ins vd us 6 2) (.int (0 : Int32)) := V13
  have k15 : Kq X0 4 T13 (mkF m 43 (oL29 r0 tb) []) := fun t k => k11 t (st13 _ (XS.goto X13.here hx rfl (pc0 := 25) (pc' := 43) rfl (hb hby d22_25) (by decide) (by decide) k))
  obtain ⟨fs, hr, hrun, hended, hW, hsame⟩ := X13.leave (v := none) (fun _ => rfl)
  refine ⟨_, _, k15 _ ?_, hrun, hended, _, _, rfl, ?_, ⟨_, rfl⟩, hW, hsame.mono (by decide) (by decide)⟩
  · exact X13.returnOut hx Bd.returns (hb hby d22_43) hr
  · show Q22g_6_2_16 Z r0 tb tr kr us kb vd G1 h0 n0 _ T13.heap _
    rw [e13]
    exact ⟨rfl, N13, ((Keep.refl h0 [tb]).trans K13 (allS (Or.inl (own_wi 0 rfl)) all0)), Vc13⟩
def Q20p_6_2_16 (Z : State) (r0 : Addr) (r2 : Addr) (tb : Addr) (kb : ClassId) (vd : List Value) (tr : Addr) (kr : ClassId) (us : List Value) (G1 : Int32) (h0 : Heap) (n0 : Nat) (v : Option Value) (h : Heap) (L : List Loc) : Prop := v = none ∧ Fr n0 L ∧ Keep h0 h [tb] ∧ Arv Z h tb kb .byte (16 : Int32) (own_ins vd us 6 2) (.int (0 : Int32))
def oL30 (r0 : Addr) (r2 : Addr) : Array Slot := #[.val (.ref r0), .val (.int (6 : Int32)), .val (.ref r2)]
theorem rm20p_6_2_16 (l : Launch) (Z : State) (a0 : Array Value) (hw : ∀ d ∈ tables_1, d.before a0 Z = true) (ws : List Jvm.Cond) (r0 : Addr) (r2 : Addr) (tb : Addr) (kb : ClassId) (vd : List Value) (tr : Addr) (kr : ClassId) (us : List Value) (G1 : Int32) (h0 : Heap) (n0 : Nat) (Z0 : n0 ≤ h0.size) (F_value_r0 : Fld Z h0 r0 "java/lang/AbstractStringBuilder" "value" "[B" (.ref tb)) (F_coder_r0 : Fld Z h0 r0 "java/lang/AbstractStringBuilder" "coder" "B" (.int (0 : Int32))) (F_count_r0 : Fld Z h0 r0 "java/lang/AbstractStringBuilder" "count" "I" (.int (6 : Int32))) (E_r0 : Exa Z h0 r0 "java/lang/StringBuilder") (g_r0 : n0 ≤ r0) (V_tb : Arv Z h0 tb kb .byte (16 : Int32) vd (.int (0 : Int32))) (hlv : vd.length = 16) (ne_r0_tb : r0 ≠ tb) (g_tb : n0 ≤ tb) (E_r2 : Exa Z h0 r2 "java/lang/String") (F_value_r2 : Fld Z h0 r2 "java/lang/String" "value" "[B" (.ref tr)) (F_coder_r2 : Fld Z h0 r2 "java/lang/String" "coder" "B" (.int (0 : Int32))) (V_tr : Arv Z h0 tr kr .byte (2 : Int32) us (.int (0 : Int32))) (hlu : us.length = 2) (S_CS : Sta Z Z.heap "java/lang/String" "COMPACT_STRINGS" "Z" (.int G1)) (P5 : ¬ (G1 = (0 : Int32))) (X00 : Old Z n0 h0) :
    MetFree l mN12 (head1 (Jvm.Cond.code mN12 jdk_68_method_73_code 3 none :: ws) oR9) (fun a U => a = #[(.ref r0), (.int (6 : Int32)), (.ref r2)] ∧ Z.Warmed39 U.vm ∧ U.heap = h0) (fun _ _ _ _ _ => True) (fun _ U o U' => ∃ v L, o = .returned v ∧ Q20p_6_2_16 Z r0 r2 tb kb vd tr kr us G1 h0 n0 v U'.heap L ∧ FrameEnd U o U' L oR9.cells oR9.slots) := by
  refine MetFree.of_bodySF (plainFor_of_name pn_0) hisR ?_
  intro p e s m args below meth c s₁ Bd hml0 hP hK
  obtain ⟨rfl, hZ, hh⟩ := hP
  have hx := Bd.exec
  have hby := Bd.bytes
  have hml : c.maxLocals = 3 := hml0
  have hown : s.vm.findClass "java/lang/AbstractStringBuilder" = some m.cls := findClass_of_methodNamed Bd.named
  have X0 : Stand p l e oR9 s m #[(.ref r0), (.int (6 : Int32)), (.ref r2)] below meth c s₁ [] 0 0 := Stand.of_body Bd
  have e0 : s₁.heap = h0 := by rw [← hh, Bd.state]; rfl
  have N0 := Fr.nil n0
  have k0 : Kq X0 3 s₁ (mkF m 0 (oL30 r0 r2) []) := fun t k => castTop (ef_20p_0_8_16 m r0 (6 : Int32) r2) k
  have k1 : Kq X0 3 s₁ (mkF m 2 (oL30 r0 r2) [(.ref r2), (.ref r0)]) := fun t k => k0 t (XS.aloadN X0.here hx rfl (hb hby d20_0) rfl rfl (XS.aloadN X0.here hx rfl (hb hby d20_1) rfl rfl k))
  obtain ⟨cq2, kcq2, q2a, q2b, q2c⟩ := isOf hZ e0 E_r0
  obtain ⟨cc2, qc2_1, -, qc2_2⟩ := q2c
  obtain ⟨_, _, ⟨T2, L2, kq2, n2⟩, -, X2, ⟨Lc2, hQ2, l2, y2, z2⟩, st2⟩ := X0.privateBack hx (y := mN4) hown (mw hZ hw 135 rfl) (mw hZ hw 136 rfl) (own_selp (y := mN4) (mw hZ hw 138 rfl) (Cond.privateMethod_at (args := #[]) (mvP hZ (ww hw 137 rfl))) (mw hZ hw 136 rfl) ⟨by decide, by decide⟩) (Cond.privateMethod_at (args := #[]) (mvP hZ (ww hw 137 rfl))) (mw hZ hw 139 rfl) ⟨by decide, by decide⟩ (backOf (W := 0) (rm21 l Z a0 hw [] r0 r2 G1 h0 n0 Z0 F_coder_r0 F_coder_r2 E_r2 S_CS P5 X00) hZ (ww hw 139 rfl) (ww hw 94 rfl) (by decide) (by decide)) (g := gK k1) rfl (by rw [hml]; rfl) (Steps.refl _) qc2_1 (fun q h => by rw [h] at qc2_2; cases qc2_2) (argsL := [(.ref r2)]) (rest := []) (lenOf pd_6 rfl) rfl (by show 2 * 0 + _ ≤ _; exact Nat.le_of_eq rfl) (hb hby d20_2) (fun _ _ => ⟨rfl, e0, (by decide : 0 + 0 ≤ _), (by decide : 0 + 0 ≤ _)⟩)
  dsimp only [Pt.U, Pt.locs, Pt.cells, Pt.slots] at X2 l2 y2 z2 st2 hQ2
  replace l2 := l2.symm; subst l2 y2 z2
  obtain ⟨rfl, N2q, e2⟩ := hQ2
  have N2 := Fr.app N0 N2q
  have k4 : Kq X0 3 T2 (mkF m 7 (oL30 r0 r2) [(.ref r0), (.ref r2)]) := fun t k => k1 t (st2.trans (XS.aloadN X2.here hx rfl (hb hby d20_5) rfl rfl (XS.aloadN X2.here hx rfl (hb hby d20_6) rfl rfl k)))
  obtain ⟨T5, X5, e5, st5⟩ := getF X2 hx hZ hown (host := "") (Or.inl (ww hw 98 rfl)) Via.refl e2 F_value_r0 (g := gK k4) rfl rfl (hb hby d20_7)
  have k7 : Kq X0 3 T5 (mkF m 12 (oL30 r0 r2) [(.ref r0), (.int (6 : Int32)), (.ref tb), (.ref r2)]) := fun t k => k4 t (st5 _ (XS.iloadN X5.here hx rfl (hb hby d20_10) rfl (XS.aloadN X5.here hx rfl (hb hby d20_11) rfl rfl k)))
  obtain ⟨T8, X8, e8, st8⟩ := getF X5 hx hZ hown (host := "") (Or.inl (ww hw 100 rfl)) Via.refl e5 F_coder_r0 (g := gK k7) rfl rfl (hb hby d20_12)
  have k9 : Kq X0 3 T8 (mkF m 15 (oL30 r0 r2) [(.int (0 : Int32)), (.int (6 : Int32)), (.ref tb), (.ref r2)]) := fun t k => k7 t (st8 _ k)
  obtain ⟨cq10, kcq10, q10a, q10b, q10c⟩ := isOf hZ e8 E_r2
  obtain ⟨_, _, ⟨T10, L10, kq10, n10⟩, -, X10, ⟨Lc10, hQ10, l10, y10, z10⟩, st10⟩ := X8.virtualBack hx (y := mN11) (z := mN11) hown (mw hZ hw 141 rfl) (mw hZ hw 142 rfl) (notFace_of_selects (args := #[]) (mw hZ hw 144 rfl)) (mw hZ hw 144 rfl) (mw hZ hw 143 rfl) (by decide) (backOf (W := 0) (rm22g_6_2_16 l Z a0 hw [] r2 tb tr kr us kb vd G1 h0 n0 Z0 E_r2 F_value_r2 F_coder_r2 V_tr V_tb hlv hlu g_tb S_CS P5 X00) hZ (ww hw 145 rfl) (ww hw 4 rfl) (by decide) (by decide)) q10a q10c (g := gK k9) rfl (by rw [hml]; rfl) (Steps.refl _) (argsL := [(.ref tb), (.int (6 : Int32)), (.int (0 : Int32))]) (rest := []) (lenOf pd_7 rfl) rfl (by show 2 * 0 + _ ≤ _; exact Nat.le_of_eq rfl) (hb hby d20_15) (fun _ _ => ⟨rfl, e8, (by decide : 0 + 0 ≤ _), (by decide : 0 + 0 ≤ _)⟩)
  dsimp only [Pt.U, Pt.locs, Pt.cells, Pt.slots] at X10 l10 y10 z10 st10 hQ10
  replace l10 := l10.symm; subst l10 y10 z10
  obtain ⟨rfl, N10q, K10, Vp10⟩ := hQ10
  have N10 := Fr.app N2 N10q
  have k11 : Kq X0 3 T10 (mkF m 18 (oL30 r0 r2) []) := fun t k => k9 t (st10.trans k)
  obtain ⟨fs, hr, hrun, hended, hW, hsame⟩ := X10.leave (v := none) (fun _ => rfl)
  refine ⟨_, _, k11 _ ?_, hrun, hended, _, _, rfl, ?_, ⟨_, rfl⟩, hW, hsame.mono (by decide) (by decide)⟩
  · exact X10.returnOut hx Bd.returns (hb hby d20_18) hr
  · show Q20p_6_2_16 Z r0 r2 tb kb vd tr kr us G1 h0 n0 _ T10.heap _
    exact ⟨rfl, N10, ((Keep.refl h0 [tb]).trans K10 (allS (Or.inl (own_wi 0 rfl)) all0)), Vp10⟩
def Q19e_6_2_16 (Z : State) (r0 : Addr) (tb : Addr) (kb : ClassId) (vd : List Value) (h0 : Heap) (n0 : Nat) (v : Option Value) (h : Heap) (L : List Loc) : Prop := v = none ∧ Fr n0 L ∧ h = h0
theorem rm19e_6_2_16 (l : Launch) (Z : State) (a0 : Array Value) (hw : ∀ d ∈ tables_1, d.before a0 Z = true) (ws : List Jvm.Cond) (r0 : Addr) (tb : Addr) (kb : ClassId) (vd : List Value) (h0 : Heap) (n0 : Nat) (Z0 : n0 ≤ h0.size) (F_value_r0 : Fld Z h0 r0 "java/lang/AbstractStringBuilder" "value" "[B" (.ref tb)) (F_coder_r0 : Fld Z h0 r0 "java/lang/AbstractStringBuilder" "coder" "B" (.int (0 : Int32))) (V_tb : Arv Z h0 tb kb .byte (16 : Int32) vd (.int (0 : Int32))) :
    MetFree l mN10 (head1 (Jvm.Cond.code mN10 jdk_68_method_9_code 3 none :: ws) oR2) (fun a U => a = #[(.ref r0), (.int (8 : Int32))] ∧ Z.Warmed39 U.vm ∧ U.heap = h0) (fun _ _ _ _ _ => True) (fun _ U o U' => ∃ v L, o = .returned v ∧ Q19e_6_2_16 Z r0 tb kb vd h0 n0 v U'.heap L ∧ FrameEnd U o U' L oR2.cells oR2.slots) := by
  refine MetFree.of_bodySF (plainFor_of_name pn_0) hisR ?_
  intro p e s m args below meth c s₁ Bd hml0 hP hK
  obtain ⟨rfl, hZ, hh⟩ := hP
  have hx := Bd.exec
  have hby := Bd.bytes
  have hml : c.maxLocals = 3 := hml0
  have hown : s.vm.findClass "java/lang/AbstractStringBuilder" = some m.cls := findClass_of_methodNamed Bd.named
  have X0 : Stand p l e oR2 s m #[(.ref r0), (.int (8 : Int32))] below meth c s₁ [] 0 0 := Stand.of_body Bd
  have e0 : s₁.heap = h0 := by rw [← hh, Bd.state]; rfl
  have N0 := Fr.nil n0
  have k0 : Kq X0 3 s₁ (mkF m 0 (oL17 r0) []) := fun t k => castTop (ef_39 m r0 (8 : Int32)) k
  have k1 : Kq X0 3 s₁ (mkF m 1 (oL17 r0) [(.ref r0)]) := fun t k => k0 t (XS.aloadN X0.here hx rfl (hb hby d19_0) rfl rfl k)
  obtain ⟨T2, X2, e2, st2⟩ := getF X0 hx hZ hown (host := "") (Or.inl (ww hw 98 rfl)) Via.refl e0 F_value_r0 (g := gK k1) rfl rfl (hb hby d19_1)
  have k3 : Kq X0 3 T2 (mkF m 4 (oL17 r0) [(.ref tb)]) := fun t k => k1 t (st2 _ k)
  obtain ⟨cl4, Ar4, q4, S4, N4_, H4, G4⟩ := (id V_tb)
  have S4' : cl4.slots.size = 16 := S4
  have L4 : (cl4.slots.size).toInt32 = (16 : Int32) := by rw [S4']; rfl
  have k5 : Kq X0 3 T2 (mkF m 6 (oL17 r0) [(.ref r0), (.int (16 : Int32))]) := fun t k => k3 t (by
      refine X2.arraylength hx (by rw [e2]; exact Ar4.1) (State.isArrayOf_alike hZ.alike Ar4.2.1) (g := (mkF m 4 (oL17 r0) [(.ref tb)])) rfl rfl (hb hby d19_4) _ ?_
      rw [L4]
      show Sg X0 T2 5 (oL17 r0) [(.int (16 : Int32))] _
      refine XS.aloadN X2.here hx rfl (hb hby d19_5) rfl rfl ?_
      exact k)
  obtain ⟨T6, X6, e6, st6⟩ := getF X2 hx hZ hown (host := "") (Or.inl (ww hw 100 rfl)) Via.refl e2 F_coder_r0 (g := gK k5) rfl rfl (hb hby d19_6)
  have hc14 : ¬ ((0 : Int32) < (-8 : Int32)) := by decide
  have k8 : Kq X0 3 T6 (mkF m 38 (oL18 r0) []) := fun t k => k5 t (st6 _ (XS.ishr X6.here hx rfl (hb hby d19_9) rfl (XS.istoreN X6.here hx rfl (hb hby d19_10) rfl (l' := (oL18 r0)) rfl (XS.iloadN X6.here hx rfl (hb hby d19_11) rfl (XS.iloadN X6.here hx rfl (hb hby d19_12) rfl (XS.isub X6.here hx rfl (hb hby d19_13) rfl (XS.ifYes X6.here hx rfl (pc0 := 14) (pc' := 38) rfl (hb hby d19_14) rfl ((if0 _ _).trans (flt hc14).2.2.2) (by decide) (by decide) k)))))))
  obtain ⟨fs, hr, hrun, hended, hW, hsame⟩ := X6.leave (v := none) (fun _ => rfl)
  refine ⟨_, _, k8 _ ?_, hrun, hended, _, _, rfl, ?_, ⟨_, rfl⟩, hW, hsame.mono (by decide) (by decide)⟩
  · exact X6.returnOut hx Bd.returns (hb hby d19_38) hr
  · show Q19e_6_2_16 Z r0 tb kb vd h0 n0 _ T6.heap _
    rw [e6]
    exact ⟨rfl, N0, rfl⟩
def Q16a_6_2_16 (Z : State) (r0 : Addr) (r1 : Addr) (tb : Addr) (kb : ClassId) (vd : List Value) (tr : Addr) (kr : ClassId) (us : List Value) (G1 : Int32) (h0 : Heap) (n0 : Nat) (v : Option Value) (h : Heap) (L : List Loc) : Prop := v = some (.ref r0) ∧ Fr n0 L ∧ Keep h0 h [r0, tb] ∧ Fld Z h r0 "java/lang/AbstractStringBuilder" "value" "[B" (.ref tb) ∧ Fld Z h r0 "java/lang/AbstractStringBuilder" "coder" "B" (.int (0 : Int32)) ∧ Fld Z h r0 "java/lang/AbstractStringBuilder" "count" "I" (.int (8 : Int32)) ∧ Exa Z h r0 "java/lang/StringBuilder" ∧ Arv Z h tb kb .byte (16 : Int32) (own_ins vd us 6 2) (.int (0 : Int32))
theorem rm16a_6_2_16 (l : Launch) (Z : State) (a0 : Array Value) (hw : ∀ d ∈ tables_1, d.before a0 Z = true) (ws : List Jvm.Cond) (r0 : Addr) (r1 : Addr) (tb : Addr) (kb : ClassId) (vd : List Value) (tr : Addr) (kr : ClassId) (us : List Value) (G1 : Int32) (h0 : Heap) (n0 : Nat) (Z0 : n0 ≤ h0.size) (F_value_r0 : Fld Z h0 r0 "java/lang/AbstractStringBuilder" "value" "[B" (.ref tb)) (F_coder_r0 : Fld Z h0 r0 "java/lang/AbstractStringBuilder" "coder" "B" (.int (0 : Int32))) (F_count_r0 : Fld Z h0 r0 "java/lang/AbstractStringBuilder" "count" "I" (.int (6 : Int32))) (E_r0 : Exa Z h0 r0 "java/lang/StringBuilder") (g_r0 : n0 ≤ r0) (V_tb : Arv Z h0 tb kb .byte (16 : Int32) vd (.int (0 : Int32))) (hlv : vd.length = 16) (ne_r0_tb : r0 ≠ tb) (g_tb : n0 ≤ tb) (E_r1 : Exa Z h0 r1 "java/lang/String") (F_value_r1 : Fld Z h0 r1 "java/lang/String" "value" "[B" (.ref tr)) (F_coder_r1 : Fld Z h0 r1 "java/lang/String" "coder" "B" (.int (0 : Int32))) (V_tr : Arv Z h0 tr kr .byte (2 : Int32) us (.int (0 : Int32))) (hlu : us.length = 2) (ne_r1_r0 : r1 ≠ r0) (ne_tr_r0 : tr ≠ r0) (S_CS : Sta Z Z.heap "java/lang/String" "COMPACT_STRINGS" "Z" (.int G1)) (P5 : ¬ (G1 = (0 : Int32))) (X00 : Old Z n0 h0) :
    MetFree l mN13 (head1 (Jvm.Cond.code mN13 jdk_68_method_22_code 3 (some (.object "java/lang/AbstractStringBuilder")) :: ws) oR10) (fun a U => a = #[(.ref r0), (.ref r1)] ∧ Z.Warmed39 U.vm ∧ U.heap = h0) (fun _ _ _ _ _ => True) (fun _ U o U' => ∃ v L, o = .returned v ∧ Q16a_6_2_16 Z r0 r1 tb kb vd tr kr us G1 h0 n0 v U'.heap L ∧ FrameEnd U o U' L oR10.cells oR10.slots) := by
  refine MetFree.of_bodySF (plainFor_of_name pn_0) hisR ?_
  intro p e s m args below meth c s₁ Bd hml0 hP hK
  obtain ⟨rfl, hZ, hh⟩ := hP
  have hx := Bd.exec
  have hby := Bd.bytes
  have hml : c.maxLocals = 3 := hml0
  have hown : s.vm.findClass "java/lang/AbstractStringBuilder" = some m.cls := findClass_of_methodNamed Bd.named
  have X0 : Stand p l e oR10 s m #[(.ref r0), (.ref r1)] below meth c s₁ [] 0 0 := Stand.of_body Bd
  have e0 : s₁.heap = h0 := by rw [← hh, Bd.state]; rfl
  have N0 := Fr.nil n0
  have k0 : Kq X0 3 s₁ (mkF m 0 (oL19 r0 r1) []) := fun t k => castTop (ef_16a_0_8_16 m r0 r1) k
  have k1 : Kq X0 3 s₁ (mkF m 10 (oL19 r0 r1) [(.ref r1)]) := fun t k => k0 t (XS.aloadN X0.here hx rfl (hb hby d16_0) rfl rfl (XS.ifnonnullYes X0.here hx rfl (pc0 := 1) (pc' := 9) rfl (hb hby d16_1) rfl (by decide) (by decide) (XS.aloadN X0.here hx rfl (hb hby d16_9) rfl rfl k)))
  obtain ⟨cq2, kcq2, q2a, q2b, q2c⟩ := isOf hZ e0 E_r1
  obtain ⟨_, _, ⟨T2, L2, kq2, n2⟩, -, X2, ⟨Lc2, hQ2, l2, y2, z2⟩, st2⟩ := X0.virtualBack hx (y := mN3) (z := mN3) hown (mw hZ hw 113 rfl) (mw hZ hw 114 rfl) (notFace_of_selects (args := #[]) (mw hZ hw 116 rfl)) (mw hZ hw 116 rfl) (mw hZ hw 115 rfl) (by decide) (backOf (W := 0) (rm17n2 l Z a0 hw [] r1 tr kr us G1 h0 n0 Z0 E_r1 F_value_r1 F_coder_r1 V_tr S_CS P5 X00) hZ (ww hw 117 rfl) (ww hw 4 rfl) (by decide) (by decide)) q2a q2c (g := gK k1) rfl (by rw [hml]; rfl) (Steps.refl _) (argsL := []) (rest := []) (lenOf pd_8 rfl) rfl (by show 2 * 0 + _ ≤ _; exact Nat.le_of_eq rfl) (hb hby d16_10) (fun _ _ => ⟨rfl, e0, (by decide : 0 + 0 ≤ _), (by decide : 0 + 0 ≤ _)⟩)
  dsimp only [Pt.U, Pt.locs, Pt.cells, Pt.slots] at X2 l2 y2 z2 st2 hQ2
  replace l2 := l2.symm; subst l2 y2 z2
  obtain ⟨rfl, N2q, e2⟩ := hQ2
  have N2 := Fr.app N0 N2q
  have k4 : Kq X0 3 T2 (mkF m 16 (oL25 r0 r1) [(.ref r0), (.ref r0)]) := fun t k => k1 t (st2.trans (XS.istoreN X2.here hx rfl (hb hby d16_13) rfl (l' := (oL25 r0 r1)) rfl (XS.aloadN X2.here hx rfl (hb hby d16_14) rfl rfl (XS.aloadN X2.here hx rfl (hb hby d16_15) rfl rfl k))))
  obtain ⟨T5, X5, e5, st5⟩ := getF X2 hx hZ hown (host := "") (Or.inl (ww hw 123 rfl)) Via.refl e2 F_count_r0 (g := gK k4) rfl rfl (hb hby d16_16)
  have k7 : Kq X0 3 T5 (mkF m 21 (oL25 r0 r1) [(.int (8 : Int32)), (.ref r0)]) := fun t k => k4 t (st5 _ (XS.iloadN X5.here hx rfl (hb hby d16_19) rfl (XS.iadd X5.here hx rfl (hb hby d16_20) rfl k)))
  obtain ⟨cq8, kcq8, q8a, q8b, q8c⟩ := isOf hZ e5 E_r0
  obtain ⟨cc8, qc8_1, -, qc8_2⟩ := q8c
  obtain ⟨_, _, ⟨T8, L8, kq8, n8⟩, -, X8, ⟨Lc8, hQ8, l8, y8, z8⟩, st8⟩ := X5.privateBack hx (y := mN10) hown (mw hZ hw 125 rfl) (mw hZ hw 126 rfl) (own_selp (y := mN10) (mw hZ hw 128 rfl) (Cond.privateMethod_at (args := #[]) (mvP hZ (ww hw 127 rfl))) (mw hZ hw 126 rfl) ⟨by decide, by decide⟩) (Cond.privateMethod_at (args := #[]) (mvP hZ (ww hw 127 rfl))) (mw hZ hw 129 rfl) ⟨by decide, by decide⟩ (backOf (W := 0) (rm19e_6_2_16 l Z a0 hw [] r0 tb kb vd h0 n0 Z0 F_value_r0 F_coder_r0 V_tb) hZ (ww hw 129 rfl) (ww hw 94 rfl) (by decide) (by decide)) (g := gK k7) rfl (by rw [hml]; rfl) (Steps.refl _) qc8_1 (fun q h => by rw [h] at qc8_2; cases qc8_2) (argsL := [(.int (8 : Int32))]) (rest := []) (lenOf pd_0 rfl) rfl (by show 2 * 0 + _ ≤ _; exact Nat.le_of_eq rfl) (hb hby d16_21) (fun _ _ => ⟨rfl, e5, (by decide : 0 + 0 ≤ _), (by decide : 0 + 0 ≤ _)⟩)
  dsimp only [Pt.U, Pt.locs, Pt.cells, Pt.slots] at X8 l8 y8 z8 st8 hQ8
  replace l8 := l8.symm; subst l8 y8 z8
  obtain ⟨rfl, N8q, e8⟩ := hQ8
  have N8 := Fr.app N2 N8q
  have k10 : Kq X0 3 T8 (mkF m 26 (oL25 r0 r1) [(.ref r0), (.ref r0)]) := fun t k => k7 t (st8.trans (XS.aloadN X8.here hx rfl (hb hby d16_24) rfl rfl (XS.aloadN X8.here hx rfl (hb hby d16_25) rfl rfl k)))
  obtain ⟨T11, X11, e11, st11⟩ := getF X8 hx hZ hown (host := "") (Or.inl (ww hw 123 rfl)) Via.refl e8 F_count_r0 (g := gK k10) rfl rfl (hb hby d16_26)
  have k13 : Kq X0 3 T11 (mkF m 30 (oL25 r0 r1) [(.ref r1), (.int (6 : Int32)), (.ref r0)]) := fun t k => k10 t (st11 _ (XS.aloadN X11.here hx rfl (hb hby d16_29) rfl rfl k))
  obtain ⟨cq14, kcq14, q14a, q14b, q14c⟩ := isOf hZ e11 E_r0
  obtain ⟨cc14, qc14_1, -, qc14_2⟩ := q14c
  obtain ⟨_, _, ⟨T14, L14, kq14, n14⟩, -, X14, ⟨Lc14, hQ14, l14, y14, z14⟩, st14⟩ := X11.privateBack hx (y := mN12) hown (mw hZ hw 130 rfl) (mw hZ hw 131 rfl) (own_selp (y := mN12) (mw hZ hw 133 rfl) (Cond.privateMethod_at (args := #[]) (mvP hZ (ww hw 132 rfl))) (mw hZ hw 131 rfl) ⟨by decide, by decide⟩) (Cond.privateMethod_at (args := #[]) (mvP hZ (ww hw 132 rfl))) (mw hZ hw 134 rfl) ⟨by decide, by decide⟩ (backOf (W := 0) (rm20p_6_2_16 l Z a0 hw [] r0 r1 tb kb vd tr kr us G1 h0 n0 Z0 F_value_r0 F_coder_r0 F_count_r0 E_r0 g_r0 V_tb hlv ne_r0_tb g_tb E_r1 F_value_r1 F_coder_r1 V_tr hlu S_CS P5 X00) hZ (ww hw 134 rfl) (ww hw 94 rfl) (by decide) (by decide)) (g := gK k13) rfl (by rw [hml]; rfl) (Steps.refl _) qc14_1 (fun q h => by rw [h] at qc14_2; cases qc14_2) (argsL := [(.int (6 : Int32)), (.ref r1)]) (rest := []) (lenOf pd_9 rfl) rfl (by show 2 * 0 + _ ≤ _; exact Nat.le_of_eq rfl) (hb hby d16_30) (fun _ _ => ⟨rfl, e11, (by decide : 0 + 0 ≤ _), (by decide : 0 + 0 ≤ _)⟩)
  dsimp only [Pt.U, Pt.locs, Pt.cells, Pt.slots] at X14 l14 y14 z14 st14 hQ14
  replace l14 := l14.symm; subst l14 y14 z14
  obtain ⟨rfl, N14q, K14, Vp14⟩ := hQ14
  have N14 := Fr.app N8 N14q
  have k16 : Kq X0 3 T14 (mkF m 35 (oL25 r0 r1) [(.ref r0), (.ref r0)]) := fun t k => k13 t (st14.trans (XS.aloadN X14.here hx rfl (hb hby d16_33) rfl rfl (XS.dup X14.here hx rfl (hb hby d16_34) rfl rfl k)))
  obtain ⟨T17, X17, e17, st17⟩ := getF X14 hx hZ hown (host := "") (Or.inl (ww hw 123 rfl)) Via.refl rfl (F_count_r0.keep K14 (ninS ne_r0_tb nin0)) (g := gK k16) rfl rfl (hb hby d16_35)
  have k19 : Kq X0 3 T17 (mkF m 40 (oL25 r0 r1) [(.int (8 : Int32)), (.ref r0)]) := fun t k => k16 t (st17 _ (XS.iloadN X17.here hx rfl (hb hby d16_38) rfl (XS.iadd X17.here hx rfl (hb hby d16_39) rfl k)))
  obtain ⟨T20, h20, X20, e20, W20, st20⟩ := putF X17 hx hZ hown (host := "") (Or.inl (ww hw 123 rfl)) Via.refl e17 (F_count_r0.keep K14 (ninS ne_r0_tb nin0)) (E_r0.keep K14) (Or.inl (ww hw 124 rfl)) (ww hw 85 rfl) (ty := .int) (by decide) rfl rfl (g := gK k19) rfl rfl (hb hby d16_40)
  have fc21 := ((F_value_r0.keep K14 (ninS ne_r0_tb nin0)).other W20 (Or.inr (slot_ne (Or.inl (ww hw 99 rfl)) (Or.inl (ww hw 124 rfl)) (by decide) (t := (.array .byte)) (t' := .int) (by decide) (by decide))))
  have fc22 := ((F_coder_r0.keep K14 (ninS ne_r0_tb nin0)).other W20 (Or.inr (slot_ne (Or.inl (ww hw 101 rfl)) (Or.inl (ww hw 124 rfl)) (by decide) (t := .byte) (t' := .int) (by decide) (by decide))))
  have N20 := Fr.snoc X20 N14 g_r0
  have k24 : Kq X0 3 T20 (mkF m 44 (oL25 r0 r1) [(.ref r0)]) := fun t k => k19 t (st20 _ (XS.aloadN X20.here hx rfl (hb hby d16_43) rfl rfl k))
  obtain ⟨fs, hr, hrun, hended, hW, hsame⟩ := X20.leave (v := (some (.ref r0))) (fun h => by rw [Bd.returns] at h; cases h)
  refine ⟨_, _, k24 _ ?_, hrun, hended, _, _, rfl, ?_, ⟨_, rfl⟩, hW, hsame.mono (by decide) (by decide)⟩
  · exact retOut X20 hx Bd.returns rfl (Or.inr (Or.inr (Or.inr (Or.inr ⟨rfl, rfl, rfl⟩)))) (hb hby d16_44) hr
  · show Q16a_6_2_16 Z r0 r1 tb kb vd tr kr us G1 h0 n0 _ T20.heap _
    rw [e20]
    exact ⟨rfl, N20, (((Keep.refl h0 [r0, tb]).trans K14 (allS (Or.inl (own_wi 1 rfl)) all0)).wr W20 (Or.inl (own_wi 0 rfl))), fc21, fc22, ((F_count_r0.keep K14 (ninS ne_r0_tb nin0)).same W20), ((E_r0.keep K14).wr W20), (Vp14.other W20 ne_r0_tb.symm)⟩
def Q15a_6_2_16 (Z : State) (r0 : Addr) (r1 : Addr) (tb : Addr) (kb : ClassId) (vd : List Value) (tr : Addr) (kr : ClassId) (us : List Value) (G1 : Int32) (h0 : Heap) (n0 : Nat) (v : Option Value) (h : Heap) (L : List Loc) : Prop := v = some (.ref r0) ∧ Fr n0 L ∧ Keep h0 h [r0, tb] ∧ Fld Z h r0 "java/lang/AbstractStringBuilder" "value" "[B" (.ref tb) ∧ Fld Z h r0 "java/lang/AbstractStringBuilder" "coder" "B" (.int (0 : Int32)) ∧ Fld Z h r0 "java/lang/AbstractStringBuilder" "count" "I" (.int (8 : Int32)) ∧ Exa Z h r0 "java/lang/StringBuilder" ∧ Arv Z h tb kb .byte (16 : Int32) (own_ins vd us 6 2) (.int (0 : Int32))
theorem rm15a_6_2_16 (l : Launch) (Z : State) (a0 : Array Value) (hw : ∀ d ∈ tables_1, d.before a0 Z = true) (ws : List Jvm.Cond) (r0 : Addr) (r1 : Addr) (tb : Addr) (kb : ClassId) (vd : List Value) (tr : Addr) (kr : ClassId) (us : List Value) (G1 : Int32) (h0 : Heap) (n0 : Nat) (Z0 : n0 ≤ h0.size) (F_value_r0 : Fld Z h0 r0 "java/lang/AbstractStringBuilder" "value" "[B" (.ref tb)) (F_coder_r0 : Fld Z h0 r0 "java/lang/AbstractStringBuilder" "coder" "B" (.int (0 : Int32))) (F_count_r0 : Fld Z h0 r0 "java/lang/AbstractStringBuilder" "count" "I" (.int (6 : Int32))) (E_r0 : Exa Z h0 r0 "java/lang/StringBuilder") (g_r0 : n0 ≤ r0) (V_tb : Arv Z h0 tb kb .byte (16 : Int32) vd (.int (0 : Int32))) (hlv : vd.length = 16) (ne_r0_tb : r0 ≠ tb) (g_tb : n0 ≤ tb) (E_r1 : Exa Z h0 r1 "java/lang/String") (F_value_r1 : Fld Z h0 r1 "java/lang/String" "value" "[B" (.ref tr)) (F_coder_r1 : Fld Z h0 r1 "java/lang/String" "coder" "B" (.int (0 : Int32))) (V_tr : Arv Z h0 tr kr .byte (2 : Int32) us (.int (0 : Int32))) (hlu : us.length = 2) (ne_r1_r0 : r1 ≠ r0) (ne_tr_r0 : tr ≠ r0) (S_CS : Sta Z Z.heap "java/lang/String" "COMPACT_STRINGS" "Z" (.int G1)) (P5 : ¬ (G1 = (0 : Int32))) (X00 : Old Z n0 h0) :
    MetFree l mN14 (head1 (Jvm.Cond.code mN14 jdk_67_method_7_code 2 (some (.object "java/lang/StringBuilder")) :: ws) oR11) (fun a U => a = #[(.ref r0), (.ref r1)] ∧ Z.Warmed39 U.vm ∧ U.heap = h0) (fun _ _ _ _ _ => True) (fun _ U o U' => ∃ v L, o = .returned v ∧ Q15a_6_2_16 Z r0 r1 tb kb vd tr kr us G1 h0 n0 v U'.heap L ∧ FrameEnd U o U' L oR11.cells oR11.slots) := by
  refine MetFree.of_bodySF (plainFor_of_name pn_1) hisR ?_
  intro p e s m args below meth c s₁ Bd hml0 hP hK
  obtain ⟨rfl, hZ, hh⟩ := hP
  have hx := Bd.exec
  have hby := Bd.bytes
  have hml : c.maxLocals = 2 := hml0
  have hown : s.vm.findClass "java/lang/StringBuilder" = some m.cls := findClass_of_methodNamed Bd.named
  have X0 : Stand p l e oR11 s m #[(.ref r0), (.ref r1)] below meth c s₁ [] 0 0 := Stand.of_body Bd
  have e0 : s₁.heap = h0 := by rw [← hh, Bd.state]; rfl
  have N0 := Fr.nil n0
  have k0 : Kq X0 2 s₁ (mkF m 0 (oL1 r0 r1) []) := fun t k => castTop (ef_21 m r0 r1) k
  have k1 : Kq X0 2 s₁ (mkF m 2 (oL1 r0 r1) [(.ref r1), (.ref r0)]) := fun t k => k0 t (XS.aloadN X0.here hx rfl (hb hby d15_0) rfl rfl (XS.aloadN X0.here hx rfl (hb hby d15_1) rfl rfl k))
  obtain ⟨_, _, ⟨T2, L2, kq2, n2⟩, -, X2, ⟨Lc2, hQ2, l2, y2, z2⟩, st2⟩ := superBack X0 hx hZ hown (ww hw 108 rfl) (own_same (y := mN13) (ww hw 128 rfl) rfl (ww hw 109 rfl) ⟨by decide, by decide⟩) (ww hw 109 rfl) (ww hw 110 rfl) (by decide) (backOf (W := 0) (rm16a_6_2_16 l Z a0 hw [] r0 r1 tb kb vd tr kr us G1 h0 n0 Z0 F_value_r0 F_coder_r0 F_count_r0 E_r0 g_r0 V_tb hlv ne_r0_tb g_tb E_r1 F_value_r1 F_coder_r1 V_tr hlu ne_r1_r0 ne_tr_r0 S_CS P5 X00) hZ (ww hw 112 rfl) (ww hw 94 rfl) (by decide) (by decide)) e0 (Ins.self E_r0) (g := gK k1) rfl (by rw [hml]; rfl) (ww hw 112 rfl) (argsL := [(.ref r1)]) (rest := []) (lenOf pd_10 rfl) rfl (by show 2 * 0 + _ ≤ _; exact Nat.le_of_eq rfl) (hb hby d15_2) (fun _ _ => ⟨rfl, e0, (by decide : 0 + 0 ≤ _), (by decide : 0 + 0 ≤ _)⟩)
  dsimp only [Pt.U, Pt.locs, Pt.cells, Pt.slots] at X2 l2 y2 z2 st2 hQ2
  replace l2 := l2.symm; subst l2 y2 z2
  obtain ⟨rfl, N2q, K2, Fx2_0, Fx2_1, Fx2_2, Ex2, Vp2⟩ := hQ2
  have N2 := Fr.app N0 N2q
  have k4 : Kq X0 2 T2 (mkF m 7 (oL1 r0 r1) [(.ref r0)]) := fun t k => k1 t (st2.trans (XS.pop X2.here hx rfl (hb hby d15_5) rfl rfl (XS.aloadN X2.here hx rfl (hb hby d15_6) rfl rfl k)))
  obtain ⟨fs, hr, hrun, hended, hW, hsame⟩ := X2.leave (v := (some (.ref r0))) (fun h => by rw [Bd.returns] at h; cases h)
  refine ⟨_, _, k4 _ ?_, hrun, hended, _, _, rfl, ?_, ⟨_, rfl⟩, hW, hsame.mono (by decide) (by decide)⟩
  · exact retOut X2 hx Bd.returns rfl (Or.inr (Or.inr (Or.inr (Or.inr ⟨rfl, rfl, rfl⟩)))) (hb hby d15_7) hr
  · show Q15a_6_2_16 Z r0 r1 tb kb vd tr kr us G1 h0 n0 _ T2.heap _
    exact ⟨rfl, N2, ((Keep.refl h0 [r0, tb]).trans K2 (allS (Or.inl (own_wi 0 rfl)) (allS (Or.inl (own_wi 1 rfl)) all0))), Fx2_0, Fx2_1, Fx2_2, Ex2, Vp2⟩
def Q22g_8_10_16 (Z : State) (r0 : Addr) (tb : Addr) (tr : Addr) (kr : ClassId) (us : List Value) (kb : ClassId) (vd : List Value) (G1 : Int32) (h0 : Heap) (n0 : Nat) (v : Option Value) (h : Heap) (L : List Loc) : Prop := v = none ∧ Fr n0 L ∧ Keep h0 h [tb] ∧ Arv Z h tb kb .byte (34 : Int32) (own_ins vd us 8 10) (.int (0 : Int32))
theorem rm22g_8_10_16 (l : Launch) (Z : State) (a0 : Array Value) (hw : ∀ d ∈ tables_1, d.before a0 Z = true) (ws : List Jvm.Cond) (r0 : Addr) (tb : Addr) (tr : Addr) (kr : ClassId) (us : List Value) (kb : ClassId) (vd : List Value) (G1 : Int32) (h0 : Heap) (n0 : Nat) (Z0 : n0 ≤ h0.size) (E_r0 : Exa Z h0 r0 "java/lang/String") (F_value_r0 : Fld Z h0 r0 "java/lang/String" "value" "[B" (.ref tr)) (F_coder_r0 : Fld Z h0 r0 "java/lang/String" "coder" "B" (.int (0 : Int32))) (V_tr : Arv Z h0 tr kr .byte (10 : Int32) us (.int (0 : Int32))) (V_tb : Arv Z h0 tb kb .byte (34 : Int32) vd (.int (0 : Int32))) (hlv : vd.length = 34) (hlu : us.length = 10) (g_tb : n0 ≤ tb) (S_CS : Sta Z Z.heap "java/lang/String" "COMPACT_STRINGS" "Z" (.int G1)) (P5 : ¬ (G1 = (0 : Int32))) (X00 : Old Z n0 h0) :
    MetFree l mN11 (head1 (Jvm.Cond.code mN11 jdk_42_method_147_code 4 none :: ws) oR8) (fun a U => a = #[(.ref r0), (.ref tb), (.int (8 : Int32)), (.int (0 : Int32))] ∧ Z.Warmed39 U.vm ∧ U.heap = h0) (fun _ _ _ _ _ => True) (fun _ U o U' => ∃ v L, o = .returned v ∧ Q22g_8_10_16 Z r0 tb tr kr us kb vd G1 h0 n0 v U'.heap L ∧ FrameEnd U o U' L oR8.cells oR8.slots) := by
  refine MetFree.of_bodySF (plainFor_of_name pn_2) hisR ?_
  intro p e s m args below meth c s₁ Bd hml0 hP hK
  obtain ⟨rfl, hZ, hh⟩ := hP
  have hx := Bd.exec
  have hby := Bd.bytes
  have hml : c.maxLocals = 4 := hml0
  have hown : s.vm.findClass "java/lang/String" = some m.cls := findClass_of_methodNamed Bd.named
  have X0 : Stand p l e oR8 s m #[(.ref r0), (.ref tb), (.int (8 : Int32)), (.int (0 : Int32))] below meth c s₁ [] 0 0 := Stand.of_body Bd
  have e0 : s₁.heap = h0 := by rw [← hh, Bd.state]; rfl
  have N0 := Fr.nil n0
  have k0 : Kq X0 4 s₁ (mkF m 0 (oL21 r0 tb) []) := fun t k => castTop (ef_22g_0_8_16 m r0 tb (8 : Int32) (0 : Int32)) k
  have k1 : Kq X0 4 s₁ (mkF m 1 (oL21 r0 tb) [(.ref r0)]) := fun t k => k0 t (XS.aloadN X0.here hx rfl (hb hby d22_0) rfl rfl k)
  obtain ⟨cq2, kcq2, q2a, q2b, q2c⟩ := isOf hZ e0 E_r0
  obtain ⟨_, _, ⟨T2, L2, kq2, n2⟩, -, X2, ⟨Lc2, hQ2, l2, y2, z2⟩, st2⟩ := X0.virtualBack hx (y := mN2) (z := mN2) hown (mw hZ hw 118 rfl) (mw hZ hw 119 rfl) (notFace_of_selects (args := #[]) (mw hZ hw 121 rfl)) (mw hZ hw 121 rfl) (mw hZ hw 120 rfl) (by decide) (backOf (W := 0) (rm18 l Z a0 hw [] r0 G1 h0 n0 Z0 F_coder_r0 S_CS P5 X00) hZ (ww hw 122 rfl) (ww hw 4 rfl) (by decide) (by decide)) q2a q2c (g := gK k1) rfl (by rw [hml]; rfl) (Steps.refl _) (argsL := []) (rest := []) (lenOf pd_1 rfl) rfl (by show 2 * 0 + _ ≤ _; exact Nat.le_of_eq rfl) (hb hby d22_1) (fun _ _ => ⟨rfl, e0, (by decide : 0 + 0 ≤ _), (by decide : 0 + 0 ≤ _)⟩)
  dsimp only [Pt.U, Pt.locs, Pt.cells, Pt.slots] at X2 l2 y2 z2 st2 hQ2
  replace l2 := l2.symm; subst l2 y2 z2
  obtain ⟨rfl, N2q, e2⟩ := hQ2
  have N2 := Fr.app N0 N2q
  have hc5 : (0 : Int32) = (0 : Int32) := by decide
  have k4 : Kq X0 4 T2 (mkF m 9 (oL21 r0 tb) [(.ref r0)]) := fun t k => k1 t (st2.trans (XS.iloadN X2.here hx rfl (hb hby d22_4) rfl (XS.icmpNo X2.here hx rfl (hb hby d22_5) rfl (teq hc5).2 (XS.aloadN X2.here hx rfl (hb hby d22_8) rfl rfl k))))
  obtain ⟨T5, X5, e5, st5⟩ := getF X2 hx hZ hown (host := "") (Or.inl (ww hw 82 rfl)) Via.refl e2 F_value_r0 (g := gK k4) rfl rfl (hb hby d22_9)
  have k7 : Kq X0 4 T5 (mkF m 18 (oL21 r0 tb) [(.ref r0), (.int (8 : Int32)), (.ref tb), (.int (0 : Int32)), (.ref tr)]) := fun t k => k4 t (st5 _ (XS.iconst X5.here hx rfl (hb hby d22_12) (XS.aloadN X5.here hx rfl (hb hby d22_13) rfl rfl (XS.iloadN X5.here hx rfl (hb hby d22_14) rfl (XS.iloadN X5.here hx rfl (hb hby d22_15) rfl (XS.ishl X5.here hx rfl (hb hby d22_16) rfl (XS.aloadN X5.here hx rfl (hb hby d22_17) rfl rfl k)))))))
  obtain ⟨T8, X8, e8, st8⟩ := getF X5 hx hZ hown (host := "") (Or.inl (ww hw 82 rfl)) Via.refl e5 F_value_r0 (g := gK k7) rfl rfl (hb hby d22_18)
  have k9 : Kq X0 4 T8 (mkF m 21 (oL21 r0 tb) [(.ref tr), (.int (8 : Int32)), (.ref tb), (.int (0 : Int32)), (.ref tr)]) := fun t k => k7 t (st8 _ k)
  obtain ⟨cl10, Ar10, q10, S10, N10_, H10, G10⟩ := (id V_tr)
  have S10' : cl10.slots.size = 10 := S10
  have L10 : (cl10.slots.size).toInt32 = (10 : Int32) := by rw [S10']; rfl
  have k11 : Kq X0 4 T8 (mkF m 22 (oL21 r0 tb) [(.int (10 : Int32)), (.int (8 : Int32)), (.ref tb), (.int (0 : Int32)), (.ref tr)]) := fun t k => k9 t (by
      refine X8.arraylength hx (by rw [e8]; exact Ar10.1) (State.isArrayOf_alike hZ.alike Ar10.2.1) (g := (mkF m 21 (oL21 r0 tb) [(.ref tr), (.int (8 : Int32)), (.ref tb), (.int (0 : Int32)), (.ref tr)])) rfl rfl (hb hby d22_21) _ ?_
      rw [L10]
      exact k)
  obtain ⟨T13, h13, L13, X13, e13, N13, K13, V13, st13⟩ := cpA X8 hx hZ hown (ww hw 146 rfl) (ww hw 149 rfl) (ww hw 147 rfl) (ww hw 148 rfl) e8 V_tr V_tb (us := us) (sp := (0 : Int32)) (dp := (8 : Int32)) (nn := (10 : Int32)) (Or.inl ⟨rfl, rfl⟩) (by decide) (by decide) (by decide) (by decide) (by decide) (own_us hlu) (by rw [hlv]; decide) N2 g_tb (g := gK k11) rfl (by rw [hml]; rfl) rfl (hb hby d22_22) (by decide) (W := 0) (by show 2 * 0 + _ ≤ _; exact Nat.le_of_eq rfl) (by decide)
  have Vc13 : Arv Z h13 tb kb .byte (34 : Int32) (own_ins vd us 8 10) (.int (0 : Int32)) := V13
  have k15 : Kq X0 4 T13 (mkF m 43 (oL21 r0 tb) []) := fun t k => k11 t (st13 _ (XS.goto X13.here hx rfl (pc0 := 25) (pc' := 43) rfl (hb hby d22_25) (by decide) (by decide) k))
  obtain ⟨fs, hr, hrun, hended, hW, hsame⟩ := X13.leave (v := none) (fun _ => rfl)
  refine ⟨_, _, k15 _ ?_, hrun, hended, _, _, rfl, ?_, ⟨_, rfl⟩, hW, hsame.mono (by decide) (by decide)⟩
  · exact X13.returnOut hx Bd.returns (hb hby d22_43) hr
  · show Q22g_8_10_16 Z r0 tb tr kr us kb vd G1 h0 n0 _ T13.heap _
    rw [e13]
    exact ⟨rfl, N13, ((Keep.refl h0 [tb]).trans K13 (allS (Or.inl (own_wi 0 rfl)) all0)), Vc13⟩
def Q20p_8_10_16 (Z : State) (r0 : Addr) (r2 : Addr) (tb : Addr) (kb : ClassId) (vd : List Value) (tr : Addr) (kr : ClassId) (us : List Value) (G1 : Int32) (h0 : Heap) (n0 : Nat) (v : Option Value) (h : Heap) (L : List Loc) : Prop := v = none ∧ Fr n0 L ∧ Keep h0 h [tb] ∧ Arv Z h tb kb .byte (34 : Int32) (own_ins vd us 8 10) (.int (0 : Int32))
theorem rm20p_8_10_16 (l : Launch) (Z : State) (a0 : Array Value) (hw : ∀ d ∈ tables_1, d.before a0 Z = true) (ws : List Jvm.Cond) (r0 : Addr) (r2 : Addr) (tb : Addr) (kb : ClassId) (vd : List Value) (tr : Addr) (kr : ClassId) (us : List Value) (G1 : Int32) (h0 : Heap) (n0 : Nat) (Z0 : n0 ≤ h0.size) (F_value_r0 : Fld Z h0 r0 "java/lang/AbstractStringBuilder" "value" "[B" (.ref tb)) (F_coder_r0 : Fld Z h0 r0 "java/lang/AbstractStringBuilder" "coder" "B" (.int (0 : Int32))) (F_count_r0 : Fld Z h0 r0 "java/lang/AbstractStringBuilder" "count" "I" (.int (8 : Int32))) (E_r0 : Exa Z h0 r0 "java/lang/StringBuilder") (g_r0 : n0 ≤ r0) (V_tb : Arv Z h0 tb kb .byte (34 : Int32) vd (.int (0 : Int32))) (hlv : vd.length = 34) (ne_r0_tb : r0 ≠ tb) (g_tb : n0 ≤ tb) (E_r2 : Exa Z h0 r2 "java/lang/String") (F_value_r2 : Fld Z h0 r2 "java/lang/String" "value" "[B" (.ref tr)) (F_coder_r2 : Fld Z h0 r2 "java/lang/String" "coder" "B" (.int (0 : Int32))) (V_tr : Arv Z h0 tr kr .byte (10 : Int32) us (.int (0 : Int32))) (hlu : us.length = 10) (S_CS : Sta Z Z.heap "java/lang/String" "COMPACT_STRINGS" "Z" (.int G1)) (P5 : ¬ (G1 = (0 : Int32))) (X00 : Old Z n0 h0) :
    MetFree l mN12 (head1 (Jvm.Cond.code mN12 jdk_68_method_73_code 3 none :: ws) oR9) (fun a U => a = #[(.ref r0), (.int (8 : Int32)), (.ref r2)] ∧ Z.Warmed39 U.vm ∧ U.heap = h0) (fun _ _ _ _ _ => True) (fun _ U o U' => ∃ v L, o = .returned v ∧ Q20p_8_10_16 Z r0 r2 tb kb vd tr kr us G1 h0 n0 v U'.heap L ∧ FrameEnd U o U' L oR9.cells oR9.slots) := by
  refine MetFree.of_bodySF (plainFor_of_name pn_0) hisR ?_
  intro p e s m args below meth c s₁ Bd hml0 hP hK
  obtain ⟨rfl, hZ, hh⟩ := hP
  have hx := Bd.exec
  have hby := Bd.bytes
  have hml : c.maxLocals = 3 := hml0
  have hown : s.vm.findClass "java/lang/AbstractStringBuilder" = some m.cls := findClass_of_methodNamed Bd.named
  have X0 : Stand p l e oR9 s m #[(.ref r0), (.int (8 : Int32)), (.ref r2)] below meth c s₁ [] 0 0 := Stand.of_body Bd
  have e0 : s₁.heap = h0 := by rw [← hh, Bd.state]; rfl
  have N0 := Fr.nil n0
  have k0 : Kq X0 3 s₁ (mkF m 0 (oL22 r0 r2) []) := fun t k => castTop (ef_20p_0_8_16 m r0 (8 : Int32) r2) k
  have k1 : Kq X0 3 s₁ (mkF m 2 (oL22 r0 r2) [(.ref r2), (.ref r0)]) := fun t k => k0 t (XS.aloadN X0.here hx rfl (hb hby d20_0) rfl rfl (XS.aloadN X0.here hx rfl (hb hby d20_1) rfl rfl k))
  obtain ⟨cq2, kcq2, q2a, q2b, q2c⟩ := isOf hZ e0 E_r0
  obtain ⟨cc2, qc2_1, -, qc2_2⟩ := q2c
  obtain ⟨_, _, ⟨T2, L2, kq2, n2⟩, -, X2, ⟨Lc2, hQ2, l2, y2, z2⟩, st2⟩ := X0.privateBack hx (y := mN4) hown (mw hZ hw 135 rfl) (mw hZ hw 136 rfl) (own_selp (y := mN4) (mw hZ hw 138 rfl) (Cond.privateMethod_at (args := #[]) (mvP hZ (ww hw 137 rfl))) (mw hZ hw 136 rfl) ⟨by decide, by decide⟩) (Cond.privateMethod_at (args := #[]) (mvP hZ (ww hw 137 rfl))) (mw hZ hw 139 rfl) ⟨by decide, by decide⟩ (backOf (W := 0) (rm21 l Z a0 hw [] r0 r2 G1 h0 n0 Z0 F_coder_r0 F_coder_r2 E_r2 S_CS P5 X00) hZ (ww hw 139 rfl) (ww hw 94 rfl) (by decide) (by decide)) (g := gK k1) rfl (by rw [hml]; rfl) (Steps.refl _) qc2_1 (fun q h => by rw [h] at qc2_2; cases qc2_2) (argsL := [(.ref r2)]) (rest := []) (lenOf pd_6 rfl) rfl (by show 2 * 0 + _ ≤ _; exact Nat.le_of_eq rfl) (hb hby d20_2) (fun _ _ => ⟨rfl, e0, (by decide : 0 + 0 ≤ _), (by decide : 0 + 0 ≤ _)⟩)
  dsimp only [Pt.U, Pt.locs, Pt.cells, Pt.slots] at X2 l2 y2 z2 st2 hQ2
  replace l2 := l2.symm; subst l2 y2 z2
  obtain ⟨rfl, N2q, e2⟩ := hQ2
  have N2 := Fr.app N0 N2q
  have k4 : Kq X0 3 T2 (mkF m 7 (oL22 r0 r2) [(.ref r0), (.ref r2)]) := fun t k => k1 t (st2.trans (XS.aloadN X2.here hx rfl (hb hby d20_5) rfl rfl (XS.aloadN X2.here hx rfl (hb hby d20_6) rfl rfl k)))
  obtain ⟨T5, X5, e5, st5⟩ := getF X2 hx hZ hown (host := "") (Or.inl (ww hw 98 rfl)) Via.refl e2 F_value_r0 (g := gK k4) rfl rfl (hb hby d20_7)
  have k7 : Kq X0 3 T5 (mkF m 12 (oL22 r0 r2) [(.ref r0), (.int (8 : Int32)), (.ref tb), (.ref r2)]) := fun t k => k4 t (st5 _ (XS.iloadN X5.here hx rfl (hb hby d20_10) rfl (XS.aloadN X5.here hx rfl (hb hby d20_11) rfl rfl k)))
  obtain ⟨T8, X8, e8, st8⟩ := getF X5 hx hZ hown (host := "") (Or.inl (ww hw 100 rfl)) Via.refl e5 F_coder_r0 (g := gK k7) rfl rfl (hb hby d20_12)
  have k9 : Kq X0 3 T8 (mkF m 15 (oL22 r0 r2) [(.int (0 : Int32)), (.int (8 : Int32)), (.ref tb), (.ref r2)]) := fun t k => k7 t (st8 _ k)
  obtain ⟨cq10, kcq10, q10a, q10b, q10c⟩ := isOf hZ e8 E_r2
  obtain ⟨_, _, ⟨T10, L10, kq10, n10⟩, -, X10, ⟨Lc10, hQ10, l10, y10, z10⟩, st10⟩ := X8.virtualBack hx (y := mN11) (z := mN11) hown (mw hZ hw 141 rfl) (mw hZ hw 142 rfl) (notFace_of_selects (args := #[]) (mw hZ hw 144 rfl)) (mw hZ hw 144 rfl) (mw hZ hw 143 rfl) (by decide) (backOf (W := 0) (rm22g_8_10_16 l Z a0 hw [] r2 tb tr kr us kb vd G1 h0 n0 Z0 E_r2 F_value_r2 F_coder_r2 V_tr V_tb hlv hlu g_tb S_CS P5 X00) hZ (ww hw 145 rfl) (ww hw 4 rfl) (by decide) (by decide)) q10a q10c (g := gK k9) rfl (by rw [hml]; rfl) (Steps.refl _) (argsL := [(.ref tb), (.int (8 : Int32)), (.int (0 : Int32))]) (rest := []) (lenOf pd_7 rfl) rfl (by show 2 * 0 + _ ≤ _; exact Nat.le_of_eq rfl) (hb hby d20_15) (fun _ _ => ⟨rfl, e8, (by decide : 0 + 0 ≤ _), (by decide : 0 + 0 ≤ _)⟩)
  dsimp only [Pt.U, Pt.locs, Pt.cells, Pt.slots] at X10 l10 y10 z10 st10 hQ10
  replace l10 := l10.symm; subst l10 y10 z10
  obtain ⟨rfl, N10q, K10, Vp10⟩ := hQ10
  have N10 := Fr.app N2 N10q
  have k11 : Kq X0 3 T10 (mkF m 18 (oL22 r0 r2) []) := fun t k => k9 t (st10.trans k)
  obtain ⟨fs, hr, hrun, hended, hW, hsame⟩ := X10.leave (v := none) (fun _ => rfl)
  refine ⟨_, _, k11 _ ?_, hrun, hended, _, _, rfl, ?_, ⟨_, rfl⟩, hW, hsame.mono (by decide) (by decide)⟩
  · exact X10.returnOut hx Bd.returns (hb hby d20_18) hr
  · show Q20p_8_10_16 Z r0 r2 tb kb vd tr kr us G1 h0 n0 _ T10.heap _
    exact ⟨rfl, N10, ((Keep.refl h0 [tb]).trans K10 (allS (Or.inl (own_wi 0 rfl)) all0)), Vp10⟩
def Q16a_8_10_16 (Z : State) (r0 : Addr) (r1 : Addr) (tb : Addr) (kb : ClassId) (vd : List Value) (tr : Addr) (kr : ClassId) (us : List Value) (G1 : Int32) (h0 : Heap) (n0 : Nat) (v : Option Value) (h : Heap) (L : List Loc) : Prop := v = some (.ref r0) ∧ Fr n0 L ∧ Keep h0 h [r0] ∧ ∃ t k, h0.size ≤ t ∧ Fld Z h r0 "java/lang/AbstractStringBuilder" "value" "[B" (.ref t) ∧ Fld Z h r0 "java/lang/AbstractStringBuilder" "coder" "B" (.int (0 : Int32)) ∧ Fld Z h r0 "java/lang/AbstractStringBuilder" "count" "I" (.int (18 : Int32)) ∧ Exa Z h r0 "java/lang/StringBuilder" ∧ Arv Z h t k .byte (34 : Int32) (own_ins (own_ins oZ34 vd 0 16) us 8 10) (.int (0 : Int32))
def oR12 : Room := { frames := 4, cells := 1, slots := 34, locals := 65 }
def oL31 (r0 : Addr) (r1 : Addr) : Array Slot := #[.val (.ref r0), .val (.ref r1), .val (.int (10 : Int32))]
theorem rm16a_8_10_16 (l : Launch) (Z : State) (a0 : Array Value) (hw : ∀ d ∈ tables_1, d.before a0 Z = true) (ws : List Jvm.Cond) (r0 : Addr) (r1 : Addr) (tb : Addr) (kb : ClassId) (vd : List Value) (tr : Addr) (kr : ClassId) (us : List Value) (G1 : Int32) (h0 : Heap) (n0 : Nat) (Z0 : n0 ≤ h0.size) (F_value_r0 : Fld Z h0 r0 "java/lang/AbstractStringBuilder" "value" "[B" (.ref tb)) (F_coder_r0 : Fld Z h0 r0 "java/lang/AbstractStringBuilder" "coder" "B" (.int (0 : Int32))) (F_count_r0 : Fld Z h0 r0 "java/lang/AbstractStringBuilder" "count" "I" (.int (8 : Int32))) (E_r0 : Exa Z h0 r0 "java/lang/StringBuilder") (g_r0 : n0 ≤ r0) (V_tb : Arv Z h0 tb kb .byte (16 : Int32) vd (.int (0 : Int32))) (hlv : vd.length = 16) (ne_r0_tb : r0 ≠ tb) (g_tb : n0 ≤ tb) (E_r1 : Exa Z h0 r1 "java/lang/String") (F_value_r1 : Fld Z h0 r1 "java/lang/String" "value" "[B" (.ref tr)) (F_coder_r1 : Fld Z h0 r1 "java/lang/String" "coder" "B" (.int (0 : Int32))) (V_tr : Arv Z h0 tr kr .byte (10 : Int32) us (.int (0 : Int32))) (hlu : us.length = 10) (ne_r1_r0 : r1 ≠ r0) (ne_tr_r0 : tr ≠ r0) (S_CS : Sta Z Z.heap "java/lang/String" "COMPACT_STRINGS" "Z" (.int G1)) (P5 : ¬ (G1 = (0 : Int32))) (X00 : Old Z n0 h0) :
    MetFree l mN13 (head1 (Jvm.Cond.code mN13 jdk_68_method_22_code 3 (some (.object "java/lang/AbstractStringBuilder")) :: ws) oR12) (fun a U => a = #[(.ref r0), (.ref r1)] ∧ Z.Warmed39 U.vm ∧ U.heap = h0) (fun _ _ _ _ _ => True) (fun _ U o U' => ∃ v L, o = .returned v ∧ Q16a_8_10_16 Z r0 r1 tb kb vd tr kr us G1 h0 n0 v U'.heap L ∧ FrameEnd U o U' L oR12.cells oR12.slots) := by
  refine MetFree.of_bodySF (plainFor_of_name pn_0) hisR ?_
  intro p e s m args below meth c s₁ Bd hml0 hP hK
  obtain ⟨rfl, hZ, hh⟩ := hP
  have hx := Bd.exec
  have hby := Bd.bytes
  have hml : c.maxLocals = 3 := hml0
  have hown : s.vm.findClass "java/lang/AbstractStringBuilder" = some m.cls := findClass_of_methodNamed Bd.named
  have X0 : Stand p l e oR12 s m #[(.ref r0), (.ref r1)] below meth c s₁ [] 0 0 := Stand.of_body Bd
  have e0 : s₁.heap = h0 := by rw [← hh, Bd.state]; rfl
  have N0 := Fr.nil n0
  have k0 : Kq X0 3 s₁ (mkF m 0 (oL19 r0 r1) []) := fun t k => castTop (ef_16a_0_8_16 m r0 r1) k
  have k1 : Kq X0 3 s₁ (mkF m 10 (oL19 r0 r1) [(.ref r1)]) := fun t k => k0 t (XS.aloadN X0.here hx rfl (hb hby d16_0) rfl rfl (XS.ifnonnullYes X0.here hx rfl (pc0 := 1) (pc' := 9) rfl (hb hby d16_1) rfl (by decide) (by decide) (XS.aloadN X0.here hx rfl (hb hby d16_9) rfl rfl k)))
  obtain ⟨cq2, kcq2, q2a, q2b, q2c⟩ := isOf hZ e0 E_r1
  obtain ⟨_, _, ⟨T2, L2, kq2, n2⟩, -, X2, ⟨Lc2, hQ2, l2, y2, z2⟩, st2⟩ := X0.virtualBack hx (y := mN3) (z := mN3) hown (mw hZ hw 113 rfl) (mw hZ hw 114 rfl) (notFace_of_selects (args := #[]) (mw hZ hw 116 rfl)) (mw hZ hw 116 rfl) (mw hZ hw 115 rfl) (by decide) (backOf (W := 0) (rm17n10 l Z a0 hw [] r1 tr kr us G1 h0 n0 Z0 E_r1 F_value_r1 F_coder_r1 V_tr S_CS P5 X00) hZ (ww hw 117 rfl) (ww hw 4 rfl) (by decide) (by decide)) q2a q2c (g := gK k1) rfl (by rw [hml]; rfl) (Steps.refl _) (argsL := []) (rest := []) (lenOf pd_8 rfl) rfl (by show 2 * 0 + _ ≤ _; exact Nat.le_of_eq rfl) (hb hby d16_10) (fun _ _ => ⟨rfl, e0, (by decide : 0 + 0 ≤ _), (by decide : 0 + 0 ≤ _)⟩)
  dsimp only [Pt.U, Pt.locs, Pt.cells, Pt.slots] at X2 l2 y2 z2 st2 hQ2
  replace l2 := l2.symm; subst l2 y2 z2
  obtain ⟨rfl, N2q, e2⟩ := hQ2
  have N2 := Fr.app N0 N2q
  have k4 : Kq X0 3 T2 (mkF m 16 (oL31 r0 r1) [(.ref r0), (.ref r0)]) := fun t k => k1 t (st2.trans (XS.istoreN X2.here hx rfl (hb hby d16_13) rfl (l' := (oL31 r0 r1)) rfl (XS.aloadN X2.here hx rfl (hb hby d16_14) rfl rfl (XS.aloadN X2.here hx rfl (hb hby d16_15) rfl rfl k))))
  obtain ⟨T5, X5, e5, st5⟩ := getF X2 hx hZ hown (host := "") (Or.inl (ww hw 123 rfl)) Via.refl e2 F_count_r0 (g := gK k4) rfl rfl (hb hby d16_16)
  have k7 : Kq X0 3 T5 (mkF m 21 (oL31 r0 r1) [(.int (18 : Int32)), (.ref r0)]) := fun t k => k4 t (st5 _ (XS.iloadN X5.here hx rfl (hb hby d16_19) rfl (XS.iadd X5.here hx rfl (hb hby d16_20) rfl k)))
  obtain ⟨cq8, kcq8, q8a, q8b, q8c⟩ := isOf hZ e5 E_r0
  obtain ⟨cc8, qc8_1, -, qc8_2⟩ := q8c
  obtain ⟨_, _, ⟨T8, L8, kq8, n8⟩, -, X8, ⟨Lc8, hQ8, l8, y8, z8⟩, st8⟩ := X5.privateBack hx (y := mN10) hown (mw hZ hw 125 rfl) (mw hZ hw 126 rfl) (own_selp (y := mN10) (mw hZ hw 128 rfl) (Cond.privateMethod_at (args := #[]) (mvP hZ (ww hw 127 rfl))) (mw hZ hw 126 rfl) ⟨by decide, by decide⟩) (Cond.privateMethod_at (args := #[]) (mvP hZ (ww hw 127 rfl))) (mw hZ hw 129 rfl) ⟨by decide, by decide⟩ (backOf (W := 0) (rm19g l Z a0 hw [] r0 tb kb vd h0 n0 Z0 F_value_r0 F_coder_r0 F_count_r0 E_r0 g_r0 V_tb hlv ne_r0_tb X00) hZ (ww hw 129 rfl) (ww hw 94 rfl) (by decide) (by decide)) (g := gK k7) rfl (by rw [hml]; rfl) (Steps.refl _) qc8_1 (fun q h => by rw [h] at qc8_2; cases qc8_2) (argsL := [(.int (18 : Int32))]) (rest := []) (lenOf pd_0 rfl) rfl (by show 2 * 0 + _ ≤ _; exact Nat.le_of_eq rfl) (hb hby d16_21) (fun _ _ => ⟨rfl, e5, (by decide : 0 + 1 ≤ _), (by decide : 0 + 34 ≤ _)⟩)
  dsimp only [Pt.U, Pt.locs, Pt.cells, Pt.slots] at X8 l8 y8 z8 st8 hQ8
  replace l8 := l8.symm; subst l8 y8 z8
  obtain ⟨rfl, N8q, K8, t8, kt8, zt8, Fx8_0, Fx8_1, Fx8_2, Ex8, Vt8⟩ := hQ8
  have N8 := Fr.app N2 N8q
  have ne_r0_t8 : r0 ≠ t8 := Nat.ne_of_lt (Nat.lt_of_lt_of_le F_value_r0.lt zt8)
  have g_t8 : n0 ≤ t8 := Nat.le_trans Z0 zt8
  have sz_t8 : h0.size ≤ t8 := Nat.le_trans (Keep.refl h0 [r0]).1 zt8
  have Zs8 : n0 ≤ T8.heap.size := Nat.le_trans Z0 K8.1
  have k10 : Kq X0 3 T8 (mkF m 26 (oL31 r0 r1) [(.ref r0), (.ref r0)]) := fun t k => k7 t (st8.trans (XS.aloadN X8.here hx rfl (hb hby d16_24) rfl rfl (XS.aloadN X8.here hx rfl (hb hby d16_25) rfl rfl k)))
  obtain ⟨T11, X11, e11, st11⟩ := getF X8 hx hZ hown (host := "") (Or.inl (ww hw 123 rfl)) Via.refl rfl Fx8_2 (g := gK k10) rfl rfl (hb hby d16_26)
  have k13 : Kq X0 3 T11 (mkF m 30 (oL31 r0 r1) [(.ref r1), (.int (8 : Int32)), (.ref r0)]) := fun t k => k10 t (st11 _ (XS.aloadN X11.here hx rfl (hb hby d16_29) rfl rfl k))
  obtain ⟨cq14, kcq14, q14a, q14b, q14c⟩ := isOf hZ e11 Ex8
  obtain ⟨cc14, qc14_1, -, qc14_2⟩ := q14c
  obtain ⟨_, _, ⟨T14, L14, kq14, n14⟩, -, X14, ⟨Lc14, hQ14, l14, y14, z14⟩, st14⟩ := X11.privateBack hx (y := mN12) hown (mw hZ hw 130 rfl) (mw hZ hw 131 rfl) (own_selp (y := mN12) (mw hZ hw 133 rfl) (Cond.privateMethod_at (args := #[]) (mvP hZ (ww hw 132 rfl))) (mw hZ hw 131 rfl) ⟨by decide, by decide⟩) (Cond.privateMethod_at (args := #[]) (mvP hZ (ww hw 132 rfl))) (mw hZ hw 134 rfl) ⟨by decide, by decide⟩ (backOf (W := 0) (rm20p_8_10_16 l Z a0 hw [] r0 r1 t8 kt8 (own_ins oZ34 vd 0 16) tr kr us G1 T8.heap n0 Zs8 Fx8_0 Fx8_1 Fx8_2 Ex8 g_r0 Vt8 (own_ins_len rfl hlv (by decide)) ne_r0_t8 g_t8 (E_r1.keep K8) (F_value_r1.keep K8 (ninS ne_r1_r0 nin0)) (F_coder_r1.keep K8 (ninS ne_r1_r0 nin0)) (V_tr.keep K8 (ninS ne_tr_r0 nin0)) hlu S_CS P5 (X00.keep K8 (allS g_r0 all0))) hZ (ww hw 134 rfl) (ww hw 94 rfl) (by decide) (by decide)) (g := gK k13) rfl (by rw [hml]; rfl) (Steps.refl _) qc14_1 (fun q h => by rw [h] at qc14_2; cases qc14_2) (argsL := [(.int (8 : Int32)), (.ref r1)]) (rest := []) (lenOf pd_9 rfl) rfl (by show 2 * 0 + _ ≤ _; exact Nat.le_of_eq rfl) (hb hby d16_30) (fun _ _ => ⟨rfl, e11, (by decide : 1 + 0 ≤ _), (by decide : 34 + 0 ≤ _)⟩)
  dsimp only [Pt.U, Pt.locs, Pt.cells, Pt.slots] at X14 l14 y14 z14 st14 hQ14
  replace l14 := l14.symm; subst l14 y14 z14
  obtain ⟨rfl, N14q, K14, Vp14⟩ := hQ14
  have N14 := Fr.app N8 N14q
  have k16 : Kq X0 3 T14 (mkF m 35 (oL31 r0 r1) [(.ref r0), (.ref r0)]) := fun t k => k13 t (st14.trans (XS.aloadN X14.here hx rfl (hb hby d16_33) rfl rfl (XS.dup X14.here hx rfl (hb hby d16_34) rfl rfl k)))
  obtain ⟨T17, X17, e17, st17⟩ := getF X14 hx hZ hown (host := "") (Or.inl (ww hw 123 rfl)) Via.refl rfl (Fx8_2.keep K14 (ninS ne_r0_t8 nin0)) (g := gK k16) rfl rfl (hb hby d16_35)
  have k19 : Kq X0 3 T17 (mkF m 40 (oL31 r0 r1) [(.int (18 : Int32)), (.ref r0)]) := fun t k => k16 t (st17 _ (XS.iloadN X17.here hx rfl (hb hby d16_38) rfl (XS.iadd X17.here hx rfl (hb hby d16_39) rfl k)))
  obtain ⟨T20, h20, X20, e20, W20, st20⟩ := putF X17 hx hZ hown (host := "") (Or.inl (ww hw 123 rfl)) Via.refl e17 (Fx8_2.keep K14 (ninS ne_r0_t8 nin0)) (Ex8.keep K14) (Or.inl (ww hw 124 rfl)) (ww hw 85 rfl) (ty := .int) (by decide) rfl rfl (g := gK k19) rfl rfl (hb hby d16_40)
  have fc21 := ((Fx8_0.keep K14 (ninS ne_r0_t8 nin0)).other W20 (Or.inr (slot_ne (Or.inl (ww hw 99 rfl)) (Or.inl (ww hw 124 rfl)) (by decide) (t := (.array .byte)) (t' := .int) (by decide) (by decide))))
  have fc22 := ((Fx8_1.keep K14 (ninS ne_r0_t8 nin0)).other W20 (Or.inr (slot_ne (Or.inl (ww hw 101 rfl)) (Or.inl (ww hw 124 rfl)) (by decide) (t := .byte) (t' := .int) (by decide) (by decide))))
  have N20 := Fr.snoc X20 N14 g_r0
  have k24 : Kq X0 3 T20 (mkF m 44 (oL31 r0 r1) [(.ref r0)]) := fun t k => k19 t (st20 _ (XS.aloadN X20.here hx rfl (hb hby d16_43) rfl rfl k))
  obtain ⟨fs, hr, hrun, hended, hW, hsame⟩ := X20.leave (v := (some (.ref r0))) (fun h => by rw [Bd.returns] at h; cases h)
  refine ⟨_, _, k24 _ ?_, hrun, hended, _, _, rfl, ?_, ⟨_, rfl⟩, hW, hsame.mono (by decide) (by decide)⟩
  · exact retOut X20 hx Bd.returns rfl (Or.inr (Or.inr (Or.inr (Or.inr ⟨rfl, rfl, rfl⟩)))) (hb hby d16_44) hr
  · show Q16a_8_10_16 Z r0 r1 tb kb vd tr kr us G1 h0 n0 _ T20.heap _
    rw [e20]
    exact ⟨rfl, N20, ((((Keep.refl h0 [r0]).trans K8 (allS (Or.inl (own_wi 0 rfl)) all0)).trans K14 (allS (Or.inr sz_t8) all0)).wr W20 (Or.inl (own_wi 0 rfl))), t8, kt8, sz_t8, fc21, fc22, ((Fx8_2.keep K14 (ninS ne_r0_t8 nin0)).same W20), ((Ex8.keep K14).wr W20), (Vp14.other W20 ne_r0_t8.symm)⟩
def Q15a_8_10_16 (Z : State) (r0 : Addr) (r1 : Addr) (tb : Addr) (kb : ClassId) (vd : List Value) (tr : Addr) (kr : ClassId) (us : List Value) (G1 : Int32) (h0 : Heap) (n0 : Nat) (v : Option Value) (h : Heap) (L : List Loc) : Prop := v = some (.ref r0) ∧ Fr n0 L ∧ Keep h0 h [r0] ∧ ∃ t k, h0.size ≤ t ∧ Fld Z h r0 "java/lang/AbstractStringBuilder" "value" "[B" (.ref t) ∧ Fld Z h r0 "java/lang/AbstractStringBuilder" "coder" "B" (.int (0 : Int32)) ∧ Fld Z h r0 "java/lang/AbstractStringBuilder" "count" "I" (.int (18 : Int32)) ∧ Exa Z h r0 "java/lang/StringBuilder" ∧ Arv Z h t k .byte (34 : Int32) (own_ins (own_ins oZ34 vd 0 16) us 8 10) (.int (0 : Int32))
def oR13 : Room := { frames := 5, cells := 1, slots := 34, locals := 79 }
theorem rm15a_8_10_16 (l : Launch) (Z : State) (a0 : Array Value) (hw : ∀ d ∈ tables_1, d.before a0 Z = true) (ws : List Jvm.Cond) (r0 : Addr) (r1 : Addr) (tb : Addr) (kb : ClassId) (vd : List Value) (tr : Addr) (kr : ClassId) (us : List Value) (G1 : Int32) (h0 : Heap) (n0 : Nat) (Z0 : n0 ≤ h0.size) (F_value_r0 : Fld Z h0 r0 "java/lang/AbstractStringBuilder" "value" "[B" (.ref tb)) (F_coder_r0 : Fld Z h0 r0 "java/lang/AbstractStringBuilder" "coder" "B" (.int (0 : Int32))) (F_count_r0 : Fld Z h0 r0 "java/lang/AbstractStringBuilder" "count" "I" (.int (8 : Int32))) (E_r0 : Exa Z h0 r0 "java/lang/StringBuilder") (g_r0 : n0 ≤ r0) (V_tb : Arv Z h0 tb kb .byte (16 : Int32) vd (.int (0 : Int32))) (hlv : vd.length = 16) (ne_r0_tb : r0 ≠ tb) (g_tb : n0 ≤ tb) (E_r1 : Exa Z h0 r1 "java/lang/String") (F_value_r1 : Fld Z h0 r1 "java/lang/String" "value" "[B" (.ref tr)) (F_coder_r1 : Fld Z h0 r1 "java/lang/String" "coder" "B" (.int (0 : Int32))) (V_tr : Arv Z h0 tr kr .byte (10 : Int32) us (.int (0 : Int32))) (hlu : us.length = 10) (ne_r1_r0 : r1 ≠ r0) (ne_tr_r0 : tr ≠ r0) (S_CS : Sta Z Z.heap "java/lang/String" "COMPACT_STRINGS" "Z" (.int G1)) (P5 : ¬ (G1 = (0 : Int32))) (X00 : Old Z n0 h0) :
    MetFree l mN14 (head1 (Jvm.Cond.code mN14 jdk_67_method_7_code 2 (some (.object "java/lang/StringBuilder")) :: ws) oR13) (fun a U => a = #[(.ref r0), (.ref r1)] ∧ Z.Warmed39 U.vm ∧ U.heap = h0) (fun _ _ _ _ _ => True) (fun _ U o U' => ∃ v L, o = .returned v ∧ Q15a_8_10_16 Z r0 r1 tb kb vd tr kr us G1 h0 n0 v U'.heap L ∧ FrameEnd U o U' L oR13.cells oR13.slots) := by
  refine MetFree.of_bodySF (plainFor_of_name pn_1) hisR ?_
  intro p e s m args below meth c s₁ Bd hml0 hP hK
  obtain ⟨rfl, hZ, hh⟩ := hP
  have hx := Bd.exec
  have hby := Bd.bytes
  have hml : c.maxLocals = 2 := hml0
  have hown : s.vm.findClass "java/lang/StringBuilder" = some m.cls := findClass_of_methodNamed Bd.named
  have X0 : Stand p l e oR13 s m #[(.ref r0), (.ref r1)] below meth c s₁ [] 0 0 := Stand.of_body Bd
  have e0 : s₁.heap = h0 := by rw [← hh, Bd.state]; rfl
  have N0 := Fr.nil n0
  have k0 : Kq X0 2 s₁ (mkF m 0 (oL1 r0 r1) []) := fun t k => castTop (ef_21 m r0 r1) k
  have k1 : Kq X0 2 s₁ (mkF m 2 (oL1 r0 r1) [(.ref r1), (.ref r0)]) := fun t k => k0 t (XS.aloadN X0.here hx rfl (hb hby d15_0) rfl rfl (XS.aloadN X0.here hx rfl (hb hby d15_1) rfl rfl k))
  obtain ⟨_, _, ⟨T2, L2, kq2, n2⟩, -, X2, ⟨Lc2, hQ2, l2, y2, z2⟩, st2⟩ := superBack X0 hx hZ hown (ww hw 108 rfl) (own_same (y := mN13) (ww hw 128 rfl) rfl (ww hw 109 rfl) ⟨by decide, by decide⟩) (ww hw 109 rfl) (ww hw 110 rfl) (by decide) (backOf (W := 0) (rm16a_8_10_16 l Z a0 hw [] r0 r1 tb kb vd tr kr us G1 h0 n0 Z0 F_value_r0 F_coder_r0 F_count_r0 E_r0 g_r0 V_tb hlv ne_r0_tb g_tb E_r1 F_value_r1 F_coder_r1 V_tr hlu ne_r1_r0 ne_tr_r0 S_CS P5 X00) hZ (ww hw 112 rfl) (ww hw 94 rfl) (by decide) (by decide)) e0 (Ins.self E_r0) (g := gK k1) rfl (by rw [hml]; rfl) (ww hw 112 rfl) (argsL := [(.ref r1)]) (rest := []) (lenOf pd_10 rfl) rfl (by show 2 * 0 + _ ≤ _; exact Nat.le_of_eq rfl) (hb hby d15_2) (fun _ _ => ⟨rfl, e0, (by decide : 0 + 1 ≤ _), (by decide : 0 + 34 ≤ _)⟩)
  dsimp only [Pt.U, Pt.locs, Pt.cells, Pt.slots] at X2 l2 y2 z2 st2 hQ2
  replace l2 := l2.symm; subst l2 y2 z2
  obtain ⟨rfl, N2q, K2, t2, kt2, zt2, Fx2_0, Fx2_1, Fx2_2, Ex2, Vt2⟩ := hQ2
  have N2 := Fr.app N0 N2q
  have sz_t2 : h0.size ≤ t2 := Nat.le_trans (Keep.refl h0 [r0]).1 zt2
  have k4 : Kq X0 2 T2 (mkF m 7 (oL1 r0 r1) [(.ref r0)]) := fun t k => k1 t (st2.trans (XS.pop X2.here hx rfl (hb hby d15_5) rfl rfl (XS.aloadN X2.here hx rfl (hb hby d15_6) rfl rfl k)))
  obtain ⟨fs, hr, hrun, hended, hW, hsame⟩ := X2.leave (v := (some (.ref r0))) (fun h => by rw [Bd.returns] at h; cases h)
  refine ⟨_, _, k4 _ ?_, hrun, hended, _, _, rfl, ?_, ⟨_, rfl⟩, hW, hsame.mono (by decide) (by decide)⟩
  · exact retOut X2 hx Bd.returns rfl (Or.inr (Or.inr (Or.inr (Or.inr ⟨rfl, rfl, rfl⟩)))) (hb hby d15_7) hr
  · show Q15a_8_10_16 Z r0 r1 tb kb vd tr kr us G1 h0 n0 _ T2.heap _
    exact ⟨rfl, N2, ((Keep.refl h0 [r0]).trans K2 (allS (Or.inl (own_wi 0 rfl)) all0)), t2, kt2, sz_t2, Fx2_0, Fx2_1, Fx2_2, Ex2, Vt2⟩
def Q22g_18_2_34 (Z : State) (r0 : Addr) (tb : Addr) (tr : Addr) (kr : ClassId) (us : List Value) (kb : ClassId) (vd : List Value) (G1 : Int32) (h0 : Heap) (n0 : Nat) (v : Option Value) (h : Heap) (L : List Loc) : Prop := v = none ∧ Fr n0 L ∧ Keep h0 h [tb] ∧ Arv Z h tb kb .byte (34 : Int32) (own_ins vd us 18 2) (.int (0 : Int32))
def oL32 (r0 : Addr) (tb : Addr) : Array Slot := #[.val (.ref r0), .val (.ref tb), .val (.int (18 : Int32)), .val (.int (0 : Int32))]
theorem rm22g_18_2_34 (l : Launch) (Z : State) (a0 : Array Value) (hw : ∀ d ∈ tables_1, d.before a0 Z = true) (ws : List Jvm.Cond) (r0 : Addr) (tb : Addr) (tr : Addr) (kr : ClassId) (us : List Value) (kb : ClassId) (vd : List Value) (G1 : Int32) (h0 : Heap) (n0 : Nat) (Z0 : n0 ≤ h0.size) (E_r0 : Exa Z h0 r0 "java/lang/String") (F_value_r0 : Fld Z h0 r0 "java/lang/String" "value" "[B" (.ref tr)) (F_coder_r0 : Fld Z h0 r0 "java/lang/String" "coder" "B" (.int (0 : Int32))) (V_tr : Arv Z h0 tr kr .byte (2 : Int32) us (.int (0 : Int32))) (V_tb : Arv Z h0 tb kb .byte (34 : Int32) vd (.int (0 : Int32))) (hlv : vd.length = 34) (hlu : us.length = 2) (g_tb : n0 ≤ tb) (S_CS : Sta Z Z.heap "java/lang/String" "COMPACT_STRINGS" "Z" (.int G1)) (P5 : ¬ (G1 = (0 : Int32))) (X00 : Old Z n0 h0) :
    MetFree l mN11 (head1 (Jvm.Cond.code mN11 jdk_42_method_147_code 4 none :: ws) oR8) (fun a U => a = #[(.ref r0), (.ref tb), (.int (18 : Int32)), (.int (0 : Int32))] ∧ Z.Warmed39 U.vm ∧ U.heap = h0) (fun _ _ _ _ _ => True) (fun _ U o U' => ∃ v L, o = .returned v ∧ Q22g_18_2_34 Z r0 tb tr kr us kb vd G1 h0 n0 v U'.heap L ∧ FrameEnd U o U' L oR8.cells oR8.slots) := by
  refine MetFree.of_bodySF (plainFor_of_name pn_2) hisR ?_
  intro p e s m args below meth c s₁ Bd hml0 hP hK
  obtain ⟨rfl, hZ, hh⟩ := hP
  have hx := Bd.exec
  have hby := Bd.bytes
  have hml : c.maxLocals = 4 := hml0
  have hown : s.vm.findClass "java/lang/String" = some m.cls := findClass_of_methodNamed Bd.named
  have X0 : Stand p l e oR8 s m #[(.ref r0), (.ref tb), (.int (18 : Int32)), (.int (0 : Int32))] below meth c s₁ [] 0 0 := Stand.of_body Bd
  have e0 : s₁.heap = h0 := by rw [← hh, Bd.state]; rfl
  have N0 := Fr.nil n0
  have k0 : Kq X0 4 s₁ (mkF m 0 (oL32 r0 tb) []) := fun t k => castTop (ef_22g_0_8_16 m r0 tb (18 : Int32) (0 : Int32)) k
  have k1 : Kq X0 4 s₁ (mkF m 1 (oL32 r0 tb) [(.ref r0)]) := fun t k => k0 t (XS.aloadN X0.here hx rfl (hb hby d22_0) rfl rfl k)
  obtain ⟨cq2, kcq2, q2a, q2b, q2c⟩ := isOf hZ e0 E_r0
  obtain ⟨_, _, ⟨T2, L2, kq2, n2⟩, -, X2, ⟨Lc2, hQ2, l2, y2, z2⟩, st2⟩ := X0.virtualBack hx (y := mN2) (z := mN2) hown (mw hZ hw 118 rfl) (mw hZ hw 119 rfl) (notFace_of_selects (args := #[]) (mw hZ hw 121 rfl)) (mw hZ hw 121 rfl) (mw hZ hw 120 rfl) (by decide) (backOf (W := 0) (rm18 l Z a0 hw [] r0 G1 h0 n0 Z0 F_coder_r0 S_CS P5 X00) hZ (ww hw 122 rfl) (ww hw 4 rfl) (by decide) (by decide)) q2a q2c (g := gK k1) rfl (by rw [hml]; rfl) (Steps.refl _) (argsL := []) (rest := []) (lenOf pd_1 rfl) rfl (by show 2 * 0 + _ ≤ _; exact Nat.le_of_eq rfl) (hb hby d22_1) (fun _ _ => ⟨rfl, e0, (by decide : 0 + 0 ≤ _), (by decide : 0 + 0 ≤ _)⟩)
  dsimp only [Pt.U, Pt.locs, Pt.cells, Pt.slots] at X2 l2 y2 z2 st2 hQ2
  replace l2 := l2.symm; subst l2 y2 z2
  obtain ⟨rfl, N2q, e2⟩ := hQ2
  have N2 := Fr.app N0 N2q
  have hc5 : (0 : Int32) = (0 : Int32) := by decide
  have k4 : Kq X0 4 T2 (mkF m 9 (oL32 r0 tb) [(.ref r0)]) := fun t k => k1 t (st2.trans (XS.iloadN X2.here hx rfl (hb hby d22_4) rfl (XS.icmpNo X2.here hx rfl (hb hby d22_5) rfl (teq hc5).2 (XS.aloadN X2.here hx rfl (hb hby d22_8) rfl rfl k))))
  obtain ⟨T5, X5, e5, st5⟩ := getF X2 hx hZ hown (host := "") (Or.inl (ww hw 82 rfl)) Via.refl e2 F_value_r0 (g := gK k4) rfl rfl (hb hby d22_9)
  have k7 : Kq X0 4 T5 (mkF m 18 (oL32 r0 tb) [(.ref r0), (.int (18 : Int32)), (.ref tb), (.int (0 : Int32)), (.ref tr)]) := fun t k => k4 t (st5 _ (XS.iconst X5.here hx rfl (hb hby d22_12) (XS.aloadN X5.here hx rfl (hb hby d22_13) rfl rfl (XS.iloadN X5.here hx rfl (hb hby d22_14) rfl (XS.iloadN X5.here hx rfl (hb hby d22_15) rfl (XS.ishl X5.here hx rfl (hb hby d22_16) rfl (XS.aloadN X5.here hx rfl (hb hby d22_17) rfl rfl k)))))))
  obtain ⟨T8, X8, e8, st8⟩ := getF X5 hx hZ hown (host := "") (Or.inl (ww hw 82 rfl)) Via.refl e5 F_value_r0 (g := gK k7) rfl rfl (hb hby d22_18)
  have k9 : Kq X0 4 T8 (mkF m 21 (oL32 r0 tb) [(.ref tr), (.int (18 : Int32)), (.ref tb), (.int (0 : Int32)), (.ref tr)]) := fun t k => k7 t (st8 _ k)
  obtain ⟨cl10, Ar10, q10, S10, N10_, H10, G10⟩ := (id V_tr)
  have S10' : cl10.slots.size = 2 := S10
  have L10 : (cl10.slots.size).toInt32 = (2 : Int32) := by rw [S10']; rfl
  have k11 : Kq X0 4 T8 (mkF m 22 (oL32 r0 tb) [(.int (2 : Int32)), (.int (18 : Int32)), (.ref tb), (.int (0 : Int32)), (.ref tr)]) := fun t k => k9 t (by
      refine X8.arraylength hx (by rw [e8]; exact Ar10.1) (State.isArrayOf_alike hZ.alike Ar10.2.1) (g := (mkF m 21 (oL32 r0 tb) [(.ref tr), (.int (18 : Int32)), (.ref tb), (.int (0 : Int32)), (.ref tr)])) rfl rfl (hb hby d22_21) _ ?_
      rw [L10]
      exact k)
  obtain ⟨T13, h13, L13, X13, e13, N13, K13, V13, st13⟩ := cpA X8 hx hZ hown (ww hw 146 rfl) (ww hw 149 rfl) (ww hw 147 rfl) (ww hw 148 rfl) e8 V_tr V_tb (us := us) (sp := (0 : Int32)) (dp := (18 : Int32)) (nn := (2 : Int32)) (Or.inl ⟨rfl, rfl⟩) (by decide) (by decide) (by decide) (by decide) (by decide) (own_us hlu) (by rw [hlv]; decide) N2 g_tb (g := gK k11) rfl (by rw [hml]; rfl) rfl (hb hby d22_22) (by decide) (W := 0) (by show 2 * 0 + _ ≤ _; exact Nat.le_of_eq rfl) (by decide)
  have Vc13 : Arv Z h13 tb kb .byte (34 : Int32) (own_ins vd us 18 2) (.int (0 : Int32)) := V13
  have k15 : Kq X0 4 T13 (mkF m 43 (oL32 r0 tb) []) := fun t k => k11 t (st13 _ (XS.goto X13.here hx rfl (pc0 := 25) (pc' := 43) rfl (hb hby d22_25) (by decide) (by decide) k))
  obtain ⟨fs, hr, hrun, hended, hW, hsame⟩ := X13.leave (v := none) (fun _ => rfl)
  refine ⟨_, _, k15 _ ?_, hrun, hended, _, _, rfl, ?_, ⟨_, rfl⟩, hW, hsame.mono (by decide) (by decide)⟩
  · exact X13.returnOut hx Bd.returns (hb hby d22_43) hr
  · show Q22g_18_2_34 Z r0 tb tr kr us kb vd G1 h0 n0 _ T13.heap _
    rw [e13]
    exact ⟨rfl, N13, ((Keep.refl h0 [tb]).trans K13 (allS (Or.inl (own_wi 0 rfl)) all0)), Vc13⟩
def Q20p_18_2_34 (Z : State) (r0 : Addr) (r2 : Addr) (tb : Addr) (kb : ClassId) (vd : List Value) (tr : Addr) (kr : ClassId) (us : List Value) (G1 : Int32) (h0 : Heap) (n0 : Nat) (v : Option Value) (h : Heap) (L : List Loc) : Prop := v = none ∧ Fr n0 L ∧ Keep h0 h [tb] ∧ Arv Z h tb kb .byte (34 : Int32) (own_ins vd us 18 2) (.int (0 : Int32))
def oL33 (r0 : Addr) (r2 : Addr) : Array Slot := #[.val (.ref r0), .val (.int (18 : Int32)), .val (.ref r2)]
theorem rm20p_18_2_34 (l : Launch) (Z : State) (a0 : Array Value) (hw : ∀ d ∈ tables_1, d.before a0 Z = true) (ws : List Jvm.Cond) (r0 : Addr) (r2 : Addr) (tb : Addr) (kb : ClassId) (vd : List Value) (tr : Addr) (kr : ClassId) (us : List Value) (G1 : Int32) (h0 : Heap) (n0 : Nat) (Z0 : n0 ≤ h0.size) (F_value_r0 : Fld Z h0 r0 "java/lang/AbstractStringBuilder" "value" "[B" (.ref tb)) (F_coder_r0 : Fld Z h0 r0 "java/lang/AbstractStringBuilder" "coder" "B" (.int (0 : Int32))) (F_count_r0 : Fld Z h0 r0 "java/lang/AbstractStringBuilder" "count" "I" (.int (18 : Int32))) (E_r0 : Exa Z h0 r0 "java/lang/StringBuilder") (g_r0 : n0 ≤ r0) (V_tb : Arv Z h0 tb kb .byte (34 : Int32) vd (.int (0 : Int32))) (hlv : vd.length = 34) (ne_r0_tb : r0 ≠ tb) (g_tb : n0 ≤ tb) (E_r2 : Exa Z h0 r2 "java/lang/String") (F_value_r2 : Fld Z h0 r2 "java/lang/String" "value" "[B" (.ref tr)) (F_coder_r2 : Fld Z h0 r2 "java/lang/String" "coder" "B" (.int (0 : Int32))) (V_tr : Arv Z h0 tr kr .byte (2 : Int32) us (.int (0 : Int32))) (hlu : us.length = 2) (S_CS : Sta Z Z.heap "java/lang/String" "COMPACT_STRINGS" "Z" (.int G1)) (P5 : ¬ (G1 = (0 : Int32))) (X00 : Old Z n0 h0) :
    MetFree l mN12 (head1 (Jvm.Cond.code mN12 jdk_68_method_73_code 3 none :: ws) oR9) (fun a U => a = #[(.ref r0), (.int (18 : Int32)), (.ref r2)] ∧ Z.Warmed39 U.vm ∧ U.heap = h0) (fun _ _ _ _ _ => True) (fun _ U o U' => ∃ v L, o = .returned v ∧ Q20p_18_2_34 Z r0 r2 tb kb vd tr kr us G1 h0 n0 v U'.heap L ∧ FrameEnd U o U' L oR9.cells oR9.slots) := by
  refine MetFree.of_bodySF (plainFor_of_name pn_0) hisR ?_
  intro p e s m args below meth c s₁ Bd hml0 hP hK
  obtain ⟨rfl, hZ, hh⟩ := hP
  have hx := Bd.exec
  have hby := Bd.bytes
  have hml : c.maxLocals = 3 := hml0
  have hown : s.vm.findClass "java/lang/AbstractStringBuilder" = some m.cls := findClass_of_methodNamed Bd.named
  have X0 : Stand p l e oR9 s m #[(.ref r0), (.int (18 : Int32)), (.ref r2)] below meth c s₁ [] 0 0 := Stand.of_body Bd
  have e0 : s₁.heap = h0 := by rw [← hh, Bd.state]; rfl
  have N0 := Fr.nil n0
  have k0 : Kq X0 3 s₁ (mkF m 0 (oL33 r0 r2) []) := fun t k => castTop (ef_20p_0_8_16 m r0 (18 : Int32) r2) k
  have k1 : Kq X0 3 s₁ (mkF m 2 (oL33 r0 r2) [(.ref r2), (.ref r0)]) := fun t k => k0 t (XS.aloadN X0.here hx rfl (hb hby d20_0) rfl rfl (XS.aloadN X0.here hx rfl (hb hby d20_1) rfl rfl k))
  obtain ⟨cq2, kcq2, q2a, q2b, q2c⟩ := isOf hZ e0 E_r0
  obtain ⟨cc2, qc2_1, -, qc2_2⟩ := q2c
  obtain ⟨_, _, ⟨T2, L2, kq2, n2⟩, -, X2, ⟨Lc2, hQ2, l2, y2, z2⟩, st2⟩ := X0.privateBack hx (y := mN4) hown (mw hZ hw 135 rfl) (mw hZ hw 136 rfl) (own_selp (y := mN4) (mw hZ hw 138 rfl) (Cond.privateMethod_at (args := #[]) (mvP hZ (ww hw 137 rfl))) (mw hZ hw 136 rfl) ⟨by decide, by decide⟩) (Cond.privateMethod_at (args := #[]) (mvP hZ (ww hw 137 rfl))) (mw hZ hw 139 rfl) ⟨by decide, by decide⟩ (backOf (W := 0) (rm21 l Z a0 hw [] r0 r2 G1 h0 n0 Z0 F_coder_r0 F_coder_r2 E_r2 S_CS P5 X00) hZ (ww hw 139 rfl) (ww hw 94 rfl) (by decide) (by decide)) (g := gK k1) rfl (by rw [hml]; rfl) (Steps.refl _) qc2_1 (fun q h => by rw [h] at qc2_2; cases qc2_2) (argsL := [(.ref r2)]) (rest := []) (lenOf pd_6 rfl) rfl (by show 2 * 0 + _ ≤ _; exact Nat.le_of_eq rfl) (hb hby d20_2) (fun _ _ => ⟨rfl, e0, (by decide : 0 + 0 ≤ _), (by decide : 0 + 0 ≤ _)⟩)
  dsimp only [Pt.U, Pt.locs, Pt.cells, Pt.slots] at X2 l2 y2 z2 st2 hQ2
  replace l2 := l2.symm; subst l2 y2 z2
  obtain ⟨rfl, N2q, e2⟩ := hQ2
  have N2 := Fr.app N0 N2q
  have k4 : Kq X0 3 T2 (mkF m 7 (oL33 r0 r2) [(.ref r0), (.ref r2)]) := fun t k => k1 t (st2.trans (XS.aloadN X2.here hx rfl (hb hby d20_5) rfl rfl (XS.aloadN X2.here hx rfl (hb hby d20_6) rfl rfl k)))
  obtain ⟨T5, X5, e5, st5⟩ := getF X2 hx hZ hown (host := "") (Or.inl (ww hw 98 rfl)) Via.refl e2 F_value_r0 (g := gK k4) rfl rfl (hb hby d20_7)
  have k7 : Kq X0 3 T5 (mkF m 12 (oL33 r0 r2) [(.ref r0), (.int (18 : Int32)), (.ref tb), (.ref r2)]) := fun t k => k4 t (st5 _ (XS.iloadN X5.here hx rfl (hb hby d20_10) rfl (XS.aloadN X5.here hx rfl (hb hby d20_11) rfl rfl k)))
  obtain ⟨T8, X8, e8, st8⟩ := getF X5 hx hZ hown (host := "") (Or.inl (ww hw 100 rfl)) Via.refl e5 F_coder_r0 (g := gK k7) rfl rfl (hb hby d20_12)
  have k9 : Kq X0 3 T8 (mkF m 15 (oL33 r0 r2) [(.int (0 : Int32)), (.int (18 : Int32)), (.ref tb), (.ref r2)]) := fun t k => k7 t (st8 _ k)
  obtain ⟨cq10, kcq10, q10a, q10b, q10c⟩ := isOf hZ e8 E_r2
  obtain ⟨_, _, ⟨T10, L10, kq10, n10⟩, -, X10, ⟨Lc10, hQ10, l10, y10, z10⟩, st10⟩ := X8.virtualBack hx (y := mN11) (z := mN11) hown (mw hZ hw 141 rfl) (mw hZ hw 142 rfl) (notFace_of_selects (args := #[]) (mw hZ hw 144 rfl)) (mw hZ hw 144 rfl) (mw hZ hw 143 rfl) (by decide) (backOf (W := 0) (rm22g_18_2_34 l Z a0 hw [] r2 tb tr kr us kb vd G1 h0 n0 Z0 E_r2 F_value_r2 F_coder_r2 V_tr V_tb hlv hlu g_tb S_CS P5 X00) hZ (ww hw 145 rfl) (ww hw 4 rfl) (by decide) (by decide)) q10a q10c (g := gK k9) rfl (by rw [hml]; rfl) (Steps.refl _) (argsL := [(.ref tb), (.int (18 : Int32)), (.int (0 : Int32))]) (rest := []) (lenOf pd_7 rfl) rfl (by show 2 * 0 + _ ≤ _; exact Nat.le_of_eq rfl) (hb hby d20_15) (fun _ _ => ⟨rfl, e8, (by decide : 0 + 0 ≤ _), (by decide : 0 + 0 ≤ _)⟩)
  dsimp only [Pt.U, Pt.locs, Pt.cells, Pt.slots] at X10 l10 y10 z10 st10 hQ10
  replace l10 := l10.symm; subst l10 y10 z10
  obtain ⟨rfl, N10q, K10, Vp10⟩ := hQ10
  have N10 := Fr.app N2 N10q
  have k11 : Kq X0 3 T10 (mkF m 18 (oL33 r0 r2) []) := fun t k => k9 t (st10.trans k)
  obtain ⟨fs, hr, hrun, hended, hW, hsame⟩ := X10.leave (v := none) (fun _ => rfl)
  refine ⟨_, _, k11 _ ?_, hrun, hended, _, _, rfl, ?_, ⟨_, rfl⟩, hW, hsame.mono (by decide) (by decide)⟩
  · exact X10.returnOut hx Bd.returns (hb hby d20_18) hr
  · show Q20p_18_2_34 Z r0 r2 tb kb vd tr kr us G1 h0 n0 _ T10.heap _
    exact ⟨rfl, N10, ((Keep.refl h0 [tb]).trans K10 (allS (Or.inl (own_wi 0 rfl)) all0)), Vp10⟩
def Q19e_18_2_34 (Z : State) (r0 : Addr) (tb : Addr) (kb : ClassId) (vd : List Value) (h0 : Heap) (n0 : Nat) (v : Option Value) (h : Heap) (L : List Loc) : Prop := v = none ∧ Fr n0 L ∧ h = h0
def oL34 (r0 : Addr) : Array Slot := #[.val (.ref r0), .val (.int (20 : Int32)), .unset]
def oL35 (r0 : Addr) : Array Slot := #[.val (.ref r0), .val (.int (20 : Int32)), .val (.int (34 : Int32))]
theorem rm19e_18_2_34 (l : Launch) (Z : State) (a0 : Array Value) (hw : ∀ d ∈ tables_1, d.before a0 Z = true) (ws : List Jvm.Cond) (r0 : Addr) (tb : Addr) (kb : ClassId) (vd : List Value) (h0 : Heap) (n0 : Nat) (Z0 : n0 ≤ h0.size) (F_value_r0 : Fld Z h0 r0 "java/lang/AbstractStringBuilder" "value" "[B" (.ref tb)) (F_coder_r0 : Fld Z h0 r0 "java/lang/AbstractStringBuilder" "coder" "B" (.int (0 : Int32))) (V_tb : Arv Z h0 tb kb .byte (34 : Int32) vd (.int (0 : Int32))) :
    MetFree l mN10 (head1 (Jvm.Cond.code mN10 jdk_68_method_9_code 3 none :: ws) oR2) (fun a U => a = #[(.ref r0), (.int (20 : Int32))] ∧ Z.Warmed39 U.vm ∧ U.heap = h0) (fun _ _ _ _ _ => True) (fun _ U o U' => ∃ v L, o = .returned v ∧ Q19e_18_2_34 Z r0 tb kb vd h0 n0 v U'.heap L ∧ FrameEnd U o U' L oR2.cells oR2.slots) := by
  refine MetFree.of_bodySF (plainFor_of_name pn_0) hisR ?_
  intro p e s m args below meth c s₁ Bd hml0 hP hK
  obtain ⟨rfl, hZ, hh⟩ := hP
  have hx := Bd.exec
  have hby := Bd.bytes
  have hml : c.maxLocals = 3 := hml0
  have hown : s.vm.findClass "java/lang/AbstractStringBuilder" = some m.cls := findClass_of_methodNamed Bd.named
  have X0 : Stand p l e oR2 s m #[(.ref r0), (.int (20 : Int32))] below meth c s₁ [] 0 0 := Stand.of_body Bd
  have e0 : s₁.heap = h0 := by rw [← hh, Bd.state]; rfl
  have N0 := Fr.nil n0
  have k0 : Kq X0 3 s₁ (mkF m 0 (oL34 r0) []) := fun t k => castTop (ef_39 m r0 (20 : Int32)) k
  have k1 : Kq X0 3 s₁ (mkF m 1 (oL34 r0) [(.ref r0)]) := fun t k => k0 t (XS.aloadN X0.here hx rfl (hb hby d19_0) rfl rfl k)
  obtain ⟨T2, X2, e2, st2⟩ := getF X0 hx hZ hown (host := "") (Or.inl (ww hw 98 rfl)) Via.refl e0 F_value_r0 (g := gK k1) rfl rfl (hb hby d19_1)
  have k3 : Kq X0 3 T2 (mkF m 4 (oL34 r0) [(.ref tb)]) := fun t k => k1 t (st2 _ k)
  obtain ⟨cl4, Ar4, q4, S4, N4_, H4, G4⟩ := (id V_tb)
  have S4' : cl4.slots.size = 34 := S4
  have L4 : (cl4.slots.size).toInt32 = (34 : Int32) := by rw [S4']; rfl
  have k5 : Kq X0 3 T2 (mkF m 6 (oL34 r0) [(.ref r0), (.int (34 : Int32))]) := fun t k => k3 t (by
      refine X2.arraylength hx (by rw [e2]; exact Ar4.1) (State.isArrayOf_alike hZ.alike Ar4.2.1) (g := (mkF m 4 (oL34 r0) [(.ref tb)])) rfl rfl (hb hby d19_4) _ ?_
      rw [L4]
      show Sg X0 T2 5 (oL34 r0) [(.int (34 : Int32))] _
      refine XS.aloadN X2.here hx rfl (hb hby d19_5) rfl rfl ?_
      exact k)
  obtain ⟨T6, X6, e6, st6⟩ := getF X2 hx hZ hown (host := "") (Or.inl (ww hw 100 rfl)) Via.refl e2 F_coder_r0 (g := gK k5) rfl rfl (hb hby d19_6)
  have hc14 : ¬ ((0 : Int32) < (-14 : Int32)) := by decide
  have k8 : Kq X0 3 T6 (mkF m 38 (oL35 r0) []) := fun t k => k5 t (st6 _ (XS.ishr X6.here hx rfl (hb hby d19_9) rfl (XS.istoreN X6.here hx rfl (hb hby d19_10) rfl (l' := (oL35 r0)) rfl (XS.iloadN X6.here hx rfl (hb hby d19_11) rfl (XS.iloadN X6.here hx rfl (hb hby d19_12) rfl (XS.isub X6.here hx rfl (hb hby d19_13) rfl (XS.ifYes X6.here hx rfl (pc0 := 14) (pc' := 38) rfl (hb hby d19_14) rfl ((if0 _ _).trans (flt hc14).2.2.2) (by decide) (by decide) k)))))))
  obtain ⟨fs, hr, hrun, hended, hW, hsame⟩ := X6.leave (v := none) (fun _ => rfl)
  refine ⟨_, _, k8 _ ?_, hrun, hended, _, _, rfl, ?_, ⟨_, rfl⟩, hW, hsame.mono (by decide) (by decide)⟩
  · exact X6.returnOut hx Bd.returns (hb hby d19_38) hr
  · show Q19e_18_2_34 Z r0 tb kb vd h0 n0 _ T6.heap _
    rw [e6]
    exact ⟨rfl, N0, rfl⟩
def Q16a_18_2_34 (Z : State) (r0 : Addr) (r1 : Addr) (tb : Addr) (kb : ClassId) (vd : List Value) (tr : Addr) (kr : ClassId) (us : List Value) (G1 : Int32) (h0 : Heap) (n0 : Nat) (v : Option Value) (h : Heap) (L : List Loc) : Prop := v = some (.ref r0) ∧ Fr n0 L ∧ Keep h0 h [r0, tb] ∧ Fld Z h r0 "java/lang/AbstractStringBuilder" "value" "[B" (.ref tb) ∧ Fld Z h r0 "java/lang/AbstractStringBuilder" "coder" "B" (.int (0 : Int32)) ∧ Fld Z h r0 "java/lang/AbstractStringBuilder" "count" "I" (.int (20 : Int32)) ∧ Exa Z h r0 "java/lang/StringBuilder" ∧ Arv Z h tb kb .byte (34 : Int32) (own_ins vd us 18 2) (.int (0 : Int32))
theorem rm16a_18_2_34 (l : Launch) (Z : State) (a0 : Array Value) (hw : ∀ d ∈ tables_1, d.before a0 Z = true) (ws : List Jvm.Cond) (r0 : Addr) (r1 : Addr) (tb : Addr) (kb : ClassId) (vd : List Value) (tr : Addr) (kr : ClassId) (us : List Value) (G1 : Int32) (h0 : Heap) (n0 : Nat) (Z0 : n0 ≤ h0.size) (F_value_r0 : Fld Z h0 r0 "java/lang/AbstractStringBuilder" "value" "[B" (.ref tb)) (F_coder_r0 : Fld Z h0 r0 "java/lang/AbstractStringBuilder" "coder" "B" (.int (0 : Int32))) (F_count_r0 : Fld Z h0 r0 "java/lang/AbstractStringBuilder" "count" "I" (.int (18 : Int32))) (E_r0 : Exa Z h0 r0 "java/lang/StringBuilder") (g_r0 : n0 ≤ r0) (V_tb : Arv Z h0 tb kb .byte (34 : Int32) vd (.int (0 : Int32))) (hlv : vd.length = 34) (ne_r0_tb : r0 ≠ tb) (g_tb : n0 ≤ tb) (E_r1 : Exa Z h0 r1 "java/lang/String") (F_value_r1 : Fld Z h0 r1 "java/lang/String" "value" "[B" (.ref tr)) (F_coder_r1 : Fld Z h0 r1 "java/lang/String" "coder" "B" (.int (0 : Int32))) (V_tr : Arv Z h0 tr kr .byte (2 : Int32) us (.int (0 : Int32))) (hlu : us.length = 2) (ne_r1_r0 : r1 ≠ r0) (ne_tr_r0 : tr ≠ r0) (S_CS : Sta Z Z.heap "java/lang/String" "COMPACT_STRINGS" "Z" (.int G1)) (P5 : ¬ (G1 = (0 : Int32))) (X00 : Old Z n0 h0) :
    MetFree l mN13 (head1 (Jvm.Cond.code mN13 jdk_68_method_22_code 3 (some (.object "java/lang/AbstractStringBuilder")) :: ws) oR10) (fun a U => a = #[(.ref r0), (.ref r1)] ∧ Z.Warmed39 U.vm ∧ U.heap = h0) (fun _ _ _ _ _ => True) (fun _ U o U' => ∃ v L, o = .returned v ∧ Q16a_18_2_34 Z r0 r1 tb kb vd tr kr us G1 h0 n0 v U'.heap L ∧ FrameEnd U o U' L oR10.cells oR10.slots) := by
  refine MetFree.of_bodySF (plainFor_of_name pn_0) hisR ?_
  intro p e s m args below meth c s₁ Bd hml0 hP hK
  obtain ⟨rfl, hZ, hh⟩ := hP
  have hx := Bd.exec
  have hby := Bd.bytes
  have hml : c.maxLocals = 3 := hml0
  have hown : s.vm.findClass "java/lang/AbstractStringBuilder" = some m.cls := findClass_of_methodNamed Bd.named
  have X0 : Stand p l e oR10 s m #[(.ref r0), (.ref r1)] below meth c s₁ [] 0 0 := Stand.of_body Bd
  have e0 : s₁.heap = h0 := by rw [← hh, Bd.state]; rfl
  have N0 := Fr.nil n0
  have k0 : Kq X0 3 s₁ (mkF m 0 (oL19 r0 r1) []) := fun t k => castTop (ef_16a_0_8_16 m r0 r1) k
  have k1 : Kq X0 3 s₁ (mkF m 10 (oL19 r0 r1) [(.ref r1)]) := fun t k => k0 t (XS.aloadN X0.here hx rfl (hb hby d16_0) rfl rfl (XS.ifnonnullYes X0.here hx rfl (pc0 := 1) (pc' := 9) rfl (hb hby d16_1) rfl (by decide) (by decide) (XS.aloadN X0.here hx rfl (hb hby d16_9) rfl rfl k)))
  obtain ⟨cq2, kcq2, q2a, q2b, q2c⟩ := isOf hZ e0 E_r1
  obtain ⟨_, _, ⟨T2, L2, kq2, n2⟩, -, X2, ⟨Lc2, hQ2, l2, y2, z2⟩, st2⟩ := X0.virtualBack hx (y := mN3) (z := mN3) hown (mw hZ hw 113 rfl) (mw hZ hw 114 rfl) (notFace_of_selects (args := #[]) (mw hZ hw 116 rfl)) (mw hZ hw 116 rfl) (mw hZ hw 115 rfl) (by decide) (backOf (W := 0) (rm17n2 l Z a0 hw [] r1 tr kr us G1 h0 n0 Z0 E_r1 F_value_r1 F_coder_r1 V_tr S_CS P5 X00) hZ (ww hw 117 rfl) (ww hw 4 rfl) (by decide) (by decide)) q2a q2c (g := gK k1) rfl (by rw [hml]; rfl) (Steps.refl _) (argsL := []) (rest := []) (lenOf pd_8 rfl) rfl (by show 2 * 0 + _ ≤ _; exact Nat.le_of_eq rfl) (hb hby d16_10) (fun _ _ => ⟨rfl, e0, (by decide : 0 + 0 ≤ _), (by decide : 0 + 0 ≤ _)⟩)
  dsimp only [Pt.U, Pt.locs, Pt.cells, Pt.slots] at X2 l2 y2 z2 st2 hQ2
  replace l2 := l2.symm; subst l2 y2 z2
  obtain ⟨rfl, N2q, e2⟩ := hQ2
  have N2 := Fr.app N0 N2q
  have k4 : Kq X0 3 T2 (mkF m 16 (oL25 r0 r1) [(.ref r0), (.ref r0)]) := fun t k => k1 t (st2.trans (XS.istoreN X2.here hx rfl (hb hby d16_13) rfl (l' := (oL25 r0 r1)) rfl (XS.aloadN X2.here hx rfl (hb hby d16_14) rfl rfl (XS.aloadN X2.here hx rfl (hb hby d16_15) rfl rfl k))))
  obtain ⟨T5, X5, e5, st5⟩ := getF X2 hx hZ hown (host := "") (Or.inl (ww hw 123 rfl)) Via.refl e2 F_count_r0 (g := gK k4) rfl rfl (hb hby d16_16)
  have k7 : Kq X0 3 T5 (mkF m 21 (oL25 r0 r1) [(.int (20 : Int32)), (.ref r0)]) := fun t k => k4 t (st5 _ (XS.iloadN X5.here hx rfl (hb hby d16_19) rfl (XS.iadd X5.here hx rfl (hb hby d16_20) rfl k)))
  obtain ⟨cq8, kcq8, q8a, q8b, q8c⟩ := isOf hZ e5 E_r0
  obtain ⟨cc8, qc8_1, -, qc8_2⟩ := q8c
  obtain ⟨_, _, ⟨T8, L8, kq8, n8⟩, -, X8, ⟨Lc8, hQ8, l8, y8, z8⟩, st8⟩ := X5.privateBack hx (y := mN10) hown (mw hZ hw 125 rfl) (mw hZ hw 126 rfl) (own_selp (y := mN10) (mw hZ hw 128 rfl) (Cond.privateMethod_at (args := #[]) (mvP hZ (ww hw 127 rfl))) (mw hZ hw 126 rfl) ⟨by decide, by decide⟩) (Cond.privateMethod_at (args := #[]) (mvP hZ (ww hw 127 rfl))) (mw hZ hw 129 rfl) ⟨by decide, by decide⟩ (backOf (W := 0) (rm19e_18_2_34 l Z a0 hw [] r0 tb kb vd h0 n0 Z0 F_value_r0 F_coder_r0 V_tb) hZ (ww hw 129 rfl) (ww hw 94 rfl) (by decide) (by decide)) (g := gK k7) rfl (by rw [hml]; rfl) (Steps.refl _) qc8_1 (fun q h => by rw [h] at qc8_2; cases qc8_2) (argsL := [(.int (20 : Int32))]) (rest := []) (lenOf pd_0 rfl) rfl (by show 2 * 0 + _ ≤ _; exact Nat.le_of_eq rfl) (hb hby d16_21) (fun _ _ => ⟨rfl, e5, (by decide : 0 + 0 ≤ _), (by decide : 0 + 0 ≤ _)⟩)
  dsimp only [Pt.U, Pt.locs, Pt.cells, Pt.slots] at X8 l8 y8 z8 st8 hQ8
  replace l8 := l8.symm; subst l8 y8 z8
  obtain ⟨rfl, N8q, e8⟩ := hQ8
  have N8 := Fr.app N2 N8q
  have k10 : Kq X0 3 T8 (mkF m 26 (oL25 r0 r1) [(.ref r0), (.ref r0)]) := fun t k => k7 t (st8.trans (XS.aloadN X8.here hx rfl (hb hby d16_24) rfl rfl (XS.aloadN X8.here hx rfl (hb hby d16_25) rfl rfl k)))
  obtain ⟨T11, X11, e11, st11⟩ := getF X8 hx hZ hown (host := "") (Or.inl (ww hw 123 rfl)) Via.refl e8 F_count_r0 (g := gK k10) rfl rfl (hb hby d16_26)
  have k13 : Kq X0 3 T11 (mkF m 30 (oL25 r0 r1) [(.ref r1), (.int (18 : Int32)), (.ref r0)]) := fun t k => k10 t (st11 _ (XS.aloadN X11.here hx rfl (hb hby d16_29) rfl rfl k))
  obtain ⟨cq14, kcq14, q14a, q14b, q14c⟩ := isOf hZ e11 E_r0
  obtain ⟨cc14, qc14_1, -, qc14_2⟩ := q14c
  obtain ⟨_, _, ⟨T14, L14, kq14, n14⟩, -, X14, ⟨Lc14, hQ14, l14, y14, z14⟩, st14⟩ := X11.privateBack hx (y := mN12) hown (mw hZ hw 130 rfl) (mw hZ hw 131 rfl) (own_selp (y := mN12) (mw hZ hw 133 rfl) (Cond.privateMethod_at (args := #[]) (mvP hZ (ww hw 132 rfl))) (mw hZ hw 131 rfl) ⟨by decide, by decide⟩) (Cond.privateMethod_at (args := #[]) (mvP hZ (ww hw 132 rfl))) (mw hZ hw 134 rfl) ⟨by decide, by decide⟩ (backOf (W := 0) (rm20p_18_2_34 l Z a0 hw [] r0 r1 tb kb vd tr kr us G1 h0 n0 Z0 F_value_r0 F_coder_r0 F_count_r0 E_r0 g_r0 V_tb hlv ne_r0_tb g_tb E_r1 F_value_r1 F_coder_r1 V_tr hlu S_CS P5 X00) hZ (ww hw 134 rfl) (ww hw 94 rfl) (by decide) (by decide)) (g := gK k13) rfl (by rw [hml]; rfl) (Steps.refl _) qc14_1 (fun q h => by rw [h] at qc14_2; cases qc14_2) (argsL := [(.int (18 : Int32)), (.ref r1)]) (rest := []) (lenOf pd_9 rfl) rfl (by show 2 * 0 + _ ≤ _; exact Nat.le_of_eq rfl) (hb hby d16_30) (fun _ _ => ⟨rfl, e11, (by decide : 0 + 0 ≤ _), (by decide : 0 + 0 ≤ _)⟩)
  dsimp only [Pt.U, Pt.locs, Pt.cells, Pt.slots] at X14 l14 y14 z14 st14 hQ14
  replace l14 := l14.symm; subst l14 y14 z14
  obtain ⟨rfl, N14q, K14, Vp14⟩ := hQ14
  have N14 := Fr.app N8 N14q
  have k16 : Kq X0 3 T14 (mkF m 35 (oL25 r0 r1) [(.ref r0), (.ref r0)]) := fun t k => k13 t (st14.trans (XS.aloadN X14.here hx rfl (hb hby d16_33) rfl rfl (XS.dup X14.here hx rfl (hb hby d16_34) rfl rfl k)))
  obtain ⟨T17, X17, e17, st17⟩ := getF X14 hx hZ hown (host := "") (Or.inl (ww hw 123 rfl)) Via.refl rfl (F_count_r0.keep K14 (ninS ne_r0_tb nin0)) (g := gK k16) rfl rfl (hb hby d16_35)
  have k19 : Kq X0 3 T17 (mkF m 40 (oL25 r0 r1) [(.int (20 : Int32)), (.ref r0)]) := fun t k => k16 t (st17 _ (XS.iloadN X17.here hx rfl (hb hby d16_38) rfl (XS.iadd X17.here hx rfl (hb hby d16_39) rfl k)))
  obtain ⟨T20, h20, X20, e20, W20, st20⟩ := putF X17 hx hZ hown (host := "") (Or.inl (ww hw 123 rfl)) Via.refl e17 (F_count_r0.keep K14 (ninS ne_r0_tb nin0)) (E_r0.keep K14) (Or.inl (ww hw 124 rfl)) (ww hw 85 rfl) (ty := .int) (by decide) rfl rfl (g := gK k19) rfl rfl (hb hby d16_40)
  have fc21 := ((F_value_r0.keep K14 (ninS ne_r0_tb nin0)).other W20 (Or.inr (slot_ne (Or.inl (ww hw 99 rfl)) (Or.inl (ww hw 124 rfl)) (by decide) (t := (.array .byte)) (t' := .int) (by decide) (by decide))))
  have fc22 := ((F_coder_r0.keep K14 (ninS ne_r0_tb nin0)).other W20 (Or.inr (slot_ne (Or.inl (ww hw 101 rfl)) (Or.inl (ww hw 124 rfl)) (by decide) (t := .byte) (t' := .int) (by decide) (by decide))))
  have N20 := Fr.snoc X20 N14 g_r0
  have k24 : Kq X0 3 T20 (mkF m 44 (oL25 r0 r1) [(.ref r0)]) := fun t k => k19 t (st20 _ (XS.aloadN X20.here hx rfl (hb hby d16_43) rfl rfl k))
  obtain ⟨fs, hr, hrun, hended, hW, hsame⟩ := X20.leave (v := (some (.ref r0))) (fun h => by rw [Bd.returns] at h; cases h)
  refine ⟨_, _, k24 _ ?_, hrun, hended, _, _, rfl, ?_, ⟨_, rfl⟩, hW, hsame.mono (by decide) (by decide)⟩
  · exact retOut X20 hx Bd.returns rfl (Or.inr (Or.inr (Or.inr (Or.inr ⟨rfl, rfl, rfl⟩)))) (hb hby d16_44) hr
  · show Q16a_18_2_34 Z r0 r1 tb kb vd tr kr us G1 h0 n0 _ T20.heap _
    rw [e20]
    exact ⟨rfl, N20, (((Keep.refl h0 [r0, tb]).trans K14 (allS (Or.inl (own_wi 1 rfl)) all0)).wr W20 (Or.inl (own_wi 0 rfl))), fc21, fc22, ((F_count_r0.keep K14 (ninS ne_r0_tb nin0)).same W20), ((E_r0.keep K14).wr W20), (Vp14.other W20 ne_r0_tb.symm)⟩
def Q15a_18_2_34 (Z : State) (r0 : Addr) (r1 : Addr) (tb : Addr) (kb : ClassId) (vd : List Value) (tr : Addr) (kr : ClassId) (us : List Value) (G1 : Int32) (h0 : Heap) (n0 : Nat) (v : Option Value) (h : Heap) (L : List Loc) : Prop := v = some (.ref r0) ∧ Fr n0 L ∧ Keep h0 h [r0, tb] ∧ Fld Z h r0 "java/lang/AbstractStringBuilder" "value" "[B" (.ref tb) ∧ Fld Z h r0 "java/lang/AbstractStringBuilder" "coder" "B" (.int (0 : Int32)) ∧ Fld Z h r0 "java/lang/AbstractStringBuilder" "count" "I" (.int (20 : Int32)) ∧ Exa Z h r0 "java/lang/StringBuilder" ∧ Arv Z h tb kb .byte (34 : Int32) (own_ins vd us 18 2) (.int (0 : Int32))
theorem rm15a_18_2_34 (l : Launch) (Z : State) (a0 : Array Value) (hw : ∀ d ∈ tables_1, d.before a0 Z = true) (ws : List Jvm.Cond) (r0 : Addr) (r1 : Addr) (tb : Addr) (kb : ClassId) (vd : List Value) (tr : Addr) (kr : ClassId) (us : List Value) (G1 : Int32) (h0 : Heap) (n0 : Nat) (Z0 : n0 ≤ h0.size) (F_value_r0 : Fld Z h0 r0 "java/lang/AbstractStringBuilder" "value" "[B" (.ref tb)) (F_coder_r0 : Fld Z h0 r0 "java/lang/AbstractStringBuilder" "coder" "B" (.int (0 : Int32))) (F_count_r0 : Fld Z h0 r0 "java/lang/AbstractStringBuilder" "count" "I" (.int (18 : Int32))) (E_r0 : Exa Z h0 r0 "java/lang/StringBuilder") (g_r0 : n0 ≤ r0) (V_tb : Arv Z h0 tb kb .byte (34 : Int32) vd (.int (0 : Int32))) (hlv : vd.length = 34) (ne_r0_tb : r0 ≠ tb) (g_tb : n0 ≤ tb) (E_r1 : Exa Z h0 r1 "java/lang/String") (F_value_r1 : Fld Z h0 r1 "java/lang/String" "value" "[B" (.ref tr)) (F_coder_r1 : Fld Z h0 r1 "java/lang/String" "coder" "B" (.int (0 : Int32))) (V_tr : Arv Z h0 tr kr .byte (2 : Int32) us (.int (0 : Int32))) (hlu : us.length = 2) (ne_r1_r0 : r1 ≠ r0) (ne_tr_r0 : tr ≠ r0) (S_CS : Sta Z Z.heap "java/lang/String" "COMPACT_STRINGS" "Z" (.int G1)) (P5 : ¬ (G1 = (0 : Int32))) (X00 : Old Z n0 h0) :
    MetFree l mN14 (head1 (Jvm.Cond.code mN14 jdk_67_method_7_code 2 (some (.object "java/lang/StringBuilder")) :: ws) oR11) (fun a U => a = #[(.ref r0), (.ref r1)] ∧ Z.Warmed39 U.vm ∧ U.heap = h0) (fun _ _ _ _ _ => True) (fun _ U o U' => ∃ v L, o = .returned v ∧ Q15a_18_2_34 Z r0 r1 tb kb vd tr kr us G1 h0 n0 v U'.heap L ∧ FrameEnd U o U' L oR11.cells oR11.slots) := by
  refine MetFree.of_bodySF (plainFor_of_name pn_1) hisR ?_
  intro p e s m args below meth c s₁ Bd hml0 hP hK
  obtain ⟨rfl, hZ, hh⟩ := hP
  have hx := Bd.exec
  have hby := Bd.bytes
  have hml : c.maxLocals = 2 := hml0
  have hown : s.vm.findClass "java/lang/StringBuilder" = some m.cls := findClass_of_methodNamed Bd.named
  have X0 : Stand p l e oR11 s m #[(.ref r0), (.ref r1)] below meth c s₁ [] 0 0 := Stand.of_body Bd
  have e0 : s₁.heap = h0 := by rw [← hh, Bd.state]; rfl
  have N0 := Fr.nil n0
  have k0 : Kq X0 2 s₁ (mkF m 0 (oL1 r0 r1) []) := fun t k => castTop (ef_21 m r0 r1) k
  have k1 : Kq X0 2 s₁ (mkF m 2 (oL1 r0 r1) [(.ref r1), (.ref r0)]) := fun t k => k0 t (XS.aloadN X0.here hx rfl (hb hby d15_0) rfl rfl (XS.aloadN X0.here hx rfl (hb hby d15_1) rfl rfl k))
  obtain ⟨_, _, ⟨T2, L2, kq2, n2⟩, -, X2, ⟨Lc2, hQ2, l2, y2, z2⟩, st2⟩ := superBack X0 hx hZ hown (ww hw 108 rfl) (own_same (y := mN13) (ww hw 128 rfl) rfl (ww hw 109 rfl) ⟨by decide, by decide⟩) (ww hw 109 rfl) (ww hw 110 rfl) (by decide) (backOf (W := 0) (rm16a_18_2_34 l Z a0 hw [] r0 r1 tb kb vd tr kr us G1 h0 n0 Z0 F_value_r0 F_coder_r0 F_count_r0 E_r0 g_r0 V_tb hlv ne_r0_tb g_tb E_r1 F_value_r1 F_coder_r1 V_tr hlu ne_r1_r0 ne_tr_r0 S_CS P5 X00) hZ (ww hw 112 rfl) (ww hw 94 rfl) (by decide) (by decide)) e0 (Ins.self E_r0) (g := gK k1) rfl (by rw [hml]; rfl) (ww hw 112 rfl) (argsL := [(.ref r1)]) (rest := []) (lenOf pd_10 rfl) rfl (by show 2 * 0 + _ ≤ _; exact Nat.le_of_eq rfl) (hb hby d15_2) (fun _ _ => ⟨rfl, e0, (by decide : 0 + 0 ≤ _), (by decide : 0 + 0 ≤ _)⟩)
  dsimp only [Pt.U, Pt.locs, Pt.cells, Pt.slots] at X2 l2 y2 z2 st2 hQ2
  replace l2 := l2.symm; subst l2 y2 z2
  obtain ⟨rfl, N2q, K2, Fx2_0, Fx2_1, Fx2_2, Ex2, Vp2⟩ := hQ2
  have N2 := Fr.app N0 N2q
  have k4 : Kq X0 2 T2 (mkF m 7 (oL1 r0 r1) [(.ref r0)]) := fun t k => k1 t (st2.trans (XS.pop X2.here hx rfl (hb hby d15_5) rfl rfl (XS.aloadN X2.here hx rfl (hb hby d15_6) rfl rfl k)))
  obtain ⟨fs, hr, hrun, hended, hW, hsame⟩ := X2.leave (v := (some (.ref r0))) (fun h => by rw [Bd.returns] at h; cases h)
  refine ⟨_, _, k4 _ ?_, hrun, hended, _, _, rfl, ?_, ⟨_, rfl⟩, hW, hsame.mono (by decide) (by decide)⟩
  · exact retOut X2 hx Bd.returns rfl (Or.inr (Or.inr (Or.inr (Or.inr ⟨rfl, rfl, rfl⟩)))) (hb hby d15_7) hr
  · show Q15a_18_2_34 Z r0 r1 tb kb vd tr kr us G1 h0 n0 _ T2.heap _
    exact ⟨rfl, N2, ((Keep.refl h0 [r0, tb]).trans K2 (allS (Or.inl (own_wi 0 rfl)) (allS (Or.inl (own_wi 1 rfl)) all0))), Fx2_0, Fx2_1, Fx2_2, Ex2, Vp2⟩
def oC27 : ByteArray := jdk_68_method_64_code
theorem d27_0 : decode oC27 0 = .ok (.aload_n 0, 1) := by decide +kernel
theorem d27_1 : decode oC27 1 = .ok (.getfield 15, 3) := by decide +kernel
theorem d27_4 : decode oC27 4 = .ok (.areturn, 1) := by decide +kernel
def Q27 (Z : State) (r0 : Addr) (tb : Addr) (h0 : Heap) (n0 : Nat) (v : Option Value) (h : Heap) (L : List Loc) : Prop := v = some (.ref tb) ∧ Fr n0 L ∧ h = h0
def mN15 : MethodName := ⟨"java/lang/AbstractStringBuilder", "getValue", "()[B"⟩
theorem rm27 (l : Launch) (Z : State) (a0 : Array Value) (hw : ∀ d ∈ tables_1, d.before a0 Z = true) (ws : List Jvm.Cond) (r0 : Addr) (tb : Addr) (h0 : Heap) (n0 : Nat) (Z0 : n0 ≤ h0.size) (F_value_r0 : Fld Z h0 r0 "java/lang/AbstractStringBuilder" "value" "[B" (.ref tb)) :
    MetFree l mN15 (head1 (Jvm.Cond.code mN15 jdk_68_method_64_code 1 (some (.array .byte)) :: ws) oR2) (fun a U => a = #[(.ref r0)] ∧ Z.Warmed39 U.vm ∧ U.heap = h0) (fun _ _ _ _ _ => True) (fun _ U o U' => ∃ v L, o = .returned v ∧ Q27 Z r0 tb h0 n0 v U'.heap L ∧ FrameEnd U o U' L oR2.cells oR2.slots) := by
  refine MetFree.of_bodySF (plainFor_of_name pn_0) hisR ?_
  intro p e s m args below meth c s₁ Bd hml0 hP hK
  obtain ⟨rfl, hZ, hh⟩ := hP
  have hx := Bd.exec
  have hby := Bd.bytes
  have hml : c.maxLocals = 1 := hml0
  have hown : s.vm.findClass "java/lang/AbstractStringBuilder" = some m.cls := findClass_of_methodNamed Bd.named
  have X0 : Stand p l e oR2 s m #[(.ref r0)] below meth c s₁ [] 0 0 := Stand.of_body Bd
  have e0 : s₁.heap = h0 := by rw [← hh, Bd.state]; rfl
  have N0 := Fr.nil n0
  have k0 : Kq X0 1 s₁ (mkF m 0 #[.val (.ref r0)] []) := fun t k => castTop (ef_13 m r0) k
  have k1 : Kq X0 1 s₁ (mkF m 1 #[.val (.ref r0)] [(.ref r0)]) := fun t k => k0 t (XS.aloadN X0.here hx rfl (hb hby d27_0) rfl rfl k)
  obtain ⟨T2, X2, e2, st2⟩ := getF X0 hx hZ hown (host := "") (Or.inl (ww hw 98 rfl)) Via.refl e0 F_value_r0 (g := gK k1) rfl rfl (hb hby d27_1)
  have k3 : Kq X0 1 T2 (mkF m 4 #[.val (.ref r0)] [(.ref tb)]) := fun t k => k1 t (st2 _ k)
  obtain ⟨fs, hr, hrun, hended, hW, hsame⟩ := X2.leave (v := (some (.ref tb))) (fun h => by rw [Bd.returns] at h; cases h)
  refine ⟨_, _, k3 _ ?_, hrun, hended, _, _, rfl, ?_, ⟨_, rfl⟩, hW, hsame.mono (by decide) (by decide)⟩
  · exact retOut X2 hx Bd.returns rfl (Or.inr (Or.inr (Or.inr (Or.inr ⟨rfl, rfl, rfl⟩)))) (hb hby d27_4) hr
  · show Q27 Z r0 tb h0 n0 _ T2.heap _
    rw [e2]
    exact ⟨rfl, N0, rfl⟩
def oC30 : ByteArray := jdk_68_method_68_code
theorem d30_0 : decode oC30 0 = .ok (.getstatic 18, 3) := by decide +kernel
theorem d30_3 : decode oC30 3 = .ok (.ifCond .eq 14, 3) := by decide +kernel
theorem d30_6 : decode oC30 6 = .ok (.aload_n 0, 1) := by decide +kernel
theorem d30_7 : decode oC30 7 = .ok (.getfield 22, 3) := by decide +kernel
theorem d30_10 : decode oC30 10 = .ok (.ifCond .ne 7, 3) := by decide +kernel
theorem d30_13 : decode oC30 13 = .ok (.iconst 1, 1) := by decide +kernel
theorem d30_14 : decode oC30 14 = .ok (.goto 4, 3) := by decide +kernel
theorem d30_17 : decode oC30 17 = .ok (.iconst 0, 1) := by decide +kernel
theorem d30_18 : decode oC30 18 = .ok (.ireturn, 1) := by decide +kernel
def Q30 (Z : State) (r0 : Addr) (G1 : Int32) (h0 : Heap) (n0 : Nat) (v : Option Value) (h : Heap) (L : List Loc) : Prop := v = some (.int (1 : Int32)) ∧ Fr n0 L ∧ h = h0
def mN16 : MethodName := ⟨"java/lang/AbstractStringBuilder", "isLatin1", "()Z"⟩
theorem rm30 (l : Launch) (Z : State) (a0 : Array Value) (hw : ∀ d ∈ tables_1, d.before a0 Z = true) (ws : List Jvm.Cond) (r0 : Addr) (G1 : Int32) (h0 : Heap) (n0 : Nat) (Z0 : n0 ≤ h0.size) (F_coder_r0 : Fld Z h0 r0 "java/lang/AbstractStringBuilder" "coder" "B" (.int (0 : Int32))) (S_CS : Sta Z Z.heap "java/lang/String" "COMPACT_STRINGS" "Z" (.int G1)) (P5 : ¬ (G1 = (0 : Int32))) (X00 : Old Z n0 h0) :
    MetFree l mN16 (head1 (Jvm.Cond.code mN16 jdk_68_method_68_code 1 (some .boolean) :: ws) oR2) (fun a U => a = #[(.ref r0)] ∧ Z.Warmed39 U.vm ∧ U.heap = h0) (fun _ _ _ _ _ => True) (fun _ U o U' => ∃ v L, o = .returned v ∧ Q30 Z r0 G1 h0 n0 v U'.heap L ∧ FrameEnd U o U' L oR2.cells oR2.slots) := by
  refine MetFree.of_bodySF (plainFor_of_name pn_0) hisR ?_
  intro p e s m args below meth c s₁ Bd hml0 hP hK
  obtain ⟨rfl, hZ, hh⟩ := hP
  have hx := Bd.exec
  have hby := Bd.bytes
  have hml : c.maxLocals = 1 := hml0
  have hown : s.vm.findClass "java/lang/AbstractStringBuilder" = some m.cls := findClass_of_methodNamed Bd.named
  have X0 : Stand p l e oR2 s m #[(.ref r0)] below meth c s₁ [] 0 0 := Stand.of_body Bd
  have e0 : s₁.heap = h0 := by rw [← hh, Bd.state]; rfl
  have N0 := Fr.nil n0
  have k0 : Kq X0 1 s₁ (mkF m 0 #[.val (.ref r0)] []) := fun t k => castTop (ef_13 m r0) k
  obtain ⟨T1, X1, e1, st1⟩ := getS2 X0 hx hZ hown (host := "") (Or.inl (ww hw 97 rfl)) Via.refl e0 (S_CS.ext X00.2) (g := gK k0) rfl (hb hby d30_0)
  have hc3 : ¬ (G1 = (0 : Int32)) := P5
  have k3 : Kq X0 1 T1 (mkF m 7 #[.val (.ref r0)] [(.ref r0)]) := fun t k => k0 t (st1 _ (XS.ifNo X1.here hx rfl (hb hby d30_3) rfl ((if0 _ _).trans (feq hc3).1) (XS.aloadN X1.here hx rfl (hb hby d30_6) rfl rfl k)))
  obtain ⟨T4, X4, e4, st4⟩ := getF X1 hx hZ hown (host := "") (Or.inl (ww hw 100 rfl)) Via.refl e1 F_coder_r0 (g := gK k3) rfl rfl (hb hby d30_7)
  have hc10 : (0 : Int32) = (0 : Int32) := by decide
  have k6 : Kq X0 1 T4 (mkF m 18 #[.val (.ref r0)] [(.int (1 : Int32))]) := fun t k => k3 t (st4 _ (XS.ifNo X4.here hx rfl (hb hby d30_10) rfl ((if0 _ _).trans (teq hc10).2) (XS.iconst X4.here hx rfl (hb hby d30_13) (XS.goto X4.here hx rfl (pc0 := 14) (pc' := 18) rfl (hb hby d30_14) (by decide) (by decide) k))))
  obtain ⟨fs, hr, hrun, hended, hW, hsame⟩ := X4.leave (v := (some (.int (1 : Int32)))) (fun h => by rw [Bd.returns] at h; cases h)
  refine ⟨_, _, k6 _ ?_, hrun, hended, _, _, rfl, ?_, ⟨_, rfl⟩, hW, hsame.mono (by decide) (by decide)⟩
  · exact retN X4 hx (t := .boolean) Bd.returns (by simp) (hb hby d30_18) hr
  · show Q30 Z r0 G1 h0 n0 _ T4.heap _
    rw [e4]
    exact ⟨rfl, N0, rfl⟩
def oC33 : ByteArray := jdk_65_method_131_code
theorem d33_0 : decode oC33 0 = .ok (.iload_n 1, 1) := by decide +kernel
theorem d33_1 : decode oC33 1 = .ok (.iload_n 0, 1) := by decide +kernel
theorem d33_2 : decode oC33 2 = .ok (.if_icmp .ge 35, 3) := by decide +kernel
theorem d33_5 : decode oC33 5 = .ok (.new 43, 3) := by decide +kernel
theorem d33_8 : decode oC33 8 = .ok (.dup, 1) := by decide +kernel
theorem d33_9 : decode oC33 9 = .ok (.new 45, 3) := by decide +kernel
theorem d33_12 : decode oC33 12 = .ok (.dup, 1) := by decide +kernel
theorem d33_13 : decode oC33 13 = .ok (.invokespecial 47, 3) := by decide +kernel
theorem d33_16 : decode oC33 16 = .ok (.iload_n 0, 1) := by decide +kernel
theorem d33_17 : decode oC33 17 = .ok (.invokevirtual 54, 3) := by decide +kernel
theorem d33_20 : decode oC33 20 = .ok (.ldc_w 337, 3) := by decide +kernel
theorem d33_23 : decode oC33 23 = .ok (.invokevirtual 50, 3) := by decide +kernel
theorem d33_26 : decode oC33 26 = .ok (.iload_n 1, 1) := by decide +kernel
theorem d33_27 : decode oC33 27 = .ok (.invokevirtual 54, 3) := by decide +kernel
theorem d33_30 : decode oC33 30 = .ok (.invokevirtual 61, 3) := by decide +kernel
theorem d33_33 : decode oC33 33 = .ok (.invokespecial 65, 3) := by decide +kernel
theorem d33_36 : decode oC33 36 = .ok (.athrow, 1) := by decide +kernel
theorem d33_37 : decode oC33 37 = .ok (.return_, 1) := by decide +kernel
def Q33_10_16 (Z : State)  (h0 : Heap) (n0 : Nat) (v : Option Value) (h : Heap) (L : List Loc) : Prop := v = none ∧ Fr n0 L ∧ h = h0
def mN17 : MethodName := ⟨"java/util/Arrays", "checkLength", "(II)V"⟩
def oL36  : Array Slot := #[.val (.int (0 : Int32)), .val (.int (10 : Int32))]
theorem rm33_10_16 (l : Launch) (Z : State) (a0 : Array Value) (hw : ∀ d ∈ tables_1, d.before a0 Z = true) (ws : List Jvm.Cond)  (h0 : Heap) (n0 : Nat) (Z0 : n0 ≤ h0.size) :
    MetFree l mN17 (head1 (Jvm.Cond.code mN17 jdk_65_method_131_code 2 none :: ws) oR2) (fun a U => a = #[(.int (0 : Int32)), (.int (10 : Int32))] ∧ Z.Warmed39 U.vm ∧ U.heap = h0) (fun _ _ _ _ _ => True) (fun _ U o U' => ∃ v L, o = .returned v ∧ Q33_10_16 Z  h0 n0 v U'.heap L ∧ FrameEnd U o U' L oR2.cells oR2.slots) := by
  refine MetFree.of_bodySF (plainFor_of_name pn_4) hisR ?_
  intro p e s m args below meth c s₁ Bd hml0 hP hK
  obtain ⟨rfl, hZ, hh⟩ := hP
  have hx := Bd.exec
  have hby := Bd.bytes
  have hml : c.maxLocals = 2 := hml0
  have hown : s.vm.findClass "java/util/Arrays" = some m.cls := findClass_of_methodNamed Bd.named
  have X0 : Stand p l e oR2 s m #[(.int (0 : Int32)), (.int (10 : Int32))] below meth c s₁ [] 0 0 := Stand.of_body Bd
  have e0 : s₁.heap = h0 := by rw [← hh, Bd.state]; rfl
  have N0 := Fr.nil n0
  have k0 : Kq X0 2 s₁ (mkF m 0 oL36 []) := fun t k => castTop (ef_38 m (0 : Int32) (10 : Int32)) k
  have hc2 : ¬ ((10 : Int32) < (0 : Int32)) := by decide
  have k1 : Kq X0 2 s₁ (mkF m 37 oL36 []) := fun t k => k0 t (XS.iloadN X0.here hx rfl (hb hby d33_0) rfl (XS.iloadN X0.here hx rfl (hb hby d33_1) rfl (XS.icmpYes X0.here hx rfl (pc0 := 2) (pc' := 37) rfl (hb hby d33_2) rfl (flt hc2).2.1 (by decide) (by decide) k)))
  obtain ⟨fs, hr, hrun, hended, hW, hsame⟩ := X0.leave (v := none) (fun _ => rfl)
  refine ⟨_, _, k1 _ ?_, hrun, hended, _, _, rfl, ?_, ⟨_, rfl⟩, hW, hsame.mono (by decide) (by decide)⟩
  · exact X0.returnOut hx Bd.returns (hb hby d33_37) hr
  · show Q33_10_16 Z  h0 n0 _ s₁.heap _
    rw [e0]
    exact ⟨rfl, N0, rfl⟩
def Q34m16_10 (Z : State)  (h0 : Heap) (n0 : Nat) (v : Option Value) (h : Heap) (L : List Loc) : Prop := v = some (.int (10 : Int32)) ∧ Fr n0 L ∧ h = h0
def oL37  : Array Slot := #[.val (.int (16 : Int32)), .val (.int (10 : Int32))]
theorem rm34m16_10 (l : Launch) (Z : State) (a0 : Array Value) (hw : ∀ d ∈ tables_1, d.before a0 Z = true) (ws : List Jvm.Cond)  (h0 : Heap) (n0 : Nat) (Z0 : n0 ≤ h0.size) :
    MetFree l mN8 (head1 (Jvm.Cond.code mN8 jdk_29_method_69_code 2 (some .int) :: ws) oR2) (fun a U => a = #[(.int (16 : Int32)), (.int (10 : Int32))] ∧ Z.Warmed39 U.vm ∧ U.heap = h0) (fun _ _ _ _ _ => True) (fun _ U o U' => ∃ v L, o = .returned v ∧ Q34m16_10 Z  h0 n0 v U'.heap L ∧ FrameEnd U o U' L oR2.cells oR2.slots) := by
  refine MetFree.of_bodySF (Jvm.Free.JP.mathPlain rfl (by decide +kernel)) hisR ?_
  intro p e s m args below meth c s₁ Bd hml0 hP hK
  obtain ⟨rfl, hZ, hh⟩ := hP
  have hx := Bd.exec
  have hby := Bd.bytes
  have hml : c.maxLocals = 2 := hml0
  have hown : s.vm.findClass "java/lang/Math" = some m.cls := findClass_of_methodNamed Bd.named
  have X0 : Stand p l e oR2 s m #[(.int (16 : Int32)), (.int (10 : Int32))] below meth c s₁ [] 0 0 := Stand.of_body Bd
  have e0 : s₁.heap = h0 := by rw [← hh, Bd.state]; rfl
  have N0 := Fr.nil n0
  have k0 : Kq X0 2 s₁ (mkF m 0 oL37 []) := fun t k => castTop (ef_38 m (16 : Int32) (10 : Int32)) k
  have hc2 : (10 : Int32) < (16 : Int32) := by decide
  have k1 : Kq X0 2 s₁ (mkF m 10 oL37 [(.int (10 : Int32))]) := fun t k => k0 t (XS.iloadN X0.here hx rfl (hb hby d34_0) rfl (XS.iloadN X0.here hx rfl (hb hby d34_1) rfl (XS.icmpYes X0.here hx rfl (pc0 := 2) (pc' := 9) rfl (hb hby d34_2) rfl (tlt hc2).2.2.1 (by decide) (by decide) (XS.iloadN X0.here hx rfl (hb hby d34_9) rfl k))))
  obtain ⟨fs, hr, hrun, hended, hW, hsame⟩ := X0.leave (v := (some (.int (10 : Int32)))) (fun h => by rw [Bd.returns] at h; cases h)
  refine ⟨_, _, k1 _ ?_, hrun, hended, _, _, rfl, ?_, ⟨_, rfl⟩, hW, hsame.mono (by decide) (by decide)⟩
  · exact retOut X0 hx Bd.returns rfl (Or.inl ⟨rfl, Or.inl rfl, _, rfl⟩) (hb hby d34_10) hr
  · show Q34m16_10 Z  h0 n0 _ s₁.heap _
    rw [e0]
    exact ⟨rfl, N0, rfl⟩
def oC32 : ByteArray := jdk_65_method_133_code
theorem d32_0 : decode oC32 0 = .ok (.iload_n 1, 1) := by decide +kernel
theorem d32_1 : decode oC32 1 = .ok (.iload_n 2, 1) := by decide +kernel
theorem d32_2 : decode oC32 2 = .ok (.invokestatic 343, 3) := by decide +kernel
theorem d32_5 : decode oC32 5 = .ok (.iload_n 2, 1) := by decide +kernel
theorem d32_6 : decode oC32 6 = .ok (.iload_n 1, 1) := by decide +kernel
theorem d32_7 : decode oC32 7 = .ok (.isub, 1) := by decide +kernel
theorem d32_8 : decode oC32 8 = .ok (.istore_n 3, 1) := by decide +kernel
theorem d32_9 : decode oC32 9 = .ok (.iload_n 3, 1) := by decide +kernel
theorem d32_10 : decode oC32 10 = .ok (.newarray .byte, 2) := by decide +kernel
theorem d32_12 : decode oC32 12 = .ok (.astore 4, 2) := by decide +kernel
theorem d32_14 : decode oC32 14 = .ok (.aload_n 0, 1) := by decide +kernel
theorem d32_15 : decode oC32 15 = .ok (.iload_n 1, 1) := by decide +kernel
theorem d32_16 : decode oC32 16 = .ok (.aload 4, 2) := by decide +kernel
theorem d32_18 : decode oC32 18 = .ok (.iconst 0, 1) := by decide +kernel
theorem d32_19 : decode oC32 19 = .ok (.aload_n 0, 1) := by decide +kernel
theorem d32_20 : decode oC32 20 = .ok (.arraylength, 1) := by decide +kernel
theorem d32_21 : decode oC32 21 = .ok (.iload_n 1, 1) := by decide +kernel
theorem d32_22 : decode oC32 22 = .ok (.isub, 1) := by decide +kernel
theorem d32_23 : decode oC32 23 = .ok (.iload_n 3, 1) := by decide +kernel
theorem d32_24 : decode oC32 24 = .ok (.invokestatic 304, 3) := by decide +kernel
theorem d32_27 : decode oC32 27 = .ok (.invokestatic 150, 3) := by decide +kernel
theorem d32_30 : decode oC32 30 = .ok (.aload 4, 2) := by decide +kernel
theorem d32_32 : decode oC32 32 = .ok (.areturn, 1) := by decide +kernel
theorem ef_32_10_16 (m : MethodId) (x0 : Addr) (x1 : Int32) (x2 : Int32) : entryFrame m #[(.ref x0), (.int x1), (.int x2)] 5 = mkF m 0 #[.val (.ref x0), .val (.int x1), .val (.int x2), .unset, .unset] [] := by first | (simp [entryFrame, mkF, argsToLocals, Value.category]; done) | rfl
theorem pd_11 : parseMethodDescriptor "(II)V" = some ⟨[.int, .int], none⟩ := by decide +kernel
def Q32_10_16 (Z : State) (r0 : Addr) (kb : ClassId) (vd : List Value) (h0 : Heap) (n0 : Nat) (v : Option Value) (h : Heap) (L : List Loc) : Prop := ∃ x, v = some (.ref x) ∧ h0.size ≤ x ∧ Fr n0 L ∧ Keep h0 h [] ∧ ∃ k, Arv Z h x k .byte (10 : Int32) (own_ins oZ10 (List.take 10 vd) 0 10) (.int (0 : Int32))
def oR14 : Room := { frames := 1, cells := 1, slots := 10, locals := 36 }
def mN18 : MethodName := ⟨"java/util/Arrays", "copyOfRangeByte", "([BII)[B"⟩
def oL38 (r0 : Addr) : Array Slot := #[.val (.ref r0), .val (.int (0 : Int32)), .val (.int (10 : Int32)), .unset, .unset]
def oL39 (r0 : Addr) : Array Slot := #[.val (.ref r0), .val (.int (0 : Int32)), .val (.int (10 : Int32)), .val (.int (10 : Int32)), .unset]
def oL40 (r0 : Addr) (b5 : Addr) : Array Slot := #[.val (.ref r0), .val (.int (0 : Int32)), .val (.int (10 : Int32)), .val (.int (10 : Int32)), .val (.ref b5)]
theorem rm32_10_16 (l : Launch) (Z : State) (a0 : Array Value) (hw : ∀ d ∈ tables_1, d.before a0 Z = true) (ws : List Jvm.Cond) (r0 : Addr) (kb : ClassId) (vd : List Value) (h0 : Heap) (n0 : Nat) (Z0 : n0 ≤ h0.size) (V_r0 : Arv Z h0 r0 kb .byte (16 : Int32) vd (.int (0 : Int32))) (hlv : vd.length = 16) :
    MetFree l mN18 (head1 (Jvm.Cond.code mN18 jdk_65_method_133_code 5 (some (.array .byte)) :: ws) oR14) (fun a U => a = #[(.ref r0), (.int (0 : Int32)), (.int (10 : Int32))] ∧ Z.Warmed39 U.vm ∧ U.heap = h0) (fun _ _ _ _ _ => True) (fun _ U o U' => ∃ v L, o = .returned v ∧ Q32_10_16 Z r0 kb vd h0 n0 v U'.heap L ∧ FrameEnd U o U' L oR14.cells oR14.slots) := by
  refine MetFree.of_bodySF (plainFor_of_name pn_4) hisR ?_
  intro p e s m args below meth c s₁ Bd hml0 hP hK
  obtain ⟨rfl, hZ, hh⟩ := hP
  have hx := Bd.exec
  have hby := Bd.bytes
  have hml : c.maxLocals = 5 := hml0
  have hown : s.vm.findClass "java/util/Arrays" = some m.cls := findClass_of_methodNamed Bd.named
  have X0 : Stand p l e oR14 s m #[(.ref r0), (.int (0 : Int32)), (.int (10 : Int32))] below meth c s₁ [] 0 0 := Stand.of_body Bd
  have e0 : s₁.heap = h0 := by rw [← hh, Bd.state]; rfl
  have N0 := Fr.nil n0
  have k0 : Kq X0 5 s₁ (mkF m 0 (oL38 r0) []) := fun t k => castTop (ef_32_10_16 m r0 (0 : Int32) (10 : Int32)) k
  have k1 : Kq X0 5 s₁ (mkF m 2 (oL38 r0) [(.int (10 : Int32)), (.int (0 : Int32))]) := fun t k => k0 t (XS.iloadN X0.here hx rfl (hb hby d32_0) rfl (XS.iloadN X0.here hx rfl (hb hby d32_1) rfl k))
  obtain ⟨_, _, ⟨T2, L2, kq2, n2⟩, -, X2, ⟨Lc2, hQ2, l2, y2, z2⟩, st2⟩ := Jvm.LawKit.callS X0 hx (y := mN17) hown (mw hZ hw 192 rfl) (mw hZ hw 193 rfl) (mw hZ hw 187 rfl) (mw hZ hw 194 rfl) (by decide) (backOf (W := 0) (rm33_10_16 l Z a0 hw []  h0 n0 Z0) hZ (ww hw 194 rfl) (ww hw 187 rfl) (by decide) (by decide)) (g := gK k1) rfl (by rw [hml]; rfl) (argsL := [(.int (0 : Int32)), (.int (10 : Int32))]) (rest := []) (lenOf pd_11 rfl) rfl (by show 2 * 0 + _ ≤ _; exact Nat.le_of_eq rfl) (hb hby d32_2) (fun _ _ => ⟨rfl, e0, (by decide : 0 + 0 ≤ _), (by decide : 0 + 0 ≤ _)⟩)
  dsimp only [Pt.U, Pt.locs, Pt.cells, Pt.slots] at X2 l2 y2 z2 st2 hQ2
  replace l2 := l2.symm; subst l2 y2 z2
  obtain ⟨rfl, N2q, e2⟩ := hQ2
  have N2 := Fr.app N0 N2q
  have k4 : Kq X0 5 T2 (mkF m 10 (oL39 r0) [(.int (10 : Int32))]) := fun t k => k1 t (st2 _ (XS.iloadN X2.here hx rfl (hb hby d32_5) rfl (XS.iloadN X2.here hx rfl (hb hby d32_6) rfl (XS.isub X2.here hx rfl (hb hby d32_7) rfl (XS.istoreN X2.here hx rfl (hb hby d32_8) rfl (l' := (oL39 r0)) rfl (XS.iloadN X2.here hx rfl (hb hby d32_9) rfl k))))))
  obtain ⟨T5, h5, ka5, X5, e5, E5, A5, st5⟩ := newP X2 hx hZ (ww hw 6 rfl) e2 (g := gK k4) rfl (hb hby d32_10) rfl (by decide) (cap := 10) (by decide) (by decide) (by decide) (by decide)
  obtain ⟨b5, g5⟩ : ∃ z, z = h0.size := ⟨_, rfl⟩
  rw [← g5] at A5 st5
  have V_b5 : Arv Z h5 b5 ka5 .byte (10 : Int32) oZ10 (.int (0 : Int32)) := (Arv.new A5 (by decide)).pad (pad_rep [] (.int (0 : Int32)) 10)
  have g_b5 : n0 ≤ b5 := Nat.le_trans Z0 (Nat.le_of_eq g5.symm)
  have sz_b5 : h0.size ≤ b5 := Nat.le_trans (Keep.refl h0 []).1 (Nat.le_of_eq g5.symm)
  have Zs5 : n0 ≤ h5.size := Nat.le_trans Z0 E5.1
  have k7 : Kq X0 5 T5 (mkF m 20 (oL40 r0 b5) [(.ref r0), (.int (0 : Int32)), (.ref b5), (.int (0 : Int32)), (.ref r0)]) := fun t k => k4 t (st5 _ (XS.astore X5.here hx rfl (hb hby d32_12) rfl rfl (l' := (oL40 r0 b5)) rfl (XS.aloadN X5.here hx rfl (hb hby d32_14) rfl rfl (XS.iloadN X5.here hx rfl (hb hby d32_15) rfl (XS.aload X5.here hx rfl (hb hby d32_16) rfl rfl (XS.iconst X5.here hx rfl (hb hby d32_18) (XS.aloadN X5.here hx rfl (hb hby d32_19) rfl rfl k)))))))
  obtain ⟨cl8, Ar8, q8, S8, N8_, H8, G8⟩ := (id (V_r0.ext E5))
  have S8' : cl8.slots.size = 16 := S8
  have L8 : (cl8.slots.size).toInt32 = (16 : Int32) := by rw [S8']; rfl
  have k9 : Kq X0 5 T5 (mkF m 24 (oL40 r0 b5) [(.int (10 : Int32)), (.int (16 : Int32)), (.int (0 : Int32)), (.ref b5), (.int (0 : Int32)), (.ref r0)]) := fun t k => k7 t (by
      refine X5.arraylength hx (by rw [e5]; exact Ar8.1) (State.isArrayOf_alike hZ.alike Ar8.2.1) (g := (mkF m 20 (oL40 r0 b5) [(.ref r0), (.int (0 : Int32)), (.ref b5), (.int (0 : Int32)), (.ref r0)])) rfl rfl (hb hby d32_20) _ ?_
      rw [L8]
      show Sg X0 T5 21 (oL40 r0 b5) [(.int (16 : Int32)), (.int (0 : Int32)), (.ref b5), (.int (0 : Int32)), (.ref r0)] _
      refine XS.iloadN X5.here hx rfl (hb hby d32_21) rfl ?_
      show Sg X0 T5 22 (oL40 r0 b5) [(.int (0 : Int32)), (.int (16 : Int32)), (.int (0 : Int32)), (.ref b5), (.int (0 : Int32)), (.ref r0)] _
      refine XS.isub X5.here hx rfl (hb hby d32_22) rfl ?_
      show Sg X0 T5 23 (oL40 r0 b5) [(.int (16 : Int32)), (.int (0 : Int32)), (.ref b5), (.int (0 : Int32)), (.ref r0)] _
      refine XS.iloadN X5.here hx rfl (hb hby d32_23) rfl ?_
      exact k)
  obtain ⟨_, _, ⟨T10, L10, kq10, n10⟩, -, X10, ⟨Lc10, hQ10, l10, y10, z10⟩, st10⟩ := Jvm.LawKit.callS X5 hx (y := mN8) hown (mw hZ hw 195 rfl) (mw hZ hw 196 rfl) (mw hZ hw 197 rfl) (mw hZ hw 198 rfl) (by decide) (backOf (W := 4) (rm34m16_10 l Z a0 hw []  h5 n0 Zs5) hZ (ww hw 198 rfl) (ww hw 197 rfl) (by decide) (by decide)) (g := gK k9) rfl (by rw [hml]; rfl) (argsL := [(.int (16 : Int32)), (.int (10 : Int32))]) (rest := [(.int (0 : Int32)), (.ref b5), (.int (0 : Int32)), (.ref r0)]) (lenOf pd_2 rfl) rfl (by show 2 * 0 + _ ≤ _; exact Nat.le_of_eq rfl) (hb hby d32_24) (fun _ _ => ⟨rfl, e5, (by decide : 1 + 0 ≤ _), (by decide : 10 + 0 ≤ _)⟩)
  dsimp only [Pt.U, Pt.locs, Pt.cells, Pt.slots] at X10 l10 y10 z10 st10 hQ10
  replace l10 := l10.symm; subst l10 y10 z10
  obtain ⟨rfl, N10q, e10⟩ := hQ10
  have N10 := Fr.app N2 N10q
  have k11 : Kq X0 5 T10 (mkF m 27 (oL40 r0 b5) [(.int (10 : Int32)), (.int (0 : Int32)), (.ref b5), (.int (0 : Int32)), (.ref r0)]) := fun t k => k9 t (st10 _ k)
  obtain ⟨T13, h13, L13, X13, e13, N13, K13, V13, st13⟩ := cpA X10 hx hZ hown (ww hw 199 rfl) (ww hw 149 rfl) (ww hw 147 rfl) (ww hw 148 rfl) e10 (V_r0.ext E5) V_b5 (us := (List.take 10 vd)) (sp := (0 : Int32)) (dp := (0 : Int32)) (nn := (10 : Int32)) (Or.inl ⟨rfl, rfl⟩) (by decide) (by decide) (by decide) (by decide) (by decide) (own_tk (by rw [hlv]; decide)) (Nat.le_of_ble_eq_true rfl) N10 g_b5 (g := gK k11) rfl (by rw [hml]; rfl) rfl (hb hby d32_27) (by decide) (W := 0) (by show 2 * 0 + _ ≤ _; exact Nat.le_of_eq rfl) (by decide)
  have Vc13 : Arv Z h13 b5 ka5 .byte (10 : Int32) (own_ins oZ10 (List.take 10 vd) 0 10) (.int (0 : Int32)) := V13
  have k15 : Kq X0 5 T13 (mkF m 32 (oL40 r0 b5) [(.ref b5)]) := fun t k => k11 t (st13 _ (XS.aload X13.here hx rfl (hb hby d32_30) rfl rfl k))
  obtain ⟨fs, hr, hrun, hended, hW, hsame⟩ := X13.leave (v := (some (.ref b5))) (fun h => by rw [Bd.returns] at h; cases h)
  refine ⟨_, _, k15 _ ?_, hrun, hended, _, _, rfl, ?_, ⟨_, rfl⟩, hW, hsame.mono (by decide) (by decide)⟩
  · exact retOut X13 hx Bd.returns rfl (Or.inr (Or.inr (Or.inr (Or.inr ⟨rfl, rfl, rfl⟩)))) (hb hby d32_32) hr
  · show Q32_10_16 Z r0 kb vd h0 n0 _ T13.heap _
    rw [e13]
    exact ⟨b5, rfl, sz_b5, N13, (((Keep.refl h0 []).ext E5).trans K13 (allS (Or.inr sz_b5) all0)), ka5, Vc13⟩
def oC31 : ByteArray := jdk_65_method_132_code
theorem d31_0 : decode oC31 0 = .ok (.iload_n 1, 1) := by decide +kernel
theorem d31_1 : decode oC31 1 = .ok (.ifCond .ne 9, 3) := by decide +kernel
theorem d31_4 : decode oC31 4 = .ok (.iload_n 2, 1) := by decide +kernel
theorem d31_5 : decode oC31 5 = .ok (.aload_n 0, 1) := by decide +kernel
theorem d31_6 : decode oC31 6 = .ok (.arraylength, 1) := by decide +kernel
theorem d31_7 : decode oC31 7 = .ok (.if_icmp .eq 10, 3) := by decide +kernel
theorem d31_10 : decode oC31 10 = .ok (.aload_n 0, 1) := by decide +kernel
theorem d31_11 : decode oC31 11 = .ok (.iload_n 1, 1) := by decide +kernel
theorem d31_12 : decode oC31 12 = .ok (.iload_n 2, 1) := by decide +kernel
theorem d31_13 : decode oC31 13 = .ok (.invokestatic 339, 3) := by decide +kernel
theorem d31_16 : decode oC31 16 = .ok (.areturn, 1) := by decide +kernel
theorem d31_17 : decode oC31 17 = .ok (.aload_n 0, 1) := by decide +kernel
theorem d31_18 : decode oC31 18 = .ok (.invokevirtual 310, 3) := by decide +kernel
theorem d31_21 : decode oC31 21 = .ok (.checkcast 311, 3) := by decide +kernel
theorem d31_24 : decode oC31 24 = .ok (.areturn, 1) := by decide +kernel
theorem ef_31_10_16 (m : MethodId) (x0 : Addr) (x1 : Int32) (x2 : Int32) : entryFrame m #[(.ref x0), (.int x1), (.int x2)] 3 = mkF m 0 #[.val (.ref x0), .val (.int x1), .val (.int x2)] [] := by first | (simp [entryFrame, mkF, argsToLocals, Value.category]; done) | rfl
theorem pd_12 : parseMethodDescriptor "([BII)[B" = some ⟨[(.array .byte), .int, .int], some (.array .byte)⟩ := by decide +kernel
def Q31_10_16 (Z : State) (r0 : Addr) (kb : ClassId) (vd : List Value) (h0 : Heap) (n0 : Nat) (v : Option Value) (h : Heap) (L : List Loc) : Prop := ∃ x, v = some (.ref x) ∧ h0.size ≤ x ∧ Fr n0 L ∧ Keep h0 h [] ∧ ∃ k, Arv Z h x k .byte (10 : Int32) (own_ins oZ10 (List.take 10 vd) 0 10) (.int (0 : Int32))
def oR15 : Room := { frames := 2, cells := 1, slots := 10, locals := 52 }
def mN19 : MethodName := ⟨"java/util/Arrays", "copyOfRange", "([BII)[B"⟩
def oL41 (r0 : Addr) : Array Slot := #[.val (.ref r0), .val (.int (0 : Int32)), .val (.int (10 : Int32))]
theorem rm31_10_16 (l : Launch) (Z : State) (a0 : Array Value) (hw : ∀ d ∈ tables_1, d.before a0 Z = true) (ws : List Jvm.Cond) (r0 : Addr) (kb : ClassId) (vd : List Value) (h0 : Heap) (n0 : Nat) (Z0 : n0 ≤ h0.size) (V_r0 : Arv Z h0 r0 kb .byte (16 : Int32) vd (.int (0 : Int32))) (hlv : vd.length = 16) :
    MetFree l mN19 (head1 (Jvm.Cond.code mN19 jdk_65_method_132_code 3 (some (.array .byte)) :: ws) oR15) (fun a U => a = #[(.ref r0), (.int (0 : Int32)), (.int (10 : Int32))] ∧ Z.Warmed39 U.vm ∧ U.heap = h0) (fun _ _ _ _ _ => True) (fun _ U o U' => ∃ v L, o = .returned v ∧ Q31_10_16 Z r0 kb vd h0 n0 v U'.heap L ∧ FrameEnd U o U' L oR15.cells oR15.slots) := by
  refine MetFree.of_bodySF (plainFor_of_name pn_4) hisR ?_
  intro p e s m args below meth c s₁ Bd hml0 hP hK
  obtain ⟨rfl, hZ, hh⟩ := hP
  have hx := Bd.exec
  have hby := Bd.bytes
  have hml : c.maxLocals = 3 := hml0
  have hown : s.vm.findClass "java/util/Arrays" = some m.cls := findClass_of_methodNamed Bd.named
  have X0 : Stand p l e oR15 s m #[(.ref r0), (.int (0 : Int32)), (.int (10 : Int32))] below meth c s₁ [] 0 0 := Stand.of_body Bd
  have e0 : s₁.heap = h0 := by rw [← hh, Bd.state]; rfl
  have N0 := Fr.nil n0
  have k0 : Kq X0 3 s₁ (mkF m 0 (oL41 r0) []) := fun t k => castTop (ef_31_10_16 m r0 (0 : Int32) (10 : Int32)) k
  have hc1 : (0 : Int32) = (0 : Int32) := by decide
  have k1 : Kq X0 3 s₁ (mkF m 6 (oL41 r0) [(.ref r0), (.int (10 : Int32))]) := fun t k => k0 t (XS.iloadN X0.here hx rfl (hb hby d31_0) rfl (XS.ifNo X0.here hx rfl (hb hby d31_1) rfl ((if0 _ _).trans (teq hc1).2) (XS.iloadN X0.here hx rfl (hb hby d31_4) rfl (XS.aloadN X0.here hx rfl (hb hby d31_5) rfl rfl k))))
  obtain ⟨cl2, Ar2, q2, S2, N2_, H2, G2⟩ := (id V_r0)
  have S2' : cl2.slots.size = 16 := S2
  have L2 : (cl2.slots.size).toInt32 = (16 : Int32) := by rw [S2']; rfl
  have hc7 : ¬ ((10 : Int32) = (16 : Int32)) := by decide
  have k3 : Kq X0 3 s₁ (mkF m 13 (oL41 r0) [(.int (10 : Int32)), (.int (0 : Int32)), (.ref r0)]) := fun t k => k1 t (by
      refine X0.arraylength hx (by rw [e0]; exact Ar2.1) (State.isArrayOf_alike hZ.alike Ar2.2.1) (g := (mkF m 6 (oL41 r0) [(.ref r0), (.int (10 : Int32))])) rfl rfl (hb hby d31_6) _ ?_
      rw [L2]
      show Sg X0 s₁ 7 (oL41 r0) [(.int (16 : Int32)), (.int (10 : Int32))] _
      refine XS.icmpNo X0.here hx rfl (hb hby d31_7) rfl (feq hc7).1 ?_
      show Sg X0 s₁ 10 (oL41 r0) [] _
      refine XS.aloadN X0.here hx rfl (hb hby d31_10) rfl rfl ?_
      show Sg X0 s₁ 11 (oL41 r0) [(.ref r0)] _
      refine XS.iloadN X0.here hx rfl (hb hby d31_11) rfl ?_
      show Sg X0 s₁ 12 (oL41 r0) [(.int (0 : Int32)), (.ref r0)] _
      refine XS.iloadN X0.here hx rfl (hb hby d31_12) rfl ?_
      exact k)
  obtain ⟨_, _, ⟨T4, L4, kq4, n4⟩, -, X4, ⟨Lc4, hQ4, l4, y4, z4⟩, st4⟩ := Jvm.LawKit.callS X0 hx (y := mN18) hown (mw hZ hw 189 rfl) (mw hZ hw 190 rfl) (mw hZ hw 187 rfl) (mw hZ hw 191 rfl) (by decide) (backOf (W := 0) (rm32_10_16 l Z a0 hw [] r0 kb vd h0 n0 Z0 V_r0 hlv) hZ (ww hw 191 rfl) (ww hw 187 rfl) (by decide) (by decide)) (g := gK k3) rfl (by rw [hml]; rfl) (argsL := [(.ref r0), (.int (0 : Int32)), (.int (10 : Int32))]) (rest := []) (lenOf pd_12 rfl) rfl (by show 2 * 0 + _ ≤ _; exact Nat.le_of_eq rfl) (hb hby d31_13) (fun _ _ => ⟨rfl, e0, (by decide : 0 + 1 ≤ _), (by decide : 0 + 10 ≤ _)⟩)
  dsimp only [Pt.U, Pt.locs, Pt.cells, Pt.slots] at X4 l4 y4 z4 st4 hQ4
  replace l4 := l4.symm; subst l4 y4 z4
  obtain ⟨t4, rfl, zt4, N4q, K4, kt4, Vt4⟩ := hQ4
  have N4 := Fr.app N0 N4q
  have sz_t4 : h0.size ≤ t4 := Nat.le_trans (Keep.refl h0 []).1 zt4
  have k5 : Kq X0 3 T4 (mkF m 16 (oL41 r0) [(.ref t4)]) := fun t k => k3 t (st4 _ k)
  obtain ⟨fs, hr, hrun, hended, hW, hsame⟩ := X4.leave (v := (some (.ref t4))) (fun h => by rw [Bd.returns] at h; cases h)
  refine ⟨_, _, k5 _ ?_, hrun, hended, _, _, rfl, ?_, ⟨_, rfl⟩, hW, hsame.mono (by decide) (by decide)⟩
  · exact retOut X4 hx Bd.returns rfl (Or.inr (Or.inr (Or.inr (Or.inr ⟨rfl, rfl, rfl⟩)))) (hb hby d31_16) hr
  · show Q31_10_16 Z r0 kb vd h0 n0 _ T4.heap _
    exact ⟨t4, rfl, sz_t4, N4, ((Keep.refl h0 []).trans K4 all0), kt4, Vt4⟩
def oC29 : ByteArray := jdk_68_method_6_code
theorem d29_0 : decode oC29 0 = .ok (.aload_n 0, 1) := by decide +kernel
theorem d29_1 : decode oC29 1 = .ok (.getfield 79, 3) := by decide +kernel
theorem d29_4 : decode oC29 4 = .ok (.ireturn, 1) := by decide +kernel
def Q29_10_16 (Z : State) (r0 : Addr) (h0 : Heap) (n0 : Nat) (v : Option Value) (h : Heap) (L : List Loc) : Prop := v = some (.int (10 : Int32)) ∧ Fr n0 L ∧ h = h0
def mN20 : MethodName := ⟨"java/lang/AbstractStringBuilder", "length", "()I"⟩
theorem rm29_10_16 (l : Launch) (Z : State) (a0 : Array Value) (hw : ∀ d ∈ tables_1, d.before a0 Z = true) (ws : List Jvm.Cond) (r0 : Addr) (h0 : Heap) (n0 : Nat) (Z0 : n0 ≤ h0.size) (F_count_r0 : Fld Z h0 r0 "java/lang/AbstractStringBuilder" "count" "I" (.int (10 : Int32))) :
    MetFree l mN20 (head1 (Jvm.Cond.code mN20 jdk_68_method_6_code 1 (some .int) :: ws) oR2) (fun a U => a = #[(.ref r0)] ∧ Z.Warmed39 U.vm ∧ U.heap = h0) (fun _ _ _ _ _ => True) (fun _ U o U' => ∃ v L, o = .returned v ∧ Q29_10_16 Z r0 h0 n0 v U'.heap L ∧ FrameEnd U o U' L oR2.cells oR2.slots) := by
  refine MetFree.of_bodySF (plainFor_of_name pn_0) hisR ?_
  intro p e s m args below meth c s₁ Bd hml0 hP hK
  obtain ⟨rfl, hZ, hh⟩ := hP
  have hx := Bd.exec
  have hby := Bd.bytes
  have hml : c.maxLocals = 1 := hml0
  have hown : s.vm.findClass "java/lang/AbstractStringBuilder" = some m.cls := findClass_of_methodNamed Bd.named
  have X0 : Stand p l e oR2 s m #[(.ref r0)] below meth c s₁ [] 0 0 := Stand.of_body Bd
  have e0 : s₁.heap = h0 := by rw [← hh, Bd.state]; rfl
  have N0 := Fr.nil n0
  have k0 : Kq X0 1 s₁ (mkF m 0 #[.val (.ref r0)] []) := fun t k => castTop (ef_13 m r0) k
  have k1 : Kq X0 1 s₁ (mkF m 1 #[.val (.ref r0)] [(.ref r0)]) := fun t k => k0 t (XS.aloadN X0.here hx rfl (hb hby d29_0) rfl rfl k)
  obtain ⟨T2, X2, e2, st2⟩ := getF X0 hx hZ hown (host := "") (Or.inl (ww hw 123 rfl)) Via.refl e0 F_count_r0 (g := gK k1) rfl rfl (hb hby d29_1)
  have k3 : Kq X0 1 T2 (mkF m 4 #[.val (.ref r0)] [(.int (10 : Int32))]) := fun t k => k1 t (st2 _ k)
  obtain ⟨fs, hr, hrun, hended, hW, hsame⟩ := X2.leave (v := (some (.int (10 : Int32)))) (fun h => by rw [Bd.returns] at h; cases h)
  refine ⟨_, _, k3 _ ?_, hrun, hended, _, _, rfl, ?_, ⟨_, rfl⟩, hW, hsame.mono (by decide) (by decide)⟩
  · exact retOut X2 hx Bd.returns rfl (Or.inl ⟨rfl, Or.inl rfl, _, rfl⟩) (hb hby d29_4) hr
  · show Q29_10_16 Z r0 h0 n0 _ T2.heap _
    rw [e2]
    exact ⟨rfl, N0, rfl⟩
def oC28 : ByteArray := jdk_67_method_93_code
theorem d28_0 : decode oC28 0 = .ok (.aload_n 0, 1) := by decide +kernel
theorem d28_1 : decode oC28 1 = .ok (.invokespecial 343, 3) := by decide +kernel
theorem d28_4 : decode oC28 4 = .ok (.ireturn, 1) := by decide +kernel
def Q28_10_16 (Z : State) (r0 : Addr) (h0 : Heap) (n0 : Nat) (v : Option Value) (h : Heap) (L : List Loc) : Prop := v = some (.int (10 : Int32)) ∧ Fr n0 L ∧ h = h0
def oR16 : Room := { frames := 1, cells := 0, slots := 0, locals := 12 }
def mN21 : MethodName := ⟨"java/lang/StringBuilder", "length", "()I"⟩
theorem rm28_10_16 (l : Launch) (Z : State) (a0 : Array Value) (hw : ∀ d ∈ tables_1, d.before a0 Z = true) (ws : List Jvm.Cond) (r0 : Addr) (h0 : Heap) (n0 : Nat) (Z0 : n0 ≤ h0.size) (F_count_r0 : Fld Z h0 r0 "java/lang/AbstractStringBuilder" "count" "I" (.int (10 : Int32))) (E_r0 : Exa Z h0 r0 "java/lang/StringBuilder") :
    MetFree l mN21 (head1 (Jvm.Cond.code mN21 jdk_67_method_93_code 1 (some .int) :: ws) oR16) (fun a U => a = #[(.ref r0)] ∧ Z.Warmed39 U.vm ∧ U.heap = h0) (fun _ _ _ _ _ => True) (fun _ U o U' => ∃ v L, o = .returned v ∧ Q28_10_16 Z r0 h0 n0 v U'.heap L ∧ FrameEnd U o U' L oR16.cells oR16.slots) := by
  refine MetFree.of_bodySF (plainFor_of_name pn_1) hisR ?_
  intro p e s m args below meth c s₁ Bd hml0 hP hK
  obtain ⟨rfl, hZ, hh⟩ := hP
  have hx := Bd.exec
  have hby := Bd.bytes
  have hml : c.maxLocals = 1 := hml0
  have hown : s.vm.findClass "java/lang/StringBuilder" = some m.cls := findClass_of_methodNamed Bd.named
  have X0 : Stand p l e oR16 s m #[(.ref r0)] below meth c s₁ [] 0 0 := Stand.of_body Bd
  have e0 : s₁.heap = h0 := by rw [← hh, Bd.state]; rfl
  have N0 := Fr.nil n0
  have k0 : Kq X0 1 s₁ (mkF m 0 #[.val (.ref r0)] []) := fun t k => castTop (ef_13 m r0) k
  have k1 : Kq X0 1 s₁ (mkF m 1 #[.val (.ref r0)] [(.ref r0)]) := fun t k => k0 t (XS.aloadN X0.here hx rfl (hb hby d28_0) rfl rfl k)
  obtain ⟨_, _, ⟨T2, L2, kq2, n2⟩, -, X2, ⟨Lc2, hQ2, l2, y2, z2⟩, st2⟩ := superBack X0 hx hZ hown (ww hw 178 rfl) (own_same (y := mN20) (ww hw 128 rfl) rfl (ww hw 174 rfl) ⟨by decide, by decide⟩) (ww hw 174 rfl) (ww hw 110 rfl) (by decide) (backOf (W := 0) (rm29_10_16 l Z a0 hw [] r0 h0 n0 Z0 F_count_r0) hZ (ww hw 179 rfl) (ww hw 94 rfl) (by decide) (by decide)) e0 (Ins.self E_r0) (g := gK k1) rfl (by rw [hml]; rfl) (ww hw 179 rfl) (argsL := []) (rest := []) (lenOf pd_8 rfl) rfl (by show 2 * 0 + _ ≤ _; exact Nat.le_of_eq rfl) (hb hby d28_1) (fun _ _ => ⟨rfl, e0, (by decide : 0 + 0 ≤ _), (by decide : 0 + 0 ≤ _)⟩)
  dsimp only [Pt.U, Pt.locs, Pt.cells, Pt.slots] at X2 l2 y2 z2 st2 hQ2
  replace l2 := l2.symm; subst l2 y2 z2
  obtain ⟨rfl, N2q, e2⟩ := hQ2
  have N2 := Fr.app N0 N2q
  have k3 : Kq X0 1 T2 (mkF m 4 #[.val (.ref r0)] [(.int (10 : Int32))]) := fun t k => k1 t (st2.trans k)
  obtain ⟨fs, hr, hrun, hended, hW, hsame⟩ := X2.leave (v := (some (.int (10 : Int32)))) (fun h => by rw [Bd.returns] at h; cases h)
  refine ⟨_, _, k3 _ ?_, hrun, hended, _, _, rfl, ?_, ⟨_, rfl⟩, hW, hsame.mono (by decide) (by decide)⟩
  · exact retOut X2 hx Bd.returns rfl (Or.inl ⟨rfl, Or.inl rfl, _, rfl⟩) (hb hby d28_4) hr
  · show Q28_10_16 Z r0 h0 n0 _ T2.heap _
    rw [e2]
    exact ⟨rfl, N2, rfl⟩
def oC26 : ByteArray := jdk_42_method_150_code
theorem d26_0 : decode oC26 0 = .ok (.aload_n 0, 1) := by decide +kernel
theorem d26_1 : decode oC26 1 = .ok (.invokespecial 1, 3) := by decide +kernel
theorem d26_4 : decode oC26 4 = .ok (.aload_n 1, 1) := by decide +kernel
theorem d26_5 : decode oC26 5 = .ok (.invokevirtual 552, 3) := by decide +kernel
theorem d26_8 : decode oC26 8 = .ok (.astore_n 3, 1) := by decide +kernel
theorem d26_9 : decode oC26 9 = .ok (.aload_n 1, 1) := by decide +kernel
theorem d26_10 : decode oC26 10 = .ok (.invokevirtual 549, 3) := by decide +kernel
theorem d26_13 : decode oC26 13 = .ok (.istore 4, 2) := by decide +kernel
theorem d26_15 : decode oC26 15 = .ok (.aload_n 1, 1) := by decide +kernel
theorem d26_16 : decode oC26 16 = .ok (.invokevirtual 1047, 3) := by decide +kernel
theorem d26_19 : decode oC26 19 = .ok (.ifCond .eq 22, 3) := by decide +kernel
theorem d26_22 : decode oC26 22 = .ok (.aload_n 0, 1) := by decide +kernel
theorem d26_23 : decode oC26 23 = .ok (.iconst 0, 1) := by decide +kernel
theorem d26_24 : decode oC26 24 = .ok (.putfield 15, 3) := by decide +kernel
theorem d26_27 : decode oC26 27 = .ok (.aload_n 0, 1) := by decide +kernel
theorem d26_28 : decode oC26 28 = .ok (.aload_n 3, 1) := by decide +kernel
theorem d26_29 : decode oC26 29 = .ok (.iconst 0, 1) := by decide +kernel
theorem d26_30 : decode oC26 30 = .ok (.iload 4, 2) := by decide +kernel
theorem d26_32 : decode oC26 32 = .ok (.invokestatic 54, 3) := by decide +kernel
theorem d26_35 : decode oC26 35 = .ok (.putfield 9, 3) := by decide +kernel
theorem d26_38 : decode oC26 38 = .ok (.goto 59, 3) := by decide +kernel
theorem d26_41 : decode oC26 41 = .ok (.getstatic 38, 3) := by decide +kernel
theorem d26_44 : decode oC26 44 = .ok (.ifCond .eq 35, 3) := by decide +kernel
theorem d26_47 : decode oC26 47 = .ok (.aload_n 1, 1) := by decide +kernel
theorem d26_48 : decode oC26 48 = .ok (.getfield 1048, 3) := by decide +kernel
theorem d26_51 : decode oC26 51 = .ok (.ifCond .eq 28, 3) := by decide +kernel
theorem d26_54 : decode oC26 54 = .ok (.aload_n 0, 1) := by decide +kernel
theorem d26_55 : decode oC26 55 = .ok (.aload_n 3, 1) := by decide +kernel
theorem d26_56 : decode oC26 56 = .ok (.iconst 0, 1) := by decide +kernel
theorem d26_57 : decode oC26 57 = .ok (.iload 4, 2) := by decide +kernel
theorem d26_59 : decode oC26 59 = .ok (.invokestatic 1051, 3) := by decide +kernel
theorem d26_62 : decode oC26 62 = .ok (.putfield 9, 3) := by decide +kernel
theorem d26_65 : decode oC26 65 = .ok (.aload_n 0, 1) := by decide +kernel
theorem d26_66 : decode oC26 66 = .ok (.aload_n 0, 1) := by decide +kernel
theorem d26_67 : decode oC26 67 = .ok (.getfield 9, 3) := by decide +kernel
theorem d26_70 : decode oC26 70 = .ok (.iload 4, 2) := by decide +kernel
theorem d26_72 : decode oC26 72 = .ok (.invokestatic 47, 3) := by decide +kernel
theorem d26_75 : decode oC26 75 = .ok (.putfield 15, 3) := by decide +kernel
theorem d26_78 : decode oC26 78 = .ok (.return_, 1) := by decide +kernel
theorem d26_79 : decode oC26 79 = .ok (.aload_n 0, 1) := by decide +kernel
theorem d26_80 : decode oC26 80 = .ok (.iconst 1, 1) := by decide +kernel
theorem d26_81 : decode oC26 81 = .ok (.putfield 15, 3) := by decide +kernel
theorem d26_84 : decode oC26 84 = .ok (.aload_n 0, 1) := by decide +kernel
theorem d26_85 : decode oC26 85 = .ok (.aload_n 3, 1) := by decide +kernel
theorem d26_86 : decode oC26 86 = .ok (.iconst 0, 1) := by decide +kernel
theorem d26_87 : decode oC26 87 = .ok (.iload 4, 2) := by decide +kernel
theorem d26_89 : decode oC26 89 = .ok (.iconst 1, 1) := by decide +kernel
theorem d26_90 : decode oC26 90 = .ok (.ishl, 1) := by decide +kernel
theorem d26_91 : decode oC26 91 = .ok (.invokestatic 54, 3) := by decide +kernel
theorem d26_94 : decode oC26 94 = .ok (.putfield 9, 3) := by decide +kernel
theorem d26_97 : decode oC26 97 = .ok (.return_, 1) := by decide +kernel
theorem ef_26_10_16 (m : MethodId) (x0 : Addr) (x1 : Addr) : entryFrame m #[(.ref x0), (.ref x1), .null] 5 = mkF m 0 #[.val (.ref x0), .val (.ref x1), .val .null, .unset, .unset] [] := by first | (simp [entryFrame, mkF, argsToLocals, Value.category]; done) | rfl
theorem pd_13 : parseMethodDescriptor "()[B" = some ⟨[], some (.array .byte)⟩ := by decide +kernel
theorem pd_14 : parseMethodDescriptor "()Z" = some ⟨[], some .boolean⟩ := by decide +kernel
def Q26_10_16 (Z : State) (r0 : Addr) (r1 : Addr) (tb : Addr) (kb : ClassId) (vd : List Value) (G1 : Int32) (h0 : Heap) (n0 : Nat) (v : Option Value) (h : Heap) (L : List Loc) : Prop := v = none ∧ Fr n0 L ∧ Keep h0 h [r0] ∧ ∃ t k, h0.size ≤ t ∧ Exa Z h r0 "java/lang/String" ∧ Fld Z h r0 "java/lang/String" "value" "[B" (.ref t) ∧ Fld Z h r0 "java/lang/String" "coder" "B" (.int (0 : Int32)) ∧ Arv Z h t k .byte (10 : Int32) (own_ins oZ10 (List.take 10 vd) 0 10) (.int (0 : Int32))
def oR17 : Room := { frames := 3, cells := 1, slots := 10, locals := 67 }
def mN22 : MethodName := ⟨"java/lang/String", "<init>", "(Ljava/lang/AbstractStringBuilder;Ljava/lang/Void;)V"⟩
def oL42 (r0 : Addr) (r1 : Addr) : Array Slot := #[.val (.ref r0), .val (.ref r1), .val .null, .unset, .unset]
def oL43 (r0 : Addr) (r1 : Addr) (tb : Addr) : Array Slot := #[.val (.ref r0), .val (.ref r1), .val .null, .val (.ref tb), .unset]
def oL44 (r0 : Addr) (r1 : Addr) (tb : Addr) : Array Slot := #[.val (.ref r0), .val (.ref r1), .val .null, .val (.ref tb), .val (.int (10 : Int32))]
theorem rm26_10_16 (l : Launch) (Z : State) (a0 : Array Value) (hw : ∀ d ∈ tables_1, d.before a0 Z = true) (ws : List Jvm.Cond) (r0 : Addr) (r1 : Addr) (tb : Addr) (kb : ClassId) (vd : List Value) (G1 : Int32) (h0 : Heap) (n0 : Nat) (Z0 : n0 ≤ h0.size) (E_r0 : Exa Z h0 r0 "java/lang/String") (F_value_r0 : Fld Z h0 r0 "java/lang/String" "value" "[B" .null) (F_coder_r0 : Fld Z h0 r0 "java/lang/String" "coder" "B" (.int (0 : Int32))) (g_r0 : n0 ≤ r0) (ne_r1_r0 : r1 ≠ r0) (ne_tb_r0 : tb ≠ r0) (F_value_r1 : Fld Z h0 r1 "java/lang/AbstractStringBuilder" "value" "[B" (.ref tb)) (F_coder_r1 : Fld Z h0 r1 "java/lang/AbstractStringBuilder" "coder" "B" (.int (0 : Int32))) (F_count_r1 : Fld Z h0 r1 "java/lang/AbstractStringBuilder" "count" "I" (.int (10 : Int32))) (E_r1 : Exa Z h0 r1 "java/lang/StringBuilder") (V_tb : Arv Z h0 tb kb .byte (16 : Int32) vd (.int (0 : Int32))) (hlv : vd.length = 16) (S_CS : Sta Z Z.heap "java/lang/String" "COMPACT_STRINGS" "Z" (.int G1)) (P5 : ¬ (G1 = (0 : Int32))) (X00 : Old Z n0 h0) :
    MetFree l mN22 (head1 (Jvm.Cond.code mN22 jdk_42_method_150_code 5 none :: ws) oR17) (fun a U => a = #[(.ref r0), (.ref r1), .null] ∧ Z.Warmed39 U.vm ∧ U.heap = h0) (fun _ _ _ _ _ => True) (fun _ U o U' => ∃ v L, o = .returned v ∧ Q26_10_16 Z r0 r1 tb kb vd G1 h0 n0 v U'.heap L ∧ FrameEnd U o U' L oR17.cells oR17.slots) := by
  refine MetFree.of_bodySF (plainFor_of_name pn_2) hisR ?_
  intro p e s m args below meth c s₁ Bd hml0 hP hK
  obtain ⟨rfl, hZ, hh⟩ := hP
  have hx := Bd.exec
  have hby := Bd.bytes
  have hml : c.maxLocals = 5 := hml0
  have hown : s.vm.findClass "java/lang/String" = some m.cls := findClass_of_methodNamed Bd.named
  have hnm := (name_of_methodNamed Bd.named Bd.method).1
  have X0 : Stand p l e oR17 s m #[(.ref r0), (.ref r1), .null] below meth c s₁ [] 0 0 := Stand.of_body Bd
  have e0 : s₁.heap = h0 := by rw [← hh, Bd.state]; rfl
  have N0 := Fr.nil n0
  have k0 : Kq X0 5 s₁ (mkF m 0 (oL42 r0 r1) []) := fun t k => castTop (ef_26_10_16 m r0 r1) k
  have k1 : Kq X0 5 s₁ (mkF m 1 (oL42 r0 r1) [(.ref r0)]) := fun t k => k0 t (XS.aloadN X0.here hx rfl (hb hby d26_0) rfl rfl k)
  obtain ⟨T2, X2, e2, st2⟩ := initO X0 hx hZ hown (ww hw 69 rfl) (ww hw 18 rfl) (ww hw 19 rfl) e0 (g := gK k1) rfl (by rw [hml]; rfl) rfl (hb hby d26_1) (by decide) (W := 0) (by show 2 * 0 + _ ≤ _; exact Nat.le_of_eq rfl) (by decide)
  have k4 : Kq X0 5 T2 (mkF m 5 (oL42 r0 r1) [(.ref r1)]) := fun t k => k1 t (st2 _ (XS.aloadN X2.here hx rfl (hb hby d26_4) rfl rfl k))
  obtain ⟨cq5, kcq5, q5a, q5b, q5c⟩ := isOf hZ e2 E_r1
  obtain ⟨_, _, ⟨T5, L5, kq5, n5⟩, -, X5, ⟨Lc5, hQ5, l5, y5, z5⟩, st5⟩ := X2.virtualBack hx (y := mN15) (z := mN15) hown (mw hZ hw 167 rfl) (mw hZ hw 168 rfl) (notFace_of_selects (args := #[]) (mw hZ hw 170 rfl)) (mw hZ hw 170 rfl) (mw hZ hw 169 rfl) (by decide) (backOf (W := 0) (rm27 l Z a0 hw [] r1 tb h0 n0 Z0 F_value_r1) hZ (ww hw 171 rfl) (ww hw 94 rfl) (by decide) (by decide)) q5a q5c (g := gK k4) rfl (by rw [hml]; rfl) (Steps.refl _) (argsL := []) (rest := []) (lenOf pd_13 rfl) rfl (by show 2 * 0 + _ ≤ _; exact Nat.le_of_eq rfl) (hb hby d26_5) (fun _ _ => ⟨rfl, e2, (by decide : 0 + 0 ≤ _), (by decide : 0 + 0 ≤ _)⟩)
  dsimp only [Pt.U, Pt.locs, Pt.cells, Pt.slots] at X5 l5 y5 z5 st5 hQ5
  replace l5 := l5.symm; subst l5 y5 z5
  obtain ⟨rfl, N5q, e5⟩ := hQ5
  have N5 := Fr.app N0 N5q
  have k7 : Kq X0 5 T5 (mkF m 10 (oL43 r0 r1 tb) [(.ref r1)]) := fun t k => k4 t (st5.trans (XS.astoreN X5.here hx rfl (hb hby d26_8) rfl rfl (l' := (oL43 r0 r1 tb)) rfl (XS.aloadN X5.here hx rfl (hb hby d26_9) rfl rfl k)))
  obtain ⟨cq8, kcq8, q8a, q8b, q8c⟩ := isOf hZ e5 E_r1
  obtain ⟨_, _, ⟨T8, L8, kq8, n8⟩, -, X8, ⟨Lc8, hQ8, l8, y8, z8⟩, st8⟩ := X5.virtualBack hx (y := mN20) (z := mN21) hown (mw hZ hw 172 rfl) (mw hZ hw 173 rfl) (own_nf (args := #[]) (mw hZ hw 128 rfl) rfl) (mw hZ hw 175 rfl) (mw hZ hw 176 rfl) (by decide) (backOf (W := 0) (rm28_10_16 l Z a0 hw [] r1 h0 n0 Z0 F_count_r1 E_r1) hZ (ww hw 177 rfl) (ww hw 86 rfl) (by decide) (by decide)) q8a q8c (g := gK k7) rfl (by rw [hml]; rfl) (Steps.refl _) (argsL := []) (rest := []) (lenOf pd_8 rfl) rfl (by show 2 * 0 + _ ≤ _; exact Nat.le_of_eq rfl) (hb hby d26_10) (fun _ _ => ⟨rfl, e5, (by decide : 0 + 0 ≤ _), (by decide : 0 + 0 ≤ _)⟩)
  dsimp only [Pt.U, Pt.locs, Pt.cells, Pt.slots] at X8 l8 y8 z8 st8 hQ8
  replace l8 := l8.symm; subst l8 y8 z8
  obtain ⟨rfl, N8q, e8⟩ := hQ8
  have N8 := Fr.app N5 N8q
  have k10 : Kq X0 5 T8 (mkF m 16 (oL44 r0 r1 tb) [(.ref r1)]) := fun t k => k7 t (st8.trans (XS.istore X8.here hx rfl (hb hby d26_13) rfl (l' := (oL44 r0 r1 tb)) rfl (XS.aloadN X8.here hx rfl (hb hby d26_15) rfl rfl k)))
  obtain ⟨cq11, kcq11, q11a, q11b, q11c⟩ := isOf hZ e8 E_r1
  obtain ⟨_, _, ⟨T11, L11, kq11, n11⟩, -, X11, ⟨Lc11, hQ11, l11, y11, z11⟩, st11⟩ := X8.virtualBack hx (y := mN16) (z := mN16) hown (mw hZ hw 180 rfl) (mw hZ hw 181 rfl) (notFace_of_selects (args := #[]) (mw hZ hw 183 rfl)) (mw hZ hw 183 rfl) (mw hZ hw 182 rfl) (by decide) (backOf (W := 0) (rm30 l Z a0 hw [] r1 G1 h0 n0 Z0 F_coder_r1 S_CS P5 X00) hZ (ww hw 184 rfl) (ww hw 94 rfl) (by decide) (by decide)) q11a q11c (g := gK k10) rfl (by rw [hml]; rfl) (Steps.refl _) (argsL := []) (rest := []) (lenOf pd_14 rfl) rfl (by show 2 * 0 + _ ≤ _; exact Nat.le_of_eq rfl) (hb hby d26_16) (fun _ _ => ⟨rfl, e8, (by decide : 0 + 0 ≤ _), (by decide : 0 + 0 ≤ _)⟩)
  dsimp only [Pt.U, Pt.locs, Pt.cells, Pt.slots] at X11 l11 y11 z11 st11 hQ11
  replace l11 := l11.symm; subst l11 y11 z11
  obtain ⟨rfl, N11q, e11⟩ := hQ11
  have N11 := Fr.app N8 N11q
  have hc19 : ¬ ((1 : Int32) = (0 : Int32)) := by decide
  have k13 : Kq X0 5 T11 (mkF m 24 (oL44 r0 r1 tb) [(.int (0 : Int32)), (.ref r0)]) := fun t k => k10 t (st11.trans (XS.ifNo X11.here hx rfl (hb hby d26_19) rfl ((if0 _ _).trans (feq hc19).1) (XS.aloadN X11.here hx rfl (hb hby d26_22) rfl rfl (XS.iconst X11.here hx rfl (hb hby d26_23) k))))
  obtain ⟨T14, h14, X14, e14, W14, st14⟩ := putFN X11 hx hZ hown (ww hw 81 rfl) Via.refl e11 F_coder_r0 E_r0 (Or.inr ⟨(ww hw 8 rfl), rfl, hnm⟩) (ww hw 5 rfl) (ty := .byte) (v' := (.int (0 : Int32))) (by decide) rfl rfl (g := gK k13) rfl rfl (hb hby d26_24)
  have fc15 := (F_value_r0.other W14 (Or.inr (slot_ne (Or.inr (ww hw 7 rfl)) (Or.inr (ww hw 8 rfl)) (by decide) (t := (.array .byte)) (t' := .byte) (by decide) (by decide))))
  have N14 := Fr.snoc X14 N11 g_r0
  have Zs14 : n0 ≤ h14.size := Nat.le_trans Z0 (Keep.of_wr W14).1
  have k17 : Kq X0 5 T14 (mkF m 32 (oL44 r0 r1 tb) [(.int (10 : Int32)), (.int (0 : Int32)), (.ref tb), (.ref r0)]) := fun t k => k13 t (st14 _ (XS.aloadN X14.here hx rfl (hb hby d26_27) rfl rfl (XS.aloadN X14.here hx rfl (hb hby d26_28) rfl rfl (XS.iconst X14.here hx rfl (hb hby d26_29) (XS.iload X14.here hx rfl (hb hby d26_30) rfl k)))))
  obtain ⟨_, _, ⟨T18, L18, kq18, n18⟩, -, X18, ⟨Lc18, hQ18, l18, y18, z18⟩, st18⟩ := Jvm.LawKit.callS X14 hx (y := mN19) hown (mw hZ hw 185 rfl) (mw hZ hw 186 rfl) (mw hZ hw 187 rfl) (mw hZ hw 188 rfl) (by decide) (backOf (W := 1) (rm31_10_16 l Z a0 hw [] tb kb vd h14 n0 Zs14 (V_tb.other W14 ne_tb_r0) hlv) hZ (ww hw 188 rfl) (ww hw 187 rfl) (by decide) (by decide)) (g := gK k17) rfl (by rw [hml]; rfl) (argsL := [(.ref tb), (.int (0 : Int32)), (.int (10 : Int32))]) (rest := [(.ref r0)]) (lenOf pd_12 rfl) rfl (by show 2 * 0 + _ ≤ _; exact Nat.le_of_eq rfl) (hb hby d26_32) (fun _ _ => ⟨rfl, e14, (by decide : 0 + 1 ≤ _), (by decide : 0 + 10 ≤ _)⟩)
  dsimp only [Pt.U, Pt.locs, Pt.cells, Pt.slots] at X18 l18 y18 z18 st18 hQ18
  replace l18 := l18.symm; subst l18 y18 z18
  obtain ⟨t18, rfl, zt18, N18q, K18, kt18, Vt18⟩ := hQ18
  have N18 := Fr.app N14 N18q
  have ne_r0_t18 : r0 ≠ t18 := Nat.ne_of_lt (Nat.lt_of_lt_of_le (E_r0.wr W14).lt zt18)
  have sz_t18 : h0.size ≤ t18 := Nat.le_trans ((Keep.refl h0 [r0]).wr W14 (Or.inl (own_wi 0 rfl))).1 zt18
  have k19 : Kq X0 5 T18 (mkF m 35 (oL44 r0 r1 tb) [(.ref t18), (.ref r0)]) := fun t k => k17 t (st18 _ k)
  obtain ⟨T20, h20, X20, e20, W20, st20⟩ := putF X18 hx hZ hown (host := "") (Or.inl (ww hw 82 rfl)) Via.refl rfl (fc15.keep K18 nin0) ((E_r0.wr W14).keep K18) (Or.inr ⟨(ww hw 7 rfl), rfl, hnm⟩) (ww hw 5 rfl) (ty := (.array .byte)) (by decide) rfl rfl (g := gK k19) rfl rfl (hb hby d26_35)
  have fc21 := (((F_coder_r0.same W14).keep K18 nin0).other W20 (Or.inr (slot_ne (Or.inr (ww hw 8 rfl)) (Or.inr (ww hw 7 rfl)) (by decide) (t := .byte) (t' := (.array .byte)) (by decide) (by decide))))
  have N20 := Fr.snoc X20 N18 g_r0
  have k23 : Kq X0 5 T20 (mkF m 97 (oL44 r0 r1 tb) []) := fun t k => k19 t (st20 _ (XS.goto X20.here hx rfl (pc0 := 38) (pc' := 97) rfl (hb hby d26_38) (by decide) (by decide) k))
  obtain ⟨fs, hr, hrun, hended, hW, hsame⟩ := X20.leave (v := none) (fun _ => rfl)
  refine ⟨_, _, k23 _ ?_, hrun, hended, _, _, rfl, ?_, ⟨_, rfl⟩, hW, hsame.mono (by decide) (by decide)⟩
  · exact X20.returnOut hx Bd.returns (hb hby d26_97) hr
  · show Q26_10_16 Z r0 r1 tb kb vd G1 h0 n0 _ T20.heap _
    rw [e20]
    exact ⟨rfl, N20, ((((Keep.refl h0 [r0]).wr W14 (Or.inl (own_wi 0 rfl))).trans K18 all0).wr W20 (Or.inl (own_wi 0 rfl))), t18, kt18, sz_t18, (((E_r0.wr W14).keep K18).wr W20), ((fc15.keep K18 nin0).same W20), fc21, (Vt18.other W20 ne_r0_t18.symm)⟩
def oC25 : ByteArray := jdk_42_method_53_code
theorem d25_0 : decode oC25 0 = .ok (.aload_n 0, 1) := by decide +kernel
theorem d25_1 : decode oC25 1 = .ok (.aload_n 1, 1) := by decide +kernel
theorem d25_2 : decode oC25 2 = .ok (.aconst_null, 1) := by decide +kernel
theorem d25_3 : decode oC25 3 = .ok (.invokespecial 489, 3) := by decide +kernel
theorem d25_6 : decode oC25 6 = .ok (.return_, 1) := by decide +kernel
theorem pd_15 : parseMethodDescriptor "(Ljava/lang/AbstractStringBuilder;Ljava/lang/Void;)V" = some ⟨[(.object "java/lang/AbstractStringBuilder"), (.object "java/lang/Void")], none⟩ := by decide +kernel
def Q25_10_16 (Z : State) (r0 : Addr) (r1 : Addr) (tb : Addr) (kb : ClassId) (vd : List Value) (G1 : Int32) (h0 : Heap) (n0 : Nat) (v : Option Value) (h : Heap) (L : List Loc) : Prop := v = none ∧ Fr n0 L ∧ Keep h0 h [r0] ∧ ∃ t k, h0.size ≤ t ∧ Exa Z h r0 "java/lang/String" ∧ Fld Z h r0 "java/lang/String" "value" "[B" (.ref t) ∧ Fld Z h r0 "java/lang/String" "coder" "B" (.int (0 : Int32)) ∧ Arv Z h t k .byte (10 : Int32) (own_ins oZ10 (List.take 10 vd) 0 10) (.int (0 : Int32))
def oR18 : Room := { frames := 4, cells := 1, slots := 10, locals := 83 }
def mN23 : MethodName := ⟨"java/lang/String", "<init>", "(Ljava/lang/StringBuilder;)V"⟩
theorem rm25_10_16 (l : Launch) (Z : State) (a0 : Array Value) (hw : ∀ d ∈ tables_1, d.before a0 Z = true) (ws : List Jvm.Cond) (r0 : Addr) (r1 : Addr) (tb : Addr) (kb : ClassId) (vd : List Value) (G1 : Int32) (h0 : Heap) (n0 : Nat) (Z0 : n0 ≤ h0.size) (E_r0 : Exa Z h0 r0 "java/lang/String") (F_value_r0 : Fld Z h0 r0 "java/lang/String" "value" "[B" .null) (F_coder_r0 : Fld Z h0 r0 "java/lang/String" "coder" "B" (.int (0 : Int32))) (g_r0 : n0 ≤ r0) (ne_r1_r0 : r1 ≠ r0) (ne_tb_r0 : tb ≠ r0) (F_value_r1 : Fld Z h0 r1 "java/lang/AbstractStringBuilder" "value" "[B" (.ref tb)) (F_coder_r1 : Fld Z h0 r1 "java/lang/AbstractStringBuilder" "coder" "B" (.int (0 : Int32))) (F_count_r1 : Fld Z h0 r1 "java/lang/AbstractStringBuilder" "count" "I" (.int (10 : Int32))) (E_r1 : Exa Z h0 r1 "java/lang/StringBuilder") (V_tb : Arv Z h0 tb kb .byte (16 : Int32) vd (.int (0 : Int32))) (hlv : vd.length = 16) (S_CS : Sta Z Z.heap "java/lang/String" "COMPACT_STRINGS" "Z" (.int G1)) (P5 : ¬ (G1 = (0 : Int32))) (X00 : Old Z n0 h0) :
    MetFree l mN23 (head1 (Jvm.Cond.code mN23 jdk_42_method_53_code 2 none :: ws) oR18) (fun a U => a = #[(.ref r0), (.ref r1)] ∧ Z.Warmed39 U.vm ∧ U.heap = h0) (fun _ _ _ _ _ => True) (fun _ U o U' => ∃ v L, o = .returned v ∧ Q25_10_16 Z r0 r1 tb kb vd G1 h0 n0 v U'.heap L ∧ FrameEnd U o U' L oR18.cells oR18.slots) := by
  refine MetFree.of_bodySF (plainFor_of_name pn_2) hisR ?_
  intro p e s m args below meth c s₁ Bd hml0 hP hK
  obtain ⟨rfl, hZ, hh⟩ := hP
  have hx := Bd.exec
  have hby := Bd.bytes
  have hml : c.maxLocals = 2 := hml0
  have hown : s.vm.findClass "java/lang/String" = some m.cls := findClass_of_methodNamed Bd.named
  have X0 : Stand p l e oR18 s m #[(.ref r0), (.ref r1)] below meth c s₁ [] 0 0 := Stand.of_body Bd
  have e0 : s₁.heap = h0 := by rw [← hh, Bd.state]; rfl
  have N0 := Fr.nil n0
  have k0 : Kq X0 2 s₁ (mkF m 0 (oL1 r0 r1) []) := fun t k => castTop (ef_21 m r0 r1) k
  have k1 : Kq X0 2 s₁ (mkF m 3 (oL1 r0 r1) [.null, (.ref r1), (.ref r0)]) := fun t k => k0 t (XS.aloadN X0.here hx rfl (hb hby d25_0) rfl rfl (XS.aloadN X0.here hx rfl (hb hby d25_1) rfl rfl (XS.aconstNull X0.here hx rfl (hb hby d25_2) k)))
  obtain ⟨_, _, ⟨T2, L2, kq2, n2⟩, -, X2, ⟨Lc2, hQ2, l2, y2, z2⟩, st2⟩ := X0.specialBack hx (y := mN22) rfl hown (mw hZ hw 164 rfl) (mw hZ hw 165 rfl) (mw hZ hw 166 rfl) (by decide) (backOf (W := 0) (rm26_10_16 l Z a0 hw [] r0 r1 tb kb vd G1 h0 n0 Z0 E_r0 F_value_r0 F_coder_r0 g_r0 ne_r1_r0 ne_tb_r0 F_value_r1 F_coder_r1 F_count_r1 E_r1 V_tb hlv S_CS P5 X00) hZ (ww hw 166 rfl) (ww hw 4 rfl) (by decide) (by decide)) (g := gK k1) rfl (by rw [hml]; rfl) (Steps.refl _) (a := r0) (argsL := [(.ref r1), .null]) (rest := []) (lenOf pd_15 rfl) rfl (by show 2 * 0 + _ ≤ _; exact Nat.le_of_eq rfl) (hb hby d25_3) (fun _ _ => ⟨rfl, e0, (by decide : 0 + 1 ≤ _), (by decide : 0 + 10 ≤ _)⟩)
  dsimp only [Pt.U, Pt.locs, Pt.cells, Pt.slots] at X2 l2 y2 z2 st2 hQ2
  replace l2 := l2.symm; subst l2 y2 z2
  obtain ⟨rfl, N2q, K2, t2, kt2, zt2, Ex2, Fx2_0, Fx2_1, Vt2⟩ := hQ2
  have N2 := Fr.app N0 N2q
  have sz_t2 : h0.size ≤ t2 := Nat.le_trans (Keep.refl h0 [r0]).1 zt2
  have k3 : Kq X0 2 T2 (mkF m 6 (oL1 r0 r1) []) := fun t k => k1 t (st2.trans k)
  obtain ⟨fs, hr, hrun, hended, hW, hsame⟩ := X2.leave (v := none) (fun _ => rfl)
  refine ⟨_, _, k3 _ ?_, hrun, hended, _, _, rfl, ?_, ⟨_, rfl⟩, hW, hsame.mono (by decide) (by decide)⟩
  · exact X2.returnOut hx Bd.returns (hb hby d25_6) hr
  · show Q25_10_16 Z r0 r1 tb kb vd G1 h0 n0 _ T2.heap _
    exact ⟨rfl, N2, ((Keep.refl h0 [r0]).trans K2 (allS (Or.inl (own_wi 0 rfl)) all0)), t2, kt2, sz_t2, Ex2, Fx2_0, Fx2_1, Vt2⟩
def oC24 : ByteArray := jdk_67_method_42_code
theorem d24_0 : decode oC24 0 = .ok (.new 18, 3) := by decide +kernel
theorem d24_3 : decode oC24 3 = .ok (.dup, 1) := by decide +kernel
theorem d24_4 : decode oC24 4 = .ok (.aload_n 0, 1) := by decide +kernel
theorem d24_5 : decode oC24 5 = .ok (.invokespecial 137, 3) := by decide +kernel
theorem d24_8 : decode oC24 8 = .ok (.areturn, 1) := by decide +kernel
theorem pd_16 : parseMethodDescriptor "(Ljava/lang/StringBuilder;)V" = some ⟨[(.object "java/lang/StringBuilder")], none⟩ := by decide +kernel
def Q24_10_16 (Z : State) (r0 : Addr) (tb : Addr) (kb : ClassId) (vd : List Value) (G1 : Int32) (h0 : Heap) (n0 : Nat) (v : Option Value) (h : Heap) (L : List Loc) : Prop := ∃ x t k, v = some (.ref x) ∧ h0.size ≤ x ∧ h0.size ≤ t ∧ Fr n0 L ∧ Keep h0 h [] ∧ Exa Z h x "java/lang/String" ∧ Fld Z h x "java/lang/String" "value" "[B" (.ref t) ∧ Fld Z h x "java/lang/String" "coder" "B" (.int (0 : Int32)) ∧ Arv Z h t k .byte (10 : Int32) (own_ins oZ10 (List.take 10 vd) 0 10) (.int (0 : Int32))
def oR19 : Room := { frames := 5, cells := 2, slots := 14, locals := 97 }
def mN24 : MethodName := ⟨"java/lang/StringBuilder", "toString", "()Ljava/lang/String;"⟩
theorem rm24_10_16 (l : Launch) (Z : State) (a0 : Array Value) (hw : ∀ d ∈ tables_1, d.before a0 Z = true) (ws : List Jvm.Cond) (r0 : Addr) (tb : Addr) (kb : ClassId) (vd : List Value) (G1 : Int32) (h0 : Heap) (n0 : Nat) (Z0 : n0 ≤ h0.size) (F_value_r0 : Fld Z h0 r0 "java/lang/AbstractStringBuilder" "value" "[B" (.ref tb)) (F_coder_r0 : Fld Z h0 r0 "java/lang/AbstractStringBuilder" "coder" "B" (.int (0 : Int32))) (F_count_r0 : Fld Z h0 r0 "java/lang/AbstractStringBuilder" "count" "I" (.int (10 : Int32))) (E_r0 : Exa Z h0 r0 "java/lang/StringBuilder") (V_tb : Arv Z h0 tb kb .byte (16 : Int32) vd (.int (0 : Int32))) (hlv : vd.length = 16) (S_CS : Sta Z Z.heap "java/lang/String" "COMPACT_STRINGS" "Z" (.int G1)) (P5 : ¬ (G1 = (0 : Int32))) (X00 : Old Z n0 h0) :
    MetFree l mN24 (head1 (Jvm.Cond.code mN24 jdk_67_method_42_code 1 (some (.object "java/lang/String")) :: ws) oR19) (fun a U => a = #[(.ref r0)] ∧ Z.Warmed39 U.vm ∧ U.heap = h0) (fun _ _ _ _ _ => True) (fun _ U o U' => ∃ v L, o = .returned v ∧ Q24_10_16 Z r0 tb kb vd G1 h0 n0 v U'.heap L ∧ FrameEnd U o U' L oR19.cells oR19.slots) := by
  refine MetFree.of_bodySF (plainFor_of_name pn_1) hisR ?_
  intro p e s m args below meth c s₁ Bd hml0 hP hK
  obtain ⟨rfl, hZ, hh⟩ := hP
  have hx := Bd.exec
  have hby := Bd.bytes
  have hml : c.maxLocals = 1 := hml0
  have hown : s.vm.findClass "java/lang/StringBuilder" = some m.cls := findClass_of_methodNamed Bd.named
  have X0 : Stand p l e oR19 s m #[(.ref r0)] below meth c s₁ [] 0 0 := Stand.of_body Bd
  have e0 : s₁.heap = h0 := by rw [← hh, Bd.state]; rfl
  have N0 := Fr.nil n0
  have k0 : Kq X0 1 s₁ (mkF m 0 #[.val (.ref r0)] []) := fun t k => castTop (ef_13 m r0) k
  obtain ⟨T1, h1, X1, e1, E1, A1, D1, -, st1⟩ := newO X0 hx hZ hown (ww hw 160 rfl) (ww hw 5 rfl) (ww hw 4 rfl) e0 (g := gK k0) rfl (hb hby d24_0) (by decide) (by decide)
  obtain ⟨b1, g1⟩ : ∃ z, z = h0.size := ⟨_, rfl⟩
  rw [← g1] at A1 D1 st1
  have ne_r0_b1 : r0 ≠ b1 := Nat.ne_of_lt (Nat.lt_of_lt_of_le F_value_r0.lt (Nat.le_of_eq g1.symm))
  have ne_tb_b1 : tb ≠ b1 := Nat.ne_of_lt (Nat.lt_of_lt_of_le V_tb.lt (Nat.le_of_eq g1.symm))
  have sz_b1 : h0.size ≤ b1 := Nat.le_trans (Keep.refl h0 []).1 (Nat.le_of_eq g1.symm)
  have F_value_b1 : Fld Z h1 b1 "java/lang/String" "value" "[B" .null := D1 (Or.inr (ww hw 7 rfl)) (ty := (.array .byte)) (by decide)
  have F_coder_b1 : Fld Z h1 b1 "java/lang/String" "coder" "B" (.int (0 : Int32)) := D1 (Or.inr (ww hw 8 rfl)) (ty := .byte) (by decide)
  have g_b1 : n0 ≤ b1 := Nat.le_trans Z0 (Nat.le_of_eq g1.symm)
  have Zs1 : n0 ≤ h1.size := Nat.le_trans Z0 E1.1
  have k3 : Kq X0 1 T1 (mkF m 5 #[.val (.ref r0)] [(.ref r0), (.ref b1), (.ref b1)]) := fun t k => k0 t (st1 _ (XS.dup X1.here hx rfl (hb hby d24_3) rfl rfl (XS.aloadN X1.here hx rfl (hb hby d24_4) rfl rfl k)))
  obtain ⟨_, _, ⟨T4, L4, kq4, n4⟩, -, X4, ⟨Lc4, hQ4, l4, y4, z4⟩, st4⟩ := X1.specialBack hx (y := mN23) rfl hown (mw hZ hw 161 rfl) (mw hZ hw 162 rfl) (mw hZ hw 163 rfl) (by decide) (backOf (W := 1) (rm25_10_16 l Z a0 hw [] b1 r0 tb kb vd G1 h1 n0 Zs1 A1 F_value_b1 F_coder_b1 g_b1 ne_r0_b1 ne_tb_b1 (F_value_r0.ext E1) (F_coder_r0.ext E1) (F_count_r0.ext E1) (E_r0.ext E1) (V_tb.ext E1) hlv S_CS P5 (X00.ext E1)) hZ (ww hw 163 rfl) (ww hw 4 rfl) (by decide) (by decide)) (g := gK k3) rfl (by rw [hml]; rfl) (Steps.refl _) (a := b1) (argsL := [(.ref r0)]) (rest := [(.ref b1)]) (lenOf pd_16 rfl) rfl (by show 2 * 0 + _ ≤ _; exact Nat.le_of_eq rfl) (hb hby d24_5) (fun _ _ => ⟨rfl, e1, (by decide : 1 + 1 ≤ _), (by decide : 4 + 10 ≤ _)⟩)
  dsimp only [Pt.U, Pt.locs, Pt.cells, Pt.slots] at X4 l4 y4 z4 st4 hQ4
  replace l4 := l4.symm; subst l4 y4 z4
  obtain ⟨rfl, N4q, K4, t4, kt4, zt4, Ex4, Fx4_0, Fx4_1, Vt4⟩ := hQ4
  have N4 := Fr.app N0 N4q
  have sz_t4 : h0.size ≤ t4 := Nat.le_trans ((Keep.refl h0 []).ext E1).1 zt4
  have k5 : Kq X0 1 T4 (mkF m 8 #[.val (.ref r0)] [(.ref b1)]) := fun t k => k3 t (st4.trans k)
  obtain ⟨fs, hr, hrun, hended, hW, hsame⟩ := X4.leave (v := (some (.ref b1))) (fun h => by rw [Bd.returns] at h; cases h)
  refine ⟨_, _, k5 _ ?_, hrun, hended, _, _, rfl, ?_, ⟨_, rfl⟩, hW, hsame.mono (by decide) (by decide)⟩
  · exact retOut X4 hx Bd.returns rfl (Or.inr (Or.inr (Or.inr (Or.inr ⟨rfl, rfl, rfl⟩)))) (hb hby d24_8) hr
  · show Q24_10_16 Z r0 tb kb vd G1 h0 n0 _ T4.heap _
    exact ⟨b1, t4, kt4, rfl, sz_b1, sz_t4, N4, (((Keep.refl h0 []).ext E1).trans K4 (allS (Or.inr sz_b1) all0)), Ex4, Fx4_0, Fx4_1, Vt4⟩
def Q33_8_16 (Z : State)  (h0 : Heap) (n0 : Nat) (v : Option Value) (h : Heap) (L : List Loc) : Prop := v = none ∧ Fr n0 L ∧ h = h0
def oL45  : Array Slot := #[.val (.int (0 : Int32)), .val (.int (8 : Int32))]
theorem rm33_8_16 (l : Launch) (Z : State) (a0 : Array Value) (hw : ∀ d ∈ tables_1, d.before a0 Z = true) (ws : List Jvm.Cond)  (h0 : Heap) (n0 : Nat) (Z0 : n0 ≤ h0.size) :
    MetFree l mN17 (head1 (Jvm.Cond.code mN17 jdk_65_method_131_code 2 none :: ws) oR2) (fun a U => a = #[(.int (0 : Int32)), (.int (8 : Int32))] ∧ Z.Warmed39 U.vm ∧ U.heap = h0) (fun _ _ _ _ _ => True) (fun _ U o U' => ∃ v L, o = .returned v ∧ Q33_8_16 Z  h0 n0 v U'.heap L ∧ FrameEnd U o U' L oR2.cells oR2.slots) := by
  refine MetFree.of_bodySF (plainFor_of_name pn_4) hisR ?_
  intro p e s m args below meth c s₁ Bd hml0 hP hK
  obtain ⟨rfl, hZ, hh⟩ := hP
  have hx := Bd.exec
  have hby := Bd.bytes
  have hml : c.maxLocals = 2 := hml0
  have hown : s.vm.findClass "java/util/Arrays" = some m.cls := findClass_of_methodNamed Bd.named
  have X0 : Stand p l e oR2 s m #[(.int (0 : Int32)), (.int (8 : Int32))] below meth c s₁ [] 0 0 := Stand.of_body Bd
  have e0 : s₁.heap = h0 := by rw [← hh, Bd.state]; rfl
  have N0 := Fr.nil n0
  have k0 : Kq X0 2 s₁ (mkF m 0 oL45 []) := fun t k => castTop (ef_38 m (0 : Int32) (8 : Int32)) k
  have hc2 : ¬ ((8 : Int32) < (0 : Int32)) := by decide
  have k1 : Kq X0 2 s₁ (mkF m 37 oL45 []) := fun t k => k0 t (XS.iloadN X0.here hx rfl (hb hby d33_0) rfl (XS.iloadN X0.here hx rfl (hb hby d33_1) rfl (XS.icmpYes X0.here hx rfl (pc0 := 2) (pc' := 37) rfl (hb hby d33_2) rfl (flt hc2).2.1 (by decide) (by decide) k)))
  obtain ⟨fs, hr, hrun, hended, hW, hsame⟩ := X0.leave (v := none) (fun _ => rfl)
  refine ⟨_, _, k1 _ ?_, hrun, hended, _, _, rfl, ?_, ⟨_, rfl⟩, hW, hsame.mono (by decide) (by decide)⟩
  · exact X0.returnOut hx Bd.returns (hb hby d33_37) hr
  · show Q33_8_16 Z  h0 n0 _ s₁.heap _
    rw [e0]
    exact ⟨rfl, N0, rfl⟩
def Q34m16_8 (Z : State)  (h0 : Heap) (n0 : Nat) (v : Option Value) (h : Heap) (L : List Loc) : Prop := v = some (.int (8 : Int32)) ∧ Fr n0 L ∧ h = h0
def oL46  : Array Slot := #[.val (.int (16 : Int32)), .val (.int (8 : Int32))]
theorem rm34m16_8 (l : Launch) (Z : State) (a0 : Array Value) (hw : ∀ d ∈ tables_1, d.before a0 Z = true) (ws : List Jvm.Cond)  (h0 : Heap) (n0 : Nat) (Z0 : n0 ≤ h0.size) :
    MetFree l mN8 (head1 (Jvm.Cond.code mN8 jdk_29_method_69_code 2 (some .int) :: ws) oR2) (fun a U => a = #[(.int (16 : Int32)), (.int (8 : Int32))] ∧ Z.Warmed39 U.vm ∧ U.heap = h0) (fun _ _ _ _ _ => True) (fun _ U o U' => ∃ v L, o = .returned v ∧ Q34m16_8 Z  h0 n0 v U'.heap L ∧ FrameEnd U o U' L oR2.cells oR2.slots) := by
  refine MetFree.of_bodySF (Jvm.Free.JP.mathPlain rfl (by decide +kernel)) hisR ?_
  intro p e s m args below meth c s₁ Bd hml0 hP hK
  obtain ⟨rfl, hZ, hh⟩ := hP
  have hx := Bd.exec
  have hby := Bd.bytes
  have hml : c.maxLocals = 2 := hml0
  have hown : s.vm.findClass "java/lang/Math" = some m.cls := findClass_of_methodNamed Bd.named
  have X0 : Stand p l e oR2 s m #[(.int (16 : Int32)), (.int (8 : Int32))] below meth c s₁ [] 0 0 := Stand.of_body Bd
  have e0 : s₁.heap = h0 := by rw [← hh, Bd.state]; rfl
  have N0 := Fr.nil n0
  have k0 : Kq X0 2 s₁ (mkF m 0 oL46 []) := fun t k => castTop (ef_38 m (16 : Int32) (8 : Int32)) k
  have hc2 : (8 : Int32) < (16 : Int32) := by decide
  have k1 : Kq X0 2 s₁ (mkF m 10 oL46 [(.int (8 : Int32))]) := fun t k => k0 t (XS.iloadN X0.here hx rfl (hb hby d34_0) rfl (XS.iloadN X0.here hx rfl (hb hby d34_1) rfl (XS.icmpYes X0.here hx rfl (pc0 := 2) (pc' := 9) rfl (hb hby d34_2) rfl (tlt hc2).2.2.1 (by decide) (by decide) (XS.iloadN X0.here hx rfl (hb hby d34_9) rfl k))))
  obtain ⟨fs, hr, hrun, hended, hW, hsame⟩ := X0.leave (v := (some (.int (8 : Int32)))) (fun h => by rw [Bd.returns] at h; cases h)
  refine ⟨_, _, k1 _ ?_, hrun, hended, _, _, rfl, ?_, ⟨_, rfl⟩, hW, hsame.mono (by decide) (by decide)⟩
  · exact retOut X0 hx Bd.returns rfl (Or.inl ⟨rfl, Or.inl rfl, _, rfl⟩) (hb hby d34_10) hr
  · show Q34m16_8 Z  h0 n0 _ s₁.heap _
    rw [e0]
    exact ⟨rfl, N0, rfl⟩
def Q32_8_16 (Z : State) (r0 : Addr) (kb : ClassId) (vd : List Value) (h0 : Heap) (n0 : Nat) (v : Option Value) (h : Heap) (L : List Loc) : Prop := ∃ x, v = some (.ref x) ∧ h0.size ≤ x ∧ Fr n0 L ∧ Keep h0 h [] ∧ ∃ k, Arv Z h x k .byte (8 : Int32) (own_ins oZ8 (List.take 8 vd) 0 8) (.int (0 : Int32))
def oR20 : Room := { frames := 1, cells := 1, slots := 8, locals := 36 }
def oL47 (r0 : Addr) : Array Slot := #[.val (.ref r0), .val (.int (0 : Int32)), .val (.int (8 : Int32)), .unset, .unset]
def oL48 (r0 : Addr) : Array Slot := #[.val (.ref r0), .val (.int (0 : Int32)), .val (.int (8 : Int32)), .val (.int (8 : Int32)), .unset]
def oL49 (r0 : Addr) (b5 : Addr) : Array Slot := #[.val (.ref r0), .val (.int (0 : Int32)), .val (.int (8 : Int32)), .val (.int (8 : Int32)), .val (.ref b5)]
theorem rm32_8_16 (l : Launch) (Z : State) (a0 : Array Value) (hw : ∀ d ∈ tables_1, d.before a0 Z = true) (ws : List Jvm.Cond) (r0 : Addr) (kb : ClassId) (vd : List Value) (h0 : Heap) (n0 : Nat) (Z0 : n0 ≤ h0.size) (V_r0 : Arv Z h0 r0 kb .byte (16 : Int32) vd (.int (0 : Int32))) (hlv : vd.length = 16) :
    MetFree l mN18 (head1 (Jvm.Cond.code mN18 jdk_65_method_133_code 5 (some (.array .byte)) :: ws) oR20) (fun a U => a = #[(.ref r0), (.int (0 : Int32)), (.int (8 : Int32))] ∧ Z.Warmed39 U.vm ∧ U.heap = h0) (fun _ _ _ _ _ => True) (fun _ U o U' => ∃ v L, o = .returned v ∧ Q32_8_16 Z r0 kb vd h0 n0 v U'.heap L ∧ FrameEnd U o U' L oR20.cells oR20.slots) := by
  refine MetFree.of_bodySF (plainFor_of_name pn_4) hisR ?_
  intro p e s m args below meth c s₁ Bd hml0 hP hK
  obtain ⟨rfl, hZ, hh⟩ := hP
  have hx := Bd.exec
  have hby := Bd.bytes
  have hml : c.maxLocals = 5 := hml0
  have hown : s.vm.findClass "java/util/Arrays" = some m.cls := findClass_of_methodNamed Bd.named
  have X0 : Stand p l e oR20 s m #[(.ref r0), (.int (0 : Int32)), (.int (8 : Int32))] below meth c s₁ [] 0 0 := Stand.of_body Bd
  have e0 : s₁.heap = h0 := by rw [← hh, Bd.state]; rfl
  have N0 := Fr.nil n0
  have k0 : Kq X0 5 s₁ (mkF m 0 (oL47 r0) []) := fun t k => castTop (ef_32_10_16 m r0 (0 : Int32) (8 : Int32)) k
  have k1 : Kq X0 5 s₁ (mkF m 2 (oL47 r0) [(.int (8 : Int32)), (.int (0 : Int32))]) := fun t k => k0 t (XS.iloadN X0.here hx rfl (hb hby d32_0) rfl (XS.iloadN X0.here hx rfl (hb hby d32_1) rfl k))
  obtain ⟨_, _, ⟨T2, L2, kq2, n2⟩, -, X2, ⟨Lc2, hQ2, l2, y2, z2⟩, st2⟩ := Jvm.LawKit.callS X0 hx (y := mN17) hown (mw hZ hw 192 rfl) (mw hZ hw 193 rfl) (mw hZ hw 187 rfl) (mw hZ hw 194 rfl) (by decide) (backOf (W := 0) (rm33_8_16 l Z a0 hw []  h0 n0 Z0) hZ (ww hw 194 rfl) (ww hw 187 rfl) (by decide) (by decide)) (g := gK k1) rfl (by rw [hml]; rfl) (argsL := [(.int (0 : Int32)), (.int (8 : Int32))]) (rest := []) (lenOf pd_11 rfl) rfl (by show 2 * 0 + _ ≤ _; exact Nat.le_of_eq rfl) (hb hby d32_2) (fun _ _ => ⟨rfl, e0, (by decide : 0 + 0 ≤ _), (by decide : 0 + 0 ≤ _)⟩)
  dsimp only [Pt.U, Pt.locs, Pt.cells, Pt.slots] at X2 l2 y2 z2 st2 hQ2
  replace l2 := l2.symm; subst l2 y2 z2
  obtain ⟨rfl, N2q, e2⟩ := hQ2
  have N2 := Fr.app N0 N2q
  have k4 : Kq X0 5 T2 (mkF m 10 (oL48 r0) [(.int (8 : Int32))]) := fun t k => k1 t (st2 _ (XS.iloadN X2.here hx rfl (hb hby d32_5) rfl (XS.iloadN X2.here hx rfl (hb hby d32_6) rfl (XS.isub X2.here hx rfl (hb hby d32_7) rfl (XS.istoreN X2.here hx rfl (hb hby d32_8) rfl (l' := (oL48 r0)) rfl (XS.iloadN X2.here hx rfl (hb hby d32_9) rfl k))))))
  obtain ⟨T5, h5, ka5, X5, e5, E5, A5, st5⟩ := newP X2 hx hZ (ww hw 6 rfl) e2 (g := gK k4) rfl (hb hby d32_10) rfl (by decide) (cap := 8) (by decide) (by decide) (by decide) (by decide)
  obtain ⟨b5, g5⟩ : ∃ z, z = h0.size := ⟨_, rfl⟩
  rw [← g5] at A5 st5
  have V_b5 : Arv Z h5 b5 ka5 .byte (8 : Int32) oZ8 (.int (0 : Int32)) := (Arv.new A5 (by decide)).pad (pad_rep [] (.int (0 : Int32)) 8)
  have g_b5 : n0 ≤ b5 := Nat.le_trans Z0 (Nat.le_of_eq g5.symm)
  have sz_b5 : h0.size ≤ b5 := Nat.le_trans (Keep.refl h0 []).1 (Nat.le_of_eq g5.symm)
  have Zs5 : n0 ≤ h5.size := Nat.le_trans Z0 E5.1
  have k7 : Kq X0 5 T5 (mkF m 20 (oL49 r0 b5) [(.ref r0), (.int (0 : Int32)), (.ref b5), (.int (0 : Int32)), (.ref r0)]) := fun t k => k4 t (st5 _ (XS.astore X5.here hx rfl (hb hby d32_12) rfl rfl (l' := (oL49 r0 b5)) rfl (XS.aloadN X5.here hx rfl (hb hby d32_14) rfl rfl (XS.iloadN X5.here hx rfl (hb hby d32_15) rfl (XS.aload X5.here hx rfl (hb hby d32_16) rfl rfl (XS.iconst X5.here hx rfl (hb hby d32_18) (XS.aloadN X5.here hx rfl (hb hby d32_19) rfl rfl k)))))))
  obtain ⟨cl8, Ar8, q8, S8, N8_, H8, G8⟩ := (id (V_r0.ext E5))
  have S8' : cl8.slots.size = 16 := S8
  have L8 : (cl8.slots.size).toInt32 = (16 : Int32) := by rw [S8']; rfl
  have k9 : Kq X0 5 T5 (mkF m 24 (oL49 r0 b5) [(.int (8 : Int32)), (.int (16 : Int32)), (.int (0 : Int32)), (.ref b5), (.int (0 : Int32)), (.ref r0)]) := fun t k => k7 t (by
      refine X5.arraylength hx (by rw [e5]; exact Ar8.1) (State.isArrayOf_alike hZ.alike Ar8.2.1) (g := (mkF m 20 (oL49 r0 b5) [(.ref r0), (.int (0 : Int32)), (.ref b5), (.int (0 : Int32)), (.ref r0)])) rfl rfl (hb hby d32_20) _ ?_
      rw [L8]
      show Sg X0 T5 21 (oL49 r0 b5) [(.int (16 : Int32)), (.int (0 : Int32)), (.ref b5), (.int (0 : Int32)), (.ref r0)] _
      refine XS.iloadN X5.here hx rfl (hb hby d32_21) rfl ?_
      show Sg X0 T5 22 (oL49 r0 b5) [(.int (0 : Int32)), (.int (16 : Int32)), (.int (0 : Int32)), (.ref b5), (.int (0 : Int32)), (.ref r0)] _
      refine XS.isub X5.here hx rfl (hb hby d32_22) rfl ?_
      show Sg X0 T5 23 (oL49 r0 b5) [(.int (16 : Int32)), (.int (0 : Int32)), (.ref b5), (.int (0 : Int32)), (.ref r0)] _
      refine XS.iloadN X5.here hx rfl (hb hby d32_23) rfl ?_
      exact k)
  obtain ⟨_, _, ⟨T10, L10, kq10, n10⟩, -, X10, ⟨Lc10, hQ10, l10, y10, z10⟩, st10⟩ := Jvm.LawKit.callS X5 hx (y := mN8) hown (mw hZ hw 195 rfl) (mw hZ hw 196 rfl) (mw hZ hw 197 rfl) (mw hZ hw 198 rfl) (by decide) (backOf (W := 4) (rm34m16_8 l Z a0 hw []  h5 n0 Zs5) hZ (ww hw 198 rfl) (ww hw 197 rfl) (by decide) (by decide)) (g := gK k9) rfl (by rw [hml]; rfl) (argsL := [(.int (16 : Int32)), (.int (8 : Int32))]) (rest := [(.int (0 : Int32)), (.ref b5), (.int (0 : Int32)), (.ref r0)]) (lenOf pd_2 rfl) rfl (by show 2 * 0 + _ ≤ _; exact Nat.le_of_eq rfl) (hb hby d32_24) (fun _ _ => ⟨rfl, e5, (by decide : 1 + 0 ≤ _), (by decide : 8 + 0 ≤ _)⟩)
  dsimp only [Pt.U, Pt.locs, Pt.cells, Pt.slots] at X10 l10 y10 z10 st10 hQ10
  replace l10 := l10.symm; subst l10 y10 z10
  obtain ⟨rfl, N10q, e10⟩ := hQ10
  have N10 := Fr.app N2 N10q
  have k11 : Kq X0 5 T10 (mkF m 27 (oL49 r0 b5) [(.int (8 : Int32)), (.int (0 : Int32)), (.ref b5), (.int (0 : Int32)), (.ref r0)]) := fun t k => k9 t (st10 _ k)
  obtain ⟨T13, h13, L13, X13, e13, N13, K13, V13, st13⟩ := cpA X10 hx hZ hown (ww hw 199 rfl) (ww hw 149 rfl) (ww hw 147 rfl) (ww hw 148 rfl) e10 (V_r0.ext E5) V_b5 (us := (List.take 8 vd)) (sp := (0 : Int32)) (dp := (0 : Int32)) (nn := (8 : Int32)) (Or.inl ⟨rfl, rfl⟩) (by decide) (by decide) (by decide) (by decide) (by decide) (own_tk (by rw [hlv]; decide)) (Nat.le_of_ble_eq_true rfl) N10 g_b5 (g := gK k11) rfl (by rw [hml]; rfl) rfl (hb hby d32_27) (by decide) (W := 0) (by show 2 * 0 + _ ≤ _; exact Nat.le_of_eq rfl) (by decide)
  have Vc13 : Arv Z h13 b5 ka5 .byte (8 : Int32) (own_ins oZ8 (List.take 8 vd) 0 8) (.int (0 : Int32)) := V13
  have k15 : Kq X0 5 T13 (mkF m 32 (oL49 r0 b5) [(.ref b5)]) := fun t k => k11 t (st13 _ (XS.aload X13.here hx rfl (hb hby d32_30) rfl rfl k))
  obtain ⟨fs, hr, hrun, hended, hW, hsame⟩ := X13.leave (v := (some (.ref b5))) (fun h => by rw [Bd.returns] at h; cases h)
  refine ⟨_, _, k15 _ ?_, hrun, hended, _, _, rfl, ?_, ⟨_, rfl⟩, hW, hsame.mono (by decide) (by decide)⟩
  · exact retOut X13 hx Bd.returns rfl (Or.inr (Or.inr (Or.inr (Or.inr ⟨rfl, rfl, rfl⟩)))) (hb hby d32_32) hr
  · show Q32_8_16 Z r0 kb vd h0 n0 _ T13.heap _
    rw [e13]
    exact ⟨b5, rfl, sz_b5, N13, (((Keep.refl h0 []).ext E5).trans K13 (allS (Or.inr sz_b5) all0)), ka5, Vc13⟩
def Q31_8_16 (Z : State) (r0 : Addr) (kb : ClassId) (vd : List Value) (h0 : Heap) (n0 : Nat) (v : Option Value) (h : Heap) (L : List Loc) : Prop := ∃ x, v = some (.ref x) ∧ h0.size ≤ x ∧ Fr n0 L ∧ Keep h0 h [] ∧ ∃ k, Arv Z h x k .byte (8 : Int32) (own_ins oZ8 (List.take 8 vd) 0 8) (.int (0 : Int32))
def oR21 : Room := { frames := 2, cells := 1, slots := 8, locals := 52 }
def oL50 (r0 : Addr) : Array Slot := #[.val (.ref r0), .val (.int (0 : Int32)), .val (.int (8 : Int32))]
theorem rm31_8_16 (l : Launch) (Z : State) (a0 : Array Value) (hw : ∀ d ∈ tables_1, d.before a0 Z = true) (ws : List Jvm.Cond) (r0 : Addr) (kb : ClassId) (vd : List Value) (h0 : Heap) (n0 : Nat) (Z0 : n0 ≤ h0.size) (V_r0 : Arv Z h0 r0 kb .byte (16 : Int32) vd (.int (0 : Int32))) (hlv : vd.length = 16) :
    MetFree l mN19 (head1 (Jvm.Cond.code mN19 jdk_65_method_132_code 3 (some (.array .byte)) :: ws) oR21) (fun a U => a = #[(.ref r0), (.int (0 : Int32)), (.int (8 : Int32))] ∧ Z.Warmed39 U.vm ∧ U.heap = h0) (fun _ _ _ _ _ => True) (fun _ U o U' => ∃ v L, o = .returned v ∧ Q31_8_16 Z r0 kb vd h0 n0 v U'.heap L ∧ FrameEnd U o U' L oR21.cells oR21.slots) := by
  refine MetFree.of_bodySF (plainFor_of_name pn_4) hisR ?_
  intro p e s m args below meth c s₁ Bd hml0 hP hK
  obtain ⟨rfl, hZ, hh⟩ := hP
  have hx := Bd.exec
  have hby := Bd.bytes
  have hml : c.maxLocals = 3 := hml0
  have hown : s.vm.findClass "java/util/Arrays" = some m.cls := findClass_of_methodNamed Bd.named
  have X0 : Stand p l e oR21 s m #[(.ref r0), (.int (0 : Int32)), (.int (8 : Int32))] below meth c s₁ [] 0 0 := Stand.of_body Bd
  have e0 : s₁.heap = h0 := by rw [← hh, Bd.state]; rfl
  have N0 := Fr.nil n0
  have k0 : Kq X0 3 s₁ (mkF m 0 (oL50 r0) []) := fun t k => castTop (ef_31_10_16 m r0 (0 : Int32) (8 : Int32)) k
  have hc1 : (0 : Int32) = (0 : Int32) := by decide
  have k1 : Kq X0 3 s₁ (mkF m 6 (oL50 r0) [(.ref r0), (.int (8 : Int32))]) := fun t k => k0 t (XS.iloadN X0.here hx rfl (hb hby d31_0) rfl (XS.ifNo X0.here hx rfl (hb hby d31_1) rfl ((if0 _ _).trans (teq hc1).2) (XS.iloadN X0.here hx rfl (hb hby d31_4) rfl (XS.aloadN X0.here hx rfl (hb hby d31_5) rfl rfl k))))
  obtain ⟨cl2, Ar2, q2, S2, N2_, H2, G2⟩ := (id V_r0)
  have S2' : cl2.slots.size = 16 := S2
  have L2 : (cl2.slots.size).toInt32 = (16 : Int32) := by rw [S2']; rfl
  have hc7 : ¬ ((8 : Int32) = (16 : Int32)) := by decide
  have k3 : Kq X0 3 s₁ (mkF m 13 (oL50 r0) [(.int (8 : Int32)), (.int (0 : Int32)), (.ref r0)]) := fun t k => k1 t (by
      refine X0.arraylength hx (by rw [e0]; exact Ar2.1) (State.isArrayOf_alike hZ.alike Ar2.2.1) (g := (mkF m 6 (oL50 r0) [(.ref r0), (.int (8 : Int32))])) rfl rfl (hb hby d31_6) _ ?_
      rw [L2]
      show Sg X0 s₁ 7 (oL50 r0) [(.int (16 : Int32)), (.int (8 : Int32))] _
      refine XS.icmpNo X0.here hx rfl (hb hby d31_7) rfl (feq hc7).1 ?_
      show Sg X0 s₁ 10 (oL50 r0) [] _
      refine XS.aloadN X0.here hx rfl (hb hby d31_10) rfl rfl ?_
      show Sg X0 s₁ 11 (oL50 r0) [(.ref r0)] _
      refine XS.iloadN X0.here hx rfl (hb hby d31_11) rfl ?_
      show Sg X0 s₁ 12 (oL50 r0) [(.int (0 : Int32)), (.ref r0)] _
      refine XS.iloadN X0.here hx rfl (hb hby d31_12) rfl ?_
      exact k)
  obtain ⟨_, _, ⟨T4, L4, kq4, n4⟩, -, X4, ⟨Lc4, hQ4, l4, y4, z4⟩, st4⟩ := Jvm.LawKit.callS X0 hx (y := mN18) hown (mw hZ hw 189 rfl) (mw hZ hw 190 rfl) (mw hZ hw 187 rfl) (mw hZ hw 191 rfl) (by decide) (backOf (W := 0) (rm32_8_16 l Z a0 hw [] r0 kb vd h0 n0 Z0 V_r0 hlv) hZ (ww hw 191 rfl) (ww hw 187 rfl) (by decide) (by decide)) (g := gK k3) rfl (by rw [hml]; rfl) (argsL := [(.ref r0), (.int (0 : Int32)), (.int (8 : Int32))]) (rest := []) (lenOf pd_12 rfl) rfl (by show 2 * 0 + _ ≤ _; exact Nat.le_of_eq rfl) (hb hby d31_13) (fun _ _ => ⟨rfl, e0, (by decide : 0 + 1 ≤ _), (by decide : 0 + 8 ≤ _)⟩)
  dsimp only [Pt.U, Pt.locs, Pt.cells, Pt.slots] at X4 l4 y4 z4 st4 hQ4
  replace l4 := l4.symm; subst l4 y4 z4
  obtain ⟨t4, rfl, zt4, N4q, K4, kt4, Vt4⟩ := hQ4
  have N4 := Fr.app N0 N4q
  have sz_t4 : h0.size ≤ t4 := Nat.le_trans (Keep.refl h0 []).1 zt4
  have k5 : Kq X0 3 T4 (mkF m 16 (oL50 r0) [(.ref t4)]) := fun t k => k3 t (st4 _ k)
  obtain ⟨fs, hr, hrun, hended, hW, hsame⟩ := X4.leave (v := (some (.ref t4))) (fun h => by rw [Bd.returns] at h; cases h)
  refine ⟨_, _, k5 _ ?_, hrun, hended, _, _, rfl, ?_, ⟨_, rfl⟩, hW, hsame.mono (by decide) (by decide)⟩
  · exact retOut X4 hx Bd.returns rfl (Or.inr (Or.inr (Or.inr (Or.inr ⟨rfl, rfl, rfl⟩)))) (hb hby d31_16) hr
  · show Q31_8_16 Z r0 kb vd h0 n0 _ T4.heap _
    exact ⟨t4, rfl, sz_t4, N4, ((Keep.refl h0 []).trans K4 all0), kt4, Vt4⟩
def Q29_8_16 (Z : State) (r0 : Addr) (h0 : Heap) (n0 : Nat) (v : Option Value) (h : Heap) (L : List Loc) : Prop := v = some (.int (8 : Int32)) ∧ Fr n0 L ∧ h = h0
theorem rm29_8_16 (l : Launch) (Z : State) (a0 : Array Value) (hw : ∀ d ∈ tables_1, d.before a0 Z = true) (ws : List Jvm.Cond) (r0 : Addr) (h0 : Heap) (n0 : Nat) (Z0 : n0 ≤ h0.size) (F_count_r0 : Fld Z h0 r0 "java/lang/AbstractStringBuilder" "count" "I" (.int (8 : Int32))) :
    MetFree l mN20 (head1 (Jvm.Cond.code mN20 jdk_68_method_6_code 1 (some .int) :: ws) oR2) (fun a U => a = #[(.ref r0)] ∧ Z.Warmed39 U.vm ∧ U.heap = h0) (fun _ _ _ _ _ => True) (fun _ U o U' => ∃ v L, o = .returned v ∧ Q29_8_16 Z r0 h0 n0 v U'.heap L ∧ FrameEnd U o U' L oR2.cells oR2.slots) := by
  refine MetFree.of_bodySF (plainFor_of_name pn_0) hisR ?_
  intro p e s m args below meth c s₁ Bd hml0 hP hK
  obtain ⟨rfl, hZ, hh⟩ := hP
  have hx := Bd.exec
  have hby := Bd.bytes
  have hml : c.maxLocals = 1 := hml0
  have hown : s.vm.findClass "java/lang/AbstractStringBuilder" = some m.cls := findClass_of_methodNamed Bd.named
  have X0 : Stand p l e oR2 s m #[(.ref r0)] below meth c s₁ [] 0 0 := Stand.of_body Bd
  have e0 : s₁.heap = h0 := by rw [← hh, Bd.state]; rfl
  have N0 := Fr.nil n0
  have k0 : Kq X0 1 s₁ (mkF m 0 #[.val (.ref r0)] []) := fun t k => castTop (ef_13 m r0) k
  have k1 : Kq X0 1 s₁ (mkF m 1 #[.val (.ref r0)] [(.ref r0)]) := fun t k => k0 t (XS.aloadN X0.here hx rfl (hb hby d29_0) rfl rfl k)
  obtain ⟨T2, X2, e2, st2⟩ := getF X0 hx hZ hown (host := "") (Or.inl (ww hw 123 rfl)) Via.refl e0 F_count_r0 (g := gK k1) rfl rfl (hb hby d29_1)
  have k3 : Kq X0 1 T2 (mkF m 4 #[.val (.ref r0)] [(.int (8 : Int32))]) := fun t k => k1 t (st2 _ k)
  obtain ⟨fs, hr, hrun, hended, hW, hsame⟩ := X2.leave (v := (some (.int (8 : Int32)))) (fun h => by rw [Bd.returns] at h; cases h)
  refine ⟨_, _, k3 _ ?_, hrun, hended, _, _, rfl, ?_, ⟨_, rfl⟩, hW, hsame.mono (by decide) (by decide)⟩
  · exact retOut X2 hx Bd.returns rfl (Or.inl ⟨rfl, Or.inl rfl, _, rfl⟩) (hb hby d29_4) hr
  · show Q29_8_16 Z r0 h0 n0 _ T2.heap _
    rw [e2]
    exact ⟨rfl, N0, rfl⟩
def Q28_8_16 (Z : State) (r0 : Addr) (h0 : Heap) (n0 : Nat) (v : Option Value) (h : Heap) (L : List Loc) : Prop := v = some (.int (8 : Int32)) ∧ Fr n0 L ∧ h = h0
theorem rm28_8_16 (l : Launch) (Z : State) (a0 : Array Value) (hw : ∀ d ∈ tables_1, d.before a0 Z = true) (ws : List Jvm.Cond) (r0 : Addr) (h0 : Heap) (n0 : Nat) (Z0 : n0 ≤ h0.size) (F_count_r0 : Fld Z h0 r0 "java/lang/AbstractStringBuilder" "count" "I" (.int (8 : Int32))) (E_r0 : Exa Z h0 r0 "java/lang/StringBuilder") :
    MetFree l mN21 (head1 (Jvm.Cond.code mN21 jdk_67_method_93_code 1 (some .int) :: ws) oR16) (fun a U => a = #[(.ref r0)] ∧ Z.Warmed39 U.vm ∧ U.heap = h0) (fun _ _ _ _ _ => True) (fun _ U o U' => ∃ v L, o = .returned v ∧ Q28_8_16 Z r0 h0 n0 v U'.heap L ∧ FrameEnd U o U' L oR16.cells oR16.slots) := by
  refine MetFree.of_bodySF (plainFor_of_name pn_1) hisR ?_
  intro p e s m args below meth c s₁ Bd hml0 hP hK
  obtain ⟨rfl, hZ, hh⟩ := hP
  have hx := Bd.exec
  have hby := Bd.bytes
  have hml : c.maxLocals = 1 := hml0
  have hown : s.vm.findClass "java/lang/StringBuilder" = some m.cls := findClass_of_methodNamed Bd.named
  have X0 : Stand p l e oR16 s m #[(.ref r0)] below meth c s₁ [] 0 0 := Stand.of_body Bd
  have e0 : s₁.heap = h0 := by rw [← hh, Bd.state]; rfl
  have N0 := Fr.nil n0
  have k0 : Kq X0 1 s₁ (mkF m 0 #[.val (.ref r0)] []) := fun t k => castTop (ef_13 m r0) k
  have k1 : Kq X0 1 s₁ (mkF m 1 #[.val (.ref r0)] [(.ref r0)]) := fun t k => k0 t (XS.aloadN X0.here hx rfl (hb hby d28_0) rfl rfl k)
  obtain ⟨_, _, ⟨T2, L2, kq2, n2⟩, -, X2, ⟨Lc2, hQ2, l2, y2, z2⟩, st2⟩ := superBack X0 hx hZ hown (ww hw 178 rfl) (own_same (y := mN20) (ww hw 128 rfl) rfl (ww hw 174 rfl) ⟨by decide, by decide⟩) (ww hw 174 rfl) (ww hw 110 rfl) (by decide) (backOf (W := 0) (rm29_8_16 l Z a0 hw [] r0 h0 n0 Z0 F_count_r0) hZ (ww hw 179 rfl) (ww hw 94 rfl) (by decide) (by decide)) e0 (Ins.self E_r0) (g := gK k1) rfl (by rw [hml]; rfl) (ww hw 179 rfl) (argsL := []) (rest := []) (lenOf pd_8 rfl) rfl (by show 2 * 0 + _ ≤ _; exact Nat.le_of_eq rfl) (hb hby d28_1) (fun _ _ => ⟨rfl, e0, (by decide : 0 + 0 ≤ _), (by decide : 0 + 0 ≤ _)⟩)
  dsimp only [Pt.U, Pt.locs, Pt.cells, Pt.slots] at X2 l2 y2 z2 st2 hQ2
  replace l2 := l2.symm; subst l2 y2 z2
  obtain ⟨rfl, N2q, e2⟩ := hQ2
  have N2 := Fr.app N0 N2q
  have k3 : Kq X0 1 T2 (mkF m 4 #[.val (.ref r0)] [(.int (8 : Int32))]) := fun t k => k1 t (st2.trans k)
  obtain ⟨fs, hr, hrun, hended, hW, hsame⟩ := X2.leave (v := (some (.int (8 : Int32)))) (fun h => by rw [Bd.returns] at h; cases h)
  refine ⟨_, _, k3 _ ?_, hrun, hended, _, _, rfl, ?_, ⟨_, rfl⟩, hW, hsame.mono (by decide) (by decide)⟩
  · exact retOut X2 hx Bd.returns rfl (Or.inl ⟨rfl, Or.inl rfl, _, rfl⟩) (hb hby d28_4) hr
  · show Q28_8_16 Z r0 h0 n0 _ T2.heap _
    rw [e2]
    exact ⟨rfl, N2, rfl⟩
def Q26_8_16 (Z : State) (r0 : Addr) (r1 : Addr) (tb : Addr) (kb : ClassId) (vd : List Value) (G1 : Int32) (h0 : Heap) (n0 : Nat) (v : Option Value) (h : Heap) (L : List Loc) : Prop := v = none ∧ Fr n0 L ∧ Keep h0 h [r0] ∧ ∃ t k, h0.size ≤ t ∧ Exa Z h r0 "java/lang/String" ∧ Fld Z h r0 "java/lang/String" "value" "[B" (.ref t) ∧ Fld Z h r0 "java/lang/String" "coder" "B" (.int (0 : Int32)) ∧ Arv Z h t k .byte (8 : Int32) (own_ins oZ8 (List.take 8 vd) 0 8) (.int (0 : Int32))
def oR22 : Room := { frames := 3, cells := 1, slots := 8, locals := 67 }
def oL51 (r0 : Addr) (r1 : Addr) (tb : Addr) : Array Slot := #[.val (.ref r0), .val (.ref r1), .val .null, .val (.ref tb), .val (.int (8 : Int32))]
theorem rm26_8_16 (l : Launch) (Z : State) (a0 : Array Value) (hw : ∀ d ∈ tables_1, d.before a0 Z = true) (ws : List Jvm.Cond) (r0 : Addr) (r1 : Addr) (tb : Addr) (kb : ClassId) (vd : List Value) (G1 : Int32) (h0 : Heap) (n0 : Nat) (Z0 : n0 ≤ h0.size) (E_r0 : Exa Z h0 r0 "java/lang/String") (F_value_r0 : Fld Z h0 r0 "java/lang/String" "value" "[B" .null) (F_coder_r0 : Fld Z h0 r0 "java/lang/String" "coder" "B" (.int (0 : Int32))) (g_r0 : n0 ≤ r0) (ne_r1_r0 : r1 ≠ r0) (ne_tb_r0 : tb ≠ r0) (F_value_r1 : Fld Z h0 r1 "java/lang/AbstractStringBuilder" "value" "[B" (.ref tb)) (F_coder_r1 : Fld Z h0 r1 "java/lang/AbstractStringBuilder" "coder" "B" (.int (0 : Int32))) (F_count_r1 : Fld Z h0 r1 "java/lang/AbstractStringBuilder" "count" "I" (.int (8 : Int32))) (E_r1 : Exa Z h0 r1 "java/lang/StringBuilder") (V_tb : Arv Z h0 tb kb .byte (16 : Int32) vd (.int (0 : Int32))) (hlv : vd.length = 16) (S_CS : Sta Z Z.heap "java/lang/String" "COMPACT_STRINGS" "Z" (.int G1)) (P5 : ¬ (G1 = (0 : Int32))) (X00 : Old Z n0 h0) :
    MetFree l mN22 (head1 (Jvm.Cond.code mN22 jdk_42_method_150_code 5 none :: ws) oR22) (fun a U => a = #[(.ref r0), (.ref r1), .null] ∧ Z.Warmed39 U.vm ∧ U.heap = h0) (fun _ _ _ _ _ => True) (fun _ U o U' => ∃ v L, o = .returned v ∧ Q26_8_16 Z r0 r1 tb kb vd G1 h0 n0 v U'.heap L ∧ FrameEnd U o U' L oR22.cells oR22.slots) := by
  refine MetFree.of_bodySF (plainFor_of_name pn_2) hisR ?_
  intro p e s m args below meth c s₁ Bd hml0 hP hK
  obtain ⟨rfl, hZ, hh⟩ := hP
  have hx := Bd.exec
  have hby := Bd.bytes
  have hml : c.maxLocals = 5 := hml0
  have hown : s.vm.findClass "java/lang/String" = some m.cls := findClass_of_methodNamed Bd.named
  have hnm := (name_of_methodNamed Bd.named Bd.method).1
  have X0 : Stand p l e oR22 s m #[(.ref r0), (.ref r1), .null] below meth c s₁ [] 0 0 := Stand.of_body Bd
  have e0 : s₁.heap = h0 := by rw [← hh, Bd.state]; rfl
  have N0 := Fr.nil n0
  have k0 : Kq X0 5 s₁ (mkF m 0 (oL42 r0 r1) []) := fun t k => castTop (ef_26_10_16 m r0 r1) k
  have k1 : Kq X0 5 s₁ (mkF m 1 (oL42 r0 r1) [(.ref r0)]) := fun t k => k0 t (XS.aloadN X0.here hx rfl (hb hby d26_0) rfl rfl k)
  obtain ⟨T2, X2, e2, st2⟩ := initO X0 hx hZ hown (ww hw 69 rfl) (ww hw 18 rfl) (ww hw 19 rfl) e0 (g := gK k1) rfl (by rw [hml]; rfl) rfl (hb hby d26_1) (by decide) (W := 0) (by show 2 * 0 + _ ≤ _; exact Nat.le_of_eq rfl) (by decide)
  have k4 : Kq X0 5 T2 (mkF m 5 (oL42 r0 r1) [(.ref r1)]) := fun t k => k1 t (st2 _ (XS.aloadN X2.here hx rfl (hb hby d26_4) rfl rfl k))
  obtain ⟨cq5, kcq5, q5a, q5b, q5c⟩ := isOf hZ e2 E_r1
  obtain ⟨_, _, ⟨T5, L5, kq5, n5⟩, -, X5, ⟨Lc5, hQ5, l5, y5, z5⟩, st5⟩ := X2.virtualBack hx (y := mN15) (z := mN15) hown (mw hZ hw 167 rfl) (mw hZ hw 168 rfl) (notFace_of_selects (args := #[]) (mw hZ hw 170 rfl)) (mw hZ hw 170 rfl) (mw hZ hw 169 rfl) (by decide) (backOf (W := 0) (rm27 l Z a0 hw [] r1 tb h0 n0 Z0 F_value_r1) hZ (ww hw 171 rfl) (ww hw 94 rfl) (by decide) (by decide)) q5a q5c (g := gK k4) rfl (by rw [hml]; rfl) (Steps.refl _) (argsL := []) (rest := []) (lenOf pd_13 rfl) rfl (by show 2 * 0 + _ ≤ _; exact Nat.le_of_eq rfl) (hb hby d26_5) (fun _ _ => ⟨rfl, e2, (by decide : 0 + 0 ≤ _), (by decide : 0 + 0 ≤ _)⟩)
  dsimp only [Pt.U, Pt.locs, Pt.cells, Pt.slots] at X5 l5 y5 z5 st5 hQ5
  replace l5 := l5.symm; subst l5 y5 z5
  obtain ⟨rfl, N5q, e5⟩ := hQ5
  have N5 := Fr.app N0 N5q
  have k7 : Kq X0 5 T5 (mkF m 10 (oL43 r0 r1 tb) [(.ref r1)]) := fun t k => k4 t (st5.trans (XS.astoreN X5.here hx rfl (hb hby d26_8) rfl rfl (l' := (oL43 r0 r1 tb)) rfl (XS.aloadN X5.here hx rfl (hb hby d26_9) rfl rfl k)))
  obtain ⟨cq8, kcq8, q8a, q8b, q8c⟩ := isOf hZ e5 E_r1
  obtain ⟨_, _, ⟨T8, L8, kq8, n8⟩, -, X8, ⟨Lc8, hQ8, l8, y8, z8⟩, st8⟩ := X5.virtualBack hx (y := mN20) (z := mN21) hown (mw hZ hw 172 rfl) (mw hZ hw 173 rfl) (own_nf (args := #[]) (mw hZ hw 128 rfl) rfl) (mw hZ hw 175 rfl) (mw hZ hw 176 rfl) (by decide) (backOf (W := 0) (rm28_8_16 l Z a0 hw [] r1 h0 n0 Z0 F_count_r1 E_r1) hZ (ww hw 177 rfl) (ww hw 86 rfl) (by decide) (by decide)) q8a q8c (g := gK k7) rfl (by rw [hml]; rfl) (Steps.refl _) (argsL := []) (rest := []) (lenOf pd_8 rfl) rfl (by show 2 * 0 + _ ≤ _; exact Nat.le_of_eq rfl) (hb hby d26_10) (fun _ _ => ⟨rfl, e5, (by decide : 0 + 0 ≤ _), (by decide : 0 + 0 ≤ _)⟩)
  dsimp only [Pt.U, Pt.locs, Pt.cells, Pt.slots] at X8 l8 y8 z8 st8 hQ8
  replace l8 := l8.symm; subst l8 y8 z8
  obtain ⟨rfl, N8q, e8⟩ := hQ8
  have N8 := Fr.app N5 N8q
  have k10 : Kq X0 5 T8 (mkF m 16 (oL51 r0 r1 tb) [(.ref r1)]) := fun t k => k7 t (st8.trans (XS.istore X8.here hx rfl (hb hby d26_13) rfl (l' := (oL51 r0 r1 tb)) rfl (XS.aloadN X8.here hx rfl (hb hby d26_15) rfl rfl k)))
  obtain ⟨cq11, kcq11, q11a, q11b, q11c⟩ := isOf hZ e8 E_r1
  obtain ⟨_, _, ⟨T11, L11, kq11, n11⟩, -, X11, ⟨Lc11, hQ11, l11, y11, z11⟩, st11⟩ := X8.virtualBack hx (y := mN16) (z := mN16) hown (mw hZ hw 180 rfl) (mw hZ hw 181 rfl) (notFace_of_selects (args := #[]) (mw hZ hw 183 rfl)) (mw hZ hw 183 rfl) (mw hZ hw 182 rfl) (by decide) (backOf (W := 0) (rm30 l Z a0 hw [] r1 G1 h0 n0 Z0 F_coder_r1 S_CS P5 X00) hZ (ww hw 184 rfl) (ww hw 94 rfl) (by decide) (by decide)) q11a q11c (g := gK k10) rfl (by rw [hml]; rfl) (Steps.refl _) (argsL := []) (rest := []) (lenOf pd_14 rfl) rfl (by show 2 * 0 + _ ≤ _; exact Nat.le_of_eq rfl) (hb hby d26_16) (fun _ _ => ⟨rfl, e8, (by decide : 0 + 0 ≤ _), (by decide : 0 + 0 ≤ _)⟩)
  dsimp only [Pt.U, Pt.locs, Pt.cells, Pt.slots] at X11 l11 y11 z11 st11 hQ11
  replace l11 := l11.symm; subst l11 y11 z11
  obtain ⟨rfl, N11q, e11⟩ := hQ11
  have N11 := Fr.app N8 N11q
  have hc19 : ¬ ((1 : Int32) = (0 : Int32)) := by decide
  have k13 : Kq X0 5 T11 (mkF m 24 (oL51 r0 r1 tb) [(.int (0 : Int32)), (.ref r0)]) := fun t k => k10 t (st11.trans (XS.ifNo X11.here hx rfl (hb hby d26_19) rfl ((if0 _ _).trans (feq hc19).1) (XS.aloadN X11.here hx rfl (hb hby d26_22) rfl rfl (XS.iconst X11.here hx rfl (hb hby d26_23) k))))
  obtain ⟨T14, h14, X14, e14, W14, st14⟩ := putFN X11 hx hZ hown (ww hw 81 rfl) Via.refl e11 F_coder_r0 E_r0 (Or.inr ⟨(ww hw 8 rfl), rfl, hnm⟩) (ww hw 5 rfl) (ty := .byte) (v' := (.int (0 : Int32))) (by decide) rfl rfl (g := gK k13) rfl rfl (hb hby d26_24)
  have fc15 := (F_value_r0.other W14 (Or.inr (slot_ne (Or.inr (ww hw 7 rfl)) (Or.inr (ww hw 8 rfl)) (by decide) (t := (.array .byte)) (t' := .byte) (by decide) (by decide))))
  have N14 := Fr.snoc X14 N11 g_r0
  have Zs14 : n0 ≤ h14.size := Nat.le_trans Z0 (Keep.of_wr W14).1
  have k17 : Kq X0 5 T14 (mkF m 32 (oL51 r0 r1 tb) [(.int (8 : Int32)), (.int (0 : Int32)), (.ref tb), (.ref r0)]) := fun t k => k13 t (st14 _ (XS.aloadN X14.here hx rfl (hb hby d26_27) rfl rfl (XS.aloadN X14.here hx rfl (hb hby d26_28) rfl rfl (XS.iconst X14.here hx rfl (hb hby d26_29) (XS.iload X14.here hx rfl (hb hby d26_30) rfl k)))))
  obtain ⟨_, _, ⟨T18, L18, kq18, n18⟩, -, X18, ⟨Lc18, hQ18, l18, y18, z18⟩, st18⟩ := Jvm.LawKit.callS X14 hx (y := mN19) hown (mw hZ hw 185 rfl) (mw hZ hw 186 rfl) (mw hZ hw 187 rfl) (mw hZ hw 188 rfl) (by decide) (backOf (W := 1) (rm31_8_16 l Z a0 hw [] tb kb vd h14 n0 Zs14 (V_tb.other W14 ne_tb_r0) hlv) hZ (ww hw 188 rfl) (ww hw 187 rfl) (by decide) (by decide)) (g := gK k17) rfl (by rw [hml]; rfl) (argsL := [(.ref tb), (.int (0 : Int32)), (.int (8 : Int32))]) (rest := [(.ref r0)]) (lenOf pd_12 rfl) rfl (by show 2 * 0 + _ ≤ _; exact Nat.le_of_eq rfl) (hb hby d26_32) (fun _ _ => ⟨rfl, e14, (by decide : 0 + 1 ≤ _), (by decide : 0 + 8 ≤ _)⟩)
  dsimp only [Pt.U, Pt.locs, Pt.cells, Pt.slots] at X18 l18 y18 z18 st18 hQ18
  replace l18 := l18.symm; subst l18 y18 z18
  obtain ⟨t18, rfl, zt18, N18q, K18, kt18, Vt18⟩ := hQ18
  have N18 := Fr.app N14 N18q
  have ne_r0_t18 : r0 ≠ t18 := Nat.ne_of_lt (Nat.lt_of_lt_of_le (E_r0.wr W14).lt zt18)
  have sz_t18 : h0.size ≤ t18 := Nat.le_trans ((Keep.refl h0 [r0]).wr W14 (Or.inl (own_wi 0 rfl))).1 zt18
  have k19 : Kq X0 5 T18 (mkF m 35 (oL51 r0 r1 tb) [(.ref t18), (.ref r0)]) := fun t k => k17 t (st18 _ k)
  obtain ⟨T20, h20, X20, e20, W20, st20⟩ := putF X18 hx hZ hown (host := "") (Or.inl (ww hw 82 rfl)) Via.refl rfl (fc15.keep K18 nin0) ((E_r0.wr W14).keep K18) (Or.inr ⟨(ww hw 7 rfl), rfl, hnm⟩) (ww hw 5 rfl) (ty := (.array .byte)) (by decide) rfl rfl (g := gK k19) rfl rfl (hb hby d26_35)
  have fc21 := (((F_coder_r0.same W14).keep K18 nin0).other W20 (Or.inr (slot_ne (Or.inr (ww hw 8 rfl)) (Or.inr (ww hw 7 rfl)) (by decide) (t := .byte) (t' := (.array .byte)) (by decide) (by decide))))
  have N20 := Fr.snoc X20 N18 g_r0
  have k23 : Kq X0 5 T20 (mkF m 97 (oL51 r0 r1 tb) []) := fun t k => k19 t (st20 _ (XS.goto X20.here hx rfl (pc0 := 38) (pc' := 97) rfl (hb hby d26_38) (by decide) (by decide) k))
  obtain ⟨fs, hr, hrun, hended, hW, hsame⟩ := X20.leave (v := none) (fun _ => rfl)
  refine ⟨_, _, k23 _ ?_, hrun, hended, _, _, rfl, ?_, ⟨_, rfl⟩, hW, hsame.mono (by decide) (by decide)⟩
  · exact X20.returnOut hx Bd.returns (hb hby d26_97) hr
  · show Q26_8_16 Z r0 r1 tb kb vd G1 h0 n0 _ T20.heap _
    rw [e20]
    exact ⟨rfl, N20, ((((Keep.refl h0 [r0]).wr W14 (Or.inl (own_wi 0 rfl))).trans K18 all0).wr W20 (Or.inl (own_wi 0 rfl))), t18, kt18, sz_t18, (((E_r0.wr W14).keep K18).wr W20), ((fc15.keep K18 nin0).same W20), fc21, (Vt18.other W20 ne_r0_t18.symm)⟩
def Q25_8_16 (Z : State) (r0 : Addr) (r1 : Addr) (tb : Addr) (kb : ClassId) (vd : List Value) (G1 : Int32) (h0 : Heap) (n0 : Nat) (v : Option Value) (h : Heap) (L : List Loc) : Prop := v = none ∧ Fr n0 L ∧ Keep h0 h [r0] ∧ ∃ t k, h0.size ≤ t ∧ Exa Z h r0 "java/lang/String" ∧ Fld Z h r0 "java/lang/String" "value" "[B" (.ref t) ∧ Fld Z h r0 "java/lang/String" "coder" "B" (.int (0 : Int32)) ∧ Arv Z h t k .byte (8 : Int32) (own_ins oZ8 (List.take 8 vd) 0 8) (.int (0 : Int32))
def oR23 : Room := { frames := 4, cells := 1, slots := 8, locals := 83 }
theorem rm25_8_16 (l : Launch) (Z : State) (a0 : Array Value) (hw : ∀ d ∈ tables_1, d.before a0 Z = true) (ws : List Jvm.Cond) (r0 : Addr) (r1 : Addr) (tb : Addr) (kb : ClassId) (vd : List Value) (G1 : Int32) (h0 : Heap) (n0 : Nat) (Z0 : n0 ≤ h0.size) (E_r0 : Exa Z h0 r0 "java/lang/String") (F_value_r0 : Fld Z h0 r0 "java/lang/String" "value" "[B" .null) (F_coder_r0 : Fld Z h0 r0 "java/lang/String" "coder" "B" (.int (0 : Int32))) (g_r0 : n0 ≤ r0) (ne_r1_r0 : r1 ≠ r0) (ne_tb_r0 : tb ≠ r0) (F_value_r1 : Fld Z h0 r1 "java/lang/AbstractStringBuilder" "value" "[B" (.ref tb)) (F_coder_r1 : Fld Z h0 r1 "java/lang/AbstractStringBuilder" "coder" "B" (.int (0 : Int32))) (F_count_r1 : Fld Z h0 r1 "java/lang/AbstractStringBuilder" "count" "I" (.int (8 : Int32))) (E_r1 : Exa Z h0 r1 "java/lang/StringBuilder") (V_tb : Arv Z h0 tb kb .byte (16 : Int32) vd (.int (0 : Int32))) (hlv : vd.length = 16) (S_CS : Sta Z Z.heap "java/lang/String" "COMPACT_STRINGS" "Z" (.int G1)) (P5 : ¬ (G1 = (0 : Int32))) (X00 : Old Z n0 h0) :
    MetFree l mN23 (head1 (Jvm.Cond.code mN23 jdk_42_method_53_code 2 none :: ws) oR23) (fun a U => a = #[(.ref r0), (.ref r1)] ∧ Z.Warmed39 U.vm ∧ U.heap = h0) (fun _ _ _ _ _ => True) (fun _ U o U' => ∃ v L, o = .returned v ∧ Q25_8_16 Z r0 r1 tb kb vd G1 h0 n0 v U'.heap L ∧ FrameEnd U o U' L oR23.cells oR23.slots) := by
  refine MetFree.of_bodySF (plainFor_of_name pn_2) hisR ?_
  intro p e s m args below meth c s₁ Bd hml0 hP hK
  obtain ⟨rfl, hZ, hh⟩ := hP
  have hx := Bd.exec
  have hby := Bd.bytes
  have hml : c.maxLocals = 2 := hml0
  have hown : s.vm.findClass "java/lang/String" = some m.cls := findClass_of_methodNamed Bd.named
  have X0 : Stand p l e oR23 s m #[(.ref r0), (.ref r1)] below meth c s₁ [] 0 0 := Stand.of_body Bd
  have e0 : s₁.heap = h0 := by rw [← hh, Bd.state]; rfl
  have N0 := Fr.nil n0
  have k0 : Kq X0 2 s₁ (mkF m 0 (oL1 r0 r1) []) := fun t k => castTop (ef_21 m r0 r1) k
  have k1 : Kq X0 2 s₁ (mkF m 3 (oL1 r0 r1) [.null, (.ref r1), (.ref r0)]) := fun t k => k0 t (XS.aloadN X0.here hx rfl (hb hby d25_0) rfl rfl (XS.aloadN X0.here hx rfl (hb hby d25_1) rfl rfl (XS.aconstNull X0.here hx rfl (hb hby d25_2) k)))
  obtain ⟨_, _, ⟨T2, L2, kq2, n2⟩, -, X2, ⟨Lc2, hQ2, l2, y2, z2⟩, st2⟩ := X0.specialBack hx (y := mN22) rfl hown (mw hZ hw 164 rfl) (mw hZ hw 165 rfl) (mw hZ hw 166 rfl) (by decide) (backOf (W := 0) (rm26_8_16 l Z a0 hw [] r0 r1 tb kb vd G1 h0 n0 Z0 E_r0 F_value_r0 F_coder_r0 g_r0 ne_r1_r0 ne_tb_r0 F_value_r1 F_coder_r1 F_count_r1 E_r1 V_tb hlv S_CS P5 X00) hZ (ww hw 166 rfl) (ww hw 4 rfl) (by decide) (by decide)) (g := gK k1) rfl (by rw [hml]; rfl) (Steps.refl _) (a := r0) (argsL := [(.ref r1), .null]) (rest := []) (lenOf pd_15 rfl) rfl (by show 2 * 0 + _ ≤ _; exact Nat.le_of_eq rfl) (hb hby d25_3) (fun _ _ => ⟨rfl, e0, (by decide : 0 + 1 ≤ _), (by decide : 0 + 8 ≤ _)⟩)
  dsimp only [Pt.U, Pt.locs, Pt.cells, Pt.slots] at X2 l2 y2 z2 st2 hQ2
  replace l2 := l2.symm; subst l2 y2 z2
  obtain ⟨rfl, N2q, K2, t2, kt2, zt2, Ex2, Fx2_0, Fx2_1, Vt2⟩ := hQ2
  have N2 := Fr.app N0 N2q
  have sz_t2 : h0.size ≤ t2 := Nat.le_trans (Keep.refl h0 [r0]).1 zt2
  have k3 : Kq X0 2 T2 (mkF m 6 (oL1 r0 r1) []) := fun t k => k1 t (st2.trans k)
  obtain ⟨fs, hr, hrun, hended, hW, hsame⟩ := X2.leave (v := none) (fun _ => rfl)
  refine ⟨_, _, k3 _ ?_, hrun, hended, _, _, rfl, ?_, ⟨_, rfl⟩, hW, hsame.mono (by decide) (by decide)⟩
  · exact X2.returnOut hx Bd.returns (hb hby d25_6) hr
  · show Q25_8_16 Z r0 r1 tb kb vd G1 h0 n0 _ T2.heap _
    exact ⟨rfl, N2, ((Keep.refl h0 [r0]).trans K2 (allS (Or.inl (own_wi 0 rfl)) all0)), t2, kt2, sz_t2, Ex2, Fx2_0, Fx2_1, Vt2⟩
def Q24_8_16 (Z : State) (r0 : Addr) (tb : Addr) (kb : ClassId) (vd : List Value) (G1 : Int32) (h0 : Heap) (n0 : Nat) (v : Option Value) (h : Heap) (L : List Loc) : Prop := ∃ x t k, v = some (.ref x) ∧ h0.size ≤ x ∧ h0.size ≤ t ∧ Fr n0 L ∧ Keep h0 h [] ∧ Exa Z h x "java/lang/String" ∧ Fld Z h x "java/lang/String" "value" "[B" (.ref t) ∧ Fld Z h x "java/lang/String" "coder" "B" (.int (0 : Int32)) ∧ Arv Z h t k .byte (8 : Int32) (own_ins oZ8 (List.take 8 vd) 0 8) (.int (0 : Int32))
def oR24 : Room := { frames := 5, cells := 2, slots := 12, locals := 97 }
theorem rm24_8_16 (l : Launch) (Z : State) (a0 : Array Value) (hw : ∀ d ∈ tables_1, d.before a0 Z = true) (ws : List Jvm.Cond) (r0 : Addr) (tb : Addr) (kb : ClassId) (vd : List Value) (G1 : Int32) (h0 : Heap) (n0 : Nat) (Z0 : n0 ≤ h0.size) (F_value_r0 : Fld Z h0 r0 "java/lang/AbstractStringBuilder" "value" "[B" (.ref tb)) (F_coder_r0 : Fld Z h0 r0 "java/lang/AbstractStringBuilder" "coder" "B" (.int (0 : Int32))) (F_count_r0 : Fld Z h0 r0 "java/lang/AbstractStringBuilder" "count" "I" (.int (8 : Int32))) (E_r0 : Exa Z h0 r0 "java/lang/StringBuilder") (V_tb : Arv Z h0 tb kb .byte (16 : Int32) vd (.int (0 : Int32))) (hlv : vd.length = 16) (S_CS : Sta Z Z.heap "java/lang/String" "COMPACT_STRINGS" "Z" (.int G1)) (P5 : ¬ (G1 = (0 : Int32))) (X00 : Old Z n0 h0) :
    MetFree l mN24 (head1 (Jvm.Cond.code mN24 jdk_67_method_42_code 1 (some (.object "java/lang/String")) :: ws) oR24) (fun a U => a = #[(.ref r0)] ∧ Z.Warmed39 U.vm ∧ U.heap = h0) (fun _ _ _ _ _ => True) (fun _ U o U' => ∃ v L, o = .returned v ∧ Q24_8_16 Z r0 tb kb vd G1 h0 n0 v U'.heap L ∧ FrameEnd U o U' L oR24.cells oR24.slots) := by
  refine MetFree.of_bodySF (plainFor_of_name pn_1) hisR ?_
  intro p e s m args below meth c s₁ Bd hml0 hP hK
  obtain ⟨rfl, hZ, hh⟩ := hP
  have hx := Bd.exec
  have hby := Bd.bytes
  have hml : c.maxLocals = 1 := hml0
  have hown : s.vm.findClass "java/lang/StringBuilder" = some m.cls := findClass_of_methodNamed Bd.named
  have X0 : Stand p l e oR24 s m #[(.ref r0)] below meth c s₁ [] 0 0 := Stand.of_body Bd
  have e0 : s₁.heap = h0 := by rw [← hh, Bd.state]; rfl
  have N0 := Fr.nil n0
  have k0 : Kq X0 1 s₁ (mkF m 0 #[.val (.ref r0)] []) := fun t k => castTop (ef_13 m r0) k
  obtain ⟨T1, h1, X1, e1, E1, A1, D1, -, st1⟩ := newO X0 hx hZ hown (ww hw 160 rfl) (ww hw 5 rfl) (ww hw 4 rfl) e0 (g := gK k0) rfl (hb hby d24_0) (by decide) (by decide)
  obtain ⟨b1, g1⟩ : ∃ z, z = h0.size := ⟨_, rfl⟩
  rw [← g1] at A1 D1 st1
  have ne_r0_b1 : r0 ≠ b1 := Nat.ne_of_lt (Nat.lt_of_lt_of_le F_value_r0.lt (Nat.le_of_eq g1.symm))
  have ne_tb_b1 : tb ≠ b1 := Nat.ne_of_lt (Nat.lt_of_lt_of_le V_tb.lt (Nat.le_of_eq g1.symm))
  have sz_b1 : h0.size ≤ b1 := Nat.le_trans (Keep.refl h0 []).1 (Nat.le_of_eq g1.symm)
  have F_value_b1 : Fld Z h1 b1 "java/lang/String" "value" "[B" .null := D1 (Or.inr (ww hw 7 rfl)) (ty := (.array .byte)) (by decide)
  have F_coder_b1 : Fld Z h1 b1 "java/lang/String" "coder" "B" (.int (0 : Int32)) := D1 (Or.inr (ww hw 8 rfl)) (ty := .byte) (by decide)
  have g_b1 : n0 ≤ b1 := Nat.le_trans Z0 (Nat.le_of_eq g1.symm)
  have Zs1 : n0 ≤ h1.size := Nat.le_trans Z0 E1.1
  have k3 : Kq X0 1 T1 (mkF m 5 #[.val (.ref r0)] [(.ref r0), (.ref b1), (.ref b1)]) := fun t k => k0 t (st1 _ (XS.dup X1.here hx rfl (hb hby d24_3) rfl rfl (XS.aloadN X1.here hx rfl (hb hby d24_4) rfl rfl k)))
  obtain ⟨_, _, ⟨T4, L4, kq4, n4⟩, -, X4, ⟨Lc4, hQ4, l4, y4, z4⟩, st4⟩ := X1.specialBack hx (y := mN23) rfl hown (mw hZ hw 161 rfl) (mw hZ hw 162 rfl) (mw hZ hw 163 rfl) (by decide) (backOf (W := 1) (rm25_8_16 l Z a0 hw [] b1 r0 tb kb vd G1 h1 n0 Zs1 A1 F_value_b1 F_coder_b1 g_b1 ne_r0_b1 ne_tb_b1 (F_value_r0.ext E1) (F_coder_r0.ext E1) (F_count_r0.ext E1) (E_r0.ext E1) (V_tb.ext E1) hlv S_CS P5 (X00.ext E1)) hZ (ww hw 163 rfl) (ww hw 4 rfl) (by decide) (by decide)) (g := gK k3) rfl (by rw [hml]; rfl) (Steps.refl _) (a := b1) (argsL := [(.ref r0)]) (rest := [(.ref b1)]) (lenOf pd_16 rfl) rfl (by show 2 * 0 + _ ≤ _; exact Nat.le_of_eq rfl) (hb hby d24_5) (fun _ _ => ⟨rfl, e1, (by decide : 1 + 1 ≤ _), (by decide : 4 + 8 ≤ _)⟩)
  dsimp only [Pt.U, Pt.locs, Pt.cells, Pt.slots] at X4 l4 y4 z4 st4 hQ4
  replace l4 := l4.symm; subst l4 y4 z4
  obtain ⟨rfl, N4q, K4, t4, kt4, zt4, Ex4, Fx4_0, Fx4_1, Vt4⟩ := hQ4
  have N4 := Fr.app N0 N4q
  have sz_t4 : h0.size ≤ t4 := Nat.le_trans ((Keep.refl h0 []).ext E1).1 zt4
  have k5 : Kq X0 1 T4 (mkF m 8 #[.val (.ref r0)] [(.ref b1)]) := fun t k => k3 t (st4.trans k)
  obtain ⟨fs, hr, hrun, hended, hW, hsame⟩ := X4.leave (v := (some (.ref b1))) (fun h => by rw [Bd.returns] at h; cases h)
  refine ⟨_, _, k5 _ ?_, hrun, hended, _, _, rfl, ?_, ⟨_, rfl⟩, hW, hsame.mono (by decide) (by decide)⟩
  · exact retOut X4 hx Bd.returns rfl (Or.inr (Or.inr (Or.inr (Or.inr ⟨rfl, rfl, rfl⟩)))) (hb hby d24_8) hr
  · show Q24_8_16 Z r0 tb kb vd G1 h0 n0 _ T4.heap _
    exact ⟨b1, t4, kt4, rfl, sz_b1, sz_t4, N4, (((Keep.refl h0 []).ext E1).trans K4 (allS (Or.inr sz_b1) all0)), Ex4, Fx4_0, Fx4_1, Vt4⟩
def Q33_20_34 (Z : State)  (h0 : Heap) (n0 : Nat) (v : Option Value) (h : Heap) (L : List Loc) : Prop := v = none ∧ Fr n0 L ∧ h = h0
def oL52  : Array Slot := #[.val (.int (0 : Int32)), .val (.int (20 : Int32))]
theorem rm33_20_34 (l : Launch) (Z : State) (a0 : Array Value) (hw : ∀ d ∈ tables_1, d.before a0 Z = true) (ws : List Jvm.Cond)  (h0 : Heap) (n0 : Nat) (Z0 : n0 ≤ h0.size) :
    MetFree l mN17 (head1 (Jvm.Cond.code mN17 jdk_65_method_131_code 2 none :: ws) oR2) (fun a U => a = #[(.int (0 : Int32)), (.int (20 : Int32))] ∧ Z.Warmed39 U.vm ∧ U.heap = h0) (fun _ _ _ _ _ => True) (fun _ U o U' => ∃ v L, o = .returned v ∧ Q33_20_34 Z  h0 n0 v U'.heap L ∧ FrameEnd U o U' L oR2.cells oR2.slots) := by
  refine MetFree.of_bodySF (plainFor_of_name pn_4) hisR ?_
  intro p e s m args below meth c s₁ Bd hml0 hP hK
  obtain ⟨rfl, hZ, hh⟩ := hP
  have hx := Bd.exec
  have hby := Bd.bytes
  have hml : c.maxLocals = 2 := hml0
  have hown : s.vm.findClass "java/util/Arrays" = some m.cls := findClass_of_methodNamed Bd.named
  have X0 : Stand p l e oR2 s m #[(.int (0 : Int32)), (.int (20 : Int32))] below meth c s₁ [] 0 0 := Stand.of_body Bd
  have e0 : s₁.heap = h0 := by rw [← hh, Bd.state]; rfl
  have N0 := Fr.nil n0
  have k0 : Kq X0 2 s₁ (mkF m 0 oL52 []) := fun t k => castTop (ef_38 m (0 : Int32) (20 : Int32)) k
  have hc2 : ¬ ((20 : Int32) < (0 : Int32)) := by decide
  have k1 : Kq X0 2 s₁ (mkF m 37 oL52 []) := fun t k => k0 t (XS.iloadN X0.here hx rfl (hb hby d33_0) rfl (XS.iloadN X0.here hx rfl (hb hby d33_1) rfl (XS.icmpYes X0.here hx rfl (pc0 := 2) (pc' := 37) rfl (hb hby d33_2) rfl (flt hc2).2.1 (by decide) (by decide) k)))
  obtain ⟨fs, hr, hrun, hended, hW, hsame⟩ := X0.leave (v := none) (fun _ => rfl)
  refine ⟨_, _, k1 _ ?_, hrun, hended, _, _, rfl, ?_, ⟨_, rfl⟩, hW, hsame.mono (by decide) (by decide)⟩
  · exact X0.returnOut hx Bd.returns (hb hby d33_37) hr
  · show Q33_20_34 Z  h0 n0 _ s₁.heap _
    rw [e0]
    exact ⟨rfl, N0, rfl⟩
def Q34m34_20 (Z : State)  (h0 : Heap) (n0 : Nat) (v : Option Value) (h : Heap) (L : List Loc) : Prop := v = some (.int (20 : Int32)) ∧ Fr n0 L ∧ h = h0
def oL53  : Array Slot := #[.val (.int (34 : Int32)), .val (.int (20 : Int32))]
theorem rm34m34_20 (l : Launch) (Z : State) (a0 : Array Value) (hw : ∀ d ∈ tables_1, d.before a0 Z = true) (ws : List Jvm.Cond)  (h0 : Heap) (n0 : Nat) (Z0 : n0 ≤ h0.size) :
    MetFree l mN8 (head1 (Jvm.Cond.code mN8 jdk_29_method_69_code 2 (some .int) :: ws) oR2) (fun a U => a = #[(.int (34 : Int32)), (.int (20 : Int32))] ∧ Z.Warmed39 U.vm ∧ U.heap = h0) (fun _ _ _ _ _ => True) (fun _ U o U' => ∃ v L, o = .returned v ∧ Q34m34_20 Z  h0 n0 v U'.heap L ∧ FrameEnd U o U' L oR2.cells oR2.slots) := by
  refine MetFree.of_bodySF (Jvm.Free.JP.mathPlain rfl (by decide +kernel)) hisR ?_
  intro p e s m args below meth c s₁ Bd hml0 hP hK
  obtain ⟨rfl, hZ, hh⟩ := hP
  have hx := Bd.exec
  have hby := Bd.bytes
  have hml : c.maxLocals = 2 := hml0
  have hown : s.vm.findClass "java/lang/Math" = some m.cls := findClass_of_methodNamed Bd.named
  have X0 : Stand p l e oR2 s m #[(.int (34 : Int32)), (.int (20 : Int32))] below meth c s₁ [] 0 0 := Stand.of_body Bd
  have e0 : s₁.heap = h0 := by rw [← hh, Bd.state]; rfl
  have N0 := Fr.nil n0
  have k0 : Kq X0 2 s₁ (mkF m 0 oL53 []) := fun t k => castTop (ef_38 m (34 : Int32) (20 : Int32)) k
  have hc2 : (20 : Int32) < (34 : Int32) := by decide
  have k1 : Kq X0 2 s₁ (mkF m 10 oL53 [(.int (20 : Int32))]) := fun t k => k0 t (XS.iloadN X0.here hx rfl (hb hby d34_0) rfl (XS.iloadN X0.here hx rfl (hb hby d34_1) rfl (XS.icmpYes X0.here hx rfl (pc0 := 2) (pc' := 9) rfl (hb hby d34_2) rfl (tlt hc2).2.2.1 (by decide) (by decide) (XS.iloadN X0.here hx rfl (hb hby d34_9) rfl k))))
  obtain ⟨fs, hr, hrun, hended, hW, hsame⟩ := X0.leave (v := (some (.int (20 : Int32)))) (fun h => by rw [Bd.returns] at h; cases h)
  refine ⟨_, _, k1 _ ?_, hrun, hended, _, _, rfl, ?_, ⟨_, rfl⟩, hW, hsame.mono (by decide) (by decide)⟩
  · exact retOut X0 hx Bd.returns rfl (Or.inl ⟨rfl, Or.inl rfl, _, rfl⟩) (hb hby d34_10) hr
  · show Q34m34_20 Z  h0 n0 _ s₁.heap _
    rw [e0]
    exact ⟨rfl, N0, rfl⟩
def Q32_20_34 (Z : State) (r0 : Addr) (kb : ClassId) (vd : List Value) (h0 : Heap) (n0 : Nat) (v : Option Value) (h : Heap) (L : List Loc) : Prop := ∃ x, v = some (.ref x) ∧ h0.size ≤ x ∧ Fr n0 L ∧ Keep h0 h [] ∧ ∃ k, Arv Z h x k .byte (20 : Int32) (own_ins oZ20 (List.take 20 vd) 0 20) (.int (0 : Int32))
def oR25 : Room := { frames := 1, cells := 1, slots := 20, locals := 36 }
def oL54 (r0 : Addr) : Array Slot := #[.val (.ref r0), .val (.int (0 : Int32)), .val (.int (20 : Int32)), .unset, .unset]
def oL55 (r0 : Addr) : Array Slot := #[.val (.ref r0), .val (.int (0 : Int32)), .val (.int (20 : Int32)), .val (.int (20 : Int32)), .unset]
def oL56 (r0 : Addr) (b5 : Addr) : Array Slot := #[.val (.ref r0), .val (.int (0 : Int32)), .val (.int (20 : Int32)), .val (.int (20 : Int32)), .val (.ref b5)]
theorem rm32_20_34 (l : Launch) (Z : State) (a0 : Array Value) (hw : ∀ d ∈ tables_1, d.before a0 Z = true) (ws : List Jvm.Cond) (r0 : Addr) (kb : ClassId) (vd : List Value) (h0 : Heap) (n0 : Nat) (Z0 : n0 ≤ h0.size) (V_r0 : Arv Z h0 r0 kb .byte (34 : Int32) vd (.int (0 : Int32))) (hlv : vd.length = 34) :
    MetFree l mN18 (head1 (Jvm.Cond.code mN18 jdk_65_method_133_code 5 (some (.array .byte)) :: ws) oR25) (fun a U => a = #[(.ref r0), (.int (0 : Int32)), (.int (20 : Int32))] ∧ Z.Warmed39 U.vm ∧ U.heap = h0) (fun _ _ _ _ _ => True) (fun _ U o U' => ∃ v L, o = .returned v ∧ Q32_20_34 Z r0 kb vd h0 n0 v U'.heap L ∧ FrameEnd U o U' L oR25.cells oR25.slots) := by
  refine MetFree.of_bodySF (plainFor_of_name pn_4) hisR ?_
  intro p e s m args below meth c s₁ Bd hml0 hP hK
  obtain ⟨rfl, hZ, hh⟩ := hP
  have hx := Bd.exec
  have hby := Bd.bytes
  have hml : c.maxLocals = 5 := hml0
  have hown : s.vm.findClass "java/util/Arrays" = some m.cls := findClass_of_methodNamed Bd.named
  have X0 : Stand p l e oR25 s m #[(.ref r0), (.int (0 : Int32)), (.int (20 : Int32))] below meth c s₁ [] 0 0 := Stand.of_body Bd
  have e0 : s₁.heap = h0 := by rw [← hh, Bd.state]; rfl
  have N0 := Fr.nil n0
  have k0 : Kq X0 5 s₁ (mkF m 0 (oL54 r0) []) := fun t k => castTop (ef_32_10_16 m r0 (0 : Int32) (20 : Int32)) k
  have k1 : Kq X0 5 s₁ (mkF m 2 (oL54 r0) [(.int (20 : Int32)), (.int (0 : Int32))]) := fun t k => k0 t (XS.iloadN X0.here hx rfl (hb hby d32_0) rfl (XS.iloadN X0.here hx rfl (hb hby d32_1) rfl k))
  obtain ⟨_, _, ⟨T2, L2, kq2, n2⟩, -, X2, ⟨Lc2, hQ2, l2, y2, z2⟩, st2⟩ := Jvm.LawKit.callS X0 hx (y := mN17) hown (mw hZ hw 192 rfl) (mw hZ hw 193 rfl) (mw hZ hw 187 rfl) (mw hZ hw 194 rfl) (by decide) (backOf (W := 0) (rm33_20_34 l Z a0 hw []  h0 n0 Z0) hZ (ww hw 194 rfl) (ww hw 187 rfl) (by decide) (by decide)) (g := gK k1) rfl (by rw [hml]; rfl) (argsL := [(.int (0 : Int32)), (.int (20 : Int32))]) (rest := []) (lenOf pd_11 rfl) rfl (by show 2 * 0 + _ ≤ _; exact Nat.le_of_eq rfl) (hb hby d32_2) (fun _ _ => ⟨rfl, e0, (by decide : 0 + 0 ≤ _), (by decide : 0 + 0 ≤ _)⟩)
  dsimp only [Pt.U, Pt.locs, Pt.cells, Pt.slots] at X2 l2 y2 z2 st2 hQ2
  replace l2 := l2.symm; subst l2 y2 z2
  obtain ⟨rfl, N2q, e2⟩ := hQ2
  have N2 := Fr.app N0 N2q
  have k4 : Kq X0 5 T2 (mkF m 10 (oL55 r0) [(.int (20 : Int32))]) := fun t k => k1 t (st2 _ (XS.iloadN X2.here hx rfl (hb hby d32_5) rfl (XS.iloadN X2.here hx rfl (hb hby d32_6) rfl (XS.isub X2.here hx rfl (hb hby d32_7) rfl (XS.istoreN X2.here hx rfl (hb hby d32_8) rfl (l' := (oL55 r0)) rfl (XS.iloadN X2.here hx rfl (hb hby d32_9) rfl k))))))
  obtain ⟨T5, h5, ka5, X5, e5, E5, A5, st5⟩ := newP X2 hx hZ (ww hw 6 rfl) e2 (g := gK k4) rfl (hb hby d32_10) rfl (by decide) (cap := 20) (by decide) (by decide) (by decide) (by decide)
  obtain ⟨b5, g5⟩ : ∃ z, z = h0.size := ⟨_, rfl⟩
  rw [← g5] at A5 st5
  have V_b5 : Arv Z h5 b5 ka5 .byte (20 : Int32) oZ20 (.int (0 : Int32)) := (Arv.new A5 (by decide)).pad (pad_rep [] (.int (0 : Int32)) 20)
  have g_b5 : n0 ≤ b5 := Nat.le_trans Z0 (Nat.le_of_eq g5.symm)
  have sz_b5 : h0.size ≤ b5 := Nat.le_trans (Keep.refl h0 []).1 (Nat.le_of_eq g5.symm)
  have Zs5 : n0 ≤ h5.size := Nat.le_trans Z0 E5.1
  have k7 : Kq X0 5 T5 (mkF m 20 (oL56 r0 b5) [(.ref r0), (.int (0 : Int32)), (.ref b5), (.int (0 : Int32)), (.ref r0)]) := fun t k => k4 t (st5 _ (XS.astore X5.here hx rfl (hb hby d32_12) rfl rfl (l' := (oL56 r0 b5)) rfl (XS.aloadN X5.here hx rfl (hb hby d32_14) rfl rfl (XS.iloadN X5.here hx rfl (hb hby d32_15) rfl (XS.aload X5.here hx rfl (hb hby d32_16) rfl rfl (XS.iconst X5.here hx rfl (hb hby d32_18) (XS.aloadN X5.here hx rfl (hb hby d32_19) rfl rfl k)))))))
  obtain ⟨cl8, Ar8, q8, S8, N8_, H8, G8⟩ := (id (V_r0.ext E5))
  have S8' : cl8.slots.size = 34 := S8
  have L8 : (cl8.slots.size).toInt32 = (34 : Int32) := by rw [S8']; rfl
  have k9 : Kq X0 5 T5 (mkF m 24 (oL56 r0 b5) [(.int (20 : Int32)), (.int (34 : Int32)), (.int (0 : Int32)), (.ref b5), (.int (0 : Int32)), (.ref r0)]) := fun t k => k7 t (by
      refine X5.arraylength hx (by rw [e5]; exact Ar8.1) (State.isArrayOf_alike hZ.alike Ar8.2.1) (g := (mkF m 20 (oL56 r0 b5) [(.ref r0), (.int (0 : Int32)), (.ref b5), (.int (0 : Int32)), (.ref r0)])) rfl rfl (hb hby d32_20) _ ?_
      rw [L8]
      show Sg X0 T5 21 (oL56 r0 b5) [(.int (34 : Int32)), (.int (0 : Int32)), (.ref b5), (.int (0 : Int32)), (.ref r0)] _
      refine XS.iloadN X5.here hx rfl (hb hby d32_21) rfl ?_
      show Sg X0 T5 22 (oL56 r0 b5) [(.int (0 : Int32)), (.int (34 : Int32)), (.int (0 : Int32)), (.ref b5), (.int (0 : Int32)), (.ref r0)] _
      refine XS.isub X5.here hx rfl (hb hby d32_22) rfl ?_
      show Sg X0 T5 23 (oL56 r0 b5) [(.int (34 : Int32)), (.int (0 : Int32)), (.ref b5), (.int (0 : Int32)), (.ref r0)] _
      refine XS.iloadN X5.here hx rfl (hb hby d32_23) rfl ?_
      exact k)
  obtain ⟨_, _, ⟨T10, L10, kq10, n10⟩, -, X10, ⟨Lc10, hQ10, l10, y10, z10⟩, st10⟩ := Jvm.LawKit.callS X5 hx (y := mN8) hown (mw hZ hw 195 rfl) (mw hZ hw 196 rfl) (mw hZ hw 197 rfl) (mw hZ hw 198 rfl) (by decide) (backOf (W := 4) (rm34m34_20 l Z a0 hw []  h5 n0 Zs5) hZ (ww hw 198 rfl) (ww hw 197 rfl) (by decide) (by decide)) (g := gK k9) rfl (by rw [hml]; rfl) (argsL := [(.int (34 : Int32)), (.int (20 : Int32))]) (rest := [(.int (0 : Int32)), (.ref b5), (.int (0 : Int32)), (.ref r0)]) (lenOf pd_2 rfl) rfl (by show 2 * 0 + _ ≤ _; exact Nat.le_of_eq rfl) (hb hby d32_24) (fun _ _ => ⟨rfl, e5, (by decide : 1 + 0 ≤ _), (by decide : 20 + 0 ≤ _)⟩)
  dsimp only [Pt.U, Pt.locs, Pt.cells, Pt.slots] at X10 l10 y10 z10 st10 hQ10
  replace l10 := l10.symm; subst l10 y10 z10
  obtain ⟨rfl, N10q, e10⟩ := hQ10
  have N10 := Fr.app N2 N10q
  have k11 : Kq X0 5 T10 (mkF m 27 (oL56 r0 b5) [(.int (20 : Int32)), (.int (0 : Int32)), (.ref b5), (.int (0 : Int32)), (.ref r0)]) := fun t k => k9 t (st10 _ k)
  obtain ⟨T13, h13, L13, X13, e13, N13, K13, V13, st13⟩ := cpA X10 hx hZ hown (ww hw 199 rfl) (ww hw 149 rfl) (ww hw 147 rfl) (ww hw 148 rfl) e10 (V_r0.ext E5) V_b5 (us := (List.take 20 vd)) (sp := (0 : Int32)) (dp := (0 : Int32)) (nn := (20 : Int32)) (Or.inl ⟨rfl, rfl⟩) (by decide) (by decide) (by decide) (by decide) (by decide) (own_tk (by rw [hlv]; decide)) (Nat.le_of_ble_eq_true rfl) N10 g_b5 (g := gK k11) rfl (by rw [hml]; rfl) rfl (hb hby d32_27) (by decide) (W := 0) (by show 2 * 0 + _ ≤ _; exact Nat.le_of_eq rfl) (by decide)
  have Vc13 : Arv Z h13 b5 ka5 .byte (20 : Int32) (own_ins oZ20 (List.take 20 vd) 0 20) (.int (0 : Int32)) := V13
  have k15 : Kq X0 5 T13 (mkF m 32 (oL56 r0 b5) [(.ref b5)]) := fun t k => k11 t (st13 _ (XS.aload X13.here hx rfl (hb hby d32_30) rfl rfl k))
  obtain ⟨fs, hr, hrun, hended, hW, hsame⟩ := X13.leave (v := (some (.ref b5))) (fun h => by rw [Bd.returns] at h; cases h)
  refine ⟨_, _, k15 _ ?_, hrun, hended, _, _, rfl, ?_, ⟨_, rfl⟩, hW, hsame.mono (by decide) (by decide)⟩
  · exact retOut X13 hx Bd.returns rfl (Or.inr (Or.inr (Or.inr (Or.inr ⟨rfl, rfl, rfl⟩)))) (hb hby d32_32) hr
  · show Q32_20_34 Z r0 kb vd h0 n0 _ T13.heap _
    rw [e13]
    exact ⟨b5, rfl, sz_b5, N13, (((Keep.refl h0 []).ext E5).trans K13 (allS (Or.inr sz_b5) all0)), ka5, Vc13⟩
def Q31_20_34 (Z : State) (r0 : Addr) (kb : ClassId) (vd : List Value) (h0 : Heap) (n0 : Nat) (v : Option Value) (h : Heap) (L : List Loc) : Prop := ∃ x, v = some (.ref x) ∧ h0.size ≤ x ∧ Fr n0 L ∧ Keep h0 h [] ∧ ∃ k, Arv Z h x k .byte (20 : Int32) (own_ins oZ20 (List.take 20 vd) 0 20) (.int (0 : Int32))
def oR26 : Room := { frames := 2, cells := 1, slots := 20, locals := 52 }
def oL57 (r0 : Addr) : Array Slot := #[.val (.ref r0), .val (.int (0 : Int32)), .val (.int (20 : Int32))]
theorem rm31_20_34 (l : Launch) (Z : State) (a0 : Array Value) (hw : ∀ d ∈ tables_1, d.before a0 Z = true) (ws : List Jvm.Cond) (r0 : Addr) (kb : ClassId) (vd : List Value) (h0 : Heap) (n0 : Nat) (Z0 : n0 ≤ h0.size) (V_r0 : Arv Z h0 r0 kb .byte (34 : Int32) vd (.int (0 : Int32))) (hlv : vd.length = 34) :
    MetFree l mN19 (head1 (Jvm.Cond.code mN19 jdk_65_method_132_code 3 (some (.array .byte)) :: ws) oR26) (fun a U => a = #[(.ref r0), (.int (0 : Int32)), (.int (20 : Int32))] ∧ Z.Warmed39 U.vm ∧ U.heap = h0) (fun _ _ _ _ _ => True) (fun _ U o U' => ∃ v L, o = .returned v ∧ Q31_20_34 Z r0 kb vd h0 n0 v U'.heap L ∧ FrameEnd U o U' L oR26.cells oR26.slots) := by
  refine MetFree.of_bodySF (plainFor_of_name pn_4) hisR ?_
  intro p e s m args below meth c s₁ Bd hml0 hP hK
  obtain ⟨rfl, hZ, hh⟩ := hP
  have hx := Bd.exec
  have hby := Bd.bytes
  have hml : c.maxLocals = 3 := hml0
  have hown : s.vm.findClass "java/util/Arrays" = some m.cls := findClass_of_methodNamed Bd.named
  have X0 : Stand p l e oR26 s m #[(.ref r0), (.int (0 : Int32)), (.int (20 : Int32))] below meth c s₁ [] 0 0 := Stand.of_body Bd
  have e0 : s₁.heap = h0 := by rw [← hh, Bd.state]; rfl
  have N0 := Fr.nil n0
  have k0 : Kq X0 3 s₁ (mkF m 0 (oL57 r0) []) := fun t k => castTop (ef_31_10_16 m r0 (0 : Int32) (20 : Int32)) k
  have hc1 : (0 : Int32) = (0 : Int32) := by decide
  have k1 : Kq X0 3 s₁ (mkF m 6 (oL57 r0) [(.ref r0), (.int (20 : Int32))]) := fun t k => k0 t (XS.iloadN X0.here hx rfl (hb hby d31_0) rfl (XS.ifNo X0.here hx rfl (hb hby d31_1) rfl ((if0 _ _).trans (teq hc1).2) (XS.iloadN X0.here hx rfl (hb hby d31_4) rfl (XS.aloadN X0.here hx rfl (hb hby d31_5) rfl rfl k))))
  obtain ⟨cl2, Ar2, q2, S2, N2_, H2, G2⟩ := (id V_r0)
  have S2' : cl2.slots.size = 34 := S2
  have L2 : (cl2.slots.size).toInt32 = (34 : Int32) := by rw [S2']; rfl
  have hc7 : ¬ ((20 : Int32) = (34 : Int32)) := by decide
  have k3 : Kq X0 3 s₁ (mkF m 13 (oL57 r0) [(.int (20 : Int32)), (.int (0 : Int32)), (.ref r0)]) := fun t k => k1 t (by
      refine X0.arraylength hx (by rw [e0]; exact Ar2.1) (State.isArrayOf_alike hZ.alike Ar2.2.1) (g := (mkF m 6 (oL57 r0) [(.ref r0), (.int (20 : Int32))])) rfl rfl (hb hby d31_6) _ ?_
      rw [L2]
      show Sg X0 s₁ 7 (oL57 r0) [(.int (34 : Int32)), (.int (20 : Int32))] _
      refine XS.icmpNo X0.here hx rfl (hb hby d31_7) rfl (feq hc7).1 ?_
      show Sg X0 s₁ 10 (oL57 r0) [] _
      refine XS.aloadN X0.here hx rfl (hb hby d31_10) rfl rfl ?_
      show Sg X0 s₁ 11 (oL57 r0) [(.ref r0)] _
      refine XS.iloadN X0.here hx rfl (hb hby d31_11) rfl ?_
      show Sg X0 s₁ 12 (oL57 r0) [(.int (0 : Int32)), (.ref r0)] _
      refine XS.iloadN X0.here hx rfl (hb hby d31_12) rfl ?_
      exact k)
  obtain ⟨_, _, ⟨T4, L4, kq4, n4⟩, -, X4, ⟨Lc4, hQ4, l4, y4, z4⟩, st4⟩ := Jvm.LawKit.callS X0 hx (y := mN18) hown (mw hZ hw 189 rfl) (mw hZ hw 190 rfl) (mw hZ hw 187 rfl) (mw hZ hw 191 rfl) (by decide) (backOf (W := 0) (rm32_20_34 l Z a0 hw [] r0 kb vd h0 n0 Z0 V_r0 hlv) hZ (ww hw 191 rfl) (ww hw 187 rfl) (by decide) (by decide)) (g := gK k3) rfl (by rw [hml]; rfl) (argsL := [(.ref r0), (.int (0 : Int32)), (.int (20 : Int32))]) (rest := []) (lenOf pd_12 rfl) rfl (by show 2 * 0 + _ ≤ _; exact Nat.le_of_eq rfl) (hb hby d31_13) (fun _ _ => ⟨rfl, e0, (by decide : 0 + 1 ≤ _), (by decide : 0 + 20 ≤ _)⟩)
  dsimp only [Pt.U, Pt.locs, Pt.cells, Pt.slots] at X4 l4 y4 z4 st4 hQ4
  replace l4 := l4.symm; subst l4 y4 z4
  obtain ⟨t4, rfl, zt4, N4q, K4, kt4, Vt4⟩ := hQ4
  have N4 := Fr.app N0 N4q
  have sz_t4 : h0.size ≤ t4 := Nat.le_trans (Keep.refl h0 []).1 zt4
  have k5 : Kq X0 3 T4 (mkF m 16 (oL57 r0) [(.ref t4)]) := fun t k => k3 t (st4 _ k)
  obtain ⟨fs, hr, hrun, hended, hW, hsame⟩ := X4.leave (v := (some (.ref t4))) (fun h => by rw [Bd.returns] at h; cases h)
  refine ⟨_, _, k5 _ ?_, hrun, hended, _, _, rfl, ?_, ⟨_, rfl⟩, hW, hsame.mono (by decide) (by decide)⟩
  · exact retOut X4 hx Bd.returns rfl (Or.inr (Or.inr (Or.inr (Or.inr ⟨rfl, rfl, rfl⟩)))) (hb hby d31_16) hr
  · show Q31_20_34 Z r0 kb vd h0 n0 _ T4.heap _
    exact ⟨t4, rfl, sz_t4, N4, ((Keep.refl h0 []).trans K4 all0), kt4, Vt4⟩
def Q29_20_34 (Z : State) (r0 : Addr) (h0 : Heap) (n0 : Nat) (v : Option Value) (h : Heap) (L : List Loc) : Prop := v = some (.int (20 : Int32)) ∧ Fr n0 L ∧ h = h0
theorem rm29_20_34 (l : Launch) (Z : State) (a0 : Array Value) (hw : ∀ d ∈ tables_1, d.before a0 Z = true) (ws : List Jvm.Cond) (r0 : Addr) (h0 : Heap) (n0 : Nat) (Z0 : n0 ≤ h0.size) (F_count_r0 : Fld Z h0 r0 "java/lang/AbstractStringBuilder" "count" "I" (.int (20 : Int32))) :
    MetFree l mN20 (head1 (Jvm.Cond.code mN20 jdk_68_method_6_code 1 (some .int) :: ws) oR2) (fun a U => a = #[(.ref r0)] ∧ Z.Warmed39 U.vm ∧ U.heap = h0) (fun _ _ _ _ _ => True) (fun _ U o U' => ∃ v L, o = .returned v ∧ Q29_20_34 Z r0 h0 n0 v U'.heap L ∧ FrameEnd U o U' L oR2.cells oR2.slots) := by
  refine MetFree.of_bodySF (plainFor_of_name pn_0) hisR ?_
  intro p e s m args below meth c s₁ Bd hml0 hP hK
  obtain ⟨rfl, hZ, hh⟩ := hP
  have hx := Bd.exec
  have hby := Bd.bytes
  have hml : c.maxLocals = 1 := hml0
  have hown : s.vm.findClass "java/lang/AbstractStringBuilder" = some m.cls := findClass_of_methodNamed Bd.named
  have X0 : Stand p l e oR2 s m #[(.ref r0)] below meth c s₁ [] 0 0 := Stand.of_body Bd
  have e0 : s₁.heap = h0 := by rw [← hh, Bd.state]; rfl
  have N0 := Fr.nil n0
  have k0 : Kq X0 1 s₁ (mkF m 0 #[.val (.ref r0)] []) := fun t k => castTop (ef_13 m r0) k
  have k1 : Kq X0 1 s₁ (mkF m 1 #[.val (.ref r0)] [(.ref r0)]) := fun t k => k0 t (XS.aloadN X0.here hx rfl (hb hby d29_0) rfl rfl k)
  obtain ⟨T2, X2, e2, st2⟩ := getF X0 hx hZ hown (host := "") (Or.inl (ww hw 123 rfl)) Via.refl e0 F_count_r0 (g := gK k1) rfl rfl (hb hby d29_1)
  have k3 : Kq X0 1 T2 (mkF m 4 #[.val (.ref r0)] [(.int (20 : Int32))]) := fun t k => k1 t (st2 _ k)
  obtain ⟨fs, hr, hrun, hended, hW, hsame⟩ := X2.leave (v := (some (.int (20 : Int32)))) (fun h => by rw [Bd.returns] at h; cases h)
  refine ⟨_, _, k3 _ ?_, hrun, hended, _, _, rfl, ?_, ⟨_, rfl⟩, hW, hsame.mono (by decide) (by decide)⟩
  · exact retOut X2 hx Bd.returns rfl (Or.inl ⟨rfl, Or.inl rfl, _, rfl⟩) (hb hby d29_4) hr
  · show Q29_20_34 Z r0 h0 n0 _ T2.heap _
    rw [e2]
    exact ⟨rfl, N0, rfl⟩
def Q28_20_34 (Z : State) (r0 : Addr) (h0 : Heap) (n0 : Nat) (v : Option Value) (h : Heap) (L : List Loc) : Prop := v = some (.int (20 : Int32)) ∧ Fr n0 L ∧ h = h0
theorem rm28_20_34 (l : Launch) (Z : State) (a0 : Array Value) (hw : ∀ d ∈ tables_1, d.before a0 Z = true) (ws : List Jvm.Cond) (r0 : Addr) (h0 : Heap) (n0 : Nat) (Z0 : n0 ≤ h0.size) (F_count_r0 : Fld Z h0 r0 "java/lang/AbstractStringBuilder" "count" "I" (.int (20 : Int32))) (E_r0 : Exa Z h0 r0 "java/lang/StringBuilder") :
    MetFree l mN21 (head1 (Jvm.Cond.code mN21 jdk_67_method_93_code 1 (some .int) :: ws) oR16) (fun a U => a = #[(.ref r0)] ∧ Z.Warmed39 U.vm ∧ U.heap = h0) (fun _ _ _ _ _ => True) (fun _ U o U' => ∃ v L, o = .returned v ∧ Q28_20_34 Z r0 h0 n0 v U'.heap L ∧ FrameEnd U o U' L oR16.cells oR16.slots) := by
  refine MetFree.of_bodySF (plainFor_of_name pn_1) hisR ?_
  intro p e s m args below meth c s₁ Bd hml0 hP hK
  obtain ⟨rfl, hZ, hh⟩ := hP
  have hx := Bd.exec
  have hby := Bd.bytes
  have hml : c.maxLocals = 1 := hml0
  have hown : s.vm.findClass "java/lang/StringBuilder" = some m.cls := findClass_of_methodNamed Bd.named
  have X0 : Stand p l e oR16 s m #[(.ref r0)] below meth c s₁ [] 0 0 := Stand.of_body Bd
  have e0 : s₁.heap = h0 := by rw [← hh, Bd.state]; rfl
  have N0 := Fr.nil n0
  have k0 : Kq X0 1 s₁ (mkF m 0 #[.val (.ref r0)] []) := fun t k => castTop (ef_13 m r0) k
  have k1 : Kq X0 1 s₁ (mkF m 1 #[.val (.ref r0)] [(.ref r0)]) := fun t k => k0 t (XS.aloadN X0.here hx rfl (hb hby d28_0) rfl rfl k)
  obtain ⟨_, _, ⟨T2, L2, kq2, n2⟩, -, X2, ⟨Lc2, hQ2, l2, y2, z2⟩, st2⟩ := superBack X0 hx hZ hown (ww hw 178 rfl) (own_same (y := mN20) (ww hw 128 rfl) rfl (ww hw 174 rfl) ⟨by decide, by decide⟩) (ww hw 174 rfl) (ww hw 110 rfl) (by decide) (backOf (W := 0) (rm29_20_34 l Z a0 hw [] r0 h0 n0 Z0 F_count_r0) hZ (ww hw 179 rfl) (ww hw 94 rfl) (by decide) (by decide)) e0 (Ins.self E_r0) (g := gK k1) rfl (by rw [hml]; rfl) (ww hw 179 rfl) (argsL := []) (rest := []) (lenOf pd_8 rfl) rfl (by show 2 * 0 + _ ≤ _; exact Nat.le_of_eq rfl) (hb hby d28_1) (fun _ _ => ⟨rfl, e0, (by decide : 0 + 0 ≤ _), (by decide : 0 + 0 ≤ _)⟩)
  dsimp only [Pt.U, Pt.locs, Pt.cells, Pt.slots] at X2 l2 y2 z2 st2 hQ2
  replace l2 := l2.symm; subst l2 y2 z2
  obtain ⟨rfl, N2q, e2⟩ := hQ2
  have N2 := Fr.app N0 N2q
  have k3 : Kq X0 1 T2 (mkF m 4 #[.val (.ref r0)] [(.int (20 : Int32))]) := fun t k => k1 t (st2.trans k)
  obtain ⟨fs, hr, hrun, hended, hW, hsame⟩ := X2.leave (v := (some (.int (20 : Int32)))) (fun h => by rw [Bd.returns] at h; cases h)
  refine ⟨_, _, k3 _ ?_, hrun, hended, _, _, rfl, ?_, ⟨_, rfl⟩, hW, hsame.mono (by decide) (by decide)⟩
  · exact retOut X2 hx Bd.returns rfl (Or.inl ⟨rfl, Or.inl rfl, _, rfl⟩) (hb hby d28_4) hr
  · show Q28_20_34 Z r0 h0 n0 _ T2.heap _
    rw [e2]
    exact ⟨rfl, N2, rfl⟩
def Q26_20_34 (Z : State) (r0 : Addr) (r1 : Addr) (tb : Addr) (kb : ClassId) (vd : List Value) (G1 : Int32) (h0 : Heap) (n0 : Nat) (v : Option Value) (h : Heap) (L : List Loc) : Prop := v = none ∧ Fr n0 L ∧ Keep h0 h [r0] ∧ ∃ t k, h0.size ≤ t ∧ Exa Z h r0 "java/lang/String" ∧ Fld Z h r0 "java/lang/String" "value" "[B" (.ref t) ∧ Fld Z h r0 "java/lang/String" "coder" "B" (.int (0 : Int32)) ∧ Arv Z h t k .byte (20 : Int32) (own_ins oZ20 (List.take 20 vd) 0 20) (.int (0 : Int32))
def oR27 : Room := { frames := 3, cells := 1, slots := 20, locals := 67 }
def oL58 (r0 : Addr) (r1 : Addr) (tb : Addr) : Array Slot := #[.val (.ref r0), .val (.ref r1), .val .null, .val (.ref tb), .val (.int (20 : Int32))]
theorem rm26_20_34 (l : Launch) (Z : State) (a0 : Array Value) (hw : ∀ d ∈ tables_1, d.before a0 Z = true) (ws : List Jvm.Cond) (r0 : Addr) (r1 : Addr) (tb : Addr) (kb : ClassId) (vd : List Value) (G1 : Int32) (h0 : Heap) (n0 : Nat) (Z0 : n0 ≤ h0.size) (E_r0 : Exa Z h0 r0 "java/lang/String") (F_value_r0 : Fld Z h0 r0 "java/lang/String" "value" "[B" .null) (F_coder_r0 : Fld Z h0 r0 "java/lang/String" "coder" "B" (.int (0 : Int32))) (g_r0 : n0 ≤ r0) (ne_r1_r0 : r1 ≠ r0) (ne_tb_r0 : tb ≠ r0) (F_value_r1 : Fld Z h0 r1 "java/lang/AbstractStringBuilder" "value" "[B" (.ref tb)) (F_coder_r1 : Fld Z h0 r1 "java/lang/AbstractStringBuilder" "coder" "B" (.int (0 : Int32))) (F_count_r1 : Fld Z h0 r1 "java/lang/AbstractStringBuilder" "count" "I" (.int (20 : Int32))) (E_r1 : Exa Z h0 r1 "java/lang/StringBuilder") (V_tb : Arv Z h0 tb kb .byte (34 : Int32) vd (.int (0 : Int32))) (hlv : vd.length = 34) (S_CS : Sta Z Z.heap "java/lang/String" "COMPACT_STRINGS" "Z" (.int G1)) (P5 : ¬ (G1 = (0 : Int32))) (X00 : Old Z n0 h0) :
    MetFree l mN22 (head1 (Jvm.Cond.code mN22 jdk_42_method_150_code 5 none :: ws) oR27) (fun a U => a = #[(.ref r0), (.ref r1), .null] ∧ Z.Warmed39 U.vm ∧ U.heap = h0) (fun _ _ _ _ _ => True) (fun _ U o U' => ∃ v L, o = .returned v ∧ Q26_20_34 Z r0 r1 tb kb vd G1 h0 n0 v U'.heap L ∧ FrameEnd U o U' L oR27.cells oR27.slots) := by
  refine MetFree.of_bodySF (plainFor_of_name pn_2) hisR ?_
  intro p e s m args below meth c s₁ Bd hml0 hP hK
  obtain ⟨rfl, hZ, hh⟩ := hP
  have hx := Bd.exec
  have hby := Bd.bytes
  have hml : c.maxLocals = 5 := hml0
  have hown : s.vm.findClass "java/lang/String" = some m.cls := findClass_of_methodNamed Bd.named
  have hnm := (name_of_methodNamed Bd.named Bd.method).1
  have X0 : Stand p l e oR27 s m #[(.ref r0), (.ref r1), .null] below meth c s₁ [] 0 0 := Stand.of_body Bd
  have e0 : s₁.heap = h0 := by rw [← hh, Bd.state]; rfl
  have N0 := Fr.nil n0
  have k0 : Kq X0 5 s₁ (mkF m 0 (oL42 r0 r1) []) := fun t k => castTop (ef_26_10_16 m r0 r1) k
  have k1 : Kq X0 5 s₁ (mkF m 1 (oL42 r0 r1) [(.ref r0)]) := fun t k => k0 t (XS.aloadN X0.here hx rfl (hb hby d26_0) rfl rfl k)
  obtain ⟨T2, X2, e2, st2⟩ := initO X0 hx hZ hown (ww hw 69 rfl) (ww hw 18 rfl) (ww hw 19 rfl) e0 (g := gK k1) rfl (by rw [hml]; rfl) rfl (hb hby d26_1) (by decide) (W := 0) (by show 2 * 0 + _ ≤ _; exact Nat.le_of_eq rfl) (by decide)
  have k4 : Kq X0 5 T2 (mkF m 5 (oL42 r0 r1) [(.ref r1)]) := fun t k => k1 t (st2 _ (XS.aloadN X2.here hx rfl (hb hby d26_4) rfl rfl k))
  obtain ⟨cq5, kcq5, q5a, q5b, q5c⟩ := isOf hZ e2 E_r1
  obtain ⟨_, _, ⟨T5, L5, kq5, n5⟩, -, X5, ⟨Lc5, hQ5, l5, y5, z5⟩, st5⟩ := X2.virtualBack hx (y := mN15) (z := mN15) hown (mw hZ hw 167 rfl) (mw hZ hw 168 rfl) (notFace_of_selects (args := #[]) (mw hZ hw 170 rfl)) (mw hZ hw 170 rfl) (mw hZ hw 169 rfl) (by decide) (backOf (W := 0) (rm27 l Z a0 hw [] r1 tb h0 n0 Z0 F_value_r1) hZ (ww hw 171 rfl) (ww hw 94 rfl) (by decide) (by decide)) q5a q5c (g := gK k4) rfl (by rw [hml]; rfl) (Steps.refl _) (argsL := []) (rest := []) (lenOf pd_13 rfl) rfl (by show 2 * 0 + _ ≤ _; exact Nat.le_of_eq rfl) (hb hby d26_5) (fun _ _ => ⟨rfl, e2, (by decide : 0 + 0 ≤ _), (by decide : 0 + 0 ≤ _)⟩)
  dsimp only [Pt.U, Pt.locs, Pt.cells, Pt.slots] at X5 l5 y5 z5 st5 hQ5
  replace l5 := l5.symm; subst l5 y5 z5
  obtain ⟨rfl, N5q, e5⟩ := hQ5
  have N5 := Fr.app N0 N5q
  have k7 : Kq X0 5 T5 (mkF m 10 (oL43 r0 r1 tb) [(.ref r1)]) := fun t k => k4 t (st5.trans (XS.astoreN X5.here hx rfl (hb hby d26_8) rfl rfl (l' := (oL43 r0 r1 tb)) rfl (XS.aloadN X5.here hx rfl (hb hby d26_9) rfl rfl k)))
  obtain ⟨cq8, kcq8, q8a, q8b, q8c⟩ := isOf hZ e5 E_r1
  obtain ⟨_, _, ⟨T8, L8, kq8, n8⟩, -, X8, ⟨Lc8, hQ8, l8, y8, z8⟩, st8⟩ := X5.virtualBack hx (y := mN20) (z := mN21) hown (mw hZ hw 172 rfl) (mw hZ hw 173 rfl) (own_nf (args := #[]) (mw hZ hw 128 rfl) rfl) (mw hZ hw 175 rfl) (mw hZ hw 176 rfl) (by decide) (backOf (W := 0) (rm28_20_34 l Z a0 hw [] r1 h0 n0 Z0 F_count_r1 E_r1) hZ (ww hw 177 rfl) (ww hw 86 rfl) (by decide) (by decide)) q8a q8c (g := gK k7) rfl (by rw [hml]; rfl) (Steps.refl _) (argsL := []) (rest := []) (lenOf pd_8 rfl) rfl (by show 2 * 0 + _ ≤ _; exact Nat.le_of_eq rfl) (hb hby d26_10) (fun _ _ => ⟨rfl, e5, (by decide : 0 + 0 ≤ _), (by decide : 0 + 0 ≤ _)⟩)
  dsimp only [Pt.U, Pt.locs, Pt.cells, Pt.slots] at X8 l8 y8 z8 st8 hQ8
  replace l8 := l8.symm; subst l8 y8 z8
  obtain ⟨rfl, N8q, e8⟩ := hQ8
  have N8 := Fr.app N5 N8q
  have k10 : Kq X0 5 T8 (mkF m 16 (oL58 r0 r1 tb) [(.ref r1)]) := fun t k => k7 t (st8.trans (XS.istore X8.here hx rfl (hb hby d26_13) rfl (l' := (oL58 r0 r1 tb)) rfl (XS.aloadN X8.here hx rfl (hb hby d26_15) rfl rfl k)))
  obtain ⟨cq11, kcq11, q11a, q11b, q11c⟩ := isOf hZ e8 E_r1
  obtain ⟨_, _, ⟨T11, L11, kq11, n11⟩, -, X11, ⟨Lc11, hQ11, l11, y11, z11⟩, st11⟩ := X8.virtualBack hx (y := mN16) (z := mN16) hown (mw hZ hw 180 rfl) (mw hZ hw 181 rfl) (notFace_of_selects (args := #[]) (mw hZ hw 183 rfl)) (mw hZ hw 183 rfl) (mw hZ hw 182 rfl) (by decide) (backOf (W := 0) (rm30 l Z a0 hw [] r1 G1 h0 n0 Z0 F_coder_r1 S_CS P5 X00) hZ (ww hw 184 rfl) (ww hw 94 rfl) (by decide) (by decide)) q11a q11c (g := gK k10) rfl (by rw [hml]; rfl) (Steps.refl _) (argsL := []) (rest := []) (lenOf pd_14 rfl) rfl (by show 2 * 0 + _ ≤ _; exact Nat.le_of_eq rfl) (hb hby d26_16) (fun _ _ => ⟨rfl, e8, (by decide : 0 + 0 ≤ _), (by decide : 0 + 0 ≤ _)⟩)
  dsimp only [Pt.U, Pt.locs, Pt.cells, Pt.slots] at X11 l11 y11 z11 st11 hQ11
  replace l11 := l11.symm; subst l11 y11 z11
  obtain ⟨rfl, N11q, e11⟩ := hQ11
  have N11 := Fr.app N8 N11q
  have hc19 : ¬ ((1 : Int32) = (0 : Int32)) := by decide
  have k13 : Kq X0 5 T11 (mkF m 24 (oL58 r0 r1 tb) [(.int (0 : Int32)), (.ref r0)]) := fun t k => k10 t (st11.trans (XS.ifNo X11.here hx rfl (hb hby d26_19) rfl ((if0 _ _).trans (feq hc19).1) (XS.aloadN X11.here hx rfl (hb hby d26_22) rfl rfl (XS.iconst X11.here hx rfl (hb hby d26_23) k))))
  obtain ⟨T14, h14, X14, e14, W14, st14⟩ := putFN X11 hx hZ hown (ww hw 81 rfl) Via.refl e11 F_coder_r0 E_r0 (Or.inr ⟨(ww hw 8 rfl), rfl, hnm⟩) (ww hw 5 rfl) (ty := .byte) (v' := (.int (0 : Int32))) (by decide) rfl rfl (g := gK k13) rfl rfl (hb hby d26_24)
  have fc15 := (F_value_r0.other W14 (Or.inr (slot_ne (Or.inr (ww hw 7 rfl)) (Or.inr (ww hw 8 rfl)) (by decide) (t := (.array .byte)) (t' := .byte) (by decide) (by decide))))
  have N14 := Fr.snoc X14 N11 g_r0
  have Zs14 : n0 ≤ h14.size := Nat.le_trans Z0 (Keep.of_wr W14).1
  have k17 : Kq X0 5 T14 (mkF m 32 (oL58 r0 r1 tb) [(.int (20 : Int32)), (.int (0 : Int32)), (.ref tb), (.ref r0)]) := fun t k => k13 t (st14 _ (XS.aloadN X14.here hx rfl (hb hby d26_27) rfl rfl (XS.aloadN X14.here hx rfl (hb hby d26_28) rfl rfl (XS.iconst X14.here hx rfl (hb hby d26_29) (XS.iload X14.here hx rfl (hb hby d26_30) rfl k)))))
  obtain ⟨_, _, ⟨T18, L18, kq18, n18⟩, -, X18, ⟨Lc18, hQ18, l18, y18, z18⟩, st18⟩ := Jvm.LawKit.callS X14 hx (y := mN19) hown (mw hZ hw 185 rfl) (mw hZ hw 186 rfl) (mw hZ hw 187 rfl) (mw hZ hw 188 rfl) (by decide) (backOf (W := 1) (rm31_20_34 l Z a0 hw [] tb kb vd h14 n0 Zs14 (V_tb.other W14 ne_tb_r0) hlv) hZ (ww hw 188 rfl) (ww hw 187 rfl) (by decide) (by decide)) (g := gK k17) rfl (by rw [hml]; rfl) (argsL := [(.ref tb), (.int (0 : Int32)), (.int (20 : Int32))]) (rest := [(.ref r0)]) (lenOf pd_12 rfl) rfl (by show 2 * 0 + _ ≤ _; exact Nat.le_of_eq rfl) (hb hby d26_32) (fun _ _ => ⟨rfl, e14, (by decide : 0 + 1 ≤ _), (by decide : 0 + 20 ≤ _)⟩)
  dsimp only [Pt.U, Pt.locs, Pt.cells, Pt.slots] at X18 l18 y18 z18 st18 hQ18
  replace l18 := l18.symm; subst l18 y18 z18
  obtain ⟨t18, rfl, zt18, N18q, K18, kt18, Vt18⟩ := hQ18
  have N18 := Fr.app N14 N18q
  have ne_r0_t18 : r0 ≠ t18 := Nat.ne_of_lt (Nat.lt_of_lt_of_le (E_r0.wr W14).lt zt18)
  have sz_t18 : h0.size ≤ t18 := Nat.le_trans ((Keep.refl h0 [r0]).wr W14 (Or.inl (own_wi 0 rfl))).1 zt18
  have k19 : Kq X0 5 T18 (mkF m 35 (oL58 r0 r1 tb) [(.ref t18), (.ref r0)]) := fun t k => k17 t (st18 _ k)
  obtain ⟨T20, h20, X20, e20, W20, st20⟩ := putF X18 hx hZ hown (host := "") (Or.inl (ww hw 82 rfl)) Via.refl rfl (fc15.keep K18 nin0) ((E_r0.wr W14).keep K18) (Or.inr ⟨(ww hw 7 rfl), rfl, hnm⟩) (ww hw 5 rfl) (ty := (.array .byte)) (by decide) rfl rfl (g := gK k19) rfl rfl (hb hby d26_35)
  have fc21 := (((F_coder_r0.same W14).keep K18 nin0).other W20 (Or.inr (slot_ne (Or.inr (ww hw 8 rfl)) (Or.inr (ww hw 7 rfl)) (by decide) (t := .byte) (t' := (.array .byte)) (by decide) (by decide))))
  have N20 := Fr.snoc X20 N18 g_r0
  have k23 : Kq X0 5 T20 (mkF m 97 (oL58 r0 r1 tb) []) := fun t k => k19 t (st20 _ (XS.goto X20.here hx rfl (pc0 := 38) (pc' := 97) rfl (hb hby d26_38) (by decide) (by decide) k))
  obtain ⟨fs, hr, hrun, hended, hW, hsame⟩ := X20.leave (v := none) (fun _ => rfl)
  refine ⟨_, _, k23 _ ?_, hrun, hended, _, _, rfl, ?_, ⟨_, rfl⟩, hW, hsame.mono (by decide) (by decide)⟩
  · exact X20.returnOut hx Bd.returns (hb hby d26_97) hr
  · show Q26_20_34 Z r0 r1 tb kb vd G1 h0 n0 _ T20.heap _
    rw [e20]
    exact ⟨rfl, N20, ((((Keep.refl h0 [r0]).wr W14 (Or.inl (own_wi 0 rfl))).trans K18 all0).wr W20 (Or.inl (own_wi 0 rfl))), t18, kt18, sz_t18, (((E_r0.wr W14).keep K18).wr W20), ((fc15.keep K18 nin0).same W20), fc21, (Vt18.other W20 ne_r0_t18.symm)⟩
def Q25_20_34 (Z : State) (r0 : Addr) (r1 : Addr) (tb : Addr) (kb : ClassId) (vd : List Value) (G1 : Int32) (h0 : Heap) (n0 : Nat) (v : Option Value) (h : Heap) (L : List Loc) : Prop := v = none ∧ Fr n0 L ∧ Keep h0 h [r0] ∧ ∃ t k, h0.size ≤ t ∧ Exa Z h r0 "java/lang/String" ∧ Fld Z h r0 "java/lang/String" "value" "[B" (.ref t) ∧ Fld Z h r0 "java/lang/String" "coder" "B" (.int (0 : Int32)) ∧ Arv Z h t k .byte (20 : Int32) (own_ins oZ20 (List.take 20 vd) 0 20) (.int (0 : Int32))
def oR28 : Room := { frames := 4, cells := 1, slots := 20, locals := 83 }
theorem rm25_20_34 (l : Launch) (Z : State) (a0 : Array Value) (hw : ∀ d ∈ tables_1, d.before a0 Z = true) (ws : List Jvm.Cond) (r0 : Addr) (r1 : Addr) (tb : Addr) (kb : ClassId) (vd : List Value) (G1 : Int32) (h0 : Heap) (n0 : Nat) (Z0 : n0 ≤ h0.size) (E_r0 : Exa Z h0 r0 "java/lang/String") (F_value_r0 : Fld Z h0 r0 "java/lang/String" "value" "[B" .null) (F_coder_r0 : Fld Z h0 r0 "java/lang/String" "coder" "B" (.int (0 : Int32))) (g_r0 : n0 ≤ r0) (ne_r1_r0 : r1 ≠ r0) (ne_tb_r0 : tb ≠ r0) (F_value_r1 : Fld Z h0 r1 "java/lang/AbstractStringBuilder" "value" "[B" (.ref tb)) (F_coder_r1 : Fld Z h0 r1 "java/lang/AbstractStringBuilder" "coder" "B" (.int (0 : Int32))) (F_count_r1 : Fld Z h0 r1 "java/lang/AbstractStringBuilder" "count" "I" (.int (20 : Int32))) (E_r1 : Exa Z h0 r1 "java/lang/StringBuilder") (V_tb : Arv Z h0 tb kb .byte (34 : Int32) vd (.int (0 : Int32))) (hlv : vd.length = 34) (S_CS : Sta Z Z.heap "java/lang/String" "COMPACT_STRINGS" "Z" (.int G1)) (P5 : ¬ (G1 = (0 : Int32))) (X00 : Old Z n0 h0) :
    MetFree l mN23 (head1 (Jvm.Cond.code mN23 jdk_42_method_53_code 2 none :: ws) oR28) (fun a U => a = #[(.ref r0), (.ref r1)] ∧ Z.Warmed39 U.vm ∧ U.heap = h0) (fun _ _ _ _ _ => True) (fun _ U o U' => ∃ v L, o = .returned v ∧ Q25_20_34 Z r0 r1 tb kb vd G1 h0 n0 v U'.heap L ∧ FrameEnd U o U' L oR28.cells oR28.slots) := by
  refine MetFree.of_bodySF (plainFor_of_name pn_2) hisR ?_
  intro p e s m args below meth c s₁ Bd hml0 hP hK
  obtain ⟨rfl, hZ, hh⟩ := hP
  have hx := Bd.exec
  have hby := Bd.bytes
  have hml : c.maxLocals = 2 := hml0
  have hown : s.vm.findClass "java/lang/String" = some m.cls := findClass_of_methodNamed Bd.named
  have X0 : Stand p l e oR28 s m #[(.ref r0), (.ref r1)] below meth c s₁ [] 0 0 := Stand.of_body Bd
  have e0 : s₁.heap = h0 := by rw [← hh, Bd.state]; rfl
  have N0 := Fr.nil n0
  have k0 : Kq X0 2 s₁ (mkF m 0 (oL1 r0 r1) []) := fun t k => castTop (ef_21 m r0 r1) k
  have k1 : Kq X0 2 s₁ (mkF m 3 (oL1 r0 r1) [.null, (.ref r1), (.ref r0)]) := fun t k => k0 t (XS.aloadN X0.here hx rfl (hb hby d25_0) rfl rfl (XS.aloadN X0.here hx rfl (hb hby d25_1) rfl rfl (XS.aconstNull X0.here hx rfl (hb hby d25_2) k)))
  obtain ⟨_, _, ⟨T2, L2, kq2, n2⟩, -, X2, ⟨Lc2, hQ2, l2, y2, z2⟩, st2⟩ := X0.specialBack hx (y := mN22) rfl hown (mw hZ hw 164 rfl) (mw hZ hw 165 rfl) (mw hZ hw 166 rfl) (by decide) (backOf (W := 0) (rm26_20_34 l Z a0 hw [] r0 r1 tb kb vd G1 h0 n0 Z0 E_r0 F_value_r0 F_coder_r0 g_r0 ne_r1_r0 ne_tb_r0 F_value_r1 F_coder_r1 F_count_r1 E_r1 V_tb hlv S_CS P5 X00) hZ (ww hw 166 rfl) (ww hw 4 rfl) (by decide) (by decide)) (g := gK k1) rfl (by rw [hml]; rfl) (Steps.refl _) (a := r0) (argsL := [(.ref r1), .null]) (rest := []) (lenOf pd_15 rfl) rfl (by show 2 * 0 + _ ≤ _; exact Nat.le_of_eq rfl) (hb hby d25_3) (fun _ _ => ⟨rfl, e0, (by decide : 0 + 1 ≤ _), (by decide : 0 + 20 ≤ _)⟩)
  dsimp only [Pt.U, Pt.locs, Pt.cells, Pt.slots] at X2 l2 y2 z2 st2 hQ2
  replace l2 := l2.symm; subst l2 y2 z2
  obtain ⟨rfl, N2q, K2, t2, kt2, zt2, Ex2, Fx2_0, Fx2_1, Vt2⟩ := hQ2
  have N2 := Fr.app N0 N2q
  have sz_t2 : h0.size ≤ t2 := Nat.le_trans (Keep.refl h0 [r0]).1 zt2
  have k3 : Kq X0 2 T2 (mkF m 6 (oL1 r0 r1) []) := fun t k => k1 t (st2.trans k)
  obtain ⟨fs, hr, hrun, hended, hW, hsame⟩ := X2.leave (v := none) (fun _ => rfl)
  refine ⟨_, _, k3 _ ?_, hrun, hended, _, _, rfl, ?_, ⟨_, rfl⟩, hW, hsame.mono (by decide) (by decide)⟩
  · exact X2.returnOut hx Bd.returns (hb hby d25_6) hr
  · show Q25_20_34 Z r0 r1 tb kb vd G1 h0 n0 _ T2.heap _
    exact ⟨rfl, N2, ((Keep.refl h0 [r0]).trans K2 (allS (Or.inl (own_wi 0 rfl)) all0)), t2, kt2, sz_t2, Ex2, Fx2_0, Fx2_1, Vt2⟩
def Q24_20_34 (Z : State) (r0 : Addr) (tb : Addr) (kb : ClassId) (vd : List Value) (G1 : Int32) (h0 : Heap) (n0 : Nat) (v : Option Value) (h : Heap) (L : List Loc) : Prop := ∃ x t k, v = some (.ref x) ∧ h0.size ≤ x ∧ h0.size ≤ t ∧ Fr n0 L ∧ Keep h0 h [] ∧ Exa Z h x "java/lang/String" ∧ Fld Z h x "java/lang/String" "value" "[B" (.ref t) ∧ Fld Z h x "java/lang/String" "coder" "B" (.int (0 : Int32)) ∧ Arv Z h t k .byte (20 : Int32) (own_ins oZ20 (List.take 20 vd) 0 20) (.int (0 : Int32))
def oR29 : Room := { frames := 5, cells := 2, slots := 24, locals := 97 }
theorem rm24_20_34 (l : Launch) (Z : State) (a0 : Array Value) (hw : ∀ d ∈ tables_1, d.before a0 Z = true) (ws : List Jvm.Cond) (r0 : Addr) (tb : Addr) (kb : ClassId) (vd : List Value) (G1 : Int32) (h0 : Heap) (n0 : Nat) (Z0 : n0 ≤ h0.size) (F_value_r0 : Fld Z h0 r0 "java/lang/AbstractStringBuilder" "value" "[B" (.ref tb)) (F_coder_r0 : Fld Z h0 r0 "java/lang/AbstractStringBuilder" "coder" "B" (.int (0 : Int32))) (F_count_r0 : Fld Z h0 r0 "java/lang/AbstractStringBuilder" "count" "I" (.int (20 : Int32))) (E_r0 : Exa Z h0 r0 "java/lang/StringBuilder") (V_tb : Arv Z h0 tb kb .byte (34 : Int32) vd (.int (0 : Int32))) (hlv : vd.length = 34) (S_CS : Sta Z Z.heap "java/lang/String" "COMPACT_STRINGS" "Z" (.int G1)) (P5 : ¬ (G1 = (0 : Int32))) (X00 : Old Z n0 h0) :
    MetFree l mN24 (head1 (Jvm.Cond.code mN24 jdk_67_method_42_code 1 (some (.object "java/lang/String")) :: ws) oR29) (fun a U => a = #[(.ref r0)] ∧ Z.Warmed39 U.vm ∧ U.heap = h0) (fun _ _ _ _ _ => True) (fun _ U o U' => ∃ v L, o = .returned v ∧ Q24_20_34 Z r0 tb kb vd G1 h0 n0 v U'.heap L ∧ FrameEnd U o U' L oR29.cells oR29.slots) := by
  refine MetFree.of_bodySF (plainFor_of_name pn_1) hisR ?_
  intro p e s m args below meth c s₁ Bd hml0 hP hK
  obtain ⟨rfl, hZ, hh⟩ := hP
  have hx := Bd.exec
  have hby := Bd.bytes
  have hml : c.maxLocals = 1 := hml0
  have hown : s.vm.findClass "java/lang/StringBuilder" = some m.cls := findClass_of_methodNamed Bd.named
  have X0 : Stand p l e oR29 s m #[(.ref r0)] below meth c s₁ [] 0 0 := Stand.of_body Bd
  have e0 : s₁.heap = h0 := by rw [← hh, Bd.state]; rfl
  have N0 := Fr.nil n0
  have k0 : Kq X0 1 s₁ (mkF m 0 #[.val (.ref r0)] []) := fun t k => castTop (ef_13 m r0) k
  obtain ⟨T1, h1, X1, e1, E1, A1, D1, -, st1⟩ := newO X0 hx hZ hown (ww hw 160 rfl) (ww hw 5 rfl) (ww hw 4 rfl) e0 (g := gK k0) rfl (hb hby d24_0) (by decide) (by decide)
  obtain ⟨b1, g1⟩ : ∃ z, z = h0.size := ⟨_, rfl⟩
  rw [← g1] at A1 D1 st1
  have ne_r0_b1 : r0 ≠ b1 := Nat.ne_of_lt (Nat.lt_of_lt_of_le F_value_r0.lt (Nat.le_of_eq g1.symm))
  have ne_tb_b1 : tb ≠ b1 := Nat.ne_of_lt (Nat.lt_of_lt_of_le V_tb.lt (Nat.le_of_eq g1.symm))
  have sz_b1 : h0.size ≤ b1 := Nat.le_trans (Keep.refl h0 []).1 (Nat.le_of_eq g1.symm)
  have F_value_b1 : Fld Z h1 b1 "java/lang/String" "value" "[B" .null := D1 (Or.inr (ww hw 7 rfl)) (ty := (.array .byte)) (by decide)
  have F_coder_b1 : Fld Z h1 b1 "java/lang/String" "coder" "B" (.int (0 : Int32)) := D1 (Or.inr (ww hw 8 rfl)) (ty := .byte) (by decide)
  have g_b1 : n0 ≤ b1 := Nat.le_trans Z0 (Nat.le_of_eq g1.symm)
  have Zs1 : n0 ≤ h1.size := Nat.le_trans Z0 E1.1
  have k3 : Kq X0 1 T1 (mkF m 5 #[.val (.ref r0)] [(.ref r0), (.ref b1), (.ref b1)]) := fun t k => k0 t (st1 _ (XS.dup X1.here hx rfl (hb hby d24_3) rfl rfl (XS.aloadN X1.here hx rfl (hb hby d24_4) rfl rfl k)))
  obtain ⟨_, _, ⟨T4, L4, kq4, n4⟩, -, X4, ⟨Lc4, hQ4, l4, y4, z4⟩, st4⟩ := X1.specialBack hx (y := mN23) rfl hown (mw hZ hw 161 rfl) (mw hZ hw 162 rfl) (mw hZ hw 163 rfl) (by decide) (backOf (W := 1) (rm25_20_34 l Z a0 hw [] b1 r0 tb kb vd G1 h1 n0 Zs1 A1 F_value_b1 F_coder_b1 g_b1 ne_r0_b1 ne_tb_b1 (F_value_r0.ext E1) (F_coder_r0.ext E1) (F_count_r0.ext E1) (E_r0.ext E1) (V_tb.ext E1) hlv S_CS P5 (X00.ext E1)) hZ (ww hw 163 rfl) (ww hw 4 rfl) (by decide) (by decide)) (g := gK k3) rfl (by rw [hml]; rfl) (Steps.refl _) (a := b1) (argsL := [(.ref r0)]) (rest := [(.ref b1)]) (lenOf pd_16 rfl) rfl (by show 2 * 0 + _ ≤ _; exact Nat.le_of_eq rfl) (hb hby d24_5) (fun _ _ => ⟨rfl, e1, (by decide : 1 + 1 ≤ _), (by decide : 4 + 20 ≤ _)⟩)
  dsimp only [Pt.U, Pt.locs, Pt.cells, Pt.slots] at X4 l4 y4 z4 st4 hQ4
  replace l4 := l4.symm; subst l4 y4 z4
  obtain ⟨rfl, N4q, K4, t4, kt4, zt4, Ex4, Fx4_0, Fx4_1, Vt4⟩ := hQ4
  have N4 := Fr.app N0 N4q
  have sz_t4 : h0.size ≤ t4 := Nat.le_trans ((Keep.refl h0 []).ext E1).1 zt4
  have k5 : Kq X0 1 T4 (mkF m 8 #[.val (.ref r0)] [(.ref b1)]) := fun t k => k3 t (st4.trans k)
  obtain ⟨fs, hr, hrun, hended, hW, hsame⟩ := X4.leave (v := (some (.ref b1))) (fun h => by rw [Bd.returns] at h; cases h)
  refine ⟨_, _, k5 _ ?_, hrun, hended, _, _, rfl, ?_, ⟨_, rfl⟩, hW, hsame.mono (by decide) (by decide)⟩
  · exact retOut X4 hx Bd.returns rfl (Or.inr (Or.inr (Or.inr (Or.inr ⟨rfl, rfl, rfl⟩)))) (hb hby d24_8) hr
  · show Q24_20_34 Z r0 tb kb vd G1 h0 n0 _ T4.heap _
    exact ⟨b1, t4, kt4, rfl, sz_b1, sz_t4, N4, (((Keep.refl h0 []).ext E1).trans K4 (allS (Or.inr sz_b1) all0)), Ex4, Fx4_0, Fx4_1, Vt4⟩
def oC2 : ByteArray := prog_29_method_2_code
theorem d2_0 : decode oC2 0 = .ok (.aload_n 0, 1) := by decide +kernel
theorem d2_1 : decode oC2 1 = .ok (.invokespecial 7, 3) := by decide +kernel
theorem d2_4 : decode oC2 4 = .ok (.aload_n 0, 1) := by decide +kernel
theorem d2_5 : decode oC2 5 = .ok (.aload_n 1, 1) := by decide +kernel
theorem d2_6 : decode oC2 6 = .ok (.putfield 12, 3) := by decide +kernel
theorem d2_9 : decode oC2 9 = .ok (.aload_n 0, 1) := by decide +kernel
theorem d2_10 : decode oC2 10 = .ok (.aload_n 2, 1) := by decide +kernel
theorem d2_11 : decode oC2 11 = .ok (.putfield 16, 3) := by decide +kernel
theorem d2_14 : decode oC2 14 = .ok (.aload_n 0, 1) := by decide +kernel
theorem d2_15 : decode oC2 15 = .ok (.iload_n 3, 1) := by decide +kernel
theorem d2_16 : decode oC2 16 = .ok (.putfield 19, 3) := by decide +kernel
theorem d2_19 : decode oC2 19 = .ok (.aload_n 0, 1) := by decide +kernel
theorem d2_20 : decode oC2 20 = .ok (.aload 4, 2) := by decide +kernel
theorem d2_22 : decode oC2 22 = .ok (.putfield 23, 3) := by decide +kernel
theorem d2_25 : decode oC2 25 = .ok (.aload_n 0, 1) := by decide +kernel
theorem d2_26 : decode oC2 26 = .ok (.aload 5, 2) := by decide +kernel
theorem d2_28 : decode oC2 28 = .ok (.putfield 26, 3) := by decide +kernel
theorem d2_31 : decode oC2 31 = .ok (.return_, 1) := by decide +kernel
theorem ef_2 (m : MethodId) (x0 : Addr) (x1 : Addr) (x3 : Int32) (x4 : Addr) : entryFrame m #[(.ref x0), (.ref x1), .null, (.int x3), (.ref x4), .null] 6 = mkF m 0 #[.val (.ref x0), .val (.ref x1), .val .null, .val (.int x3), .val (.ref x4), .val .null] [] := by first | (simp [entryFrame, mkF, argsToLocals, Value.category]; done) | rfl
theorem pn_5 : plainName "com/example/covenantry/covenantry/Figure" = true := by first | (simp [plainName, overriddenIn]; done) | decide +kernel
def Q2 (Z : State) (r0 : Addr) (r1 : Addr) (r4 : Addr) (h0 : Heap) (n0 : Nat) (v : Option Value) (h : Heap) (L : List Loc) : Prop := v = none ∧ Fr n0 L ∧ Keep h0 h [r0] ∧ Exa Z h r0 "com/example/covenantry/covenantry/Figure" ∧ Fld Z h r0 "com/example/covenantry/covenantry/Figure" "value" "Ljava/lang/String;" (.ref r1) ∧ Fld Z h r0 "com/example/covenantry/covenantry/Figure" "section" "Ljava/lang/String;" .null ∧ Fld Z h r0 "com/example/covenantry/covenantry/Figure" "line" "I" (.int (1 : Int32)) ∧ Fld Z h r0 "com/example/covenantry/covenantry/Figure" "text" "Ljava/lang/String;" (.ref r4) ∧ Fld Z h r0 "com/example/covenantry/covenantry/Figure" "derivedFrom" "Ljava/lang/String;" .null
def mN25 : MethodName := ⟨"com/example/covenantry/covenantry/Figure", "<init>", "(Ljava/lang/String;Ljava/lang/String;ILjava/lang/String;Ljava/lang/String;)V"⟩
def oL59 (r0 : Addr) (r1 : Addr) (r4 : Addr) : Array Slot := #[.val (.ref r0), .val (.ref r1), .val .null, .val (.int (1 : Int32)), .val (.ref r4), .val .null]
theorem rm2 (l : Launch) (Z : State) (a0 : Array Value) (hw : ∀ d ∈ tables_1, d.before a0 Z = true) (ws : List Jvm.Cond) (r0 : Addr) (r1 : Addr) (r4 : Addr) (h0 : Heap) (n0 : Nat) (Z0 : n0 ≤ h0.size) (F_value_r0 : Fld Z h0 r0 "com/example/covenantry/covenantry/Figure" "value" "Ljava/lang/String;" .null) (F_section_r0 : Fld Z h0 r0 "com/example/covenantry/covenantry/Figure" "section" "Ljava/lang/String;" .null) (F_line_r0 : Fld Z h0 r0 "com/example/covenantry/covenantry/Figure" "line" "I" (.int (0 : Int32))) (F_text_r0 : Fld Z h0 r0 "com/example/covenantry/covenantry/Figure" "text" "Ljava/lang/String;" .null) (F_derivedFrom_r0 : Fld Z h0 r0 "com/example/covenantry/covenantry/Figure" "derivedFrom" "Ljava/lang/String;" .null) (E_r0 : Exa Z h0 r0 "com/example/covenantry/covenantry/Figure") (g_r0 : n0 ≤ r0) :
    MetFree l mN25 (head1 (Jvm.Cond.code mN25 prog_29_method_2_code 6 none :: ws) oR16) (fun a U => a = #[(.ref r0), (.ref r1), .null, (.int (1 : Int32)), (.ref r4), .null] ∧ Z.Warmed39 U.vm ∧ U.heap = h0) (fun _ _ _ _ _ => True) (fun _ U o U' => ∃ v L, o = .returned v ∧ Q2 Z r0 r1 r4 h0 n0 v U'.heap L ∧ FrameEnd U o U' L oR16.cells oR16.slots) := by
  refine MetFree.of_bodySF (plainFor_of_name pn_5) hisR ?_
  intro p e s m args below meth c s₁ Bd hml0 hP hK
  obtain ⟨rfl, hZ, hh⟩ := hP
  have hx := Bd.exec
  have hby := Bd.bytes
  have hml : c.maxLocals = 6 := hml0
  have hown : s.vm.findClass "com/example/covenantry/covenantry/Figure" = some m.cls := findClass_of_methodNamed Bd.named
  have hnm := (name_of_methodNamed Bd.named Bd.method).1
  have X0 : Stand p l e oR16 s m #[(.ref r0), (.ref r1), .null, (.int (1 : Int32)), (.ref r4), .null] below meth c s₁ [] 0 0 := Stand.of_body Bd
  have e0 : s₁.heap = h0 := by rw [← hh, Bd.state]; rfl
  have N0 := Fr.nil n0
  have k0 : Kq X0 6 s₁ (mkF m 0 (oL59 r0 r1 r4) []) := fun t k => castTop (ef_2 m r0 r1 (1 : Int32) r4) k
  have k1 : Kq X0 6 s₁ (mkF m 1 (oL59 r0 r1 r4) [(.ref r0)]) := fun t k => k0 t (XS.aloadN X0.here hx rfl (hb hby d2_0) rfl rfl k)
  obtain ⟨T2, X2, e2, st2⟩ := initO X0 hx hZ hown (ww hw 17 rfl) (ww hw 18 rfl) (ww hw 19 rfl) e0 (g := gK k1) rfl (by rw [hml]; rfl) rfl (hb hby d2_1) (by decide) (W := 0) (by show 2 * 0 + _ ≤ _; exact Nat.le_of_eq rfl) (by decide)
  have k4 : Kq X0 6 T2 (mkF m 6 (oL59 r0 r1 r4) [(.ref r1), (.ref r0)]) := fun t k => k1 t (st2 _ (XS.aloadN X2.here hx rfl (hb hby d2_4) rfl rfl (XS.aloadN X2.here hx rfl (hb hby d2_5) rfl rfl k)))
  obtain ⟨T5, h5, X5, e5, W5, st5⟩ := putF X2 hx hZ hown (host := "") (Or.inl (ww hw 20 rfl)) Via.refl e2 F_value_r0 E_r0 (Or.inr ⟨(ww hw 21 rfl), rfl, hnm⟩) (ww hw 1 rfl) (ty := (.object "java/lang/String")) (by decide) rfl rfl (g := gK k4) rfl rfl (hb hby d2_6)
  have fc6 := (F_section_r0.other W5 (Or.inr (slot_ne (Or.inr (ww hw 23 rfl)) (Or.inr (ww hw 21 rfl)) (by decide) (t := (.object "java/lang/String")) (t' := (.object "java/lang/String")) (by decide) (by decide))))
  have fc7 := (F_line_r0.other W5 (Or.inr (slot_ne (Or.inr (ww hw 25 rfl)) (Or.inr (ww hw 21 rfl)) (by decide) (t := .int) (t' := (.object "java/lang/String")) (by decide) (by decide))))
  have fc8 := (F_text_r0.other W5 (Or.inr (slot_ne (Or.inr (ww hw 27 rfl)) (Or.inr (ww hw 21 rfl)) (by decide) (t := (.object "java/lang/String")) (t' := (.object "java/lang/String")) (by decide) (by decide))))
  have fc9 := (F_derivedFrom_r0.other W5 (Or.inr (slot_ne (Or.inr (ww hw 29 rfl)) (Or.inr (ww hw 21 rfl)) (by decide) (t := (.object "java/lang/String")) (t' := (.object "java/lang/String")) (by decide) (by decide))))
  have N5 := Fr.snoc X5 N0 g_r0
  have k11 : Kq X0 6 T5 (mkF m 11 (oL59 r0 r1 r4) [.null, (.ref r0)]) := fun t k => k4 t (st5 _ (XS.aloadN X5.here hx rfl (hb hby d2_9) rfl rfl (XS.aloadN X5.here hx rfl (hb hby d2_10) rfl rfl k)))
  obtain ⟨T12, h12, X12, e12, W12, st12⟩ := putF X5 hx hZ hown (host := "") (Or.inl (ww hw 22 rfl)) Via.refl e5 fc6 (E_r0.wr W5) (Or.inr ⟨(ww hw 23 rfl), rfl, hnm⟩) (ww hw 1 rfl) (ty := (.object "java/lang/String")) (by decide) rfl rfl (g := gK k11) rfl rfl (hb hby d2_11)
  have fc13 := ((F_value_r0.same W5).other W12 (Or.inr (slot_ne (Or.inr (ww hw 21 rfl)) (Or.inr (ww hw 23 rfl)) (by decide) (t := (.object "java/lang/String")) (t' := (.object "java/lang/String")) (by decide) (by decide))))
  have fc14 := (fc7.other W12 (Or.inr (slot_ne (Or.inr (ww hw 25 rfl)) (Or.inr (ww hw 23 rfl)) (by decide) (t := .int) (t' := (.object "java/lang/String")) (by decide) (by decide))))
  have fc15 := (fc8.other W12 (Or.inr (slot_ne (Or.inr (ww hw 27 rfl)) (Or.inr (ww hw 23 rfl)) (by decide) (t := (.object "java/lang/String")) (t' := (.object "java/lang/String")) (by decide) (by decide))))
  have fc16 := (fc9.other W12 (Or.inr (slot_ne (Or.inr (ww hw 29 rfl)) (Or.inr (ww hw 23 rfl)) (by decide) (t := (.object "java/lang/String")) (t' := (.object "java/lang/String")) (by decide) (by decide))))
  have N12 := Fr.snoc X12 N5 g_r0
  have k18 : Kq X0 6 T12 (mkF m 16 (oL59 r0 r1 r4) [(.int (1 : Int32)), (.ref r0)]) := fun t k => k11 t (st12 _ (XS.aloadN X12.here hx rfl (hb hby d2_14) rfl rfl (XS.iloadN X12.here hx rfl (hb hby d2_15) rfl k)))
  obtain ⟨T19, h19, X19, e19, W19, st19⟩ := putF X12 hx hZ hown (host := "") (Or.inl (ww hw 24 rfl)) Via.refl e12 fc14 ((E_r0.wr W5).wr W12) (Or.inr ⟨(ww hw 25 rfl), rfl, hnm⟩) (ww hw 1 rfl) (ty := .int) (by decide) rfl rfl (g := gK k18) rfl rfl (hb hby d2_16)
  have fc20 := (fc13.other W19 (Or.inr (slot_ne (Or.inr (ww hw 21 rfl)) (Or.inr (ww hw 25 rfl)) (by decide) (t := (.object "java/lang/String")) (t' := .int) (by decide) (by decide))))
  have fc21 := ((fc6.same W12).other W19 (Or.inr (slot_ne (Or.inr (ww hw 23 rfl)) (Or.inr (ww hw 25 rfl)) (by decide) (t := (.object "java/lang/String")) (t' := .int) (by decide) (by decide))))
  have fc22 := (fc15.other W19 (Or.inr (slot_ne (Or.inr (ww hw 27 rfl)) (Or.inr (ww hw 25 rfl)) (by decide) (t := (.object "java/lang/String")) (t' := .int) (by decide) (by decide))))
  have fc23 := (fc16.other W19 (Or.inr (slot_ne (Or.inr (ww hw 29 rfl)) (Or.inr (ww hw 25 rfl)) (by decide) (t := (.object "java/lang/String")) (t' := .int) (by decide) (by decide))))
  have N19 := Fr.snoc X19 N12 g_r0
  have k25 : Kq X0 6 T19 (mkF m 22 (oL59 r0 r1 r4) [(.ref r4), (.ref r0)]) := fun t k => k18 t (st19 _ (XS.aloadN X19.here hx rfl (hb hby d2_19) rfl rfl (XS.aload X19.here hx rfl (hb hby d2_20) rfl rfl k)))
  obtain ⟨T26, h26, X26, e26, W26, st26⟩ := putF X19 hx hZ hown (host := "") (Or.inl (ww hw 26 rfl)) Via.refl e19 fc22 (((E_r0.wr W5).wr W12).wr W19) (Or.inr ⟨(ww hw 27 rfl), rfl, hnm⟩) (ww hw 1 rfl) (ty := (.object "java/lang/String")) (by decide) rfl rfl (g := gK k25) rfl rfl (hb hby d2_22)
  have fc27 := (fc20.other W26 (Or.inr (slot_ne (Or.inr (ww hw 21 rfl)) (Or.inr (ww hw 27 rfl)) (by decide) (t := (.object "java/lang/String")) (t' := (.object "java/lang/String")) (by decide) (by decide))))
  have fc28 := (fc21.other W26 (Or.inr (slot_ne (Or.inr (ww hw 23 rfl)) (Or.inr (ww hw 27 rfl)) (by decide) (t := (.object "java/lang/String")) (t' := (.object "java/lang/String")) (by decide) (by decide))))
  have fc29 := ((fc14.same W19).other W26 (Or.inr (slot_ne (Or.inr (ww hw 25 rfl)) (Or.inr (ww hw 27 rfl)) (by decide) (t := .int) (t' := (.object "java/lang/String")) (by decide) (by decide))))
  have fc30 := (fc23.other W26 (Or.inr (slot_ne (Or.inr (ww hw 29 rfl)) (Or.inr (ww hw 27 rfl)) (by decide) (t := (.object "java/lang/String")) (t' := (.object "java/lang/String")) (by decide) (by decide))))
  have N26 := Fr.snoc X26 N19 g_r0
  have k32 : Kq X0 6 T26 (mkF m 28 (oL59 r0 r1 r4) [.null, (.ref r0)]) := fun t k => k25 t (st26 _ (XS.aloadN X26.here hx rfl (hb hby d2_25) rfl rfl (XS.aload X26.here hx rfl (hb hby d2_26) rfl rfl k)))
  obtain ⟨T33, h33, X33, e33, W33, st33⟩ := putF X26 hx hZ hown (host := "") (Or.inl (ww hw 28 rfl)) Via.refl e26 fc30 ((((E_r0.wr W5).wr W12).wr W19).wr W26) (Or.inr ⟨(ww hw 29 rfl), rfl, hnm⟩) (ww hw 1 rfl) (ty := (.object "java/lang/String")) (by decide) rfl rfl (g := gK k32) rfl rfl (hb hby d2_28)
  have fc34 := (fc27.other W33 (Or.inr (slot_ne (Or.inr (ww hw 21 rfl)) (Or.inr (ww hw 29 rfl)) (by decide) (t := (.object "java/lang/String")) (t' := (.object "java/lang/String")) (by decide) (by decide))))
  have fc35 := (fc28.other W33 (Or.inr (slot_ne (Or.inr (ww hw 23 rfl)) (Or.inr (ww hw 29 rfl)) (by decide) (t := (.object "java/lang/String")) (t' := (.object "java/lang/String")) (by decide) (by decide))))
  have fc36 := (fc29.other W33 (Or.inr (slot_ne (Or.inr (ww hw 25 rfl)) (Or.inr (ww hw 29 rfl)) (by decide) (t := .int) (t' := (.object "java/lang/String")) (by decide) (by decide))))
  have fc37 := ((fc22.same W26).other W33 (Or.inr (slot_ne (Or.inr (ww hw 27 rfl)) (Or.inr (ww hw 29 rfl)) (by decide) (t := (.object "java/lang/String")) (t' := (.object "java/lang/String")) (by decide) (by decide))))
  have N33 := Fr.snoc X33 N26 g_r0
  have k38 : Kq X0 6 T33 (mkF m 31 (oL59 r0 r1 r4) []) := fun t k => k32 t (st33 _ k)
  obtain ⟨fs, hr, hrun, hended, hW, hsame⟩ := X33.leave (v := none) (fun _ => rfl)
  refine ⟨_, _, k38 _ ?_, hrun, hended, _, _, rfl, ?_, ⟨_, rfl⟩, hW, hsame.mono (by decide) (by decide)⟩
  · exact X33.returnOut hx Bd.returns (hb hby d2_31) hr
  · show Q2 Z r0 r1 r4 h0 n0 _ T33.heap _
    rw [e33]
    exact ⟨rfl, N33, ((((((Keep.refl h0 [r0]).wr W5 (Or.inl (own_wi 0 rfl))).wr W12 (Or.inl (own_wi 0 rfl))).wr W19 (Or.inl (own_wi 0 rfl))).wr W26 (Or.inl (own_wi 0 rfl))).wr W33 (Or.inl (own_wi 0 rfl))), (((((E_r0.wr W5).wr W12).wr W19).wr W26).wr W33), fc34, fc35, fc36, fc37, (fc30.same W33)⟩
def oC1 : ByteArray := prog_29_method_1_code
theorem d1_0 : decode oC1 0 = .ok (.aload_n 0, 1) := by decide +kernel
theorem d1_1 : decode oC1 1 = .ok (.aload_n 1, 1) := by decide +kernel
theorem d1_2 : decode oC1 2 = .ok (.aload_n 2, 1) := by decide +kernel
theorem d1_3 : decode oC1 3 = .ok (.iload_n 3, 1) := by decide +kernel
theorem d1_4 : decode oC1 4 = .ok (.aload 4, 2) := by decide +kernel
theorem d1_6 : decode oC1 6 = .ok (.aconst_null, 1) := by decide +kernel
theorem d1_7 : decode oC1 7 = .ok (.invokespecial 1, 3) := by decide +kernel
theorem d1_10 : decode oC1 10 = .ok (.return_, 1) := by decide +kernel
theorem ef_1 (m : MethodId) (x0 : Addr) (x1 : Addr) (x3 : Int32) (x4 : Addr) : entryFrame m #[(.ref x0), (.ref x1), .null, (.int x3), (.ref x4)] 5 = mkF m 0 #[.val (.ref x0), .val (.ref x1), .val .null, .val (.int x3), .val (.ref x4)] [] := by first | (simp [entryFrame, mkF, argsToLocals, Value.category]; done) | rfl
theorem pd_17 : parseMethodDescriptor "(Ljava/lang/String;Ljava/lang/String;ILjava/lang/String;Ljava/lang/String;)V" = some ⟨[(.object "java/lang/String"), (.object "java/lang/String"), .int, (.object "java/lang/String"), (.object "java/lang/String")], none⟩ := by decide +kernel
def Q1 (Z : State) (r0 : Addr) (r1 : Addr) (r4 : Addr) (h0 : Heap) (n0 : Nat) (v : Option Value) (h : Heap) (L : List Loc) : Prop := v = none ∧ Fr n0 L ∧ Keep h0 h [r0] ∧ Exa Z h r0 "com/example/covenantry/covenantry/Figure" ∧ Fld Z h r0 "com/example/covenantry/covenantry/Figure" "value" "Ljava/lang/String;" (.ref r1) ∧ Fld Z h r0 "com/example/covenantry/covenantry/Figure" "section" "Ljava/lang/String;" .null ∧ Fld Z h r0 "com/example/covenantry/covenantry/Figure" "line" "I" (.int (1 : Int32)) ∧ Fld Z h r0 "com/example/covenantry/covenantry/Figure" "text" "Ljava/lang/String;" (.ref r4) ∧ Fld Z h r0 "com/example/covenantry/covenantry/Figure" "derivedFrom" "Ljava/lang/String;" .null
def mN26 : MethodName := ⟨"com/example/covenantry/covenantry/Figure", "<init>", "(Ljava/lang/String;Ljava/lang/String;ILjava/lang/String;)V"⟩
def oL60 (r0 : Addr) (r1 : Addr) (r4 : Addr) : Array Slot := #[.val (.ref r0), .val (.ref r1), .val .null, .val (.int (1 : Int32)), .val (.ref r4)]
theorem rm1 (l : Launch) (Z : State) (a0 : Array Value) (hw : ∀ d ∈ tables_1, d.before a0 Z = true) (ws : List Jvm.Cond) (r0 : Addr) (r1 : Addr) (r4 : Addr) (h0 : Heap) (n0 : Nat) (Z0 : n0 ≤ h0.size) (F_value_r0 : Fld Z h0 r0 "com/example/covenantry/covenantry/Figure" "value" "Ljava/lang/String;" .null) (F_section_r0 : Fld Z h0 r0 "com/example/covenantry/covenantry/Figure" "section" "Ljava/lang/String;" .null) (F_line_r0 : Fld Z h0 r0 "com/example/covenantry/covenantry/Figure" "line" "I" (.int (0 : Int32))) (F_text_r0 : Fld Z h0 r0 "com/example/covenantry/covenantry/Figure" "text" "Ljava/lang/String;" .null) (F_derivedFrom_r0 : Fld Z h0 r0 "com/example/covenantry/covenantry/Figure" "derivedFrom" "Ljava/lang/String;" .null) (E_r0 : Exa Z h0 r0 "com/example/covenantry/covenantry/Figure") (g_r0 : n0 ≤ r0) :
    MetFree l mN26 (head1 (Jvm.Cond.code mN26 prog_29_method_1_code 5 none :: ws) oR5) (fun a U => a = #[(.ref r0), (.ref r1), .null, (.int (1 : Int32)), (.ref r4)] ∧ Z.Warmed39 U.vm ∧ U.heap = h0) (fun _ _ _ _ _ => True) (fun _ U o U' => ∃ v L, o = .returned v ∧ Q1 Z r0 r1 r4 h0 n0 v U'.heap L ∧ FrameEnd U o U' L oR5.cells oR5.slots) := by
  refine MetFree.of_bodySF (plainFor_of_name pn_5) hisR ?_
  intro p e s m args below meth c s₁ Bd hml0 hP hK
  obtain ⟨rfl, hZ, hh⟩ := hP
  have hx := Bd.exec
  have hby := Bd.bytes
  have hml : c.maxLocals = 5 := hml0
  have hown : s.vm.findClass "com/example/covenantry/covenantry/Figure" = some m.cls := findClass_of_methodNamed Bd.named
  have X0 : Stand p l e oR5 s m #[(.ref r0), (.ref r1), .null, (.int (1 : Int32)), (.ref r4)] below meth c s₁ [] 0 0 := Stand.of_body Bd
  have e0 : s₁.heap = h0 := by rw [← hh, Bd.state]; rfl
  have N0 := Fr.nil n0
  have k0 : Kq X0 5 s₁ (mkF m 0 (oL60 r0 r1 r4) []) := fun t k => castTop (ef_1 m r0 r1 (1 : Int32) r4) k
  have k1 : Kq X0 5 s₁ (mkF m 7 (oL60 r0 r1 r4) [.null, (.ref r4), (.int (1 : Int32)), .null, (.ref r1), (.ref r0)]) := fun t k => k0 t (XS.aloadN X0.here hx rfl (hb hby d1_0) rfl rfl (XS.aloadN X0.here hx rfl (hb hby d1_1) rfl rfl (XS.aloadN X0.here hx rfl (hb hby d1_2) rfl rfl (XS.iloadN X0.here hx rfl (hb hby d1_3) rfl (XS.aload X0.here hx rfl (hb hby d1_4) rfl rfl (XS.aconstNull X0.here hx rfl (hb hby d1_6) k))))))
  obtain ⟨_, _, ⟨T2, L2, kq2, n2⟩, -, X2, ⟨Lc2, hQ2, l2, y2, z2⟩, st2⟩ := X0.specialBack hx (y := mN25) rfl hown (mw hZ hw 14 rfl) (mw hZ hw 15 rfl) (mw hZ hw 16 rfl) (by decide) (backOf (W := 0) (rm2 l Z a0 hw [] r0 r1 r4 h0 n0 Z0 F_value_r0 F_section_r0 F_line_r0 F_text_r0 F_derivedFrom_r0 E_r0 g_r0) hZ (ww hw 16 rfl) (ww hw 2 rfl) (by decide) (by decide)) (g := gK k1) rfl (by rw [hml]; rfl) (Steps.refl _) (a := r0) (argsL := [(.ref r1), .null, (.int (1 : Int32)), (.ref r4), .null]) (rest := []) (lenOf pd_17 rfl) rfl (by show 2 * 0 + _ ≤ _; exact Nat.le_of_eq rfl) (hb hby d1_7) (fun _ _ => ⟨rfl, e0, (by decide : 0 + 0 ≤ _), (by decide : 0 + 0 ≤ _)⟩)
  dsimp only [Pt.U, Pt.locs, Pt.cells, Pt.slots] at X2 l2 y2 z2 st2 hQ2
  replace l2 := l2.symm; subst l2 y2 z2
  obtain ⟨rfl, N2q, K2, Ex2, Fx2_0, Fx2_1, Fx2_2, Fx2_3, Fx2_4⟩ := hQ2
  have N2 := Fr.app N0 N2q
  have k3 : Kq X0 5 T2 (mkF m 10 (oL60 r0 r1 r4) []) := fun t k => k1 t (st2.trans k)
  obtain ⟨fs, hr, hrun, hended, hW, hsame⟩ := X2.leave (v := none) (fun _ => rfl)
  refine ⟨_, _, k3 _ ?_, hrun, hended, _, _, rfl, ?_, ⟨_, rfl⟩, hW, hsame.mono (by decide) (by decide)⟩
  · exact X2.returnOut hx Bd.returns (hb hby d1_10) hr
  · show Q1 Z r0 r1 r4 h0 n0 _ T2.heap _
    exact ⟨rfl, N2, K2, Ex2, Fx2_0, Fx2_1, Fx2_2, Fx2_3, Fx2_4⟩
def oC23 : ByteArray := prog_29_method_4_code
theorem d23_0 : decode oC23 0 = .ok (.aload_n 0, 1) := by decide +kernel
theorem d23_1 : decode oC23 1 = .ok (.getfield 12, 3) := by decide +kernel
theorem d23_4 : decode oC23 4 = .ok (.areturn, 1) := by decide +kernel
def Q23 (Z : State) (r0 : Addr) (sv : Addr) (h0 : Heap) (n0 : Nat) (v : Option Value) (h : Heap) (L : List Loc) : Prop := v = some (.ref sv) ∧ Fr n0 L ∧ h = h0
def mN27 : MethodName := ⟨"com/example/covenantry/covenantry/Figure", "value", "()Ljava/lang/String;"⟩
theorem rm23 (l : Launch) (Z : State) (a0 : Array Value) (hw : ∀ d ∈ tables_1, d.before a0 Z = true) (ws : List Jvm.Cond) (r0 : Addr) (sv : Addr) (h0 : Heap) (n0 : Nat) (Z0 : n0 ≤ h0.size) (F_value_r0 : Fld Z h0 r0 "com/example/covenantry/covenantry/Figure" "value" "Ljava/lang/String;" (.ref sv)) :
    MetFree l mN27 (head1 (Jvm.Cond.code mN27 prog_29_method_4_code 1 (some (.object "java/lang/String")) :: ws) oR2) (fun a U => a = #[(.ref r0)] ∧ Z.Warmed39 U.vm ∧ U.heap = h0) (fun _ _ _ _ _ => True) (fun _ U o U' => ∃ v L, o = .returned v ∧ Q23 Z r0 sv h0 n0 v U'.heap L ∧ FrameEnd U o U' L oR2.cells oR2.slots) := by
  refine MetFree.of_bodySF (plainFor_of_name pn_5) hisR ?_
  intro p e s m args below meth c s₁ Bd hml0 hP hK
  obtain ⟨rfl, hZ, hh⟩ := hP
  have hx := Bd.exec
  have hby := Bd.bytes
  have hml : c.maxLocals = 1 := hml0
  have hown : s.vm.findClass "com/example/covenantry/covenantry/Figure" = some m.cls := findClass_of_methodNamed Bd.named
  have X0 : Stand p l e oR2 s m #[(.ref r0)] below meth c s₁ [] 0 0 := Stand.of_body Bd
  have e0 : s₁.heap = h0 := by rw [← hh, Bd.state]; rfl
  have N0 := Fr.nil n0
  have k0 : Kq X0 1 s₁ (mkF m 0 #[.val (.ref r0)] []) := fun t k => castTop (ef_13 m r0) k
  have k1 : Kq X0 1 s₁ (mkF m 1 #[.val (.ref r0)] [(.ref r0)]) := fun t k => k0 t (XS.aloadN X0.here hx rfl (hb hby d23_0) rfl rfl k)
  obtain ⟨T2, X2, e2, st2⟩ := getF X0 hx hZ hown (host := "") (Or.inl (ww hw 20 rfl)) Via.refl e0 F_value_r0 (g := gK k1) rfl rfl (hb hby d23_1)
  have k3 : Kq X0 1 T2 (mkF m 4 #[.val (.ref r0)] [(.ref sv)]) := fun t k => k1 t (st2 _ k)
  obtain ⟨fs, hr, hrun, hended, hW, hsame⟩ := X2.leave (v := (some (.ref sv))) (fun h => by rw [Bd.returns] at h; cases h)
  refine ⟨_, _, k3 _ ?_, hrun, hended, _, _, rfl, ?_, ⟨_, rfl⟩, hW, hsame.mono (by decide) (by decide)⟩
  · exact retOut X2 hx Bd.returns rfl (Or.inr (Or.inr (Or.inr (Or.inr ⟨rfl, rfl, rfl⟩)))) (hb hby d23_4) hr
  · show Q23 Z r0 sv h0 n0 _ T2.heap _
    rw [e2]
    exact ⟨rfl, N0, rfl⟩
def oC5 : ByteArray := prog_27_method_3_code
theorem d5_0 : decode oC5 0 = .ok (.aload_n 0, 1) := by decide +kernel
theorem d5_1 : decode oC5 1 = .ok (.invokespecial 7, 3) := by decide +kernel
theorem d5_4 : decode oC5 4 = .ok (.aload_n 0, 1) := by decide +kernel
theorem d5_5 : decode oC5 5 = .ok (.aload_n 1, 1) := by decide +kernel
theorem d5_6 : decode oC5 6 = .ok (.putfield 12, 3) := by decide +kernel
theorem d5_9 : decode oC5 9 = .ok (.aload_n 0, 1) := by decide +kernel
theorem d5_10 : decode oC5 10 = .ok (.aload_n 2, 1) := by decide +kernel
theorem d5_11 : decode oC5 11 = .ok (.putfield 16, 3) := by decide +kernel
theorem d5_14 : decode oC5 14 = .ok (.aload_n 0, 1) := by decide +kernel
theorem d5_15 : decode oC5 15 = .ok (.aload_n 3, 1) := by decide +kernel
theorem d5_16 : decode oC5 16 = .ok (.putfield 19, 3) := by decide +kernel
theorem d5_19 : decode oC5 19 = .ok (.aload_n 0, 1) := by decide +kernel
theorem d5_20 : decode oC5 20 = .ok (.aload 4, 2) := by decide +kernel
theorem d5_22 : decode oC5 22 = .ok (.putfield 22, 3) := by decide +kernel
theorem d5_25 : decode oC5 25 = .ok (.return_, 1) := by decide +kernel
theorem ef_5l00 (m : MethodId) (x0 : Addr) (x3 : Addr) : entryFrame m #[(.ref x0), .null, .null, (.ref x3), .null] 5 = mkF m 0 #[.val (.ref x0), .val .null, .val .null, .val (.ref x3), .val .null] [] := by first | (simp [entryFrame, mkF, argsToLocals, Value.category]; done) | rfl
theorem pn_6 : plainName "com/example/covenantry/covenantry/FeeLevel" = true := by first | (simp [plainName, overriddenIn]; done) | decide +kernel
def Q5l00 (Z : State) (r0 : Addr) (r3 : Addr) (h0 : Heap) (n0 : Nat) (v : Option Value) (h : Heap) (L : List Loc) : Prop := v = none ∧ Fr n0 L ∧ Keep h0 h [r0] ∧ Exa Z h r0 "com/example/covenantry/covenantry/FeeLevel" ∧ Fld Z h r0 "com/example/covenantry/covenantry/FeeLevel" "above" "Lcom/example/covenantry/covenantry/Figure;" .null ∧ Fld Z h r0 "com/example/covenantry/covenantry/FeeLevel" "atMost" "Lcom/example/covenantry/covenantry/Figure;" .null ∧ Fld Z h r0 "com/example/covenantry/covenantry/FeeLevel" "rate" "Lcom/example/covenantry/covenantry/Figure;" (.ref r3) ∧ Fld Z h r0 "com/example/covenantry/covenantry/FeeLevel" "unreadable" "Lcom/example/covenantry/covenantry/Unreadable;" .null
def mN28 : MethodName := ⟨"com/example/covenantry/covenantry/FeeLevel", "<init>", "(Lcom/example/covenantry/covenantry/Figure;Lcom/example/covenantry/covenantry/Figure;Lcom/example/covenantry/covenantry/Figure;Lcom/example/covenantry/covenantry/Unreadable;)V"⟩
def oL61 (r0 : Addr) (r3 : Addr) : Array Slot := #[.val (.ref r0), .val .null, .val .null, .val (.ref r3), .val .null]
theorem rm5l00 (l : Launch) (Z : State) (a0 : Array Value) (hw : ∀ d ∈ tables_1, d.before a0 Z = true) (ws : List Jvm.Cond) (r0 : Addr) (r3 : Addr) (h0 : Heap) (n0 : Nat) (Z0 : n0 ≤ h0.size) (F_above_r0 : Fld Z h0 r0 "com/example/covenantry/covenantry/FeeLevel" "above" "Lcom/example/covenantry/covenantry/Figure;" .null) (F_atMost_r0 : Fld Z h0 r0 "com/example/covenantry/covenantry/FeeLevel" "atMost" "Lcom/example/covenantry/covenantry/Figure;" .null) (F_rate_r0 : Fld Z h0 r0 "com/example/covenantry/covenantry/FeeLevel" "rate" "Lcom/example/covenantry/covenantry/Figure;" .null) (F_unreadable_r0 : Fld Z h0 r0 "com/example/covenantry/covenantry/FeeLevel" "unreadable" "Lcom/example/covenantry/covenantry/Unreadable;" .null) (E_r0 : Exa Z h0 r0 "com/example/covenantry/covenantry/FeeLevel") (g_r0 : n0 ≤ r0) :
    MetFree l mN28 (head1 (Jvm.Cond.code mN28 prog_27_method_3_code 5 none :: ws) oR16) (fun a U => a = #[(.ref r0), .null, .null, (.ref r3), .null] ∧ Z.Warmed39 U.vm ∧ U.heap = h0) (fun _ _ _ _ _ => True) (fun _ U o U' => ∃ v L, o = .returned v ∧ Q5l00 Z r0 r3 h0 n0 v U'.heap L ∧ FrameEnd U o U' L oR16.cells oR16.slots) := by
  refine MetFree.of_bodySF (plainFor_of_name pn_6) hisR ?_
  intro p e s m args below meth c s₁ Bd hml0 hP hK
  obtain ⟨rfl, hZ, hh⟩ := hP
  have hx := Bd.exec
  have hby := Bd.bytes
  have hml : c.maxLocals = 5 := hml0
  have hown : s.vm.findClass "com/example/covenantry/covenantry/FeeLevel" = some m.cls := findClass_of_methodNamed Bd.named
  have hnm := (name_of_methodNamed Bd.named Bd.method).1
  have X0 : Stand p l e oR16 s m #[(.ref r0), .null, .null, (.ref r3), .null] below meth c s₁ [] 0 0 := Stand.of_body Bd
  have e0 : s₁.heap = h0 := by rw [← hh, Bd.state]; rfl
  have N0 := Fr.nil n0
  have k0 : Kq X0 5 s₁ (mkF m 0 (oL61 r0 r3) []) := fun t k => castTop (ef_5l00 m r0 r3) k
  have k1 : Kq X0 5 s₁ (mkF m 1 (oL61 r0 r3) [(.ref r0)]) := fun t k => k0 t (XS.aloadN X0.here hx rfl (hb hby d5_0) rfl rfl k)
  obtain ⟨T2, X2, e2, st2⟩ := initO X0 hx hZ hown (ww hw 39 rfl) (ww hw 18 rfl) (ww hw 19 rfl) e0 (g := gK k1) rfl (by rw [hml]; rfl) rfl (hb hby d5_1) (by decide) (W := 0) (by show 2 * 0 + _ ≤ _; exact Nat.le_of_eq rfl) (by decide)
  have k4 : Kq X0 5 T2 (mkF m 6 (oL61 r0 r3) [.null, (.ref r0)]) := fun t k => k1 t (st2 _ (XS.aloadN X2.here hx rfl (hb hby d5_4) rfl rfl (XS.aloadN X2.here hx rfl (hb hby d5_5) rfl rfl k)))
  obtain ⟨T5, h5, X5, e5, W5, st5⟩ := putF X2 hx hZ hown (host := "") (Or.inl (ww hw 40 rfl)) Via.refl e2 F_above_r0 E_r0 (Or.inr ⟨(ww hw 41 rfl), rfl, hnm⟩) (ww hw 31 rfl) (ty := (.object "com/example/covenantry/covenantry/Figure")) (by decide) rfl rfl (g := gK k4) rfl rfl (hb hby d5_6)
  have fc6 := (F_atMost_r0.other W5 (Or.inr (slot_ne (Or.inr (ww hw 43 rfl)) (Or.inr (ww hw 41 rfl)) (by decide) (t := (.object "com/example/covenantry/covenantry/Figure")) (t' := (.object "com/example/covenantry/covenantry/Figure")) (by decide) (by decide))))
  have fc7 := (F_rate_r0.other W5 (Or.inr (slot_ne (Or.inr (ww hw 45 rfl)) (Or.inr (ww hw 41 rfl)) (by decide) (t := (.object "com/example/covenantry/covenantry/Figure")) (t' := (.object "com/example/covenantry/covenantry/Figure")) (by decide) (by decide))))
  have fc8 := (F_unreadable_r0.other W5 (Or.inr (slot_ne (Or.inr (ww hw 47 rfl)) (Or.inr (ww hw 41 rfl)) (by decide) (t := (.object "com/example/covenantry/covenantry/Unreadable")) (t' := (.object "com/example/covenantry/covenantry/Figure")) (by decide) (by decide))))
  have N5 := Fr.snoc X5 N0 g_r0
  have k10 : Kq X0 5 T5 (mkF m 11 (oL61 r0 r3) [.null, (.ref r0)]) := fun t k => k4 t (st5 _ (XS.aloadN X5.here hx rfl (hb hby d5_9) rfl rfl (XS.aloadN X5.here hx rfl (hb hby d5_10) rfl rfl k)))
  obtain ⟨T11, h11, X11, e11, W11, st11⟩ := putF X5 hx hZ hown (host := "") (Or.inl (ww hw 42 rfl)) Via.refl e5 fc6 (E_r0.wr W5) (Or.inr ⟨(ww hw 43 rfl), rfl, hnm⟩) (ww hw 31 rfl) (ty := (.object "com/example/covenantry/covenantry/Figure")) (by decide) rfl rfl (g := gK k10) rfl rfl (hb hby d5_11)
  have fc12 := ((F_above_r0.same W5).other W11 (Or.inr (slot_ne (Or.inr (ww hw 41 rfl)) (Or.inr (ww hw 43 rfl)) (by decide) (t := (.object "com/example/covenantry/covenantry/Figure")) (t' := (.object "com/example/covenantry/covenantry/Figure")) (by decide) (by decide))))
  have fc13 := (fc7.other W11 (Or.inr (slot_ne (Or.inr (ww hw 45 rfl)) (Or.inr (ww hw 43 rfl)) (by decide) (t := (.object "com/example/covenantry/covenantry/Figure")) (t' := (.object "com/example/covenantry/covenantry/Figure")) (by decide) (by decide))))
  have fc14 := (fc8.other W11 (Or.inr (slot_ne (Or.inr (ww hw 47 rfl)) (Or.inr (ww hw 43 rfl)) (by decide) (t := (.object "com/example/covenantry/covenantry/Unreadable")) (t' := (.object "com/example/covenantry/covenantry/Figure")) (by decide) (by decide))))
  have N11 := Fr.snoc X11 N5 g_r0
  have k16 : Kq X0 5 T11 (mkF m 16 (oL61 r0 r3) [(.ref r3), (.ref r0)]) := fun t k => k10 t (st11 _ (XS.aloadN X11.here hx rfl (hb hby d5_14) rfl rfl (XS.aloadN X11.here hx rfl (hb hby d5_15) rfl rfl k)))
  obtain ⟨T17, h17, X17, e17, W17, st17⟩ := putF X11 hx hZ hown (host := "") (Or.inl (ww hw 44 rfl)) Via.refl e11 fc13 ((E_r0.wr W5).wr W11) (Or.inr ⟨(ww hw 45 rfl), rfl, hnm⟩) (ww hw 31 rfl) (ty := (.object "com/example/covenantry/covenantry/Figure")) (by decide) rfl rfl (g := gK k16) rfl rfl (hb hby d5_16)
  have fc18 := (fc12.other W17 (Or.inr (slot_ne (Or.inr (ww hw 41 rfl)) (Or.inr (ww hw 45 rfl)) (by decide) (t := (.object "com/example/covenantry/covenantry/Figure")) (t' := (.object "com/example/covenantry/covenantry/Figure")) (by decide) (by decide))))
  have fc19 := ((fc6.same W11).other W17 (Or.inr (slot_ne (Or.inr (ww hw 43 rfl)) (Or.inr (ww hw 45 rfl)) (by decide) (t := (.object "com/example/covenantry/covenantry/Figure")) (t' := (.object "com/example/covenantry/covenantry/Figure")) (by decide) (by decide))))
  have fc20 := (fc14.other W17 (Or.inr (slot_ne (Or.inr (ww hw 47 rfl)) (Or.inr (ww hw 45 rfl)) (by decide) (t := (.object "com/example/covenantry/covenantry/Unreadable")) (t' := (.object "com/example/covenantry/covenantry/Figure")) (by decide) (by decide))))
  have N17 := Fr.snoc X17 N11 g_r0
  have k22 : Kq X0 5 T17 (mkF m 22 (oL61 r0 r3) [.null, (.ref r0)]) := fun t k => k16 t (st17 _ (XS.aloadN X17.here hx rfl (hb hby d5_19) rfl rfl (XS.aload X17.here hx rfl (hb hby d5_20) rfl rfl k)))
  obtain ⟨T23, h23, X23, e23, W23, st23⟩ := putF X17 hx hZ hown (host := "") (Or.inl (ww hw 46 rfl)) Via.refl e17 fc20 (((E_r0.wr W5).wr W11).wr W17) (Or.inr ⟨(ww hw 47 rfl), rfl, hnm⟩) (ww hw 31 rfl) (ty := (.object "com/example/covenantry/covenantry/Unreadable")) (by decide) rfl rfl (g := gK k22) rfl rfl (hb hby d5_22)
  have fc24 := (fc18.other W23 (Or.inr (slot_ne (Or.inr (ww hw 41 rfl)) (Or.inr (ww hw 47 rfl)) (by decide) (t := (.object "com/example/covenantry/covenantry/Figure")) (t' := (.object "com/example/covenantry/covenantry/Unreadable")) (by decide) (by decide))))
  have fc25 := (fc19.other W23 (Or.inr (slot_ne (Or.inr (ww hw 43 rfl)) (Or.inr (ww hw 47 rfl)) (by decide) (t := (.object "com/example/covenantry/covenantry/Figure")) (t' := (.object "com/example/covenantry/covenantry/Unreadable")) (by decide) (by decide))))
  have fc26 := ((fc13.same W17).other W23 (Or.inr (slot_ne (Or.inr (ww hw 45 rfl)) (Or.inr (ww hw 47 rfl)) (by decide) (t := (.object "com/example/covenantry/covenantry/Figure")) (t' := (.object "com/example/covenantry/covenantry/Unreadable")) (by decide) (by decide))))
  have N23 := Fr.snoc X23 N17 g_r0
  have k27 : Kq X0 5 T23 (mkF m 25 (oL61 r0 r3) []) := fun t k => k22 t (st23 _ k)
  obtain ⟨fs, hr, hrun, hended, hW, hsame⟩ := X23.leave (v := none) (fun _ => rfl)
  refine ⟨_, _, k27 _ ?_, hrun, hended, _, _, rfl, ?_, ⟨_, rfl⟩, hW, hsame.mono (by decide) (by decide)⟩
  · exact X23.returnOut hx Bd.returns (hb hby d5_25) hr
  · show Q5l00 Z r0 r3 h0 n0 _ T23.heap _
    rw [e23]
    exact ⟨rfl, N23, (((((Keep.refl h0 [r0]).wr W5 (Or.inl (own_wi 0 rfl))).wr W11 (Or.inl (own_wi 0 rfl))).wr W17 (Or.inl (own_wi 0 rfl))).wr W23 (Or.inl (own_wi 0 rfl))), ((((E_r0.wr W5).wr W11).wr W17).wr W23), fc24, fc25, fc26, (fc20.same W23)⟩
def oC4 : ByteArray := prog_27_method_1_code
theorem d4_0 : decode oC4 0 = .ok (.aload_n 0, 1) := by decide +kernel
theorem d4_1 : decode oC4 1 = .ok (.aload_n 1, 1) := by decide +kernel
theorem d4_2 : decode oC4 2 = .ok (.aload_n 2, 1) := by decide +kernel
theorem d4_3 : decode oC4 3 = .ok (.aload_n 3, 1) := by decide +kernel
theorem d4_4 : decode oC4 4 = .ok (.aconst_null, 1) := by decide +kernel
theorem d4_5 : decode oC4 5 = .ok (.invokespecial 1, 3) := by decide +kernel
theorem d4_8 : decode oC4 8 = .ok (.return_, 1) := by decide +kernel
theorem ef_4l00 (m : MethodId) (x0 : Addr) (x3 : Addr) : entryFrame m #[(.ref x0), .null, .null, (.ref x3)] 4 = mkF m 0 #[.val (.ref x0), .val .null, .val .null, .val (.ref x3)] [] := by first | (simp [entryFrame, mkF, argsToLocals, Value.category]; done) | rfl
theorem pd_18 : parseMethodDescriptor "(Lcom/example/covenantry/covenantry/Figure;Lcom/example/covenantry/covenantry/Figure;Lcom/example/covenantry/covenantry/Figure;Lcom/example/covenantry/covenantry/Unreadable;)V" = some ⟨[(.object "com/example/covenantry/covenantry/Figure"), (.object "com/example/covenantry/covenantry/Figure"), (.object "com/example/covenantry/covenantry/Figure"), (.object "com/example/covenantry/covenantry/Unreadable")], none⟩ := by decide +kernel
def Q4l00 (Z : State) (r0 : Addr) (r3 : Addr) (h0 : Heap) (n0 : Nat) (v : Option Value) (h : Heap) (L : List Loc) : Prop := v = none ∧ Fr n0 L ∧ Keep h0 h [r0] ∧ Exa Z h r0 "com/example/covenantry/covenantry/FeeLevel" ∧ Fld Z h r0 "com/example/covenantry/covenantry/FeeLevel" "above" "Lcom/example/covenantry/covenantry/Figure;" .null ∧ Fld Z h r0 "com/example/covenantry/covenantry/FeeLevel" "atMost" "Lcom/example/covenantry/covenantry/Figure;" .null ∧ Fld Z h r0 "com/example/covenantry/covenantry/FeeLevel" "rate" "Lcom/example/covenantry/covenantry/Figure;" (.ref r3) ∧ Fld Z h r0 "com/example/covenantry/covenantry/FeeLevel" "unreadable" "Lcom/example/covenantry/covenantry/Unreadable;" .null
def oR30 : Room := { frames := 2, cells := 0, slots := 0, locals := 28 }
def mN29 : MethodName := ⟨"com/example/covenantry/covenantry/FeeLevel", "<init>", "(Lcom/example/covenantry/covenantry/Figure;Lcom/example/covenantry/covenantry/Figure;Lcom/example/covenantry/covenantry/Figure;)V"⟩
def oL62 (r0 : Addr) (r3 : Addr) : Array Slot := #[.val (.ref r0), .val .null, .val .null, .val (.ref r3)]
theorem rm4l00 (l : Launch) (Z : State) (a0 : Array Value) (hw : ∀ d ∈ tables_1, d.before a0 Z = true) (ws : List Jvm.Cond) (r0 : Addr) (r3 : Addr) (h0 : Heap) (n0 : Nat) (Z0 : n0 ≤ h0.size) (F_above_r0 : Fld Z h0 r0 "com/example/covenantry/covenantry/FeeLevel" "above" "Lcom/example/covenantry/covenantry/Figure;" .null) (F_atMost_r0 : Fld Z h0 r0 "com/example/covenantry/covenantry/FeeLevel" "atMost" "Lcom/example/covenantry/covenantry/Figure;" .null) (F_rate_r0 : Fld Z h0 r0 "com/example/covenantry/covenantry/FeeLevel" "rate" "Lcom/example/covenantry/covenantry/Figure;" .null) (F_unreadable_r0 : Fld Z h0 r0 "com/example/covenantry/covenantry/FeeLevel" "unreadable" "Lcom/example/covenantry/covenantry/Unreadable;" .null) (E_r0 : Exa Z h0 r0 "com/example/covenantry/covenantry/FeeLevel") (g_r0 : n0 ≤ r0) :
    MetFree l mN29 (head1 (Jvm.Cond.code mN29 prog_27_method_1_code 4 none :: ws) oR30) (fun a U => a = #[(.ref r0), .null, .null, (.ref r3)] ∧ Z.Warmed39 U.vm ∧ U.heap = h0) (fun _ _ _ _ _ => True) (fun _ U o U' => ∃ v L, o = .returned v ∧ Q4l00 Z r0 r3 h0 n0 v U'.heap L ∧ FrameEnd U o U' L oR30.cells oR30.slots) := by
  refine MetFree.of_bodySF (plainFor_of_name pn_6) hisR ?_
  intro p e s m args below meth c s₁ Bd hml0 hP hK
  obtain ⟨rfl, hZ, hh⟩ := hP
  have hx := Bd.exec
  have hby := Bd.bytes
  have hml : c.maxLocals = 4 := hml0
  have hown : s.vm.findClass "com/example/covenantry/covenantry/FeeLevel" = some m.cls := findClass_of_methodNamed Bd.named
  have X0 : Stand p l e oR30 s m #[(.ref r0), .null, .null, (.ref r3)] below meth c s₁ [] 0 0 := Stand.of_body Bd
  have e0 : s₁.heap = h0 := by rw [← hh, Bd.state]; rfl
  have N0 := Fr.nil n0
  have k0 : Kq X0 4 s₁ (mkF m 0 (oL62 r0 r3) []) := fun t k => castTop (ef_4l00 m r0 r3) k
  have k1 : Kq X0 4 s₁ (mkF m 5 (oL62 r0 r3) [.null, (.ref r3), .null, .null, (.ref r0)]) := fun t k => k0 t (XS.aloadN X0.here hx rfl (hb hby d4_0) rfl rfl (XS.aloadN X0.here hx rfl (hb hby d4_1) rfl rfl (XS.aloadN X0.here hx rfl (hb hby d4_2) rfl rfl (XS.aloadN X0.here hx rfl (hb hby d4_3) rfl rfl (XS.aconstNull X0.here hx rfl (hb hby d4_4) k)))))
  obtain ⟨_, _, ⟨T2, L2, kq2, n2⟩, -, X2, ⟨Lc2, hQ2, l2, y2, z2⟩, st2⟩ := X0.specialBack hx (y := mN28) rfl hown (mw hZ hw 36 rfl) (mw hZ hw 37 rfl) (mw hZ hw 38 rfl) (by decide) (backOf (W := 0) (rm5l00 l Z a0 hw [] r0 r3 h0 n0 Z0 F_above_r0 F_atMost_r0 F_rate_r0 F_unreadable_r0 E_r0 g_r0) hZ (ww hw 38 rfl) (ww hw 32 rfl) (by decide) (by decide)) (g := gK k1) rfl (by rw [hml]; rfl) (Steps.refl _) (a := r0) (argsL := [.null, .null, (.ref r3), .null]) (rest := []) (lenOf pd_18 rfl) rfl (by show 2 * 0 + _ ≤ _; exact Nat.le_of_eq rfl) (hb hby d4_5) (fun _ _ => ⟨rfl, e0, (by decide : 0 + 0 ≤ _), (by decide : 0 + 0 ≤ _)⟩)
  dsimp only [Pt.U, Pt.locs, Pt.cells, Pt.slots] at X2 l2 y2 z2 st2 hQ2
  replace l2 := l2.symm; subst l2 y2 z2
  obtain ⟨rfl, N2q, K2, Ex2, Fx2_0, Fx2_1, Fx2_2, Fx2_3⟩ := hQ2
  have N2 := Fr.app N0 N2q
  have k3 : Kq X0 4 T2 (mkF m 8 (oL62 r0 r3) []) := fun t k => k1 t (st2.trans k)
  obtain ⟨fs, hr, hrun, hended, hW, hsame⟩ := X2.leave (v := none) (fun _ => rfl)
  refine ⟨_, _, k3 _ ?_, hrun, hended, _, _, rfl, ?_, ⟨_, rfl⟩, hW, hsame.mono (by decide) (by decide)⟩
  · exact X2.returnOut hx Bd.returns (hb hby d4_8) hr
  · show Q4l00 Z r0 r3 h0 n0 _ T2.heap _
    exact ⟨rfl, N2, K2, Ex2, Fx2_0, Fx2_1, Fx2_2, Fx2_3⟩
theorem ef_5l01 (m : MethodId) (x0 : Addr) (x2 : Addr) (x3 : Addr) : entryFrame m #[(.ref x0), .null, (.ref x2), (.ref x3), .null] 5 = mkF m 0 #[.val (.ref x0), .val .null, .val (.ref x2), .val (.ref x3), .val .null] [] := by first | (simp [entryFrame, mkF, argsToLocals, Value.category]; done) | rfl
def Q5l01 (Z : State) (r0 : Addr) (r2 : Addr) (r3 : Addr) (h0 : Heap) (n0 : Nat) (v : Option Value) (h : Heap) (L : List Loc) : Prop := v = none ∧ Fr n0 L ∧ Keep h0 h [r0] ∧ Exa Z h r0 "com/example/covenantry/covenantry/FeeLevel" ∧ Fld Z h r0 "com/example/covenantry/covenantry/FeeLevel" "above" "Lcom/example/covenantry/covenantry/Figure;" .null ∧ Fld Z h r0 "com/example/covenantry/covenantry/FeeLevel" "atMost" "Lcom/example/covenantry/covenantry/Figure;" (.ref r2) ∧ Fld Z h r0 "com/example/covenantry/covenantry/FeeLevel" "rate" "Lcom/example/covenantry/covenantry/Figure;" (.ref r3) ∧ Fld Z h r0 "com/example/covenantry/covenantry/FeeLevel" "unreadable" "Lcom/example/covenantry/covenantry/Unreadable;" .null
def oL63 (r0 : Addr) (r2 : Addr) (r3 : Addr) : Array Slot := #[.val (.ref r0), .val .null, .val (.ref r2), .val (.ref r3), .val .null]
theorem rm5l01 (l : Launch) (Z : State) (a0 : Array Value) (hw : ∀ d ∈ tables_1, d.before a0 Z = true) (ws : List Jvm.Cond) (r0 : Addr) (r2 : Addr) (r3 : Addr) (h0 : Heap) (n0 : Nat) (Z0 : n0 ≤ h0.size) (F_above_r0 : Fld Z h0 r0 "com/example/covenantry/covenantry/FeeLevel" "above" "Lcom/example/covenantry/covenantry/Figure;" .null) (F_atMost_r0 : Fld Z h0 r0 "com/example/covenantry/covenantry/FeeLevel" "atMost" "Lcom/example/covenantry/covenantry/Figure;" .null) (F_rate_r0 : Fld Z h0 r0 "com/example/covenantry/covenantry/FeeLevel" "rate" "Lcom/example/covenantry/covenantry/Figure;" .null) (F_unreadable_r0 : Fld Z h0 r0 "com/example/covenantry/covenantry/FeeLevel" "unreadable" "Lcom/example/covenantry/covenantry/Unreadable;" .null) (E_r0 : Exa Z h0 r0 "com/example/covenantry/covenantry/FeeLevel") (g_r0 : n0 ≤ r0) :
    MetFree l mN28 (head1 (Jvm.Cond.code mN28 prog_27_method_3_code 5 none :: ws) oR16) (fun a U => a = #[(.ref r0), .null, (.ref r2), (.ref r3), .null] ∧ Z.Warmed39 U.vm ∧ U.heap = h0) (fun _ _ _ _ _ => True) (fun _ U o U' => ∃ v L, o = .returned v ∧ Q5l01 Z r0 r2 r3 h0 n0 v U'.heap L ∧ FrameEnd U o U' L oR16.cells oR16.slots) := by
  refine MetFree.of_bodySF (plainFor_of_name pn_6) hisR ?_
  intro p e s m args below meth c s₁ Bd hml0 hP hK
  obtain ⟨rfl, hZ, hh⟩ := hP
  have hx := Bd.exec
  have hby := Bd.bytes
  have hml : c.maxLocals = 5 := hml0
  have hown : s.vm.findClass "com/example/covenantry/covenantry/FeeLevel" = some m.cls := findClass_of_methodNamed Bd.named
  have hnm := (name_of_methodNamed Bd.named Bd.method).1
  have X0 : Stand p l e oR16 s m #[(.ref r0), .null, (.ref r2), (.ref r3), .null] below meth c s₁ [] 0 0 := Stand.of_body Bd
  have e0 : s₁.heap = h0 := by rw [← hh, Bd.state]; rfl
  have N0 := Fr.nil n0
  have k0 : Kq X0 5 s₁ (mkF m 0 (oL63 r0 r2 r3) []) := fun t k => castTop (ef_5l01 m r0 r2 r3) k
  have k1 : Kq X0 5 s₁ (mkF m 1 (oL63 r0 r2 r3) [(.ref r0)]) := fun t k => k0 t (XS.aloadN X0.here hx rfl (hb hby d5_0) rfl rfl k)
  obtain ⟨T2, X2, e2, st2⟩ := initO X0 hx hZ hown (ww hw 39 rfl) (ww hw 18 rfl) (ww hw 19 rfl) e0 (g := gK k1) rfl (by rw [hml]; rfl) rfl (hb hby d5_1) (by decide) (W := 0) (by show 2 * 0 + _ ≤ _; exact Nat.le_of_eq rfl) (by decide)
  have k4 : Kq X0 5 T2 (mkF m 6 (oL63 r0 r2 r3) [.null, (.ref r0)]) := fun t k => k1 t (st2 _ (XS.aloadN X2.here hx rfl (hb hby d5_4) rfl rfl (XS.aloadN X2.here hx rfl (hb hby d5_5) rfl rfl k)))
  obtain ⟨T5, h5, X5, e5, W5, st5⟩ := putF X2 hx hZ hown (host := "") (Or.inl (ww hw 40 rfl)) Via.refl e2 F_above_r0 E_r0 (Or.inr ⟨(ww hw 41 rfl), rfl, hnm⟩) (ww hw 31 rfl) (ty := (.object "com/example/covenantry/covenantry/Figure")) (by decide) rfl rfl (g := gK k4) rfl rfl (hb hby d5_6)
  have fc6 := (F_atMost_r0.other W5 (Or.inr (slot_ne (Or.inr (ww hw 43 rfl)) (Or.inr (ww hw 41 rfl)) (by decide) (t := (.object "com/example/covenantry/covenantry/Figure")) (t' := (.object "com/example/covenantry/covenantry/Figure")) (by decide) (by decide))))
  have fc7 := (F_rate_r0.other W5 (Or.inr (slot_ne (Or.inr (ww hw 45 rfl)) (Or.inr (ww hw 41 rfl)) (by decide) (t := (.object "com/example/covenantry/covenantry/Figure")) (t' := (.object "com/example/covenantry/covenantry/Figure")) (by decide) (by decide))))
  have fc8 := (F_unreadable_r0.other W5 (Or.inr (slot_ne (Or.inr (ww hw 47 rfl)) (Or.inr (ww hw 41 rfl)) (by decide) (t := (.object "com/example/covenantry/covenantry/Unreadable")) (t' := (.object "com/example/covenantry/covenantry/Figure")) (by decide) (by decide))))
  have N5 := Fr.snoc X5 N0 g_r0
  have k10 : Kq X0 5 T5 (mkF m 11 (oL63 r0 r2 r3) [(.ref r2), (.ref r0)]) := fun t k => k4 t (st5 _ (XS.aloadN X5.here hx rfl (hb hby d5_9) rfl rfl (XS.aloadN X5.here hx rfl (hb hby d5_10) rfl rfl k)))
  obtain ⟨T11, h11, X11, e11, W11, st11⟩ := putF X5 hx hZ hown (host := "") (Or.inl (ww hw 42 rfl)) Via.refl e5 fc6 (E_r0.wr W5) (Or.inr ⟨(ww hw 43 rfl), rfl, hnm⟩) (ww hw 31 rfl) (ty := (.object "com/example/covenantry/covenantry/Figure")) (by decide) rfl rfl (g := gK k10) rfl rfl (hb hby d5_11)
  have fc12 := ((F_above_r0.same W5).other W11 (Or.inr (slot_ne (Or.inr (ww hw 41 rfl)) (Or.inr (ww hw 43 rfl)) (by decide) (t := (.object "com/example/covenantry/covenantry/Figure")) (t' := (.object "com/example/covenantry/covenantry/Figure")) (by decide) (by decide))))
  have fc13 := (fc7.other W11 (Or.inr (slot_ne (Or.inr (ww hw 45 rfl)) (Or.inr (ww hw 43 rfl)) (by decide) (t := (.object "com/example/covenantry/covenantry/Figure")) (t' := (.object "com/example/covenantry/covenantry/Figure")) (by decide) (by decide))))
  have fc14 := (fc8.other W11 (Or.inr (slot_ne (Or.inr (ww hw 47 rfl)) (Or.inr (ww hw 43 rfl)) (by decide) (t := (.object "com/example/covenantry/covenantry/Unreadable")) (t' := (.object "com/example/covenantry/covenantry/Figure")) (by decide) (by decide))))
  have N11 := Fr.snoc X11 N5 g_r0
  have k16 : Kq X0 5 T11 (mkF m 16 (oL63 r0 r2 r3) [(.ref r3), (.ref r0)]) := fun t k => k10 t (st11 _ (XS.aloadN X11.here hx rfl (hb hby d5_14) rfl rfl (XS.aloadN X11.here hx rfl (hb hby d5_15) rfl rfl k)))
  obtain ⟨T17, h17, X17, e17, W17, st17⟩ := putF X11 hx hZ hown (host := "") (Or.inl (ww hw 44 rfl)) Via.refl e11 fc13 ((E_r0.wr W5).wr W11) (Or.inr ⟨(ww hw 45 rfl), rfl, hnm⟩) (ww hw 31 rfl) (ty := (.object "com/example/covenantry/covenantry/Figure")) (by decide) rfl rfl (g := gK k16) rfl rfl (hb hby d5_16)
  have fc18 := (fc12.other W17 (Or.inr (slot_ne (Or.inr (ww hw 41 rfl)) (Or.inr (ww hw 45 rfl)) (by decide) (t := (.object "com/example/covenantry/covenantry/Figure")) (t' := (.object "com/example/covenantry/covenantry/Figure")) (by decide) (by decide))))
  have fc19 := ((fc6.same W11).other W17 (Or.inr (slot_ne (Or.inr (ww hw 43 rfl)) (Or.inr (ww hw 45 rfl)) (by decide) (t := (.object "com/example/covenantry/covenantry/Figure")) (t' := (.object "com/example/covenantry/covenantry/Figure")) (by decide) (by decide))))
  have fc20 := (fc14.other W17 (Or.inr (slot_ne (Or.inr (ww hw 47 rfl)) (Or.inr (ww hw 45 rfl)) (by decide) (t := (.object "com/example/covenantry/covenantry/Unreadable")) (t' := (.object "com/example/covenantry/covenantry/Figure")) (by decide) (by decide))))
  have N17 := Fr.snoc X17 N11 g_r0
  have k22 : Kq X0 5 T17 (mkF m 22 (oL63 r0 r2 r3) [.null, (.ref r0)]) := fun t k => k16 t (st17 _ (XS.aloadN X17.here hx rfl (hb hby d5_19) rfl rfl (XS.aload X17.here hx rfl (hb hby d5_20) rfl rfl k)))
  obtain ⟨T23, h23, X23, e23, W23, st23⟩ := putF X17 hx hZ hown (host := "") (Or.inl (ww hw 46 rfl)) Via.refl e17 fc20 (((E_r0.wr W5).wr W11).wr W17) (Or.inr ⟨(ww hw 47 rfl), rfl, hnm⟩) (ww hw 31 rfl) (ty := (.object "com/example/covenantry/covenantry/Unreadable")) (by decide) rfl rfl (g := gK k22) rfl rfl (hb hby d5_22)
  have fc24 := (fc18.other W23 (Or.inr (slot_ne (Or.inr (ww hw 41 rfl)) (Or.inr (ww hw 47 rfl)) (by decide) (t := (.object "com/example/covenantry/covenantry/Figure")) (t' := (.object "com/example/covenantry/covenantry/Unreadable")) (by decide) (by decide))))
  have fc25 := (fc19.other W23 (Or.inr (slot_ne (Or.inr (ww hw 43 rfl)) (Or.inr (ww hw 47 rfl)) (by decide) (t := (.object "com/example/covenantry/covenantry/Figure")) (t' := (.object "com/example/covenantry/covenantry/Unreadable")) (by decide) (by decide))))
  have fc26 := ((fc13.same W17).other W23 (Or.inr (slot_ne (Or.inr (ww hw 45 rfl)) (Or.inr (ww hw 47 rfl)) (by decide) (t := (.object "com/example/covenantry/covenantry/Figure")) (t' := (.object "com/example/covenantry/covenantry/Unreadable")) (by decide) (by decide))))
  have N23 := Fr.snoc X23 N17 g_r0
  have k27 : Kq X0 5 T23 (mkF m 25 (oL63 r0 r2 r3) []) := fun t k => k22 t (st23 _ k)
  obtain ⟨fs, hr, hrun, hended, hW, hsame⟩ := X23.leave (v := none) (fun _ => rfl)
  refine ⟨_, _, k27 _ ?_, hrun, hended, _, _, rfl, ?_, ⟨_, rfl⟩, hW, hsame.mono (by decide) (by decide)⟩
  · exact X23.returnOut hx Bd.returns (hb hby d5_25) hr
  · show Q5l01 Z r0 r2 r3 h0 n0 _ T23.heap _
    rw [e23]
    exact ⟨rfl, N23, (((((Keep.refl h0 [r0]).wr W5 (Or.inl (own_wi 0 rfl))).wr W11 (Or.inl (own_wi 0 rfl))).wr W17 (Or.inl (own_wi 0 rfl))).wr W23 (Or.inl (own_wi 0 rfl))), ((((E_r0.wr W5).wr W11).wr W17).wr W23), fc24, fc25, fc26, (fc20.same W23)⟩
theorem ef_4l01 (m : MethodId) (x0 : Addr) (x2 : Addr) (x3 : Addr) : entryFrame m #[(.ref x0), .null, (.ref x2), (.ref x3)] 4 = mkF m 0 #[.val (.ref x0), .val .null, .val (.ref x2), .val (.ref x3)] [] := by first | (simp [entryFrame, mkF, argsToLocals, Value.category]; done) | rfl
def Q4l01 (Z : State) (r0 : Addr) (r2 : Addr) (r3 : Addr) (h0 : Heap) (n0 : Nat) (v : Option Value) (h : Heap) (L : List Loc) : Prop := v = none ∧ Fr n0 L ∧ Keep h0 h [r0] ∧ Exa Z h r0 "com/example/covenantry/covenantry/FeeLevel" ∧ Fld Z h r0 "com/example/covenantry/covenantry/FeeLevel" "above" "Lcom/example/covenantry/covenantry/Figure;" .null ∧ Fld Z h r0 "com/example/covenantry/covenantry/FeeLevel" "atMost" "Lcom/example/covenantry/covenantry/Figure;" (.ref r2) ∧ Fld Z h r0 "com/example/covenantry/covenantry/FeeLevel" "rate" "Lcom/example/covenantry/covenantry/Figure;" (.ref r3) ∧ Fld Z h r0 "com/example/covenantry/covenantry/FeeLevel" "unreadable" "Lcom/example/covenantry/covenantry/Unreadable;" .null
def oL64 (r0 : Addr) (r2 : Addr) (r3 : Addr) : Array Slot := #[.val (.ref r0), .val .null, .val (.ref r2), .val (.ref r3)]
theorem rm4l01 (l : Launch) (Z : State) (a0 : Array Value) (hw : ∀ d ∈ tables_1, d.before a0 Z = true) (ws : List Jvm.Cond) (r0 : Addr) (r2 : Addr) (r3 : Addr) (h0 : Heap) (n0 : Nat) (Z0 : n0 ≤ h0.size) (F_above_r0 : Fld Z h0 r0 "com/example/covenantry/covenantry/FeeLevel" "above" "Lcom/example/covenantry/covenantry/Figure;" .null) (F_atMost_r0 : Fld Z h0 r0 "com/example/covenantry/covenantry/FeeLevel" "atMost" "Lcom/example/covenantry/covenantry/Figure;" .null) (F_rate_r0 : Fld Z h0 r0 "com/example/covenantry/covenantry/FeeLevel" "rate" "Lcom/example/covenantry/covenantry/Figure;" .null) (F_unreadable_r0 : Fld Z h0 r0 "com/example/covenantry/covenantry/FeeLevel" "unreadable" "Lcom/example/covenantry/covenantry/Unreadable;" .null) (E_r0 : Exa Z h0 r0 "com/example/covenantry/covenantry/FeeLevel") (g_r0 : n0 ≤ r0) :
    MetFree l mN29 (head1 (Jvm.Cond.code mN29 prog_27_method_1_code 4 none :: ws) oR30) (fun a U => a = #[(.ref r0), .null, (.ref r2), (.ref r3)] ∧ Z.Warmed39 U.vm ∧ U.heap = h0) (fun _ _ _ _ _ => True) (fun _ U o U' => ∃ v L, o = .returned v ∧ Q4l01 Z r0 r2 r3 h0 n0 v U'.heap L ∧ FrameEnd U o U' L oR30.cells oR30.slots) := by
  refine MetFree.of_bodySF (plainFor_of_name pn_6) hisR ?_
  intro p e s m args below meth c s₁ Bd hml0 hP hK
  obtain ⟨rfl, hZ, hh⟩ := hP
  have hx := Bd.exec
  have hby := Bd.bytes
  have hml : c.maxLocals = 4 := hml0
  have hown : s.vm.findClass "com/example/covenantry/covenantry/FeeLevel" = some m.cls := findClass_of_methodNamed Bd.named
  have X0 : Stand p l e oR30 s m #[(.ref r0), .null, (.ref r2), (.ref r3)] below meth c s₁ [] 0 0 := Stand.of_body Bd
  have e0 : s₁.heap = h0 := by rw [← hh, Bd.state]; rfl
  have N0 := Fr.nil n0
  have k0 : Kq X0 4 s₁ (mkF m 0 (oL64 r0 r2 r3) []) := fun t k => castTop (ef_4l01 m r0 r2 r3) k
  have k1 : Kq X0 4 s₁ (mkF m 5 (oL64 r0 r2 r3) [.null, (.ref r3), (.ref r2), .null, (.ref r0)]) := fun t k => k0 t (XS.aloadN X0.here hx rfl (hb hby d4_0) rfl rfl (XS.aloadN X0.here hx rfl (hb hby d4_1) rfl rfl (XS.aloadN X0.here hx rfl (hb hby d4_2) rfl rfl (XS.aloadN X0.here hx rfl (hb hby d4_3) rfl rfl (XS.aconstNull X0.here hx rfl (hb hby d4_4) k)))))
  obtain ⟨_, _, ⟨T2, L2, kq2, n2⟩, -, X2, ⟨Lc2, hQ2, l2, y2, z2⟩, st2⟩ := X0.specialBack hx (y := mN28) rfl hown (mw hZ hw 36 rfl) (mw hZ hw 37 rfl) (mw hZ hw 38 rfl) (by decide) (backOf (W := 0) (rm5l01 l Z a0 hw [] r0 r2 r3 h0 n0 Z0 F_above_r0 F_atMost_r0 F_rate_r0 F_unreadable_r0 E_r0 g_r0) hZ (ww hw 38 rfl) (ww hw 32 rfl) (by decide) (by decide)) (g := gK k1) rfl (by rw [hml]; rfl) (Steps.refl _) (a := r0) (argsL := [.null, (.ref r2), (.ref r3), .null]) (rest := []) (lenOf pd_18 rfl) rfl (by show 2 * 0 + _ ≤ _; exact Nat.le_of_eq rfl) (hb hby d4_5) (fun _ _ => ⟨rfl, e0, (by decide : 0 + 0 ≤ _), (by decide : 0 + 0 ≤ _)⟩)
  dsimp only [Pt.U, Pt.locs, Pt.cells, Pt.slots] at X2 l2 y2 z2 st2 hQ2
  replace l2 := l2.symm; subst l2 y2 z2
  obtain ⟨rfl, N2q, K2, Ex2, Fx2_0, Fx2_1, Fx2_2, Fx2_3⟩ := hQ2
  have N2 := Fr.app N0 N2q
  have k3 : Kq X0 4 T2 (mkF m 8 (oL64 r0 r2 r3) []) := fun t k => k1 t (st2.trans k)
  obtain ⟨fs, hr, hrun, hended, hW, hsame⟩ := X2.leave (v := none) (fun _ => rfl)
  refine ⟨_, _, k3 _ ?_, hrun, hended, _, _, rfl, ?_, ⟨_, rfl⟩, hW, hsame.mono (by decide) (by decide)⟩
  · exact X2.returnOut hx Bd.returns (hb hby d4_8) hr
  · show Q4l01 Z r0 r2 r3 h0 n0 _ T2.heap _
    exact ⟨rfl, N2, K2, Ex2, Fx2_0, Fx2_1, Fx2_2, Fx2_3⟩
theorem ef_5l10 (m : MethodId) (x0 : Addr) (x1 : Addr) (x3 : Addr) : entryFrame m #[(.ref x0), (.ref x1), .null, (.ref x3), .null] 5 = mkF m 0 #[.val (.ref x0), .val (.ref x1), .val .null, .val (.ref x3), .val .null] [] := by first | (simp [entryFrame, mkF, argsToLocals, Value.category]; done) | rfl
def Q5l10 (Z : State) (r0 : Addr) (r1 : Addr) (r3 : Addr) (h0 : Heap) (n0 : Nat) (v : Option Value) (h : Heap) (L : List Loc) : Prop := v = none ∧ Fr n0 L ∧ Keep h0 h [r0] ∧ Exa Z h r0 "com/example/covenantry/covenantry/FeeLevel" ∧ Fld Z h r0 "com/example/covenantry/covenantry/FeeLevel" "above" "Lcom/example/covenantry/covenantry/Figure;" (.ref r1) ∧ Fld Z h r0 "com/example/covenantry/covenantry/FeeLevel" "atMost" "Lcom/example/covenantry/covenantry/Figure;" .null ∧ Fld Z h r0 "com/example/covenantry/covenantry/FeeLevel" "rate" "Lcom/example/covenantry/covenantry/Figure;" (.ref r3) ∧ Fld Z h r0 "com/example/covenantry/covenantry/FeeLevel" "unreadable" "Lcom/example/covenantry/covenantry/Unreadable;" .null
def oL65 (r0 : Addr) (r1 : Addr) (r3 : Addr) : Array Slot := #[.val (.ref r0), .val (.ref r1), .val .null, .val (.ref r3), .val .null]
theorem rm5l10 (l : Launch) (Z : State) (a0 : Array Value) (hw : ∀ d ∈ tables_1, d.before a0 Z = true) (ws : List Jvm.Cond) (r0 : Addr) (r1 : Addr) (r3 : Addr) (h0 : Heap) (n0 : Nat) (Z0 : n0 ≤ h0.size) (F_above_r0 : Fld Z h0 r0 "com/example/covenantry/covenantry/FeeLevel" "above" "Lcom/example/covenantry/covenantry/Figure;" .null) (F_atMost_r0 : Fld Z h0 r0 "com/example/covenantry/covenantry/FeeLevel" "atMost" "Lcom/example/covenantry/covenantry/Figure;" .null) (F_rate_r0 : Fld Z h0 r0 "com/example/covenantry/covenantry/FeeLevel" "rate" "Lcom/example/covenantry/covenantry/Figure;" .null) (F_unreadable_r0 : Fld Z h0 r0 "com/example/covenantry/covenantry/FeeLevel" "unreadable" "Lcom/example/covenantry/covenantry/Unreadable;" .null) (E_r0 : Exa Z h0 r0 "com/example/covenantry/covenantry/FeeLevel") (g_r0 : n0 ≤ r0) :
    MetFree l mN28 (head1 (Jvm.Cond.code mN28 prog_27_method_3_code 5 none :: ws) oR16) (fun a U => a = #[(.ref r0), (.ref r1), .null, (.ref r3), .null] ∧ Z.Warmed39 U.vm ∧ U.heap = h0) (fun _ _ _ _ _ => True) (fun _ U o U' => ∃ v L, o = .returned v ∧ Q5l10 Z r0 r1 r3 h0 n0 v U'.heap L ∧ FrameEnd U o U' L oR16.cells oR16.slots) := by
  refine MetFree.of_bodySF (plainFor_of_name pn_6) hisR ?_
  intro p e s m args below meth c s₁ Bd hml0 hP hK
  obtain ⟨rfl, hZ, hh⟩ := hP
  have hx := Bd.exec
  have hby := Bd.bytes
  have hml : c.maxLocals = 5 := hml0
  have hown : s.vm.findClass "com/example/covenantry/covenantry/FeeLevel" = some m.cls := findClass_of_methodNamed Bd.named
  have hnm := (name_of_methodNamed Bd.named Bd.method).1
  have X0 : Stand p l e oR16 s m #[(.ref r0), (.ref r1), .null, (.ref r3), .null] below meth c s₁ [] 0 0 := Stand.of_body Bd
  have e0 : s₁.heap = h0 := by rw [← hh, Bd.state]; rfl
  have N0 := Fr.nil n0
  have k0 : Kq X0 5 s₁ (mkF m 0 (oL65 r0 r1 r3) []) := fun t k => castTop (ef_5l10 m r0 r1 r3) k
  have k1 : Kq X0 5 s₁ (mkF m 1 (oL65 r0 r1 r3) [(.ref r0)]) := fun t k => k0 t (XS.aloadN X0.here hx rfl (hb hby d5_0) rfl rfl k)
  obtain ⟨T2, X2, e2, st2⟩ := initO X0 hx hZ hown (ww hw 39 rfl) (ww hw 18 rfl) (ww hw 19 rfl) e0 (g := gK k1) rfl (by rw [hml]; rfl) rfl (hb hby d5_1) (by decide) (W := 0) (by show 2 * 0 + _ ≤ _; exact Nat.le_of_eq rfl) (by decide)
  have k4 : Kq X0 5 T2 (mkF m 6 (oL65 r0 r1 r3) [(.ref r1), (.ref r0)]) := fun t k => k1 t (st2 _ (XS.aloadN X2.here hx rfl (hb hby d5_4) rfl rfl (XS.aloadN X2.here hx rfl (hb hby d5_5) rfl rfl k)))
  obtain ⟨T5, h5, X5, e5, W5, st5⟩ := putF X2 hx hZ hown (host := "") (Or.inl (ww hw 40 rfl)) Via.refl e2 F_above_r0 E_r0 (Or.inr ⟨(ww hw 41 rfl), rfl, hnm⟩) (ww hw 31 rfl) (ty := (.object "com/example/covenantry/covenantry/Figure")) (by decide) rfl rfl (g := gK k4) rfl rfl (hb hby d5_6)
  have fc6 := (F_atMost_r0.other W5 (Or.inr (slot_ne (Or.inr (ww hw 43 rfl)) (Or.inr (ww hw 41 rfl)) (by decide) (t := (.object "com/example/covenantry/covenantry/Figure")) (t' := (.object "com/example/covenantry/covenantry/Figure")) (by decide) (by decide))))
  have fc7 := (F_rate_r0.other W5 (Or.inr (slot_ne (Or.inr (ww hw 45 rfl)) (Or.inr (ww hw 41 rfl)) (by decide) (t := (.object "com/example/covenantry/covenantry/Figure")) (t' := (.object "com/example/covenantry/covenantry/Figure")) (by decide) (by decide))))
  have fc8 := (F_unreadable_r0.other W5 (Or.inr (slot_ne (Or.inr (ww hw 47 rfl)) (Or.inr (ww hw 41 rfl)) (by decide) (t := (.object "com/example/covenantry/covenantry/Unreadable")) (t' := (.object "com/example/covenantry/covenantry/Figure")) (by decide) (by decide))))
  have N5 := Fr.snoc X5 N0 g_r0
  have k10 : Kq X0 5 T5 (mkF m 11 (oL65 r0 r1 r3) [.null, (.ref r0)]) := fun t k => k4 t (st5 _ (XS.aloadN X5.here hx rfl (hb hby d5_9) rfl rfl (XS.aloadN X5.here hx rfl (hb hby d5_10) rfl rfl k)))
  obtain ⟨T11, h11, X11, e11, W11, st11⟩ := putF X5 hx hZ hown (host := "") (Or.inl (ww hw 42 rfl)) Via.refl e5 fc6 (E_r0.wr W5) (Or.inr ⟨(ww hw 43 rfl), rfl, hnm⟩) (ww hw 31 rfl) (ty := (.object "com/example/covenantry/covenantry/Figure")) (by decide) rfl rfl (g := gK k10) rfl rfl (hb hby d5_11)
  have fc12 := ((F_above_r0.same W5).other W11 (Or.inr (slot_ne (Or.inr (ww hw 41 rfl)) (Or.inr (ww hw 43 rfl)) (by decide) (t := (.object "com/example/covenantry/covenantry/Figure")) (t' := (.object "com/example/covenantry/covenantry/Figure")) (by decide) (by decide))))
  have fc13 := (fc7.other W11 (Or.inr (slot_ne (Or.inr (ww hw 45 rfl)) (Or.inr (ww hw 43 rfl)) (by decide) (t := (.object "com/example/covenantry/covenantry/Figure")) (t' := (.object "com/example/covenantry/covenantry/Figure")) (by decide) (by decide))))
  have fc14 := (fc8.other W11 (Or.inr (slot_ne (Or.inr (ww hw 47 rfl)) (Or.inr (ww hw 43 rfl)) (by decide) (t := (.object "com/example/covenantry/covenantry/Unreadable")) (t' := (.object "com/example/covenantry/covenantry/Figure")) (by decide) (by decide))))
  have N11 := Fr.snoc X11 N5 g_r0
  have k16 : Kq X0 5 T11 (mkF m 16 (oL65 r0 r1 r3) [(.ref r3), (.ref r0)]) := fun t k => k10 t (st11 _ (XS.aloadN X11.here hx rfl (hb hby d5_14) rfl rfl (XS.aloadN X11.here hx rfl (hb hby d5_15) rfl rfl k)))
  obtain ⟨T17, h17, X17, e17, W17, st17⟩ := putF X11 hx hZ hown (host := "") (Or.inl (ww hw 44 rfl)) Via.refl e11 fc13 ((E_r0.wr W5).wr W11) (Or.inr ⟨(ww hw 45 rfl), rfl, hnm⟩) (ww hw 31 rfl) (ty := (.object "com/example/covenantry/covenantry/Figure")) (by decide) rfl rfl (g := gK k16) rfl rfl (hb hby d5_16)
  have fc18 := (fc12.other W17 (Or.inr (slot_ne (Or.inr (ww hw 41 rfl)) (Or.inr (ww hw 45 rfl)) (by decide) (t := (.object "com/example/covenantry/covenantry/Figure")) (t' := (.object "com/example/covenantry/covenantry/Figure")) (by decide) (by decide))))
  have fc19 := ((fc6.same W11).other W17 (Or.inr (slot_ne (Or.inr (ww hw 43 rfl)) (Or.inr (ww hw 45 rfl)) (by decide) (t := (.object "com/example/covenantry/covenantry/Figure")) (t' := (.object "com/example/covenantry/covenantry/Figure")) (by decide) (by decide))))
  have fc20 := (fc14.other W17 (Or.inr (slot_ne (Or.inr (ww hw 47 rfl)) (Or.inr (ww hw 45 rfl)) (by decide) (t := (.object "com/example/covenantry/covenantry/Unreadable")) (t' := (.object "com/example/covenantry/covenantry/Figure")) (by decide) (by decide))))
  have N17 := Fr.snoc X17 N11 g_r0
  have k22 : Kq X0 5 T17 (mkF m 22 (oL65 r0 r1 r3) [.null, (.ref r0)]) := fun t k => k16 t (st17 _ (XS.aloadN X17.here hx rfl (hb hby d5_19) rfl rfl (XS.aload X17.here hx rfl (hb hby d5_20) rfl rfl k)))
  obtain ⟨T23, h23, X23, e23, W23, st23⟩ := putF X17 hx hZ hown (host := "") (Or.inl (ww hw 46 rfl)) Via.refl e17 fc20 (((E_r0.wr W5).wr W11).wr W17) (Or.inr ⟨(ww hw 47 rfl), rfl, hnm⟩) (ww hw 31 rfl) (ty := (.object "com/example/covenantry/covenantry/Unreadable")) (by decide) rfl rfl (g := gK k22) rfl rfl (hb hby d5_22)
  have fc24 := (fc18.other W23 (Or.inr (slot_ne (Or.inr (ww hw 41 rfl)) (Or.inr (ww hw 47 rfl)) (by decide) (t := (.object "com/example/covenantry/covenantry/Figure")) (t' := (.object "com/example/covenantry/covenantry/Unreadable")) (by decide) (by decide))))
  have fc25 := (fc19.other W23 (Or.inr (slot_ne (Or.inr (ww hw 43 rfl)) (Or.inr (ww hw 47 rfl)) (by decide) (t := (.object "com/example/covenantry/covenantry/Figure")) (t' := (.object "com/example/covenantry/covenantry/Unreadable")) (by decide) (by decide))))
  have fc26 := ((fc13.same W17).other W23 (Or.inr (slot_ne (Or.inr (ww hw 45 rfl)) (Or.inr (ww hw 47 rfl)) (by decide) (t := (.object "com/example/covenantry/covenantry/Figure")) (t' := (.object "com/example/covenantry/covenantry/Unreadable")) (by decide) (by decide))))
  have N23 := Fr.snoc X23 N17 g_r0
  have k27 : Kq X0 5 T23 (mkF m 25 (oL65 r0 r1 r3) []) := fun t k => k22 t (st23 _ k)
  obtain ⟨fs, hr, hrun, hended, hW, hsame⟩ := X23.leave (v := none) (fun _ => rfl)
  refine ⟨_, _, k27 _ ?_, hrun, hended, _, _, rfl, ?_, ⟨_, rfl⟩, hW, hsame.mono (by decide) (by decide)⟩
  · exact X23.returnOut hx Bd.returns (hb hby d5_25) hr
  · show Q5l10 Z r0 r1 r3 h0 n0 _ T23.heap _
    rw [e23]
    exact ⟨rfl, N23, (((((Keep.refl h0 [r0]).wr W5 (Or.inl (own_wi 0 rfl))).wr W11 (Or.inl (own_wi 0 rfl))).wr W17 (Or.inl (own_wi 0 rfl))).wr W23 (Or.inl (own_wi 0 rfl))), ((((E_r0.wr W5).wr W11).wr W17).wr W23), fc24, fc25, fc26, (fc20.same W23)⟩
theorem ef_4l10 (m : MethodId) (x0 : Addr) (x1 : Addr) (x3 : Addr) : entryFrame m #[(.ref x0), (.ref x1), .null, (.ref x3)] 4 = mkF m 0 #[.val (.ref x0), .val (.ref x1), .val .null, .val (.ref x3)] [] := by first | (simp [entryFrame, mkF, argsToLocals, Value.category]; done) | rfl
def Q4l10 (Z : State) (r0 : Addr) (r1 : Addr) (r3 : Addr) (h0 : Heap) (n0 : Nat) (v : Option Value) (h : Heap) (L : List Loc) : Prop := v = none ∧ Fr n0 L ∧ Keep h0 h [r0] ∧ Exa Z h r0 "com/example/covenantry/covenantry/FeeLevel" ∧ Fld Z h r0 "com/example/covenantry/covenantry/FeeLevel" "above" "Lcom/example/covenantry/covenantry/Figure;" (.ref r1) ∧ Fld Z h r0 "com/example/covenantry/covenantry/FeeLevel" "atMost" "Lcom/example/covenantry/covenantry/Figure;" .null ∧ Fld Z h r0 "com/example/covenantry/covenantry/FeeLevel" "rate" "Lcom/example/covenantry/covenantry/Figure;" (.ref r3) ∧ Fld Z h r0 "com/example/covenantry/covenantry/FeeLevel" "unreadable" "Lcom/example/covenantry/covenantry/Unreadable;" .null
def oL66 (r0 : Addr) (r1 : Addr) (r3 : Addr) : Array Slot := #[.val (.ref r0), .val (.ref r1), .val .null, .val (.ref r3)]
theorem rm4l10 (l : Launch) (Z : State) (a0 : Array Value) (hw : ∀ d ∈ tables_1, d.before a0 Z = true) (ws : List Jvm.Cond) (r0 : Addr) (r1 : Addr) (r3 : Addr) (h0 : Heap) (n0 : Nat) (Z0 : n0 ≤ h0.size) (F_above_r0 : Fld Z h0 r0 "com/example/covenantry/covenantry/FeeLevel" "above" "Lcom/example/covenantry/covenantry/Figure;" .null) (F_atMost_r0 : Fld Z h0 r0 "com/example/covenantry/covenantry/FeeLevel" "atMost" "Lcom/example/covenantry/covenantry/Figure;" .null) (F_rate_r0 : Fld Z h0 r0 "com/example/covenantry/covenantry/FeeLevel" "rate" "Lcom/example/covenantry/covenantry/Figure;" .null) (F_unreadable_r0 : Fld Z h0 r0 "com/example/covenantry/covenantry/FeeLevel" "unreadable" "Lcom/example/covenantry/covenantry/Unreadable;" .null) (E_r0 : Exa Z h0 r0 "com/example/covenantry/covenantry/FeeLevel") (g_r0 : n0 ≤ r0) :
    MetFree l mN29 (head1 (Jvm.Cond.code mN29 prog_27_method_1_code 4 none :: ws) oR30) (fun a U => a = #[(.ref r0), (.ref r1), .null, (.ref r3)] ∧ Z.Warmed39 U.vm ∧ U.heap = h0) (fun _ _ _ _ _ => True) (fun _ U o U' => ∃ v L, o = .returned v ∧ Q4l10 Z r0 r1 r3 h0 n0 v U'.heap L ∧ FrameEnd U o U' L oR30.cells oR30.slots) := by
  refine MetFree.of_bodySF (plainFor_of_name pn_6) hisR ?_
  intro p e s m args below meth c s₁ Bd hml0 hP hK
  obtain ⟨rfl, hZ, hh⟩ := hP
  have hx := Bd.exec
  have hby := Bd.bytes
  have hml : c.maxLocals = 4 := hml0
  have hown : s.vm.findClass "com/example/covenantry/covenantry/FeeLevel" = some m.cls := findClass_of_methodNamed Bd.named
  have X0 : Stand p l e oR30 s m #[(.ref r0), (.ref r1), .null, (.ref r3)] below meth c s₁ [] 0 0 := Stand.of_body Bd
  have e0 : s₁.heap = h0 := by rw [← hh, Bd.state]; rfl
  have N0 := Fr.nil n0
  have k0 : Kq X0 4 s₁ (mkF m 0 (oL66 r0 r1 r3) []) := fun t k => castTop (ef_4l10 m r0 r1 r3) k
  have k1 : Kq X0 4 s₁ (mkF m 5 (oL66 r0 r1 r3) [.null, (.ref r3), .null, (.ref r1), (.ref r0)]) := fun t k => k0 t (XS.aloadN X0.here hx rfl (hb hby d4_0) rfl rfl (XS.aloadN X0.here hx rfl (hb hby d4_1) rfl rfl (XS.aloadN X0.here hx rfl (hb hby d4_2) rfl rfl (XS.aloadN X0.here hx rfl (hb hby d4_3) rfl rfl (XS.aconstNull X0.here hx rfl (hb hby d4_4) k)))))
  obtain ⟨_, _, ⟨T2, L2, kq2, n2⟩, -, X2, ⟨Lc2, hQ2, l2, y2, z2⟩, st2⟩ := X0.specialBack hx (y := mN28) rfl hown (mw hZ hw 36 rfl) (mw hZ hw 37 rfl) (mw hZ hw 38 rfl) (by decide) (backOf (W := 0) (rm5l10 l Z a0 hw [] r0 r1 r3 h0 n0 Z0 F_above_r0 F_atMost_r0 F_rate_r0 F_unreadable_r0 E_r0 g_r0) hZ (ww hw 38 rfl) (ww hw 32 rfl) (by decide) (by decide)) (g := gK k1) rfl (by rw [hml]; rfl) (Steps.refl _) (a := r0) (argsL := [(.ref r1), .null, (.ref r3), .null]) (rest := []) (lenOf pd_18 rfl) rfl (by show 2 * 0 + _ ≤ _; exact Nat.le_of_eq rfl) (hb hby d4_5) (fun _ _ => ⟨rfl, e0, (by decide : 0 + 0 ≤ _), (by decide : 0 + 0 ≤ _)⟩)
  dsimp only [Pt.U, Pt.locs, Pt.cells, Pt.slots] at X2 l2 y2 z2 st2 hQ2
  replace l2 := l2.symm; subst l2 y2 z2
  obtain ⟨rfl, N2q, K2, Ex2, Fx2_0, Fx2_1, Fx2_2, Fx2_3⟩ := hQ2
  have N2 := Fr.app N0 N2q
  have k3 : Kq X0 4 T2 (mkF m 8 (oL66 r0 r1 r3) []) := fun t k => k1 t (st2.trans k)
  obtain ⟨fs, hr, hrun, hended, hW, hsame⟩ := X2.leave (v := none) (fun _ => rfl)
  refine ⟨_, _, k3 _ ?_, hrun, hended, _, _, rfl, ?_, ⟨_, rfl⟩, hW, hsame.mono (by decide) (by decide)⟩
  · exact X2.returnOut hx Bd.returns (hb hby d4_8) hr
  · show Q4l10 Z r0 r1 r3 h0 n0 _ T2.heap _
    exact ⟨rfl, N2, K2, Ex2, Fx2_0, Fx2_1, Fx2_2, Fx2_3⟩
theorem ef_5l11 (m : MethodId) (x0 : Addr) (x1 : Addr) (x2 : Addr) (x3 : Addr) : entryFrame m #[(.ref x0), (.ref x1), (.ref x2), (.ref x3), .null] 5 = mkF m 0 #[.val (.ref x0), .val (.ref x1), .val (.ref x2), .val (.ref x3), .val .null] [] := by first | (simp [entryFrame, mkF, argsToLocals, Value.category]; done) | rfl
def Q5l11 (Z : State) (r0 : Addr) (r1 : Addr) (r2 : Addr) (r3 : Addr) (h0 : Heap) (n0 : Nat) (v : Option Value) (h : Heap) (L : List Loc) : Prop := v = none ∧ Fr n0 L ∧ Keep h0 h [r0] ∧ Exa Z h r0 "com/example/covenantry/covenantry/FeeLevel" ∧ Fld Z h r0 "com/example/covenantry/covenantry/FeeLevel" "above" "Lcom/example/covenantry/covenantry/Figure;" (.ref r1) ∧ Fld Z h r0 "com/example/covenantry/covenantry/FeeLevel" "atMost" "Lcom/example/covenantry/covenantry/Figure;" (.ref r2) ∧ Fld Z h r0 "com/example/covenantry/covenantry/FeeLevel" "rate" "Lcom/example/covenantry/covenantry/Figure;" (.ref r3) ∧ Fld Z h r0 "com/example/covenantry/covenantry/FeeLevel" "unreadable" "Lcom/example/covenantry/covenantry/Unreadable;" .null
def oL67 (r0 : Addr) (r1 : Addr) (r2 : Addr) (r3 : Addr) : Array Slot := #[.val (.ref r0), .val (.ref r1), .val (.ref r2), .val (.ref r3), .val .null]
theorem rm5l11 (l : Launch) (Z : State) (a0 : Array Value) (hw : ∀ d ∈ tables_1, d.before a0 Z = true) (ws : List Jvm.Cond) (r0 : Addr) (r1 : Addr) (r2 : Addr) (r3 : Addr) (h0 : Heap) (n0 : Nat) (Z0 : n0 ≤ h0.size) (F_above_r0 : Fld Z h0 r0 "com/example/covenantry/covenantry/FeeLevel" "above" "Lcom/example/covenantry/covenantry/Figure;" .null) (F_atMost_r0 : Fld Z h0 r0 "com/example/covenantry/covenantry/FeeLevel" "atMost" "Lcom/example/covenantry/covenantry/Figure;" .null) (F_rate_r0 : Fld Z h0 r0 "com/example/covenantry/covenantry/FeeLevel" "rate" "Lcom/example/covenantry/covenantry/Figure;" .null) (F_unreadable_r0 : Fld Z h0 r0 "com/example/covenantry/covenantry/FeeLevel" "unreadable" "Lcom/example/covenantry/covenantry/Unreadable;" .null) (E_r0 : Exa Z h0 r0 "com/example/covenantry/covenantry/FeeLevel") (g_r0 : n0 ≤ r0) :
    MetFree l mN28 (head1 (Jvm.Cond.code mN28 prog_27_method_3_code 5 none :: ws) oR16) (fun a U => a = #[(.ref r0), (.ref r1), (.ref r2), (.ref r3), .null] ∧ Z.Warmed39 U.vm ∧ U.heap = h0) (fun _ _ _ _ _ => True) (fun _ U o U' => ∃ v L, o = .returned v ∧ Q5l11 Z r0 r1 r2 r3 h0 n0 v U'.heap L ∧ FrameEnd U o U' L oR16.cells oR16.slots) := by
  refine MetFree.of_bodySF (plainFor_of_name pn_6) hisR ?_
  intro p e s m args below meth c s₁ Bd hml0 hP hK
  obtain ⟨rfl, hZ, hh⟩ := hP
  have hx := Bd.exec
  have hby := Bd.bytes
  have hml : c.maxLocals = 5 := hml0
  have hown : s.vm.findClass "com/example/covenantry/covenantry/FeeLevel" = some m.cls := findClass_of_methodNamed Bd.named
  have hnm := (name_of_methodNamed Bd.named Bd.method).1
  have X0 : Stand p l e oR16 s m #[(.ref r0), (.ref r1), (.ref r2), (.ref r3), .null] below meth c s₁ [] 0 0 := Stand.of_body Bd
  have e0 : s₁.heap = h0 := by rw [← hh, Bd.state]; rfl
  have N0 := Fr.nil n0
  have k0 : Kq X0 5 s₁ (mkF m 0 (oL67 r0 r1 r2 r3) []) := fun t k => castTop (ef_5l11 m r0 r1 r2 r3) k
  have k1 : Kq X0 5 s₁ (mkF m 1 (oL67 r0 r1 r2 r3) [(.ref r0)]) := fun t k => k0 t (XS.aloadN X0.here hx rfl (hb hby d5_0) rfl rfl k)
  obtain ⟨T2, X2, e2, st2⟩ := initO X0 hx hZ hown (ww hw 39 rfl) (ww hw 18 rfl) (ww hw 19 rfl) e0 (g := gK k1) rfl (by rw [hml]; rfl) rfl (hb hby d5_1) (by decide) (W := 0) (by show 2 * 0 + _ ≤ _; exact Nat.le_of_eq rfl) (by decide)
  have k4 : Kq X0 5 T2 (mkF m 6 (oL67 r0 r1 r2 r3) [(.ref r1), (.ref r0)]) := fun t k => k1 t (st2 _ (XS.aloadN X2.here hx rfl (hb hby d5_4) rfl rfl (XS.aloadN X2.here hx rfl (hb hby d5_5) rfl rfl k)))
  obtain ⟨T5, h5, X5, e5, W5, st5⟩ := putF X2 hx hZ hown (host := "") (Or.inl (ww hw 40 rfl)) Via.refl e2 F_above_r0 E_r0 (Or.inr ⟨(ww hw 41 rfl), rfl, hnm⟩) (ww hw 31 rfl) (ty := (.object "com/example/covenantry/covenantry/Figure")) (by decide) rfl rfl (g := gK k4) rfl rfl (hb hby d5_6)
  have fc6 := (F_atMost_r0.other W5 (Or.inr (slot_ne (Or.inr (ww hw 43 rfl)) (Or.inr (ww hw 41 rfl)) (by decide) (t := (.object "com/example/covenantry/covenantry/Figure")) (t' := (.object "com/example/covenantry/covenantry/Figure")) (by decide) (by decide))))
  have fc7 := (F_rate_r0.other W5 (Or.inr (slot_ne (Or.inr (ww hw 45 rfl)) (Or.inr (ww hw 41 rfl)) (by decide) (t := (.object "com/example/covenantry/covenantry/Figure")) (t' := (.object "com/example/covenantry/covenantry/Figure")) (by decide) (by decide))))
  have fc8 := (F_unreadable_r0.other W5 (Or.inr (slot_ne (Or.inr (ww hw 47 rfl)) (Or.inr (ww hw 41 rfl)) (by decide) (t := (.object "com/example/covenantry/covenantry/Unreadable")) (t' := (.object "com/example/covenantry/covenantry/Figure")) (by decide) (by decide))))
  have N5 := Fr.snoc X5 N0 g_r0
  have k10 : Kq X0 5 T5 (mkF m 11 (oL67 r0 r1 r2 r3) [(.ref r2), (.ref r0)]) := fun t k => k4 t (st5 _ (XS.aloadN X5.here hx rfl (hb hby d5_9) rfl rfl (XS.aloadN X5.here hx rfl (hb hby d5_10) rfl rfl k)))
  obtain ⟨T11, h11, X11, e11, W11, st11⟩ := putF X5 hx hZ hown (host := "") (Or.inl (ww hw 42 rfl)) Via.refl e5 fc6 (E_r0.wr W5) (Or.inr ⟨(ww hw 43 rfl), rfl, hnm⟩) (ww hw 31 rfl) (ty := (.object "com/example/covenantry/covenantry/Figure")) (by decide) rfl rfl (g := gK k10) rfl rfl (hb hby d5_11)
  have fc12 := ((F_above_r0.same W5).other W11 (Or.inr (slot_ne (Or.inr (ww hw 41 rfl)) (Or.inr (ww hw 43 rfl)) (by decide) (t := (.object "com/example/covenantry/covenantry/Figure")) (t' := (.object "com/example/covenantry/covenantry/Figure")) (by decide) (by decide))))
  have fc13 := (fc7.other W11 (Or.inr (slot_ne (Or.inr (ww hw 45 rfl)) (Or.inr (ww hw 43 rfl)) (by decide) (t := (.object "com/example/covenantry/covenantry/Figure")) (t' := (.object "com/example/covenantry/covenantry/Figure")) (by decide) (by decide))))
  have fc14 := (fc8.other W11 (Or.inr (slot_ne (Or.inr (ww hw 47 rfl)) (Or.inr (ww hw 43 rfl)) (by decide) (t := (.object "com/example/covenantry/covenantry/Unreadable")) (t' := (.object "com/example/covenantry/covenantry/Figure")) (by decide) (by decide))))
  have N11 := Fr.snoc X11 N5 g_r0
  have k16 : Kq X0 5 T11 (mkF m 16 (oL67 r0 r1 r2 r3) [(.ref r3), (.ref r0)]) := fun t k => k10 t (st11 _ (XS.aloadN X11.here hx rfl (hb hby d5_14) rfl rfl (XS.aloadN X11.here hx rfl (hb hby d5_15) rfl rfl k)))
  obtain ⟨T17, h17, X17, e17, W17, st17⟩ := putF X11 hx hZ hown (host := "") (Or.inl (ww hw 44 rfl)) Via.refl e11 fc13 ((E_r0.wr W5).wr W11) (Or.inr ⟨(ww hw 45 rfl), rfl, hnm⟩) (ww hw 31 rfl) (ty := (.object "com/example/covenantry/covenantry/Figure")) (by decide) rfl rfl (g := gK k16) rfl rfl (hb hby d5_16)
  have fc18 := (fc12.other W17 (Or.inr (slot_ne (Or.inr (ww hw 41 rfl)) (Or.inr (ww hw 45 rfl)) (by decide) (t := (.object "com/example/covenantry/covenantry/Figure")) (t' := (.object "com/example/covenantry/covenantry/Figure")) (by decide) (by decide))))
  have fc19 := ((fc6.same W11).other W17 (Or.inr (slot_ne (Or.inr (ww hw 43 rfl)) (Or.inr (ww hw 45 rfl)) (by decide) (t := (.object "com/example/covenantry/covenantry/Figure")) (t' := (.object "com/example/covenantry/covenantry/Figure")) (by decide) (by decide))))
  have fc20 := (fc14.other W17 (Or.inr (slot_ne (Or.inr (ww hw 47 rfl)) (Or.inr (ww hw 45 rfl)) (by decide) (t := (.object "com/example/covenantry/covenantry/Unreadable")) (t' := (.object "com/example/covenantry/covenantry/Figure")) (by decide) (by decide))))
  have N17 := Fr.snoc X17 N11 g_r0
  have k22 : Kq X0 5 T17 (mkF m 22 (oL67 r0 r1 r2 r3) [.null, (.ref r0)]) := fun t k => k16 t (st17 _ (XS.aloadN X17.here hx rfl (hb hby d5_19) rfl rfl (XS.aload X17.here hx rfl (hb hby d5_20) rfl rfl k)))
  obtain ⟨T23, h23, X23, e23, W23, st23⟩ := putF X17 hx hZ hown (host := "") (Or.inl (ww hw 46 rfl)) Via.refl e17 fc20 (((E_r0.wr W5).wr W11).wr W17) (Or.inr ⟨(ww hw 47 rfl), rfl, hnm⟩) (ww hw 31 rfl) (ty := (.object "com/example/covenantry/covenantry/Unreadable")) (by decide) rfl rfl (g := gK k22) rfl rfl (hb hby d5_22)
  have fc24 := (fc18.other W23 (Or.inr (slot_ne (Or.inr (ww hw 41 rfl)) (Or.inr (ww hw 47 rfl)) (by decide) (t := (.object "com/example/covenantry/covenantry/Figure")) (t' := (.object "com/example/covenantry/covenantry/Unreadable")) (by decide) (by decide))))
  have fc25 := (fc19.other W23 (Or.inr (slot_ne (Or.inr (ww hw 43 rfl)) (Or.inr (ww hw 47 rfl)) (by decide) (t := (.object "com/example/covenantry/covenantry/Figure")) (t' := (.object "com/example/covenantry/covenantry/Unreadable")) (by decide) (by decide))))
  have fc26 := ((fc13.same W17).other W23 (Or.inr (slot_ne (Or.inr (ww hw 45 rfl)) (Or.inr (ww hw 47 rfl)) (by decide) (t := (.object "com/example/covenantry/covenantry/Figure")) (t' := (.object "com/example/covenantry/covenantry/Unreadable")) (by decide) (by decide))))
  have N23 := Fr.snoc X23 N17 g_r0
  have k27 : Kq X0 5 T23 (mkF m 25 (oL67 r0 r1 r2 r3) []) := fun t k => k22 t (st23 _ k)
  obtain ⟨fs, hr, hrun, hended, hW, hsame⟩ := X23.leave (v := none) (fun _ => rfl)
  refine ⟨_, _, k27 _ ?_, hrun, hended, _, _, rfl, ?_, ⟨_, rfl⟩, hW, hsame.mono (by decide) (by decide)⟩
  · exact X23.returnOut hx Bd.returns (hb hby d5_25) hr
  · show Q5l11 Z r0 r1 r2 r3 h0 n0 _ T23.heap _
    rw [e23]
    exact ⟨rfl, N23, (((((Keep.refl h0 [r0]).wr W5 (Or.inl (own_wi 0 rfl))).wr W11 (Or.inl (own_wi 0 rfl))).wr W17 (Or.inl (own_wi 0 rfl))).wr W23 (Or.inl (own_wi 0 rfl))), ((((E_r0.wr W5).wr W11).wr W17).wr W23), fc24, fc25, fc26, (fc20.same W23)⟩
theorem ef_4l11 (m : MethodId) (x0 : Addr) (x1 : Addr) (x2 : Addr) (x3 : Addr) : entryFrame m #[(.ref x0), (.ref x1), (.ref x2), (.ref x3)] 4 = mkF m 0 #[.val (.ref x0), .val (.ref x1), .val (.ref x2), .val (.ref x3)] [] := by first | (simp [entryFrame, mkF, argsToLocals, Value.category]; done) | rfl
def Q4l11 (Z : State) (r0 : Addr) (r1 : Addr) (r2 : Addr) (r3 : Addr) (h0 : Heap) (n0 : Nat) (v : Option Value) (h : Heap) (L : List Loc) : Prop := v = none ∧ Fr n0 L ∧ Keep h0 h [r0] ∧ Exa Z h r0 "com/example/covenantry/covenantry/FeeLevel" ∧ Fld Z h r0 "com/example/covenantry/covenantry/FeeLevel" "above" "Lcom/example/covenantry/covenantry/Figure;" (.ref r1) ∧ Fld Z h r0 "com/example/covenantry/covenantry/FeeLevel" "atMost" "Lcom/example/covenantry/covenantry/Figure;" (.ref r2) ∧ Fld Z h r0 "com/example/covenantry/covenantry/FeeLevel" "rate" "Lcom/example/covenantry/covenantry/Figure;" (.ref r3) ∧ Fld Z h r0 "com/example/covenantry/covenantry/FeeLevel" "unreadable" "Lcom/example/covenantry/covenantry/Unreadable;" .null
def oL68 (r0 : Addr) (r1 : Addr) (r2 : Addr) (r3 : Addr) : Array Slot := #[.val (.ref r0), .val (.ref r1), .val (.ref r2), .val (.ref r3)]
theorem rm4l11 (l : Launch) (Z : State) (a0 : Array Value) (hw : ∀ d ∈ tables_1, d.before a0 Z = true) (ws : List Jvm.Cond) (r0 : Addr) (r1 : Addr) (r2 : Addr) (r3 : Addr) (h0 : Heap) (n0 : Nat) (Z0 : n0 ≤ h0.size) (F_above_r0 : Fld Z h0 r0 "com/example/covenantry/covenantry/FeeLevel" "above" "Lcom/example/covenantry/covenantry/Figure;" .null) (F_atMost_r0 : Fld Z h0 r0 "com/example/covenantry/covenantry/FeeLevel" "atMost" "Lcom/example/covenantry/covenantry/Figure;" .null) (F_rate_r0 : Fld Z h0 r0 "com/example/covenantry/covenantry/FeeLevel" "rate" "Lcom/example/covenantry/covenantry/Figure;" .null) (F_unreadable_r0 : Fld Z h0 r0 "com/example/covenantry/covenantry/FeeLevel" "unreadable" "Lcom/example/covenantry/covenantry/Unreadable;" .null) (E_r0 : Exa Z h0 r0 "com/example/covenantry/covenantry/FeeLevel") (g_r0 : n0 ≤ r0) :
    MetFree l mN29 (head1 (Jvm.Cond.code mN29 prog_27_method_1_code 4 none :: ws) oR30) (fun a U => a = #[(.ref r0), (.ref r1), (.ref r2), (.ref r3)] ∧ Z.Warmed39 U.vm ∧ U.heap = h0) (fun _ _ _ _ _ => True) (fun _ U o U' => ∃ v L, o = .returned v ∧ Q4l11 Z r0 r1 r2 r3 h0 n0 v U'.heap L ∧ FrameEnd U o U' L oR30.cells oR30.slots) := by
  refine MetFree.of_bodySF (plainFor_of_name pn_6) hisR ?_
  intro p e s m args below meth c s₁ Bd hml0 hP hK
  obtain ⟨rfl, hZ, hh⟩ := hP
  have hx := Bd.exec
  have hby := Bd.bytes
  have hml : c.maxLocals = 4 := hml0
  have hown : s.vm.findClass "com/example/covenantry/covenantry/FeeLevel" = some m.cls := findClass_of_methodNamed Bd.named
  have X0 : Stand p l e oR30 s m #[(.ref r0), (.ref r1), (.ref r2), (.ref r3)] below meth c s₁ [] 0 0 := Stand.of_body Bd
  have e0 : s₁.heap = h0 := by rw [← hh, Bd.state]; rfl
  have N0 := Fr.nil n0
  have k0 : Kq X0 4 s₁ (mkF m 0 (oL68 r0 r1 r2 r3) []) := fun t k => castTop (ef_4l11 m r0 r1 r2 r3) k
  have k1 : Kq X0 4 s₁ (mkF m 5 (oL68 r0 r1 r2 r3) [.null, (.ref r3), (.ref r2), (.ref r1), (.ref r0)]) := fun t k => k0 t (XS.aloadN X0.here hx rfl (hb hby d4_0) rfl rfl (XS.aloadN X0.here hx rfl (hb hby d4_1) rfl rfl (XS.aloadN X0.here hx rfl (hb hby d4_2) rfl rfl (XS.aloadN X0.here hx rfl (hb hby d4_3) rfl rfl (XS.aconstNull X0.here hx rfl (hb hby d4_4) k)))))
  obtain ⟨_, _, ⟨T2, L2, kq2, n2⟩, -, X2, ⟨Lc2, hQ2, l2, y2, z2⟩, st2⟩ := X0.specialBack hx (y := mN28) rfl hown (mw hZ hw 36 rfl) (mw hZ hw 37 rfl) (mw hZ hw 38 rfl) (by decide) (backOf (W := 0) (rm5l11 l Z a0 hw [] r0 r1 r2 r3 h0 n0 Z0 F_above_r0 F_atMost_r0 F_rate_r0 F_unreadable_r0 E_r0 g_r0) hZ (ww hw 38 rfl) (ww hw 32 rfl) (by decide) (by decide)) (g := gK k1) rfl (by rw [hml]; rfl) (Steps.refl _) (a := r0) (argsL := [(.ref r1), (.ref r2), (.ref r3), .null]) (rest := []) (lenOf pd_18 rfl) rfl (by show 2 * 0 + _ ≤ _; exact Nat.le_of_eq rfl) (hb hby d4_5) (fun _ _ => ⟨rfl, e0, (by decide : 0 + 0 ≤ _), (by decide : 0 + 0 ≤ _)⟩)
  dsimp only [Pt.U, Pt.locs, Pt.cells, Pt.slots] at X2 l2 y2 z2 st2 hQ2
  replace l2 := l2.symm; subst l2 y2 z2
  obtain ⟨rfl, N2q, K2, Ex2, Fx2_0, Fx2_1, Fx2_2, Fx2_3⟩ := hQ2
  have N2 := Fr.app N0 N2q
  have k3 : Kq X0 4 T2 (mkF m 8 (oL68 r0 r1 r2 r3) []) := fun t k => k1 t (st2.trans k)
  obtain ⟨fs, hr, hrun, hended, hW, hsame⟩ := X2.leave (v := none) (fun _ => rfl)
  refine ⟨_, _, k3 _ ?_, hrun, hended, _, _, rfl, ?_, ⟨_, rfl⟩, hW, hsame.mono (by decide) (by decide)⟩
  · exact X2.returnOut hx Bd.returns (hb hby d4_8) hr
  · show Q4l11 Z r0 r1 r2 r3 h0 n0 _ T2.heap _
    exact ⟨rfl, N2, K2, Ex2, Fx2_0, Fx2_1, Fx2_2, Fx2_3⟩
def own_EL : List (String × Nat) := [("com/example/covenantry/covenantry/FeeLevel", 41), ("com/example/covenantry/covenantry/FeeLevel", 46), ("com/example/covenantry/covenantry/FeeLevel", 55), ("com/example/covenantry/covenantry/FeeLevel", 57), ("com/example/covenantry/covenantry/FeeLevelSpanPinLaw", 14), ("com/example/covenantry/covenantry/FeeLevelSpanPinLaw", 19), ("com/example/covenantry/covenantry/FeeLevelSpanPinLaw", 21), ("com/example/covenantry/covenantry/FeeLevelSpanPinLaw", 32)]
def oC6 : ByteArray := prog_27_method_5_code
theorem d6_0 : decode oC6 0 = .ok (.aload_n 0, 1) := by decide +kernel
theorem d6_1 : decode oC6 1 = .ok (.getfield 12, 3) := by decide +kernel
theorem d6_4 : decode oC6 4 = .ok (.ifnonnull 16, 3) := by decide +kernel
theorem d6_7 : decode oC6 7 = .ok (.aload_n 0, 1) := by decide +kernel
theorem d6_8 : decode oC6 8 = .ok (.getfield 16, 3) := by decide +kernel
theorem d6_11 : decode oC6 11 = .ok (.ifnonnull 9, 3) := by decide +kernel
theorem d6_14 : decode oC6 14 = .ok (.ldc 41, 2) := by decide +kernel
theorem d6_16 : decode oC6 16 = .ok (.astore_n 1, 1) := by decide +kernel
theorem d6_17 : decode oC6 17 = .ok (.goto 116, 3) := by decide +kernel
theorem d6_20 : decode oC6 20 = .ok (.aload_n 0, 1) := by decide +kernel
theorem d6_21 : decode oC6 21 = .ok (.getfield 12, 3) := by decide +kernel
theorem d6_24 : decode oC6 24 = .ok (.ifnonnull 32, 3) := by decide +kernel
theorem d6_27 : decode oC6 27 = .ok (.new 43, 3) := by decide +kernel
theorem d6_30 : decode oC6 30 = .ok (.dup, 1) := by decide +kernel
theorem d6_31 : decode oC6 31 = .ok (.invokespecial 45, 3) := by decide +kernel
theorem d6_34 : decode oC6 34 = .ok (.ldc 46, 2) := by decide +kernel
theorem d6_36 : decode oC6 36 = .ok (.invokevirtual 48, 3) := by decide +kernel
theorem d6_39 : decode oC6 39 = .ok (.aload_n 0, 1) := by decide +kernel
theorem d6_40 : decode oC6 40 = .ok (.getfield 16, 3) := by decide +kernel
theorem d6_43 : decode oC6 43 = .ok (.invokevirtual 28, 3) := by decide +kernel
theorem d6_46 : decode oC6 46 = .ok (.invokevirtual 48, 3) := by decide +kernel
theorem d6_49 : decode oC6 49 = .ok (.invokevirtual 52, 3) := by decide +kernel
theorem d6_52 : decode oC6 52 = .ok (.astore_n 1, 1) := by decide +kernel
theorem d6_53 : decode oC6 53 = .ok (.goto 80, 3) := by decide +kernel
theorem d6_56 : decode oC6 56 = .ok (.aload_n 0, 1) := by decide +kernel
theorem d6_57 : decode oC6 57 = .ok (.getfield 16, 3) := by decide +kernel
theorem d6_60 : decode oC6 60 = .ok (.ifnonnull 32, 3) := by decide +kernel
theorem d6_63 : decode oC6 63 = .ok (.new 43, 3) := by decide +kernel
theorem d6_66 : decode oC6 66 = .ok (.dup, 1) := by decide +kernel
theorem d6_67 : decode oC6 67 = .ok (.invokespecial 45, 3) := by decide +kernel
theorem d6_70 : decode oC6 70 = .ok (.ldc 55, 2) := by decide +kernel
theorem d6_72 : decode oC6 72 = .ok (.invokevirtual 48, 3) := by decide +kernel
theorem d6_75 : decode oC6 75 = .ok (.aload_n 0, 1) := by decide +kernel
theorem d6_76 : decode oC6 76 = .ok (.getfield 12, 3) := by decide +kernel
theorem d6_79 : decode oC6 79 = .ok (.invokevirtual 28, 3) := by decide +kernel
theorem d6_82 : decode oC6 82 = .ok (.invokevirtual 48, 3) := by decide +kernel
theorem d6_85 : decode oC6 85 = .ok (.invokevirtual 52, 3) := by decide +kernel
theorem d6_88 : decode oC6 88 = .ok (.astore_n 1, 1) := by decide +kernel
theorem d6_89 : decode oC6 89 = .ok (.goto 44, 3) := by decide +kernel
theorem d6_92 : decode oC6 92 = .ok (.new 43, 3) := by decide +kernel
theorem d6_95 : decode oC6 95 = .ok (.dup, 1) := by decide +kernel
theorem d6_96 : decode oC6 96 = .ok (.invokespecial 45, 3) := by decide +kernel
theorem d6_99 : decode oC6 99 = .ok (.ldc 55, 2) := by decide +kernel
theorem d6_101 : decode oC6 101 = .ok (.invokevirtual 48, 3) := by decide +kernel
theorem d6_104 : decode oC6 104 = .ok (.aload_n 0, 1) := by decide +kernel
theorem d6_105 : decode oC6 105 = .ok (.getfield 12, 3) := by decide +kernel
theorem d6_108 : decode oC6 108 = .ok (.invokevirtual 28, 3) := by decide +kernel
theorem d6_111 : decode oC6 111 = .ok (.invokevirtual 48, 3) := by decide +kernel
theorem d6_114 : decode oC6 114 = .ok (.ldc 57, 2) := by decide +kernel
theorem d6_116 : decode oC6 116 = .ok (.invokevirtual 48, 3) := by decide +kernel
theorem d6_119 : decode oC6 119 = .ok (.aload_n 0, 1) := by decide +kernel
theorem d6_120 : decode oC6 120 = .ok (.getfield 16, 3) := by decide +kernel
theorem d6_123 : decode oC6 123 = .ok (.invokevirtual 28, 3) := by decide +kernel
theorem d6_126 : decode oC6 126 = .ok (.invokevirtual 48, 3) := by decide +kernel
theorem d6_129 : decode oC6 129 = .ok (.invokevirtual 52, 3) := by decide +kernel
theorem d6_132 : decode oC6 132 = .ok (.astore_n 1, 1) := by decide +kernel
theorem d6_133 : decode oC6 133 = .ok (.aload_n 1, 1) := by decide +kernel
theorem d6_134 : decode oC6 134 = .ok (.areturn, 1) := by decide +kernel
theorem ef_6s00 (m : MethodId) (x0 : Addr) : entryFrame m #[(.ref x0)] 2 = mkF m 0 #[.val (.ref x0), .unset] [] := by first | (simp [entryFrame, mkF, argsToLocals, Value.category]; done) | rfl
def Q6s00 (Z : State) (r0 : Addr) (G1 : Int32) (h0 : Heap) (n0 : Nat) (v : Option Value) (h : Heap) (L : List Loc) : Prop := ∃ x t k W, v = some (.ref x) ∧ Fr n0 L ∧ Keep h0 h [] ∧ Exa Z h x "java/lang/String" ∧ Fld Z h x "java/lang/String" "value" "[B" (.ref t) ∧ Fld Z h x "java/lang/String" "coder" "B" (.int (0 : Int32)) ∧ Arv Z h t k .byte (9 : Int32) W (.int (0 : Int32)) ∧ W = (oB (97 :: 110 :: 121 :: 32 :: 114 :: 97 :: 116 :: 105 :: 111 :: []))
def oR31 : Room := { frames := 0, cells := 2, slots := 40, locals := 0 }
def mN30 : MethodName := ⟨"com/example/covenantry/covenantry/FeeLevel", "span", "()Ljava/lang/String;"⟩
def oL69 (r0 : Addr) (a8 : Addr) : Array Slot := #[.val (.ref r0), .val (.ref a8)]
theorem rm6s00 (l : Launch) (Z : State) (a0 : Array Value) (hw : ∀ d ∈ tables_1, d.before a0 Z = true) (ws : List Jvm.Cond) (r0 : Addr) (G1 : Int32) (h0 : Heap) (n0 : Nat) (Z0 : n0 ≤ h0.size) (F_above_r0 : Fld Z h0 r0 "com/example/covenantry/covenantry/FeeLevel" "above" "Lcom/example/covenantry/covenantry/Figure;" .null) (F_atMost_r0 : Fld Z h0 r0 "com/example/covenantry/covenantry/FeeLevel" "atMost" "Lcom/example/covenantry/covenantry/Figure;" .null) (E_r0 : Exa Z h0 r0 "com/example/covenantry/covenantry/FeeLevel") (S_CS : Sta Z Z.heap "java/lang/String" "COMPACT_STRINGS" "Z" (.int G1)) (P5 : ¬ (G1 = (0 : Int32))) (X00 : Old Z n0 h0) :
    MetFree l mN30 (head1 (Jvm.Cond.code mN30 prog_27_method_5_code 2 (some (.object "java/lang/String")) :: ws) oR31) (fun a U => a = #[(.ref r0)] ∧ Z.Warmed39 U.vm ∧ U.heap = h0 ∧ CHv Z own_EL U.vm h0) (fun _ _ _ _ _ => True) (fun _ U o U' => ∃ v L, o = .returned v ∧ Q6s00 Z r0 G1 h0 n0 v U'.heap L ∧ CHr Z own_EL U.vm U.heap U'.vm U'.heap ∧ ReturnedEndW U o U' L oR31.cells oR31.slots) := by
  refine MetFree.of_bodySF (plainFor_of_name pn_6) hisR ?_
  intro p e s m args below meth c s₁ Bd hml0 hP hK
  obtain ⟨rfl, hZ, hh, hch⟩ := hP
  have hx := Bd.exec
  have hby := Bd.bytes
  have hml : c.maxLocals = 2 := hml0
  have hown : s.vm.findClass "com/example/covenantry/covenantry/FeeLevel" = some m.cls := findClass_of_methodNamed Bd.named
  have X0 : Stand p l e oR31 s m #[(.ref r0)] below meth c s₁ [] 0 0 := Stand.of_body Bd
  have e0 : s₁.heap = h0 := by rw [← hh, Bd.state]; rfl
  have N0 := Fr.nil n0
  have k0 : Kq X0 2 s₁ (mkF m 0 #[.val (.ref r0), .unset] []) := fun t k => castTop (ef_6s00 m r0) k
  have hEL : EW Z a0 own_EL := (EW.cons (text := "any ratio") (ww hw 53 rfl) (by decide) (EW.cons (text := "at most ") (ww hw 224 rfl) (by decide) (EW.cons (text := "above ") (ww hw 102 rfl) (by decide) (EW.cons (text := ", at most ") (ww hw 206 rfl) (by decide) (EW.cons (text := "x") (ww hw 83 rfl) (by decide) (EW.cons (text := "y") (ww hw 205 rfl) (by decide) (EW.cons (text := "0.375") (ww hw 3 rfl) (by decide) (EW.cons (text := "any ratio") (ww hw 54 rfl) (by decide) EW.nil))))))))
  have hsa : ∀ d ∈ Bundle.stringAtoms, d.before a0 Z = true := fun d hd => hw d ((by decide +kernel : ∀ d ∈ Bundle.stringAtoms, d ∈ tables_1) d hd)
  have k1 : Kq X0 2 s₁ (mkF m 1 #[.val (.ref r0), .unset] [(.ref r0)]) := fun t k => k0 t (XS.aloadN X0.here hx rfl (hb hby d6_0) rfl rfl k)
  obtain ⟨T2, X2, e2, st2⟩ := getF X0 hx hZ hown (host := "") (Or.inl (ww hw 40 rfl)) Via.refl e0 F_above_r0 (g := gK k1) rfl rfl (hb hby d6_1)
  have k4 : Kq X0 2 T2 (mkF m 8 #[.val (.ref r0), .unset] [(.ref r0)]) := fun t k => k1 t (st2 _ (XS.ifnonnullNo X2.here hx rfl (hb hby d6_4) rfl (XS.aloadN X2.here hx rfl (hb hby d6_7) rfl rfl k)))
  obtain ⟨T5, X5, e5, st5⟩ := getF X2 hx hZ hown (host := "") (Or.inl (ww hw 42 rfl)) Via.refl e2 F_atMost_r0 (g := gK k4) rfl rfl (hb hby d6_8)
  have k7 : Kq X0 2 T5 (mkF m 14 #[.val (.ref r0), .unset] []) := fun t k => k4 t (st5 _ (XS.ifnonnullNo X5.here hx rfl (hb hby d6_11) rfl k))
  obtain ⟨a8, T8, h8, j8, t8, kb8, X8, e8, E8, Sn8, jk8, hZ8, hown8, Ex8, Cx8, Vx8, Ax8, la8, lb8, cr8, Lt8, sf8, st8⟩ := ldcCH (s := s) (vm0 := s.vm) X5 hx hZ hown (ww hw 53 rfl) hsa e5 ((State.WarmedH.refl s).since h0.size) (Nat.le_refl h0.size) hEL (by simp [own_EL]) hch (vs := (oB (97 :: 110 :: 121 :: 32 :: 114 :: 97 :: 116 :: 105 :: 111 :: []))) (z := (9 : Int32)) ⟨by decide, by decide +kernel⟩ (by decide) (by decide) (g := gK k7) rfl (hb hby d6_14) (n := 36) (by decide) (by decide) (by decide) (by decide)
  have k10 : Kq X0 2 T8 (mkF m 134 (oL69 r0 a8) [(.ref a8)]) := fun t k => k7 t (st8 _ (XS.astoreN X8.here hx rfl (hb hby d6_16) rfl rfl (l' := (oL69 r0 a8)) rfl (XS.goto X8.here hx rfl (pc0 := 17) (pc' := 133) rfl (hb hby d6_17) (by decide) (by decide) (XS.aloadN X8.here hx rfl (hb hby d6_133) rfl rfl k))))
  have hcr : CHr Z own_EL s.vm s.heap T8.vm T8.heap := by rw [hh, e8]; exact ((CHr.refl hch).trans cr8).trans (CHv.at (s := s) (vm0 := T8.vm) X8 hZ8 hEL cr8.1)
  obtain ⟨fs, hr, hrun, hended, w1, w2, w3, w4⟩ := X8.leaveW (s := s) (vm₁ := T8.vm) Sn8 (by rw [e8]; exact jk8) (v := (some (.ref a8))) (fun h => by rw [Bd.returns] at h; cases h)
  refine ⟨_, _, k10 _ ?_, hrun, hended, _, _, rfl, ?_, hcr, w1, w2, w3, w4.mono (by decide) (by decide)⟩
  · exact retOut X8 hx Bd.returns rfl (Or.inr (Or.inr (Or.inr (Or.inr ⟨rfl, rfl, rfl⟩)))) (hb hby d6_134) hr
  · show Q6s00 Z r0 G1 h0 n0 _ T8.heap _
    rw [e8]
    exact ⟨a8, t8, kb8, _, rfl, N0, ((Keep.refl h0 []).ext E8), Ex8, Vx8, Cx8, Ax8, rfl⟩
theorem pd_19 : parseMethodDescriptor "()V" = some ⟨[], none⟩ := by decide +kernel
theorem pd_20 : parseMethodDescriptor "(Ljava/lang/String;)Ljava/lang/StringBuilder;" = some ⟨[(.object "java/lang/String")], some (.object "java/lang/StringBuilder")⟩ := by decide +kernel
theorem pd_21 : parseMethodDescriptor "()Ljava/lang/String;" = some ⟨[], some (.object "java/lang/String")⟩ := by decide +kernel
def Q6s01 (Z : State) (r0 : Addr) (r2 : Addr) (s_r2 : Addr) (tm : Addr) (km : ClassId) (um : List Value) (G1 : Int32) (h0 : Heap) (n0 : Nat) (v : Option Value) (h : Heap) (L : List Loc) : Prop := ∃ x t k W, v = some (.ref x) ∧ Fr n0 L ∧ Keep h0 h [] ∧ Exa Z h x "java/lang/String" ∧ Fld Z h x "java/lang/String" "value" "[B" (.ref t) ∧ Fld Z h x "java/lang/String" "coder" "B" (.int (0 : Int32)) ∧ Arv Z h t k .byte (10 : Int32) W (.int (0 : Int32)) ∧ W = (own_ins oZ10 (List.take 10 (own_ins (own_ins oZ16 (oB [97, 116, 32, 109, 111, 115, 116, 32]) 0 8) um 8 2)) 0 10)
def oR32 : Room := { frames := 6, cells := 6, slots := 70, locals := 109 }
def oL70 (r0 : Addr) (x39 : Addr) : Array Slot := #[.val (.ref r0), .val (.ref x39)]
theorem rm6s01 (l : Launch) (Z : State) (a0 : Array Value) (hw : ∀ d ∈ tables_1, d.before a0 Z = true) (ws : List Jvm.Cond) (r0 : Addr) (r2 : Addr) (s_r2 : Addr) (tm : Addr) (km : ClassId) (um : List Value) (G1 : Int32) (h0 : Heap) (n0 : Nat) (Z0 : n0 ≤ h0.size) (F_above_r0 : Fld Z h0 r0 "com/example/covenantry/covenantry/FeeLevel" "above" "Lcom/example/covenantry/covenantry/Figure;" .null) (F_atMost_r0 : Fld Z h0 r0 "com/example/covenantry/covenantry/FeeLevel" "atMost" "Lcom/example/covenantry/covenantry/Figure;" (.ref r2)) (E_r0 : Exa Z h0 r0 "com/example/covenantry/covenantry/FeeLevel") (F_value_r2 : Fld Z h0 r2 "com/example/covenantry/covenantry/Figure" "value" "Ljava/lang/String;" (.ref s_r2)) (E_r2 : Exa Z h0 r2 "com/example/covenantry/covenantry/Figure") (E_s_r2 : Exa Z h0 s_r2 "java/lang/String") (F_value_s_r2 : Fld Z h0 s_r2 "java/lang/String" "value" "[B" (.ref tm)) (F_coder_s_r2 : Fld Z h0 s_r2 "java/lang/String" "coder" "B" (.int (0 : Int32))) (V_tm : Arv Z h0 tm km .byte (2 : Int32) um (.int (0 : Int32))) (hl_tm : um.length = 2) (S_CS : Sta Z Z.heap "java/lang/String" "COMPACT_STRINGS" "Z" (.int G1)) (P5 : ¬ (G1 = (0 : Int32))) (X00 : Old Z n0 h0) :
    MetFree l mN30 (head1 (Jvm.Cond.code mN30 prog_27_method_5_code 2 (some (.object "java/lang/String")) :: ws) oR32) (fun a U => a = #[(.ref r0)] ∧ Z.Warmed39 U.vm ∧ U.heap = h0 ∧ CHv Z own_EL U.vm h0) (fun _ _ _ _ _ => True) (fun _ U o U' => ∃ v L, o = .returned v ∧ Q6s01 Z r0 r2 s_r2 tm km um G1 h0 n0 v U'.heap L ∧ CHr Z own_EL U.vm U.heap U'.vm U'.heap ∧ ReturnedEndW U o U' L oR32.cells oR32.slots) := by
  refine MetFree.of_bodySF (plainFor_of_name pn_6) hisR ?_
  intro p e s m args below meth c s₁ Bd hml0 hP hK
  obtain ⟨rfl, hZ, hh, hch⟩ := hP
  have hx := Bd.exec
  have hby := Bd.bytes
  have hml : c.maxLocals = 2 := hml0
  have hown : s.vm.findClass "com/example/covenantry/covenantry/FeeLevel" = some m.cls := findClass_of_methodNamed Bd.named
  have X0 : Stand p l e oR32 s m #[(.ref r0)] below meth c s₁ [] 0 0 := Stand.of_body Bd
  have e0 : s₁.heap = h0 := by rw [← hh, Bd.state]; rfl
  have N0 := Fr.nil n0
  have k0 : Kq X0 2 s₁ (mkF m 0 #[.val (.ref r0), .unset] []) := fun t k => castTop (ef_6s00 m r0) k
  have hEL : EW Z a0 own_EL := (EW.cons (text := "any ratio") (ww hw 53 rfl) (by decide) (EW.cons (text := "at most ") (ww hw 224 rfl) (by decide) (EW.cons (text := "above ") (ww hw 102 rfl) (by decide) (EW.cons (text := ", at most ") (ww hw 206 rfl) (by decide) (EW.cons (text := "x") (ww hw 83 rfl) (by decide) (EW.cons (text := "y") (ww hw 205 rfl) (by decide) (EW.cons (text := "0.375") (ww hw 3 rfl) (by decide) (EW.cons (text := "any ratio") (ww hw 54 rfl) (by decide) EW.nil))))))))
  have hsa : ∀ d ∈ Bundle.stringAtoms, d.before a0 Z = true := fun d hd => hw d ((by decide +kernel : ∀ d ∈ Bundle.stringAtoms, d ∈ tables_1) d hd)
  have k1 : Kq X0 2 s₁ (mkF m 1 #[.val (.ref r0), .unset] [(.ref r0)]) := fun t k => k0 t (XS.aloadN X0.here hx rfl (hb hby d6_0) rfl rfl k)
  obtain ⟨T2, X2, e2, st2⟩ := getF X0 hx hZ hown (host := "") (Or.inl (ww hw 40 rfl)) Via.refl e0 F_above_r0 (g := gK k1) rfl rfl (hb hby d6_1)
  have k4 : Kq X0 2 T2 (mkF m 8 #[.val (.ref r0), .unset] [(.ref r0)]) := fun t k => k1 t (st2 _ (XS.ifnonnullNo X2.here hx rfl (hb hby d6_4) rfl (XS.aloadN X2.here hx rfl (hb hby d6_7) rfl rfl k)))
  obtain ⟨T5, X5, e5, st5⟩ := getF X2 hx hZ hown (host := "") (Or.inl (ww hw 42 rfl)) Via.refl e2 F_atMost_r0 (g := gK k4) rfl rfl (hb hby d6_8)
  have k7 : Kq X0 2 T5 (mkF m 21 #[.val (.ref r0), .unset] [(.ref r0)]) := fun t k => k4 t (st5 _ (XS.ifnonnullYes X5.here hx rfl (pc0 := 11) (pc' := 20) rfl (hb hby d6_11) rfl (by decide) (by decide) (XS.aloadN X5.here hx rfl (hb hby d6_20) rfl rfl k)))
  obtain ⟨T8, X8, e8, st8⟩ := getF X5 hx hZ hown (host := "") (Or.inl (ww hw 40 rfl)) Via.refl e5 F_above_r0 (g := gK k7) rfl rfl (hb hby d6_21)
  have k10 : Kq X0 2 T8 (mkF m 27 #[.val (.ref r0), .unset] []) := fun t k => k7 t (st8 _ (XS.ifnonnullNo X8.here hx rfl (hb hby d6_24) rfl k))
  obtain ⟨T11, h11, X11, e11, E11, A11, D11, -, st11⟩ := newO X8 hx hZ hown (ww hw 84 rfl) (ww hw 85 rfl) (ww hw 86 rfl) e8 (g := gK k10) rfl (hb hby d6_27) (by decide) (by decide)
  obtain ⟨b11, g11⟩ : ∃ z, z = h0.size := ⟨_, rfl⟩
  rw [← g11] at A11 D11 st11
  have ne_r0_b11 : r0 ≠ b11 := Nat.ne_of_lt (Nat.lt_of_lt_of_le F_above_r0.lt (Nat.le_of_eq g11.symm))
  have ne_r2_b11 : r2 ≠ b11 := Nat.ne_of_lt (Nat.lt_of_lt_of_le F_value_r2.lt (Nat.le_of_eq g11.symm))
  have ne_s_r2_b11 : s_r2 ≠ b11 := Nat.ne_of_lt (Nat.lt_of_lt_of_le E_s_r2.lt (Nat.le_of_eq g11.symm))
  have ne_tm_b11 : tm ≠ b11 := Nat.ne_of_lt (Nat.lt_of_lt_of_le V_tm.lt (Nat.le_of_eq g11.symm))
  have sz_b11 : h0.size ≤ b11 := Nat.le_trans (Keep.refl h0 []).1 (Nat.le_of_eq g11.symm)
  have F_value_b11 : Fld Z h11 b11 "java/lang/AbstractStringBuilder" "value" "[B" .null := D11 (Or.inl (ww hw 99 rfl)) (ty := (.array .byte)) (by decide)
  have F_coder_b11 : Fld Z h11 b11 "java/lang/AbstractStringBuilder" "coder" "B" (.int (0 : Int32)) := D11 (Or.inl (ww hw 101 rfl)) (ty := .byte) (by decide)
  have F_count_b11 : Fld Z h11 b11 "java/lang/AbstractStringBuilder" "count" "I" (.int (0 : Int32)) := D11 (Or.inl (ww hw 124 rfl)) (ty := .int) (by decide)
  have g_b11 : n0 ≤ b11 := Nat.le_trans Z0 (Nat.le_of_eq g11.symm)
  have Zs11 : n0 ≤ h11.size := Nat.le_trans Z0 E11.1
  have k13 : Kq X0 2 T11 (mkF m 31 #[.val (.ref r0), .unset] [(.ref b11), (.ref b11)]) := fun t k => k10 t (st11 _ (XS.dup X11.here hx rfl (hb hby d6_30) rfl rfl k))
  obtain ⟨_, _, ⟨T14, L14, kq14, n14⟩, -, X14, ⟨Lc14, hQ14, l14, y14, z14⟩, st14⟩ := X11.specialBack hx (y := mN1) rfl hown (mw hZ hw 87 rfl) (mw hZ hw 88 rfl) (mw hZ hw 89 rfl) (by decide) (backOf (W := 1) (rm13 l Z a0 hw [] b11 G1 h11 n0 Zs11 F_value_b11 F_coder_b11 F_count_b11 A11 g_b11 S_CS P5 (X00.ext E11)) hZ (ww hw 89 rfl) (ww hw 86 rfl) (by decide) (by decide)) (g := gK k13) rfl (by rw [hml]; rfl) (Steps.refl _) (a := b11) (argsL := []) (rest := [(.ref b11)]) (lenOf pd_19 rfl) rfl (by show 2 * 0 + _ ≤ _; exact Nat.le_of_eq rfl) (hb hby d6_31) (fun _ _ => ⟨rfl, e11, (by decide : 1 + 1 ≤ _), (by decide : 4 + 16 ≤ _)⟩)
  dsimp only [Pt.U, Pt.locs, Pt.cells, Pt.slots] at X14 l14 y14 z14 st14 hQ14
  replace l14 := l14.symm; subst l14 y14 z14
  obtain ⟨rfl, N14q, K14, t14, kt14, zt14, Fx14_0, Fx14_1, Fx14_2, Ex14, Vt14⟩ := hQ14
  have N14 := Fr.app N0 N14q
  have ne_r0_t14 : r0 ≠ t14 := Nat.ne_of_lt (Nat.lt_of_lt_of_le (F_above_r0.ext E11).lt zt14)
  have ne_r2_t14 : r2 ≠ t14 := Nat.ne_of_lt (Nat.lt_of_lt_of_le (F_value_r2.ext E11).lt zt14)
  have ne_s_r2_t14 : s_r2 ≠ t14 := Nat.ne_of_lt (Nat.lt_of_lt_of_le (E_s_r2.ext E11).lt zt14)
  have ne_tm_t14 : tm ≠ t14 := Nat.ne_of_lt (Nat.lt_of_lt_of_le (V_tm.ext E11).lt zt14)
  have ne_b11_t14 : b11 ≠ t14 := Nat.ne_of_lt (Nat.lt_of_lt_of_le F_value_b11.lt zt14)
  have sk15 : ∀ x ∈ ([b11] : List Addr), Safe Z own_EL s.vm h11 x := (allS (Safe.exa hZ.alike A11 (by decide) (by decide)) all0)
  have sf_t14 := Safe.keep K14 sk15 (CHv.ext E11 hch) (Safe.new zt14)
  have cc15 := CHr.trans ((CHr.refl hch).trans (CHr.ext E11 hch)) (CHr.keep K14 sk15 (CHv.ext E11 hch))
  have g_t14 : n0 ≤ t14 := Nat.le_trans Zs11 zt14
  have sz_t14 : h0.size ≤ t14 := Nat.le_trans ((Keep.refl h0 []).ext E11).1 zt14
  have Zs14 : n0 ≤ T14.heap.size := Nat.le_trans Zs11 K14.1
  have k16 : Kq X0 2 T14 (mkF m 34 #[.val (.ref r0), .unset] [(.ref b11)]) := fun t k => k13 t (st14.trans k)
  obtain ⟨a17, T17, h17, j17, t17, kb17, X17, e17, E17, Sn17, jk17, hZ17, hown17, Ex17, Cx17, Vx17, Ax17, la17, lb17, cr17, Lt17, sf17, st17⟩ := ldcCH (s := s) (vm0 := s.vm) X14 hx hZ hown (ww hw 224 rfl) hsa rfl ((State.WarmedH.refl s).since h0.size) (Nat.le_trans (Nat.le_trans (Nat.le_refl h0.size) E11.1) K14.1) hEL (by simp [own_EL]) cc15.1 (vs := (oB [97, 116, 32, 109, 111, 115, 116, 32])) (z := (8 : Int32)) ⟨by decide, by decide +kernel⟩ (by decide) (by decide) (g := gK k16) rfl (hb hby d6_34) (n := 32) (by decide) (by decide) (by decide) (by decide)
  have Zs17 : n0 ≤ h17.size := Nat.le_trans Zs14 E17.1
  have k18 : Kq X0 2 T17 (mkF m 36 #[.val (.ref r0), .unset] [(.ref a17), (.ref b11)]) := fun t k => k16 t (st17 _ k)
  obtain ⟨cq19, kcq19, q19a, q19b, q19c⟩ := isOf hZ17 e17 (Ex14.ext E17)
  obtain ⟨_, _, ⟨T19, L19, kq19, n19⟩, -, X19, ⟨Lc19, hQ19, l19, y19, z19⟩, st19⟩ := X17.virtualBack hx (y := mN14) (z := mN14) hown17 (mw hZ17 hw 103 rfl) (mw hZ17 hw 104 rfl) (notFace_of_selects (args := #[]) (mw hZ17 hw 106 rfl)) (mw hZ17 hw 106 rfl) (mw hZ17 hw 105 rfl) (by decide) (backOf (W := 0) (rm15a_0_8_16 l Z a0 hw [] b11 a17 t14 kt14 oZ16 t17 kb17 (oB [97, 116, 32, 109, 111, 115, 116, 32]) G1 h17 n0 Zs17 (Fx14_0.ext E17) (Fx14_1.ext E17) (Fx14_2.ext E17) (Ex14.ext E17) g_b11 (Vt14.ext E17) rfl ne_b11_t14 g_t14 Ex17 Vx17 Cx17 Ax17 rfl (sf17 _ (Safe.exa hZ17.alike (Ex14.ext E17) (by decide) (by decide))).1.symm (sf17 _ (Safe.exa hZ17.alike (Ex14.ext E17) (by decide) (by decide))).2.symm S_CS P5 (((X00.ext E11).keep K14 (allS g_b11 all0)).ext E17)) hZ17 (ww hw 107 rfl) (ww hw 86 rfl) (by decide) (by decide)) q19a q19c (g := gK k18) rfl (by rw [hml]; rfl) (Steps.refl _) (argsL := [(.ref a17)]) (rest := []) (lenOf pd_20 rfl) rfl (by show 2 * 0 + _ ≤ _; exact Nat.le_of_eq rfl) (hb hby d6_36) (fun _ _ => ⟨rfl, e17, (by decide : 4 + 0 ≤ _), (by decide : 56 + 0 ≤ _)⟩)
  dsimp only [Pt.U, Pt.locs, Pt.cells, Pt.slots] at X19 l19 y19 z19 st19 hQ19
  replace l19 := l19.symm; subst l19 y19 z19
  obtain ⟨rfl, N19q, K19, Fx19_0, Fx19_1, Fx19_2, Ex19, Vp19⟩ := hQ19
  have N19 := Fr.app N14 N19q
  have sk20 : ∀ x ∈ ([b11, t14] : List Addr), Safe Z own_EL T17.vm h17 x := (allS (Safe.exa hZ17.alike (Ex14.ext E17) (by decide) (by decide)) (allS (CHr.safe cr17 Vt14.lt sf_t14) all0))
  have sv20_1 := Safe.keep K19 sk20 cr17.1 (CHr.safe cr17 Vt14.lt sf_t14)
  have cc20 := CHr.trans (cc15.trans cr17) (CHr.keep K19 sk20 cr17.1)
  have Zs19 : n0 ≤ T19.heap.size := Nat.le_trans Zs17 K19.1
  have k22 : Kq X0 2 T19 (mkF m 40 #[.val (.ref r0), .unset] [(.ref r0), (.ref b11)]) := fun t k => k18 t (st19.trans (XS.aloadN X19.here hx rfl (hb hby d6_39) rfl rfl k))
  obtain ⟨T23, X23, e23, st23⟩ := getF X19 hx hZ17 hown17 (host := "") (Or.inl (ww hw 42 rfl)) Via.refl rfl ((((F_atMost_r0.ext E11).keep K14 (ninS ne_r0_b11 nin0)).ext E17).keep K19 (ninS ne_r0_b11 (ninS ne_r0_t14 nin0))) (g := gK k22) rfl rfl (hb hby d6_40)
  have k24 : Kq X0 2 T23 (mkF m 43 #[.val (.ref r0), .unset] [(.ref r2), (.ref b11)]) := fun t k => k22 t (st23 _ k)
  obtain ⟨cq25, kcq25, q25a, q25b, q25c⟩ := isOf hZ17 e23 ((((E_r2.ext E11).keep K14).ext E17).keep K19)
  obtain ⟨_, _, ⟨T25, L25, kq25, n25⟩, -, X25, ⟨Lc25, hQ25, l25, y25, z25⟩, st25⟩ := X23.virtualBack hx (y := mN27) (z := mN27) hown17 (mw hZ17 hw 150 rfl) (mw hZ17 hw 151 rfl) (notFace_of_selects (args := #[]) (mw hZ17 hw 153 rfl)) (mw hZ17 hw 153 rfl) (mw hZ17 hw 152 rfl) (by decide) (backOf (W := 1) (rm23 l Z a0 hw [] r2 s_r2 T19.heap n0 Zs19 ((((F_value_r2.ext E11).keep K14 (ninS ne_r2_b11 nin0)).ext E17).keep K19 (ninS ne_r2_b11 (ninS ne_r2_t14 nin0)))) hZ17 (ww hw 154 rfl) (ww hw 2 rfl) (by decide) (by decide)) q25a q25c (g := gK k24) rfl (by rw [hml]; rfl) (Steps.refl _) (argsL := []) (rest := [(.ref b11)]) (lenOf pd_21 rfl) rfl (by show 2 * 0 + _ ≤ _; exact Nat.le_of_eq rfl) (hb hby d6_43) (fun _ _ => ⟨rfl, e23, (by decide : 4 + 0 ≤ _), (by decide : 56 + 0 ≤ _)⟩)
  dsimp only [Pt.U, Pt.locs, Pt.cells, Pt.slots] at X25 l25 y25 z25 st25 hQ25
  replace l25 := l25.symm; subst l25 y25 z25
  obtain ⟨rfl, N25q, e25⟩ := hQ25
  have N25 := Fr.app N19 N25q
  have k26 : Kq X0 2 T25 (mkF m 46 #[.val (.ref r0), .unset] [(.ref s_r2), (.ref b11)]) := fun t k => k24 t (st25.trans k)
  obtain ⟨cq27, kcq27, q27a, q27b, q27c⟩ := isOf hZ17 e25 Ex19
  obtain ⟨_, _, ⟨T27, L27, kq27, n27⟩, -, X27, ⟨Lc27, hQ27, l27, y27, z27⟩, st27⟩ := X25.virtualBack hx (y := mN14) (z := mN14) hown17 (mw hZ17 hw 103 rfl) (mw hZ17 hw 104 rfl) (notFace_of_selects (args := #[]) (mw hZ17 hw 106 rfl)) (mw hZ17 hw 106 rfl) (mw hZ17 hw 105 rfl) (by decide) (backOf (W := 0) (rm15a_8_2_16 l Z a0 hw [] b11 s_r2 t14 kt14 (own_ins oZ16 (oB [97, 116, 32, 109, 111, 115, 116, 32]) 0 8) tm km um G1 T19.heap n0 Zs19 Fx19_0 Fx19_1 Fx19_2 Ex19 g_b11 Vp19 (own_ins_len rfl rfl (by decide)) ne_b11_t14 g_t14 ((((E_s_r2.ext E11).keep K14).ext E17).keep K19) ((((F_value_s_r2.ext E11).keep K14 (ninS ne_s_r2_b11 nin0)).ext E17).keep K19 (ninS ne_s_r2_b11 (ninS ne_s_r2_t14 nin0))) ((((F_coder_s_r2.ext E11).keep K14 (ninS ne_s_r2_b11 nin0)).ext E17).keep K19 (ninS ne_s_r2_b11 (ninS ne_s_r2_t14 nin0))) ((((V_tm.ext E11).keep K14 (ninS ne_tm_b11 nin0)).ext E17).keep K19 (ninS ne_tm_b11 (ninS ne_tm_t14 nin0))) hl_tm ne_s_r2_b11 ne_tm_b11 S_CS P5 ((((X00.ext E11).keep K14 (allS g_b11 all0)).ext E17).keep K19 (allS g_b11 (allS g_t14 all0)))) hZ17 (ww hw 107 rfl) (ww hw 86 rfl) (by decide) (by decide)) q27a q27c (g := gK k26) rfl (by rw [hml]; rfl) (Steps.refl _) (argsL := [(.ref s_r2)]) (rest := []) (lenOf pd_20 rfl) rfl (by show 2 * 0 + _ ≤ _; exact Nat.le_of_eq rfl) (hb hby d6_46) (fun _ _ => ⟨rfl, e25, (by decide : 4 + 0 ≤ _), (by decide : 56 + 0 ≤ _)⟩)
  dsimp only [Pt.U, Pt.locs, Pt.cells, Pt.slots] at X27 l27 y27 z27 st27 hQ27
  replace l27 := l27.symm; subst l27 y27 z27
  obtain ⟨rfl, N27q, K27, Fx27_0, Fx27_1, Fx27_2, Ex27, Vp27⟩ := hQ27
  have N27 := Fr.app N25 N27q
  have sk28 : ∀ x ∈ ([b11, t14] : List Addr), Safe Z own_EL T17.vm T19.heap x := (allS (Safe.exa hZ17.alike Ex19 (by decide) (by decide)) (allS sv20_1 all0))
  have cc28 := CHr.trans cc20 (CHr.keep K27 sk28 cc20.1)
  have od37 := (((((X00.ext E11).keep K14 (allS g_b11 all0)).ext E17).keep K19 (allS g_b11 (allS g_t14 all0))).keep K27 (allS g_b11 (allS g_t14 all0)))
  have Zs27 : n0 ≤ T27.heap.size := Nat.le_trans Zs19 K27.1
  have k38 : Kq X0 2 T27 (mkF m 49 #[.val (.ref r0), .unset] [(.ref b11)]) := fun t k => k26 t (st27.trans k)
  obtain ⟨cq39, kcq39, q39a, q39b, q39c⟩ := isOf hZ17 rfl Ex27
  obtain ⟨_, _, ⟨T39, L39, kq39, n39⟩, -, X39, ⟨Lc39, hQ39, l39, y39, z39⟩, st39⟩ := X27.virtualBack hx (y := mN24) (z := mN24) hown17 (mw hZ17 hw 155 rfl) (mw hZ17 hw 156 rfl) (notFace_of_selects (args := #[]) (mw hZ17 hw 158 rfl)) (mw hZ17 hw 158 rfl) (mw hZ17 hw 157 rfl) (by decide) (backOf (W := 0) (rm24_10_16 l Z a0 hw [] b11 t14 kt14 (own_ins (own_ins oZ16 (oB [97, 116, 32, 109, 111, 115, 116, 32]) 0 8) um 8 2) G1 T27.heap n0 Zs27 Fx27_0 Fx27_1 Fx27_2 Ex27 Vp27 (own_ins_len (own_ins_len rfl rfl (by decide)) hl_tm (by decide)) S_CS P5 od37) hZ17 (ww hw 159 rfl) (ww hw 86 rfl) (by decide) (by decide)) q39a q39c (g := gK k38) rfl (by rw [hml]; rfl) (Steps.refl _) (argsL := []) (rest := []) (lenOf pd_21 rfl) rfl (by show 2 * 0 + _ ≤ _; exact Nat.le_of_eq rfl) (hb hby d6_49) (fun _ _ => ⟨rfl, rfl, (by decide : 4 + 2 ≤ _), (by decide : 56 + 14 ≤ _)⟩)
  dsimp only [Pt.U, Pt.locs, Pt.cells, Pt.slots] at X39 l39 y39 z39 st39 hQ39
  replace l39 := l39.symm; subst l39 y39 z39
  obtain ⟨x39, t39, kt39, rfl, zx39, zt39, N39q, K39, Ex39, Fx39_0, Fx39_1, Vt39⟩ := hQ39
  have N39 := Fr.app N27 N39q
  have sk40 : ∀ x ∈ ([] : List Addr), Safe Z own_EL T17.vm T27.heap x := all0
  have cc40 := CHr.trans cc28 (CHr.keep K39 sk40 cc28.1)
  have k43 : Kq X0 2 T39 (mkF m 134 (oL70 r0 x39) [(.ref x39)]) := fun t k => k38 t (st39.trans (XS.astoreN X39.here hx rfl (hb hby d6_52) rfl rfl (l' := (oL70 r0 x39)) rfl (XS.goto X39.here hx rfl (pc0 := 53) (pc' := 133) rfl (hb hby d6_53) (by decide) (by decide) (XS.aloadN X39.here hx rfl (hb hby d6_133) rfl rfl k))))
  have hcr : CHr Z own_EL s.vm s.heap T39.vm T39.heap := by rw [hh, (rfl : T39.heap = T39.heap)]; exact cc40.trans (CHv.at (s := s) (vm0 := T17.vm) X39 hZ17 hEL cc40.1)
  obtain ⟨fs, hr, hrun, hended, w1, w2, w3, w4⟩ := X39.leaveW (s := s) (vm₁ := T17.vm) Sn17 (Nat.le_trans (Nat.le_trans (Nat.le_trans jk17 K19.1) K27.1) K39.1) (v := (some (.ref x39))) (fun h => by rw [Bd.returns] at h; cases h)
  refine ⟨_, _, k43 _ ?_, hrun, hended, _, _, rfl, ?_, hcr, w1, w2, w3, w4.mono (by decide) (by decide)⟩
  · exact retOut X39 hx Bd.returns rfl (Or.inr (Or.inr (Or.inr (Or.inr ⟨rfl, rfl, rfl⟩)))) (hb hby d6_134) hr
  · show Q6s01 Z r0 r2 s_r2 tm km um G1 h0 n0 _ T39.heap _
    exact ⟨x39, t39, kt39, _, rfl, N39, (((((((Keep.refl h0 []).ext E11).trans K14 (allS (Or.inr sz_b11) all0)).ext E17).trans K19 (allS (Or.inr sz_b11) (allS (Or.inr sz_t14) all0))).trans K27 (allS (Or.inr sz_b11) (allS (Or.inr sz_t14) all0))).trans K39 all0), Ex39, Fx39_0, Fx39_1, Vt39, rfl⟩
def Q6s10 (Z : State) (r0 : Addr) (r1 : Addr) (s_r1 : Addr) (ta : Addr) (ka : ClassId) (ua : List Value) (G1 : Int32) (h0 : Heap) (n0 : Nat) (v : Option Value) (h : Heap) (L : List Loc) : Prop := ∃ x t k W, v = some (.ref x) ∧ Fr n0 L ∧ Keep h0 h [] ∧ Exa Z h x "java/lang/String" ∧ Fld Z h x "java/lang/String" "value" "[B" (.ref t) ∧ Fld Z h x "java/lang/String" "coder" "B" (.int (0 : Int32)) ∧ Arv Z h t k .byte (8 : Int32) W (.int (0 : Int32)) ∧ W = (own_ins oZ8 (List.take 8 (own_ins (own_ins oZ16 (oB [97, 98, 111, 118, 101, 32]) 0 6) ua 6 2)) 0 8)
def oR33 : Room := { frames := 6, cells := 6, slots := 60, locals := 109 }
theorem rm6s10 (l : Launch) (Z : State) (a0 : Array Value) (hw : ∀ d ∈ tables_1, d.before a0 Z = true) (ws : List Jvm.Cond) (r0 : Addr) (r1 : Addr) (s_r1 : Addr) (ta : Addr) (ka : ClassId) (ua : List Value) (G1 : Int32) (h0 : Heap) (n0 : Nat) (Z0 : n0 ≤ h0.size) (F_above_r0 : Fld Z h0 r0 "com/example/covenantry/covenantry/FeeLevel" "above" "Lcom/example/covenantry/covenantry/Figure;" (.ref r1)) (F_atMost_r0 : Fld Z h0 r0 "com/example/covenantry/covenantry/FeeLevel" "atMost" "Lcom/example/covenantry/covenantry/Figure;" .null) (E_r0 : Exa Z h0 r0 "com/example/covenantry/covenantry/FeeLevel") (F_value_r1 : Fld Z h0 r1 "com/example/covenantry/covenantry/Figure" "value" "Ljava/lang/String;" (.ref s_r1)) (E_r1 : Exa Z h0 r1 "com/example/covenantry/covenantry/Figure") (E_s_r1 : Exa Z h0 s_r1 "java/lang/String") (F_value_s_r1 : Fld Z h0 s_r1 "java/lang/String" "value" "[B" (.ref ta)) (F_coder_s_r1 : Fld Z h0 s_r1 "java/lang/String" "coder" "B" (.int (0 : Int32))) (V_ta : Arv Z h0 ta ka .byte (2 : Int32) ua (.int (0 : Int32))) (hl_ta : ua.length = 2) (S_CS : Sta Z Z.heap "java/lang/String" "COMPACT_STRINGS" "Z" (.int G1)) (P5 : ¬ (G1 = (0 : Int32))) (X00 : Old Z n0 h0) :
    MetFree l mN30 (head1 (Jvm.Cond.code mN30 prog_27_method_5_code 2 (some (.object "java/lang/String")) :: ws) oR33) (fun a U => a = #[(.ref r0)] ∧ Z.Warmed39 U.vm ∧ U.heap = h0 ∧ CHv Z own_EL U.vm h0) (fun _ _ _ _ _ => True) (fun _ U o U' => ∃ v L, o = .returned v ∧ Q6s10 Z r0 r1 s_r1 ta ka ua G1 h0 n0 v U'.heap L ∧ CHr Z own_EL U.vm U.heap U'.vm U'.heap ∧ ReturnedEndW U o U' L oR33.cells oR33.slots) := by
  refine MetFree.of_bodySF (plainFor_of_name pn_6) hisR ?_
  intro p e s m args below meth c s₁ Bd hml0 hP hK
  obtain ⟨rfl, hZ, hh, hch⟩ := hP
  have hx := Bd.exec
  have hby := Bd.bytes
  have hml : c.maxLocals = 2 := hml0
  have hown : s.vm.findClass "com/example/covenantry/covenantry/FeeLevel" = some m.cls := findClass_of_methodNamed Bd.named
  have X0 : Stand p l e oR33 s m #[(.ref r0)] below meth c s₁ [] 0 0 := Stand.of_body Bd
  have e0 : s₁.heap = h0 := by rw [← hh, Bd.state]; rfl
  have N0 := Fr.nil n0
  have k0 : Kq X0 2 s₁ (mkF m 0 #[.val (.ref r0), .unset] []) := fun t k => castTop (ef_6s00 m r0) k
  have hEL : EW Z a0 own_EL := (EW.cons (text := "any ratio") (ww hw 53 rfl) (by decide) (EW.cons (text := "at most ") (ww hw 224 rfl) (by decide) (EW.cons (text := "above ") (ww hw 102 rfl) (by decide) (EW.cons (text := ", at most ") (ww hw 206 rfl) (by decide) (EW.cons (text := "x") (ww hw 83 rfl) (by decide) (EW.cons (text := "y") (ww hw 205 rfl) (by decide) (EW.cons (text := "0.375") (ww hw 3 rfl) (by decide) (EW.cons (text := "any ratio") (ww hw 54 rfl) (by decide) EW.nil))))))))
  have hsa : ∀ d ∈ Bundle.stringAtoms, d.before a0 Z = true := fun d hd => hw d ((by decide +kernel : ∀ d ∈ Bundle.stringAtoms, d ∈ tables_1) d hd)
  have k1 : Kq X0 2 s₁ (mkF m 1 #[.val (.ref r0), .unset] [(.ref r0)]) := fun t k => k0 t (XS.aloadN X0.here hx rfl (hb hby d6_0) rfl rfl k)
  obtain ⟨T2, X2, e2, st2⟩ := getF X0 hx hZ hown (host := "") (Or.inl (ww hw 40 rfl)) Via.refl e0 F_above_r0 (g := gK k1) rfl rfl (hb hby d6_1)
  have k4 : Kq X0 2 T2 (mkF m 21 #[.val (.ref r0), .unset] [(.ref r0)]) := fun t k => k1 t (st2 _ (XS.ifnonnullYes X2.here hx rfl (pc0 := 4) (pc' := 20) rfl (hb hby d6_4) rfl (by decide) (by decide) (XS.aloadN X2.here hx rfl (hb hby d6_20) rfl rfl k)))
  obtain ⟨T5, X5, e5, st5⟩ := getF X2 hx hZ hown (host := "") (Or.inl (ww hw 40 rfl)) Via.refl e2 F_above_r0 (g := gK k4) rfl rfl (hb hby d6_21)
  have k7 : Kq X0 2 T5 (mkF m 57 #[.val (.ref r0), .unset] [(.ref r0)]) := fun t k => k4 t (st5 _ (XS.ifnonnullYes X5.here hx rfl (pc0 := 24) (pc' := 56) rfl (hb hby d6_24) rfl (by decide) (by decide) (XS.aloadN X5.here hx rfl (hb hby d6_56) rfl rfl k)))
  obtain ⟨T8, X8, e8, st8⟩ := getF X5 hx hZ hown (host := "") (Or.inl (ww hw 42 rfl)) Via.refl e5 F_atMost_r0 (g := gK k7) rfl rfl (hb hby d6_57)
  have k10 : Kq X0 2 T8 (mkF m 63 #[.val (.ref r0), .unset] []) := fun t k => k7 t (st8 _ (XS.ifnonnullNo X8.here hx rfl (hb hby d6_60) rfl k))
  obtain ⟨T11, h11, X11, e11, E11, A11, D11, -, st11⟩ := newO X8 hx hZ hown (ww hw 84 rfl) (ww hw 85 rfl) (ww hw 86 rfl) e8 (g := gK k10) rfl (hb hby d6_63) (by decide) (by decide)
  obtain ⟨b11, g11⟩ : ∃ z, z = h0.size := ⟨_, rfl⟩
  rw [← g11] at A11 D11 st11
  have ne_r0_b11 : r0 ≠ b11 := Nat.ne_of_lt (Nat.lt_of_lt_of_le F_above_r0.lt (Nat.le_of_eq g11.symm))
  have ne_r1_b11 : r1 ≠ b11 := Nat.ne_of_lt (Nat.lt_of_lt_of_le F_value_r1.lt (Nat.le_of_eq g11.symm))
  have ne_s_r1_b11 : s_r1 ≠ b11 := Nat.ne_of_lt (Nat.lt_of_lt_of_le E_s_r1.lt (Nat.le_of_eq g11.symm))
  have ne_ta_b11 : ta ≠ b11 := Nat.ne_of_lt (Nat.lt_of_lt_of_le V_ta.lt (Nat.le_of_eq g11.symm))
  have sz_b11 : h0.size ≤ b11 := Nat.le_trans (Keep.refl h0 []).1 (Nat.le_of_eq g11.symm)
  have F_value_b11 : Fld Z h11 b11 "java/lang/AbstractStringBuilder" "value" "[B" .null := D11 (Or.inl (ww hw 99 rfl)) (ty := (.array .byte)) (by decide)
  have F_coder_b11 : Fld Z h11 b11 "java/lang/AbstractStringBuilder" "coder" "B" (.int (0 : Int32)) := D11 (Or.inl (ww hw 101 rfl)) (ty := .byte) (by decide)
  have F_count_b11 : Fld Z h11 b11 "java/lang/AbstractStringBuilder" "count" "I" (.int (0 : Int32)) := D11 (Or.inl (ww hw 124 rfl)) (ty := .int) (by decide)
  have g_b11 : n0 ≤ b11 := Nat.le_trans Z0 (Nat.le_of_eq g11.symm)
  have Zs11 : n0 ≤ h11.size := Nat.le_trans Z0 E11.1
  have k13 : Kq X0 2 T11 (mkF m 67 #[.val (.ref r0), .unset] [(.ref b11), (.ref b11)]) := fun t k => k10 t (st11 _ (XS.dup X11.here hx rfl (hb hby d6_66) rfl rfl k))
  obtain ⟨_, _, ⟨T14, L14, kq14, n14⟩, -, X14, ⟨Lc14, hQ14, l14, y14, z14⟩, st14⟩ := X11.specialBack hx (y := mN1) rfl hown (mw hZ hw 87 rfl) (mw hZ hw 88 rfl) (mw hZ hw 89 rfl) (by decide) (backOf (W := 1) (rm13 l Z a0 hw [] b11 G1 h11 n0 Zs11 F_value_b11 F_coder_b11 F_count_b11 A11 g_b11 S_CS P5 (X00.ext E11)) hZ (ww hw 89 rfl) (ww hw 86 rfl) (by decide) (by decide)) (g := gK k13) rfl (by rw [hml]; rfl) (Steps.refl _) (a := b11) (argsL := []) (rest := [(.ref b11)]) (lenOf pd_19 rfl) rfl (by show 2 * 0 + _ ≤ _; exact Nat.le_of_eq rfl) (hb hby d6_67) (fun _ _ => ⟨rfl, e11, (by decide : 1 + 1 ≤ _), (by decide : 4 + 16 ≤ _)⟩)
  dsimp only [Pt.U, Pt.locs, Pt.cells, Pt.slots] at X14 l14 y14 z14 st14 hQ14
  replace l14 := l14.symm; subst l14 y14 z14
  obtain ⟨rfl, N14q, K14, t14, kt14, zt14, Fx14_0, Fx14_1, Fx14_2, Ex14, Vt14⟩ := hQ14
  have N14 := Fr.app N0 N14q
  have ne_r0_t14 : r0 ≠ t14 := Nat.ne_of_lt (Nat.lt_of_lt_of_le (F_above_r0.ext E11).lt zt14)
  have ne_r1_t14 : r1 ≠ t14 := Nat.ne_of_lt (Nat.lt_of_lt_of_le (F_value_r1.ext E11).lt zt14)
  have ne_s_r1_t14 : s_r1 ≠ t14 := Nat.ne_of_lt (Nat.lt_of_lt_of_le (E_s_r1.ext E11).lt zt14)
  have ne_ta_t14 : ta ≠ t14 := Nat.ne_of_lt (Nat.lt_of_lt_of_le (V_ta.ext E11).lt zt14)
  have ne_b11_t14 : b11 ≠ t14 := Nat.ne_of_lt (Nat.lt_of_lt_of_le F_value_b11.lt zt14)
  have sk15 : ∀ x ∈ ([b11] : List Addr), Safe Z own_EL s.vm h11 x := (allS (Safe.exa hZ.alike A11 (by decide) (by decide)) all0)
  have sf_t14 := Safe.keep K14 sk15 (CHv.ext E11 hch) (Safe.new zt14)
  have cc15 := CHr.trans ((CHr.refl hch).trans (CHr.ext E11 hch)) (CHr.keep K14 sk15 (CHv.ext E11 hch))
  have g_t14 : n0 ≤ t14 := Nat.le_trans Zs11 zt14
  have sz_t14 : h0.size ≤ t14 := Nat.le_trans ((Keep.refl h0 []).ext E11).1 zt14
  have Zs14 : n0 ≤ T14.heap.size := Nat.le_trans Zs11 K14.1
  have k16 : Kq X0 2 T14 (mkF m 70 #[.val (.ref r0), .unset] [(.ref b11)]) := fun t k => k13 t (st14.trans k)
  obtain ⟨a17, T17, h17, j17, t17, kb17, X17, e17, E17, Sn17, jk17, hZ17, hown17, Ex17, Cx17, Vx17, Ax17, la17, lb17, cr17, Lt17, sf17, st17⟩ := ldcCH (s := s) (vm0 := s.vm) X14 hx hZ hown (ww hw 102 rfl) hsa rfl ((State.WarmedH.refl s).since h0.size) (Nat.le_trans (Nat.le_trans (Nat.le_refl h0.size) E11.1) K14.1) hEL (by simp [own_EL]) cc15.1 (vs := (oB [97, 98, 111, 118, 101, 32])) (z := (6 : Int32)) ⟨by decide, by decide +kernel⟩ (by decide) (by decide) (g := gK k16) rfl (hb hby d6_70) (n := 24) (by decide) (by decide) (by decide) (by decide)
  have Zs17 : n0 ≤ h17.size := Nat.le_trans Zs14 E17.1
  have k18 : Kq X0 2 T17 (mkF m 72 #[.val (.ref r0), .unset] [(.ref a17), (.ref b11)]) := fun t k => k16 t (st17 _ k)
  obtain ⟨cq19, kcq19, q19a, q19b, q19c⟩ := isOf hZ17 e17 (Ex14.ext E17)
  obtain ⟨_, _, ⟨T19, L19, kq19, n19⟩, -, X19, ⟨Lc19, hQ19, l19, y19, z19⟩, st19⟩ := X17.virtualBack hx (y := mN14) (z := mN14) hown17 (mw hZ17 hw 103 rfl) (mw hZ17 hw 104 rfl) (notFace_of_selects (args := #[]) (mw hZ17 hw 106 rfl)) (mw hZ17 hw 106 rfl) (mw hZ17 hw 105 rfl) (by decide) (backOf (W := 0) (rm15a_0_6_16 l Z a0 hw [] b11 a17 t14 kt14 oZ16 t17 kb17 (oB [97, 98, 111, 118, 101, 32]) G1 h17 n0 Zs17 (Fx14_0.ext E17) (Fx14_1.ext E17) (Fx14_2.ext E17) (Ex14.ext E17) g_b11 (Vt14.ext E17) rfl ne_b11_t14 g_t14 Ex17 Vx17 Cx17 Ax17 rfl (sf17 _ (Safe.exa hZ17.alike (Ex14.ext E17) (by decide) (by decide))).1.symm (sf17 _ (Safe.exa hZ17.alike (Ex14.ext E17) (by decide) (by decide))).2.symm S_CS P5 (((X00.ext E11).keep K14 (allS g_b11 all0)).ext E17)) hZ17 (ww hw 107 rfl) (ww hw 86 rfl) (by decide) (by decide)) q19a q19c (g := gK k18) rfl (by rw [hml]; rfl) (Steps.refl _) (argsL := [(.ref a17)]) (rest := []) (lenOf pd_20 rfl) rfl (by show 2 * 0 + _ ≤ _; exact Nat.le_of_eq rfl) (hb hby d6_72) (fun _ _ => ⟨rfl, e17, (by decide : 4 + 0 ≤ _), (by decide : 48 + 0 ≤ _)⟩)
  dsimp only [Pt.U, Pt.locs, Pt.cells, Pt.slots] at X19 l19 y19 z19 st19 hQ19
  replace l19 := l19.symm; subst l19 y19 z19
  obtain ⟨rfl, N19q, K19, Fx19_0, Fx19_1, Fx19_2, Ex19, Vp19⟩ := hQ19
  have N19 := Fr.app N14 N19q
  have sk20 : ∀ x ∈ ([b11, t14] : List Addr), Safe Z own_EL T17.vm h17 x := (allS (Safe.exa hZ17.alike (Ex14.ext E17) (by decide) (by decide)) (allS (CHr.safe cr17 Vt14.lt sf_t14) all0))
  have sv20_1 := Safe.keep K19 sk20 cr17.1 (CHr.safe cr17 Vt14.lt sf_t14)
  have cc20 := CHr.trans (cc15.trans cr17) (CHr.keep K19 sk20 cr17.1)
  have Zs19 : n0 ≤ T19.heap.size := Nat.le_trans Zs17 K19.1
  have k22 : Kq X0 2 T19 (mkF m 76 #[.val (.ref r0), .unset] [(.ref r0), (.ref b11)]) := fun t k => k18 t (st19.trans (XS.aloadN X19.here hx rfl (hb hby d6_75) rfl rfl k))
  obtain ⟨T23, X23, e23, st23⟩ := getF X19 hx hZ17 hown17 (host := "") (Or.inl (ww hw 40 rfl)) Via.refl rfl ((((F_above_r0.ext E11).keep K14 (ninS ne_r0_b11 nin0)).ext E17).keep K19 (ninS ne_r0_b11 (ninS ne_r0_t14 nin0))) (g := gK k22) rfl rfl (hb hby d6_76)
  have k24 : Kq X0 2 T23 (mkF m 79 #[.val (.ref r0), .unset] [(.ref r1), (.ref b11)]) := fun t k => k22 t (st23 _ k)
  obtain ⟨cq25, kcq25, q25a, q25b, q25c⟩ := isOf hZ17 e23 ((((E_r1.ext E11).keep K14).ext E17).keep K19)
  obtain ⟨_, _, ⟨T25, L25, kq25, n25⟩, -, X25, ⟨Lc25, hQ25, l25, y25, z25⟩, st25⟩ := X23.virtualBack hx (y := mN27) (z := mN27) hown17 (mw hZ17 hw 150 rfl) (mw hZ17 hw 151 rfl) (notFace_of_selects (args := #[]) (mw hZ17 hw 153 rfl)) (mw hZ17 hw 153 rfl) (mw hZ17 hw 152 rfl) (by decide) (backOf (W := 1) (rm23 l Z a0 hw [] r1 s_r1 T19.heap n0 Zs19 ((((F_value_r1.ext E11).keep K14 (ninS ne_r1_b11 nin0)).ext E17).keep K19 (ninS ne_r1_b11 (ninS ne_r1_t14 nin0)))) hZ17 (ww hw 154 rfl) (ww hw 2 rfl) (by decide) (by decide)) q25a q25c (g := gK k24) rfl (by rw [hml]; rfl) (Steps.refl _) (argsL := []) (rest := [(.ref b11)]) (lenOf pd_21 rfl) rfl (by show 2 * 0 + _ ≤ _; exact Nat.le_of_eq rfl) (hb hby d6_79) (fun _ _ => ⟨rfl, e23, (by decide : 4 + 0 ≤ _), (by decide : 48 + 0 ≤ _)⟩)
  dsimp only [Pt.U, Pt.locs, Pt.cells, Pt.slots] at X25 l25 y25 z25 st25 hQ25
  replace l25 := l25.symm; subst l25 y25 z25
  obtain ⟨rfl, N25q, e25⟩ := hQ25
  have N25 := Fr.app N19 N25q
  have k26 : Kq X0 2 T25 (mkF m 82 #[.val (.ref r0), .unset] [(.ref s_r1), (.ref b11)]) := fun t k => k24 t (st25.trans k)
  obtain ⟨cq27, kcq27, q27a, q27b, q27c⟩ := isOf hZ17 e25 Ex19
  obtain ⟨_, _, ⟨T27, L27, kq27, n27⟩, -, X27, ⟨Lc27, hQ27, l27, y27, z27⟩, st27⟩ := X25.virtualBack hx (y := mN14) (z := mN14) hown17 (mw hZ17 hw 103 rfl) (mw hZ17 hw 104 rfl) (notFace_of_selects (args := #[]) (mw hZ17 hw 106 rfl)) (mw hZ17 hw 106 rfl) (mw hZ17 hw 105 rfl) (by decide) (backOf (W := 0) (rm15a_6_2_16 l Z a0 hw [] b11 s_r1 t14 kt14 (own_ins oZ16 (oB [97, 98, 111, 118, 101, 32]) 0 6) ta ka ua G1 T19.heap n0 Zs19 Fx19_0 Fx19_1 Fx19_2 Ex19 g_b11 Vp19 (own_ins_len rfl rfl (by decide)) ne_b11_t14 g_t14 ((((E_s_r1.ext E11).keep K14).ext E17).keep K19) ((((F_value_s_r1.ext E11).keep K14 (ninS ne_s_r1_b11 nin0)).ext E17).keep K19 (ninS ne_s_r1_b11 (ninS ne_s_r1_t14 nin0))) ((((F_coder_s_r1.ext E11).keep K14 (ninS ne_s_r1_b11 nin0)).ext E17).keep K19 (ninS ne_s_r1_b11 (ninS ne_s_r1_t14 nin0))) ((((V_ta.ext E11).keep K14 (ninS ne_ta_b11 nin0)).ext E17).keep K19 (ninS ne_ta_b11 (ninS ne_ta_t14 nin0))) hl_ta ne_s_r1_b11 ne_ta_b11 S_CS P5 ((((X00.ext E11).keep K14 (allS g_b11 all0)).ext E17).keep K19 (allS g_b11 (allS g_t14 all0)))) hZ17 (ww hw 107 rfl) (ww hw 86 rfl) (by decide) (by decide)) q27a q27c (g := gK k26) rfl (by rw [hml]; rfl) (Steps.refl _) (argsL := [(.ref s_r1)]) (rest := []) (lenOf pd_20 rfl) rfl (by show 2 * 0 + _ ≤ _; exact Nat.le_of_eq rfl) (hb hby d6_82) (fun _ _ => ⟨rfl, e25, (by decide : 4 + 0 ≤ _), (by decide : 48 + 0 ≤ _)⟩)
  dsimp only [Pt.U, Pt.locs, Pt.cells, Pt.slots] at X27 l27 y27 z27 st27 hQ27
  replace l27 := l27.symm; subst l27 y27 z27
  obtain ⟨rfl, N27q, K27, Fx27_0, Fx27_1, Fx27_2, Ex27, Vp27⟩ := hQ27
  have N27 := Fr.app N25 N27q
  have sk28 : ∀ x ∈ ([b11, t14] : List Addr), Safe Z own_EL T17.vm T19.heap x := (allS (Safe.exa hZ17.alike Ex19 (by decide) (by decide)) (allS sv20_1 all0))
  have cc28 := CHr.trans cc20 (CHr.keep K27 sk28 cc20.1)
  have od37 := (((((X00.ext E11).keep K14 (allS g_b11 all0)).ext E17).keep K19 (allS g_b11 (allS g_t14 all0))).keep K27 (allS g_b11 (allS g_t14 all0)))
  have Zs27 : n0 ≤ T27.heap.size := Nat.le_trans Zs19 K27.1
  have k38 : Kq X0 2 T27 (mkF m 85 #[.val (.ref r0), .unset] [(.ref b11)]) := fun t k => k26 t (st27.trans k)
  obtain ⟨cq39, kcq39, q39a, q39b, q39c⟩ := isOf hZ17 rfl Ex27
  obtain ⟨_, _, ⟨T39, L39, kq39, n39⟩, -, X39, ⟨Lc39, hQ39, l39, y39, z39⟩, st39⟩ := X27.virtualBack hx (y := mN24) (z := mN24) hown17 (mw hZ17 hw 155 rfl) (mw hZ17 hw 156 rfl) (notFace_of_selects (args := #[]) (mw hZ17 hw 158 rfl)) (mw hZ17 hw 158 rfl) (mw hZ17 hw 157 rfl) (by decide) (backOf (W := 0) (rm24_8_16 l Z a0 hw [] b11 t14 kt14 (own_ins (own_ins oZ16 (oB [97, 98, 111, 118, 101, 32]) 0 6) ua 6 2) G1 T27.heap n0 Zs27 Fx27_0 Fx27_1 Fx27_2 Ex27 Vp27 (own_ins_len (own_ins_len rfl rfl (by decide)) hl_ta (by decide)) S_CS P5 od37) hZ17 (ww hw 159 rfl) (ww hw 86 rfl) (by decide) (by decide)) q39a q39c (g := gK k38) rfl (by rw [hml]; rfl) (Steps.refl _) (argsL := []) (rest := []) (lenOf pd_21 rfl) rfl (by show 2 * 0 + _ ≤ _; exact Nat.le_of_eq rfl) (hb hby d6_85) (fun _ _ => ⟨rfl, rfl, (by decide : 4 + 2 ≤ _), (by decide : 48 + 12 ≤ _)⟩)
  dsimp only [Pt.U, Pt.locs, Pt.cells, Pt.slots] at X39 l39 y39 z39 st39 hQ39
  replace l39 := l39.symm; subst l39 y39 z39
  obtain ⟨x39, t39, kt39, rfl, zx39, zt39, N39q, K39, Ex39, Fx39_0, Fx39_1, Vt39⟩ := hQ39
  have N39 := Fr.app N27 N39q
  have sk40 : ∀ x ∈ ([] : List Addr), Safe Z own_EL T17.vm T27.heap x := all0
  have cc40 := CHr.trans cc28 (CHr.keep K39 sk40 cc28.1)
  have k43 : Kq X0 2 T39 (mkF m 134 (oL70 r0 x39) [(.ref x39)]) := fun t k => k38 t (st39.trans (XS.astoreN X39.here hx rfl (hb hby d6_88) rfl rfl (l' := (oL70 r0 x39)) rfl (XS.goto X39.here hx rfl (pc0 := 89) (pc' := 133) rfl (hb hby d6_89) (by decide) (by decide) (XS.aloadN X39.here hx rfl (hb hby d6_133) rfl rfl k))))
  have hcr : CHr Z own_EL s.vm s.heap T39.vm T39.heap := by rw [hh, (rfl : T39.heap = T39.heap)]; exact cc40.trans (CHv.at (s := s) (vm0 := T17.vm) X39 hZ17 hEL cc40.1)
  obtain ⟨fs, hr, hrun, hended, w1, w2, w3, w4⟩ := X39.leaveW (s := s) (vm₁ := T17.vm) Sn17 (Nat.le_trans (Nat.le_trans (Nat.le_trans jk17 K19.1) K27.1) K39.1) (v := (some (.ref x39))) (fun h => by rw [Bd.returns] at h; cases h)
  refine ⟨_, _, k43 _ ?_, hrun, hended, _, _, rfl, ?_, hcr, w1, w2, w3, w4.mono (by decide) (by decide)⟩
  · exact retOut X39 hx Bd.returns rfl (Or.inr (Or.inr (Or.inr (Or.inr ⟨rfl, rfl, rfl⟩)))) (hb hby d6_134) hr
  · show Q6s10 Z r0 r1 s_r1 ta ka ua G1 h0 n0 _ T39.heap _
    exact ⟨x39, t39, kt39, _, rfl, N39, (((((((Keep.refl h0 []).ext E11).trans K14 (allS (Or.inr sz_b11) all0)).ext E17).trans K19 (allS (Or.inr sz_b11) (allS (Or.inr sz_t14) all0))).trans K27 (allS (Or.inr sz_b11) (allS (Or.inr sz_t14) all0))).trans K39 all0), Ex39, Fx39_0, Fx39_1, Vt39, rfl⟩
def Q6s11 (Z : State) (r0 : Addr) (r1 : Addr) (s_r1 : Addr) (ta : Addr) (ka : ClassId) (ua : List Value) (r2 : Addr) (s_r2 : Addr) (tm : Addr) (km : ClassId) (um : List Value) (G1 : Int32) (h0 : Heap) (n0 : Nat) (v : Option Value) (h : Heap) (L : List Loc) : Prop := ∃ x t k W, v = some (.ref x) ∧ Fr n0 L ∧ Keep h0 h [] ∧ Exa Z h x "java/lang/String" ∧ Fld Z h x "java/lang/String" "value" "[B" (.ref t) ∧ Fld Z h x "java/lang/String" "coder" "B" (.int (0 : Int32)) ∧ Arv Z h t k .byte (20 : Int32) W (.int (0 : Int32)) ∧ W = (own_ins oZ20 (List.take 20 (own_ins (own_ins (own_ins oZ34 (own_ins (own_ins oZ16 (oB [97, 98, 111, 118, 101, 32]) 0 6) ua 6 2) 0 16) (oB (44 :: 32 :: 97 :: 116 :: 32 :: 109 :: 111 :: 115 :: 116 :: 32 :: [])) 8 10) um 18 2)) 0 20)
def oR34 : Room := { frames := 6, cells := 9, slots := 150, locals := 109 }
def oL71 (r0 : Addr) (x63 : Addr) : Array Slot := #[.val (.ref r0), .val (.ref x63)]
theorem rm6s11 (l : Launch) (Z : State) (a0 : Array Value) (hw : ∀ d ∈ tables_1, d.before a0 Z = true) (ws : List Jvm.Cond) (r0 : Addr) (r1 : Addr) (s_r1 : Addr) (ta : Addr) (ka : ClassId) (ua : List Value) (r2 : Addr) (s_r2 : Addr) (tm : Addr) (km : ClassId) (um : List Value) (G1 : Int32) (h0 : Heap) (n0 : Nat) (Z0 : n0 ≤ h0.size) (F_above_r0 : Fld Z h0 r0 "com/example/covenantry/covenantry/FeeLevel" "above" "Lcom/example/covenantry/covenantry/Figure;" (.ref r1)) (F_atMost_r0 : Fld Z h0 r0 "com/example/covenantry/covenantry/FeeLevel" "atMost" "Lcom/example/covenantry/covenantry/Figure;" (.ref r2)) (E_r0 : Exa Z h0 r0 "com/example/covenantry/covenantry/FeeLevel") (F_value_r1 : Fld Z h0 r1 "com/example/covenantry/covenantry/Figure" "value" "Ljava/lang/String;" (.ref s_r1)) (E_r1 : Exa Z h0 r1 "com/example/covenantry/covenantry/Figure") (E_s_r1 : Exa Z h0 s_r1 "java/lang/String") (F_value_s_r1 : Fld Z h0 s_r1 "java/lang/String" "value" "[B" (.ref ta)) (F_coder_s_r1 : Fld Z h0 s_r1 "java/lang/String" "coder" "B" (.int (0 : Int32))) (V_ta : Arv Z h0 ta ka .byte (2 : Int32) ua (.int (0 : Int32))) (hl_ta : ua.length = 2) (F_value_r2 : Fld Z h0 r2 "com/example/covenantry/covenantry/Figure" "value" "Ljava/lang/String;" (.ref s_r2)) (E_r2 : Exa Z h0 r2 "com/example/covenantry/covenantry/Figure") (E_s_r2 : Exa Z h0 s_r2 "java/lang/String") (F_value_s_r2 : Fld Z h0 s_r2 "java/lang/String" "value" "[B" (.ref tm)) (F_coder_s_r2 : Fld Z h0 s_r2 "java/lang/String" "coder" "B" (.int (0 : Int32))) (V_tm : Arv Z h0 tm km .byte (2 : Int32) um (.int (0 : Int32))) (hl_tm : um.length = 2) (S_CS : Sta Z Z.heap "java/lang/String" "COMPACT_STRINGS" "Z" (.int G1)) (P5 : ¬ (G1 = (0 : Int32))) (X00 : Old Z n0 h0) :
    MetFree l mN30 (head1 (Jvm.Cond.code mN30 prog_27_method_5_code 2 (some (.object "java/lang/String")) :: ws) oR34) (fun a U => a = #[(.ref r0)] ∧ Z.Warmed39 U.vm ∧ U.heap = h0 ∧ CHv Z own_EL U.vm h0) (fun _ _ _ _ _ => True) (fun _ U o U' => ∃ v L, o = .returned v ∧ Q6s11 Z r0 r1 s_r1 ta ka ua r2 s_r2 tm km um G1 h0 n0 v U'.heap L ∧ CHr Z own_EL U.vm U.heap U'.vm U'.heap ∧ ReturnedEndW U o U' L oR34.cells oR34.slots) := by
  refine MetFree.of_bodySF (plainFor_of_name pn_6) hisR ?_
  intro p e s m args below meth c s₁ Bd hml0 hP hK
  obtain ⟨rfl, hZ, hh, hch⟩ := hP
  have hx := Bd.exec
  have hby := Bd.bytes
  have hml : c.maxLocals = 2 := hml0
  have hown : s.vm.findClass "com/example/covenantry/covenantry/FeeLevel" = some m.cls := findClass_of_methodNamed Bd.named
  have X0 : Stand p l e oR34 s m #[(.ref r0)] below meth c s₁ [] 0 0 := Stand.of_body Bd
  have e0 : s₁.heap = h0 := by rw [← hh, Bd.state]; rfl
  have N0 := Fr.nil n0
  have k0 : Kq X0 2 s₁ (mkF m 0 #[.val (.ref r0), .unset] []) := fun t k => castTop (ef_6s00 m r0) k
  have hEL : EW Z a0 own_EL := (EW.cons (text := "any ratio") (ww hw 53 rfl) (by decide) (EW.cons (text := "at most ") (ww hw 224 rfl) (by decide) (EW.cons (text := "above ") (ww hw 102 rfl) (by decide) (EW.cons (text := ", at most ") (ww hw 206 rfl) (by decide) (EW.cons (text := "x") (ww hw 83 rfl) (by decide) (EW.cons (text := "y") (ww hw 205 rfl) (by decide) (EW.cons (text := "0.375") (ww hw 3 rfl) (by decide) (EW.cons (text := "any ratio") (ww hw 54 rfl) (by decide) EW.nil))))))))
  have hsa : ∀ d ∈ Bundle.stringAtoms, d.before a0 Z = true := fun d hd => hw d ((by decide +kernel : ∀ d ∈ Bundle.stringAtoms, d ∈ tables_1) d hd)
  have k1 : Kq X0 2 s₁ (mkF m 1 #[.val (.ref r0), .unset] [(.ref r0)]) := fun t k => k0 t (XS.aloadN X0.here hx rfl (hb hby d6_0) rfl rfl k)
  obtain ⟨T2, X2, e2, st2⟩ := getF X0 hx hZ hown (host := "") (Or.inl (ww hw 40 rfl)) Via.refl e0 F_above_r0 (g := gK k1) rfl rfl (hb hby d6_1)
  have k4 : Kq X0 2 T2 (mkF m 21 #[.val (.ref r0), .unset] [(.ref r0)]) := fun t k => k1 t (st2 _ (XS.ifnonnullYes X2.here hx rfl (pc0 := 4) (pc' := 20) rfl (hb hby d6_4) rfl (by decide) (by decide) (XS.aloadN X2.here hx rfl (hb hby d6_20) rfl rfl k)))
  obtain ⟨T5, X5, e5, st5⟩ := getF X2 hx hZ hown (host := "") (Or.inl (ww hw 40 rfl)) Via.refl e2 F_above_r0 (g := gK k4) rfl rfl (hb hby d6_21)
  have k7 : Kq X0 2 T5 (mkF m 57 #[.val (.ref r0), .unset] [(.ref r0)]) := fun t k => k4 t (st5 _ (XS.ifnonnullYes X5.here hx rfl (pc0 := 24) (pc' := 56) rfl (hb hby d6_24) rfl (by decide) (by decide) (XS.aloadN X5.here hx rfl (hb hby d6_56) rfl rfl k)))
  obtain ⟨T8, X8, e8, st8⟩ := getF X5 hx hZ hown (host := "") (Or.inl (ww hw 42 rfl)) Via.refl e5 F_atMost_r0 (g := gK k7) rfl rfl (hb hby d6_57)
  have k10 : Kq X0 2 T8 (mkF m 92 #[.val (.ref r0), .unset] []) := fun t k => k7 t (st8 _ (XS.ifnonnullYes X8.here hx rfl (pc0 := 60) (pc' := 92) rfl (hb hby d6_60) rfl (by decide) (by decide) k))
  obtain ⟨T11, h11, X11, e11, E11, A11, D11, -, st11⟩ := newO X8 hx hZ hown (ww hw 84 rfl) (ww hw 85 rfl) (ww hw 86 rfl) e8 (g := gK k10) rfl (hb hby d6_92) (by decide) (by decide)
  obtain ⟨b11, g11⟩ : ∃ z, z = h0.size := ⟨_, rfl⟩
  rw [← g11] at A11 D11 st11
  have ne_r0_b11 : r0 ≠ b11 := Nat.ne_of_lt (Nat.lt_of_lt_of_le F_above_r0.lt (Nat.le_of_eq g11.symm))
  have ne_r1_b11 : r1 ≠ b11 := Nat.ne_of_lt (Nat.lt_of_lt_of_le F_value_r1.lt (Nat.le_of_eq g11.symm))
  have ne_s_r1_b11 : s_r1 ≠ b11 := Nat.ne_of_lt (Nat.lt_of_lt_of_le E_s_r1.lt (Nat.le_of_eq g11.symm))
  have ne_ta_b11 : ta ≠ b11 := Nat.ne_of_lt (Nat.lt_of_lt_of_le V_ta.lt (Nat.le_of_eq g11.symm))
  have ne_r2_b11 : r2 ≠ b11 := Nat.ne_of_lt (Nat.lt_of_lt_of_le F_value_r2.lt (Nat.le_of_eq g11.symm))
  have ne_s_r2_b11 : s_r2 ≠ b11 := Nat.ne_of_lt (Nat.lt_of_lt_of_le E_s_r2.lt (Nat.le_of_eq g11.symm))
  have ne_tm_b11 : tm ≠ b11 := Nat.ne_of_lt (Nat.lt_of_lt_of_le V_tm.lt (Nat.le_of_eq g11.symm))
  have sz_b11 : h0.size ≤ b11 := Nat.le_trans (Keep.refl h0 []).1 (Nat.le_of_eq g11.symm)
  have F_value_b11 : Fld Z h11 b11 "java/lang/AbstractStringBuilder" "value" "[B" .null := D11 (Or.inl (ww hw 99 rfl)) (ty := (.array .byte)) (by decide)
  have F_coder_b11 : Fld Z h11 b11 "java/lang/AbstractStringBuilder" "coder" "B" (.int (0 : Int32)) := D11 (Or.inl (ww hw 101 rfl)) (ty := .byte) (by decide)
  have F_count_b11 : Fld Z h11 b11 "java/lang/AbstractStringBuilder" "count" "I" (.int (0 : Int32)) := D11 (Or.inl (ww hw 124 rfl)) (ty := .int) (by decide)
  have g_b11 : n0 ≤ b11 := Nat.le_trans Z0 (Nat.le_of_eq g11.symm)
  have Zs11 : n0 ≤ h11.size := Nat.le_trans Z0 E11.1
  have k13 : Kq X0 2 T11 (mkF m 96 #[.val (.ref r0), .unset] [(.ref b11), (.ref b11)]) := fun t k => k10 t (st11 _ (XS.dup X11.here hx rfl (hb hby d6_95) rfl rfl k))
  obtain ⟨_, _, ⟨T14, L14, kq14, n14⟩, -, X14, ⟨Lc14, hQ14, l14, y14, z14⟩, st14⟩ := X11.specialBack hx (y := mN1) rfl hown (mw hZ hw 87 rfl) (mw hZ hw 88 rfl) (mw hZ hw 89 rfl) (by decide) (backOf (W := 1) (rm13 l Z a0 hw [] b11 G1 h11 n0 Zs11 F_value_b11 F_coder_b11 F_count_b11 A11 g_b11 S_CS P5 (X00.ext E11)) hZ (ww hw 89 rfl) (ww hw 86 rfl) (by decide) (by decide)) (g := gK k13) rfl (by rw [hml]; rfl) (Steps.refl _) (a := b11) (argsL := []) (rest := [(.ref b11)]) (lenOf pd_19 rfl) rfl (by show 2 * 0 + _ ≤ _; exact Nat.le_of_eq rfl) (hb hby d6_96) (fun _ _ => ⟨rfl, e11, (by decide : 1 + 1 ≤ _), (by decide : 4 + 16 ≤ _)⟩)
  dsimp only [Pt.U, Pt.locs, Pt.cells, Pt.slots] at X14 l14 y14 z14 st14 hQ14
  replace l14 := l14.symm; subst l14 y14 z14
  obtain ⟨rfl, N14q, K14, t14, kt14, zt14, Fx14_0, Fx14_1, Fx14_2, Ex14, Vt14⟩ := hQ14
  have N14 := Fr.app N0 N14q
  have ne_r0_t14 : r0 ≠ t14 := Nat.ne_of_lt (Nat.lt_of_lt_of_le (F_above_r0.ext E11).lt zt14)
  have ne_r1_t14 : r1 ≠ t14 := Nat.ne_of_lt (Nat.lt_of_lt_of_le (F_value_r1.ext E11).lt zt14)
  have ne_s_r1_t14 : s_r1 ≠ t14 := Nat.ne_of_lt (Nat.lt_of_lt_of_le (E_s_r1.ext E11).lt zt14)
  have ne_ta_t14 : ta ≠ t14 := Nat.ne_of_lt (Nat.lt_of_lt_of_le (V_ta.ext E11).lt zt14)
  have ne_r2_t14 : r2 ≠ t14 := Nat.ne_of_lt (Nat.lt_of_lt_of_le (F_value_r2.ext E11).lt zt14)
  have ne_s_r2_t14 : s_r2 ≠ t14 := Nat.ne_of_lt (Nat.lt_of_lt_of_le (E_s_r2.ext E11).lt zt14)
  have ne_tm_t14 : tm ≠ t14 := Nat.ne_of_lt (Nat.lt_of_lt_of_le (V_tm.ext E11).lt zt14)
  have ne_b11_t14 : b11 ≠ t14 := Nat.ne_of_lt (Nat.lt_of_lt_of_le F_value_b11.lt zt14)
  have sk15 : ∀ x ∈ ([b11] : List Addr), Safe Z own_EL s.vm h11 x := (allS (Safe.exa hZ.alike A11 (by decide) (by decide)) all0)
  have sf_t14 := Safe.keep K14 sk15 (CHv.ext E11 hch) (Safe.new zt14)
  have cc15 := CHr.trans ((CHr.refl hch).trans (CHr.ext E11 hch)) (CHr.keep K14 sk15 (CHv.ext E11 hch))
  have g_t14 : n0 ≤ t14 := Nat.le_trans Zs11 zt14
  have sz_t14 : h0.size ≤ t14 := Nat.le_trans ((Keep.refl h0 []).ext E11).1 zt14
  have Zs14 : n0 ≤ T14.heap.size := Nat.le_trans Zs11 K14.1
  have k16 : Kq X0 2 T14 (mkF m 99 #[.val (.ref r0), .unset] [(.ref b11)]) := fun t k => k13 t (st14.trans k)
  obtain ⟨a17, T17, h17, j17, t17, kb17, X17, e17, E17, Sn17, jk17, hZ17, hown17, Ex17, Cx17, Vx17, Ax17, la17, lb17, cr17, Lt17, sf17, st17⟩ := ldcCH (s := s) (vm0 := s.vm) X14 hx hZ hown (ww hw 102 rfl) hsa rfl ((State.WarmedH.refl s).since h0.size) (Nat.le_trans (Nat.le_trans (Nat.le_refl h0.size) E11.1) K14.1) hEL (by simp [own_EL]) cc15.1 (vs := (oB [97, 98, 111, 118, 101, 32])) (z := (6 : Int32)) ⟨by decide, by decide +kernel⟩ (by decide) (by decide) (g := gK k16) rfl (hb hby d6_99) (n := 24) (by decide) (by decide) (by decide) (by decide)
  have Zs17 : n0 ≤ h17.size := Nat.le_trans Zs14 E17.1
  have k18 : Kq X0 2 T17 (mkF m 101 #[.val (.ref r0), .unset] [(.ref a17), (.ref b11)]) := fun t k => k16 t (st17 _ k)
  obtain ⟨cq19, kcq19, q19a, q19b, q19c⟩ := isOf hZ17 e17 (Ex14.ext E17)
  obtain ⟨_, _, ⟨T19, L19, kq19, n19⟩, -, X19, ⟨Lc19, hQ19, l19, y19, z19⟩, st19⟩ := X17.virtualBack hx (y := mN14) (z := mN14) hown17 (mw hZ17 hw 103 rfl) (mw hZ17 hw 104 rfl) (notFace_of_selects (args := #[]) (mw hZ17 hw 106 rfl)) (mw hZ17 hw 106 rfl) (mw hZ17 hw 105 rfl) (by decide) (backOf (W := 0) (rm15a_0_6_16 l Z a0 hw [] b11 a17 t14 kt14 oZ16 t17 kb17 (oB [97, 98, 111, 118, 101, 32]) G1 h17 n0 Zs17 (Fx14_0.ext E17) (Fx14_1.ext E17) (Fx14_2.ext E17) (Ex14.ext E17) g_b11 (Vt14.ext E17) rfl ne_b11_t14 g_t14 Ex17 Vx17 Cx17 Ax17 rfl (sf17 _ (Safe.exa hZ17.alike (Ex14.ext E17) (by decide) (by decide))).1.symm (sf17 _ (Safe.exa hZ17.alike (Ex14.ext E17) (by decide) (by decide))).2.symm S_CS P5 (((X00.ext E11).keep K14 (allS g_b11 all0)).ext E17)) hZ17 (ww hw 107 rfl) (ww hw 86 rfl) (by decide) (by decide)) q19a q19c (g := gK k18) rfl (by rw [hml]; rfl) (Steps.refl _) (argsL := [(.ref a17)]) (rest := []) (lenOf pd_20 rfl) rfl (by show 2 * 0 + _ ≤ _; exact Nat.le_of_eq rfl) (hb hby d6_101) (fun _ _ => ⟨rfl, e17, (by decide : 4 + 0 ≤ _), (by decide : 48 + 0 ≤ _)⟩)
  dsimp only [Pt.U, Pt.locs, Pt.cells, Pt.slots] at X19 l19 y19 z19 st19 hQ19
  replace l19 := l19.symm; subst l19 y19 z19
  obtain ⟨rfl, N19q, K19, Fx19_0, Fx19_1, Fx19_2, Ex19, Vp19⟩ := hQ19
  have N19 := Fr.app N14 N19q
  have sk20 : ∀ x ∈ ([b11, t14] : List Addr), Safe Z own_EL T17.vm h17 x := (allS (Safe.exa hZ17.alike (Ex14.ext E17) (by decide) (by decide)) (allS (CHr.safe cr17 Vt14.lt sf_t14) all0))
  have sv20_1 := Safe.keep K19 sk20 cr17.1 (CHr.safe cr17 Vt14.lt sf_t14)
  have cc20 := CHr.trans (cc15.trans cr17) (CHr.keep K19 sk20 cr17.1)
  have Zs19 : n0 ≤ T19.heap.size := Nat.le_trans Zs17 K19.1
  have k22 : Kq X0 2 T19 (mkF m 105 #[.val (.ref r0), .unset] [(.ref r0), (.ref b11)]) := fun t k => k18 t (st19.trans (XS.aloadN X19.here hx rfl (hb hby d6_104) rfl rfl k))
  obtain ⟨T23, X23, e23, st23⟩ := getF X19 hx hZ17 hown17 (host := "") (Or.inl (ww hw 40 rfl)) Via.refl rfl ((((F_above_r0.ext E11).keep K14 (ninS ne_r0_b11 nin0)).ext E17).keep K19 (ninS ne_r0_b11 (ninS ne_r0_t14 nin0))) (g := gK k22) rfl rfl (hb hby d6_105)
  have k24 : Kq X0 2 T23 (mkF m 108 #[.val (.ref r0), .unset] [(.ref r1), (.ref b11)]) := fun t k => k22 t (st23 _ k)
  obtain ⟨cq25, kcq25, q25a, q25b, q25c⟩ := isOf hZ17 e23 ((((E_r1.ext E11).keep K14).ext E17).keep K19)
  obtain ⟨_, _, ⟨T25, L25, kq25, n25⟩, -, X25, ⟨Lc25, hQ25, l25, y25, z25⟩, st25⟩ := X23.virtualBack hx (y := mN27) (z := mN27) hown17 (mw hZ17 hw 150 rfl) (mw hZ17 hw 151 rfl) (notFace_of_selects (args := #[]) (mw hZ17 hw 153 rfl)) (mw hZ17 hw 153 rfl) (mw hZ17 hw 152 rfl) (by decide) (backOf (W := 1) (rm23 l Z a0 hw [] r1 s_r1 T19.heap n0 Zs19 ((((F_value_r1.ext E11).keep K14 (ninS ne_r1_b11 nin0)).ext E17).keep K19 (ninS ne_r1_b11 (ninS ne_r1_t14 nin0)))) hZ17 (ww hw 154 rfl) (ww hw 2 rfl) (by decide) (by decide)) q25a q25c (g := gK k24) rfl (by rw [hml]; rfl) (Steps.refl _) (argsL := []) (rest := [(.ref b11)]) (lenOf pd_21 rfl) rfl (by show 2 * 0 + _ ≤ _; exact Nat.le_of_eq rfl) (hb hby d6_108) (fun _ _ => ⟨rfl, e23, (by decide : 4 + 0 ≤ _), (by decide : 48 + 0 ≤ _)⟩)
  dsimp only [Pt.U, Pt.locs, Pt.cells, Pt.slots] at X25 l25 y25 z25 st25 hQ25
  replace l25 := l25.symm; subst l25 y25 z25
  obtain ⟨rfl, N25q, e25⟩ := hQ25
  have N25 := Fr.app N19 N25q
  have k26 : Kq X0 2 T25 (mkF m 111 #[.val (.ref r0), .unset] [(.ref s_r1), (.ref b11)]) := fun t k => k24 t (st25.trans k)
  obtain ⟨cq27, kcq27, q27a, q27b, q27c⟩ := isOf hZ17 e25 Ex19
  obtain ⟨_, _, ⟨T27, L27, kq27, n27⟩, -, X27, ⟨Lc27, hQ27, l27, y27, z27⟩, st27⟩ := X25.virtualBack hx (y := mN14) (z := mN14) hown17 (mw hZ17 hw 103 rfl) (mw hZ17 hw 104 rfl) (notFace_of_selects (args := #[]) (mw hZ17 hw 106 rfl)) (mw hZ17 hw 106 rfl) (mw hZ17 hw 105 rfl) (by decide) (backOf (W := 0) (rm15a_6_2_16 l Z a0 hw [] b11 s_r1 t14 kt14 (own_ins oZ16 (oB [97, 98, 111, 118, 101, 32]) 0 6) ta ka ua G1 T19.heap n0 Zs19 Fx19_0 Fx19_1 Fx19_2 Ex19 g_b11 Vp19 (own_ins_len rfl rfl (by decide)) ne_b11_t14 g_t14 ((((E_s_r1.ext E11).keep K14).ext E17).keep K19) ((((F_value_s_r1.ext E11).keep K14 (ninS ne_s_r1_b11 nin0)).ext E17).keep K19 (ninS ne_s_r1_b11 (ninS ne_s_r1_t14 nin0))) ((((F_coder_s_r1.ext E11).keep K14 (ninS ne_s_r1_b11 nin0)).ext E17).keep K19 (ninS ne_s_r1_b11 (ninS ne_s_r1_t14 nin0))) ((((V_ta.ext E11).keep K14 (ninS ne_ta_b11 nin0)).ext E17).keep K19 (ninS ne_ta_b11 (ninS ne_ta_t14 nin0))) hl_ta ne_s_r1_b11 ne_ta_b11 S_CS P5 ((((X00.ext E11).keep K14 (allS g_b11 all0)).ext E17).keep K19 (allS g_b11 (allS g_t14 all0)))) hZ17 (ww hw 107 rfl) (ww hw 86 rfl) (by decide) (by decide)) q27a q27c (g := gK k26) rfl (by rw [hml]; rfl) (Steps.refl _) (argsL := [(.ref s_r1)]) (rest := []) (lenOf pd_20 rfl) rfl (by show 2 * 0 + _ ≤ _; exact Nat.le_of_eq rfl) (hb hby d6_111) (fun _ _ => ⟨rfl, e25, (by decide : 4 + 0 ≤ _), (by decide : 48 + 0 ≤ _)⟩)
  dsimp only [Pt.U, Pt.locs, Pt.cells, Pt.slots] at X27 l27 y27 z27 st27 hQ27
  replace l27 := l27.symm; subst l27 y27 z27
  obtain ⟨rfl, N27q, K27, Fx27_0, Fx27_1, Fx27_2, Ex27, Vp27⟩ := hQ27
  have N27 := Fr.app N25 N27q
  have sk28 : ∀ x ∈ ([b11, t14] : List Addr), Safe Z own_EL T17.vm T19.heap x := (allS (Safe.exa hZ17.alike Ex19 (by decide) (by decide)) (allS sv20_1 all0))
  have cc28 := CHr.trans cc20 (CHr.keep K27 sk28 cc20.1)
  have fc30 := (((((F_atMost_r0.ext E11).keep K14 (ninS ne_r0_b11 nin0)).ext E17).keep K19 (ninS ne_r0_b11 (ninS ne_r0_t14 nin0))).keep K27 (ninS ne_r0_b11 (ninS ne_r0_t14 nin0)))
  have fc34 := (((((F_value_r2.ext E11).keep K14 (ninS ne_r2_b11 nin0)).ext E17).keep K19 (ninS ne_r2_b11 (ninS ne_r2_t14 nin0))).keep K27 (ninS ne_r2_b11 (ninS ne_r2_t14 nin0)))
  have fc35 := (((((F_value_s_r2.ext E11).keep K14 (ninS ne_s_r2_b11 nin0)).ext E17).keep K19 (ninS ne_s_r2_b11 (ninS ne_s_r2_t14 nin0))).keep K27 (ninS ne_s_r2_b11 (ninS ne_s_r2_t14 nin0)))
  have fc36 := (((((F_coder_s_r2.ext E11).keep K14 (ninS ne_s_r2_b11 nin0)).ext E17).keep K19 (ninS ne_s_r2_b11 (ninS ne_s_r2_t14 nin0))).keep K27 (ninS ne_s_r2_b11 (ninS ne_s_r2_t14 nin0)))
  have od40 := (((((X00.ext E11).keep K14 (allS g_b11 all0)).ext E17).keep K19 (allS g_b11 (allS g_t14 all0))).keep K27 (allS g_b11 (allS g_t14 all0)))
  have Zs27 : n0 ≤ T27.heap.size := Nat.le_trans Zs19 K27.1
  have k41 : Kq X0 2 T27 (mkF m 114 #[.val (.ref r0), .unset] [(.ref b11)]) := fun t k => k26 t (st27.trans k)
  obtain ⟨a42, T42, h42, j42, t42, kb42, X42, e42, E42, Sn42, jk42, hZ42, hown42, Ex42, Cx42, Vx42, Ax42, la42, lb42, cr42, Lt42, sf42, st42⟩ := ldcCH (s := s) (vm0 := T17.vm) X27 hx hZ17 hown17 (ww hw 206 rfl) hsa rfl Sn17 (Nat.le_trans (Nat.le_trans jk17 K19.1) K27.1) hEL (by simp [own_EL]) cc28.1 (vs := (oB (44 :: 32 :: 97 :: 116 :: 32 :: 109 :: 111 :: 115 :: 116 :: 32 :: []))) (z := (10 : Int32)) ⟨by decide, by decide +kernel⟩ (by decide) (by decide) (g := gK k41) rfl (hb hby d6_114) (n := 40) (by decide) (by decide) (by decide) (by decide)
  have Zs42 : n0 ≤ h42.size := Nat.le_trans Zs27 E42.1
  have k43 : Kq X0 2 T42 (mkF m 116 #[.val (.ref r0), .unset] [(.ref a42), (.ref b11)]) := fun t k => k41 t (st42 _ k)
  obtain ⟨cq44, kcq44, q44a, q44b, q44c⟩ := isOf hZ42 e42 (Ex27.ext E42)
  obtain ⟨_, _, ⟨T44, L44, kq44, n44⟩, -, X44, ⟨Lc44, hQ44, l44, y44, z44⟩, st44⟩ := X42.virtualBack hx (y := mN14) (z := mN14) hown42 (mw hZ42 hw 103 rfl) (mw hZ42 hw 104 rfl) (notFace_of_selects (args := #[]) (mw hZ42 hw 106 rfl)) (mw hZ42 hw 106 rfl) (mw hZ42 hw 105 rfl) (by decide) (backOf (W := 0) (rm15a_8_10_16 l Z a0 hw [] b11 a42 t14 kt14 (own_ins (own_ins oZ16 (oB [97, 98, 111, 118, 101, 32]) 0 6) ua 6 2) t42 kb42 (oB (44 :: 32 :: 97 :: 116 :: 32 :: 109 :: 111 :: 115 :: 116 :: 32 :: [])) G1 h42 n0 Zs42 (Fx27_0.ext E42) (Fx27_1.ext E42) (Fx27_2.ext E42) (Ex27.ext E42) g_b11 (Vp27.ext E42) (own_ins_len (own_ins_len rfl rfl (by decide)) hl_ta (by decide)) ne_b11_t14 g_t14 Ex42 Vx42 Cx42 Ax42 rfl (sf42 _ (Safe.exa hZ42.alike (Ex27.ext E42) (by decide) (by decide))).1.symm (sf42 _ (Safe.exa hZ42.alike (Ex27.ext E42) (by decide) (by decide))).2.symm S_CS P5 (od40.ext E42)) hZ42 (ww hw 107 rfl) (ww hw 86 rfl) (by decide) (by decide)) q44a q44c (g := gK k43) rfl (by rw [hml]; rfl) (Steps.refl _) (argsL := [(.ref a42)]) (rest := []) (lenOf pd_20 rfl) rfl (by show 2 * 0 + _ ≤ _; exact Nat.le_of_eq rfl) (hb hby d6_116) (fun _ _ => ⟨rfl, e42, (by decide : 6 + 1 ≤ _), (by decide : 92 + 34 ≤ _)⟩)
  dsimp only [Pt.U, Pt.locs, Pt.cells, Pt.slots] at X44 l44 y44 z44 st44 hQ44
  replace l44 := l44.symm; subst l44 y44 z44
  obtain ⟨rfl, N44q, K44, t44, kt44, zt44, Fx44_0, Fx44_1, Fx44_2, Ex44, Vt44⟩ := hQ44
  have N44 := Fr.app N27 N44q
  have ne_b11_t44 : b11 ≠ t44 := Nat.ne_of_lt (Nat.lt_of_lt_of_le (Fx27_0.ext E42).lt zt44)
  have sk45 : ∀ x ∈ ([b11] : List Addr), Safe Z own_EL T42.vm h42 x := (allS (Safe.exa hZ42.alike (Ex27.ext E42) (by decide) (by decide)) all0)
  have sf_t44 := Safe.keep K44 sk45 cr42.1 (Safe.new zt44)
  have cc45 := CHr.trans (cc28.trans cr42) (CHr.keep K44 sk45 cr42.1)
  have fc47 := (((((((V_tm.ext E11).keep K14 (ninS ne_tm_b11 nin0)).ext E17).keep K19 (ninS ne_tm_b11 (ninS ne_tm_t14 nin0))).keep K27 (ninS ne_tm_b11 (ninS ne_tm_t14 nin0))).ext E42).keep K44 (ninS ne_tm_b11 nin0))
  have g_t44 : n0 ≤ t44 := Nat.le_trans Zs42 zt44
  have sz_t44 : h0.size ≤ t44 := Nat.le_trans (((((((Keep.refl h0 []).ext E11).trans K14 (allS (Or.inr sz_b11) all0)).ext E17).trans K19 (allS (Or.inr sz_b11) (allS (Or.inr sz_t14) all0))).trans K27 (allS (Or.inr sz_b11) (allS (Or.inr sz_t14) all0))).ext E42).1 zt44
  have Zs44 : n0 ≤ T44.heap.size := Nat.le_trans Zs42 K44.1
  have k49 : Kq X0 2 T44 (mkF m 120 #[.val (.ref r0), .unset] [(.ref r0), (.ref b11)]) := fun t k => k43 t (st44.trans (XS.aloadN X44.here hx rfl (hb hby d6_119) rfl rfl k))
  obtain ⟨T50, X50, e50, st50⟩ := getF X44 hx hZ42 hown42 (host := "") (Or.inl (ww hw 42 rfl)) Via.refl rfl ((fc30.ext E42).keep K44 (ninS ne_r0_b11 nin0)) (g := gK k49) rfl rfl (hb hby d6_120)
  have k51 : Kq X0 2 T50 (mkF m 123 #[.val (.ref r0), .unset] [(.ref r2), (.ref b11)]) := fun t k => k49 t (st50 _ k)
  obtain ⟨cq52, kcq52, q52a, q52b, q52c⟩ := isOf hZ42 e50 (((((((E_r2.ext E11).keep K14).ext E17).keep K19).keep K27).ext E42).keep K44)
  obtain ⟨_, _, ⟨T52, L52, kq52, n52⟩, -, X52, ⟨Lc52, hQ52, l52, y52, z52⟩, st52⟩ := X50.virtualBack hx (y := mN27) (z := mN27) hown42 (mw hZ42 hw 150 rfl) (mw hZ42 hw 151 rfl) (notFace_of_selects (args := #[]) (mw hZ42 hw 153 rfl)) (mw hZ42 hw 153 rfl) (mw hZ42 hw 152 rfl) (by decide) (backOf (W := 1) (rm23 l Z a0 hw [] r2 s_r2 T44.heap n0 Zs44 ((fc34.ext E42).keep K44 (ninS ne_r2_b11 nin0))) hZ42 (ww hw 154 rfl) (ww hw 2 rfl) (by decide) (by decide)) q52a q52c (g := gK k51) rfl (by rw [hml]; rfl) (Steps.refl _) (argsL := []) (rest := [(.ref b11)]) (lenOf pd_21 rfl) rfl (by show 2 * 0 + _ ≤ _; exact Nat.le_of_eq rfl) (hb hby d6_123) (fun _ _ => ⟨rfl, e50, (by decide : 7 + 0 ≤ _), (by decide : 126 + 0 ≤ _)⟩)
  dsimp only [Pt.U, Pt.locs, Pt.cells, Pt.slots] at X52 l52 y52 z52 st52 hQ52
  replace l52 := l52.symm; subst l52 y52 z52
  obtain ⟨rfl, N52q, e52⟩ := hQ52
  have N52 := Fr.app N44 N52q
  have k53 : Kq X0 2 T52 (mkF m 126 #[.val (.ref r0), .unset] [(.ref s_r2), (.ref b11)]) := fun t k => k51 t (st52.trans k)
  obtain ⟨cq54, kcq54, q54a, q54b, q54c⟩ := isOf hZ42 e52 Ex44
  obtain ⟨_, _, ⟨T54, L54, kq54, n54⟩, -, X54, ⟨Lc54, hQ54, l54, y54, z54⟩, st54⟩ := X52.virtualBack hx (y := mN14) (z := mN14) hown42 (mw hZ42 hw 103 rfl) (mw hZ42 hw 104 rfl) (notFace_of_selects (args := #[]) (mw hZ42 hw 106 rfl)) (mw hZ42 hw 106 rfl) (mw hZ42 hw 105 rfl) (by decide) (backOf (W := 0) (rm15a_18_2_34 l Z a0 hw [] b11 s_r2 t44 kt44 (own_ins (own_ins oZ34 (own_ins (own_ins oZ16 (oB [97, 98, 111, 118, 101, 32]) 0 6) ua 6 2) 0 16) (oB (44 :: 32 :: 97 :: 116 :: 32 :: 109 :: 111 :: 115 :: 116 :: 32 :: [])) 8 10) tm km um G1 T44.heap n0 Zs44 Fx44_0 Fx44_1 Fx44_2 Ex44 g_b11 Vt44 (own_ins_len (own_ins_len rfl (own_ins_len (own_ins_len rfl rfl (by decide)) hl_ta (by decide)) (by decide)) rfl (by decide)) ne_b11_t44 g_t44 (((((((E_s_r2.ext E11).keep K14).ext E17).keep K19).keep K27).ext E42).keep K44) ((fc35.ext E42).keep K44 (ninS ne_s_r2_b11 nin0)) ((fc36.ext E42).keep K44 (ninS ne_s_r2_b11 nin0)) fc47 hl_tm ne_s_r2_b11 ne_tm_b11 S_CS P5 ((od40.ext E42).keep K44 (allS g_b11 all0))) hZ42 (ww hw 107 rfl) (ww hw 86 rfl) (by decide) (by decide)) q54a q54c (g := gK k53) rfl (by rw [hml]; rfl) (Steps.refl _) (argsL := [(.ref s_r2)]) (rest := []) (lenOf pd_20 rfl) rfl (by show 2 * 0 + _ ≤ _; exact Nat.le_of_eq rfl) (hb hby d6_126) (fun _ _ => ⟨rfl, e52, (by decide : 7 + 0 ≤ _), (by decide : 126 + 0 ≤ _)⟩)
  dsimp only [Pt.U, Pt.locs, Pt.cells, Pt.slots] at X54 l54 y54 z54 st54 hQ54
  replace l54 := l54.symm; subst l54 y54 z54
  obtain ⟨rfl, N54q, K54, Fx54_0, Fx54_1, Fx54_2, Ex54, Vp54⟩ := hQ54
  have N54 := Fr.app N52 N54q
  have sk55 : ∀ x ∈ ([b11, t44] : List Addr), Safe Z own_EL T42.vm T44.heap x := (allS (Safe.exa hZ42.alike Ex44 (by decide) (by decide)) (allS sf_t44 all0))
  have cc55 := CHr.trans cc45 (CHr.keep K54 sk55 cc45.1)
  have Zs54 : n0 ≤ T54.heap.size := Nat.le_trans Zs44 K54.1
  have k62 : Kq X0 2 T54 (mkF m 129 #[.val (.ref r0), .unset] [(.ref b11)]) := fun t k => k53 t (st54.trans k)
  obtain ⟨cq63, kcq63, q63a, q63b, q63c⟩ := isOf hZ42 rfl Ex54
  obtain ⟨_, _, ⟨T63, L63, kq63, n63⟩, -, X63, ⟨Lc63, hQ63, l63, y63, z63⟩, st63⟩ := X54.virtualBack hx (y := mN24) (z := mN24) hown42 (mw hZ42 hw 155 rfl) (mw hZ42 hw 156 rfl) (notFace_of_selects (args := #[]) (mw hZ42 hw 158 rfl)) (mw hZ42 hw 158 rfl) (mw hZ42 hw 157 rfl) (by decide) (backOf (W := 0) (rm24_20_34 l Z a0 hw [] b11 t44 kt44 (own_ins (own_ins (own_ins oZ34 (own_ins (own_ins oZ16 (oB [97, 98, 111, 118, 101, 32]) 0 6) ua 6 2) 0 16) (oB (44 :: 32 :: 97 :: 116 :: 32 :: 109 :: 111 :: 115 :: 116 :: 32 :: [])) 8 10) um 18 2) G1 T54.heap n0 Zs54 Fx54_0 Fx54_1 Fx54_2 Ex54 Vp54 (own_ins_len (own_ins_len (own_ins_len rfl (own_ins_len (own_ins_len rfl rfl (by decide)) hl_ta (by decide)) (by decide)) rfl (by decide)) hl_tm (by decide)) S_CS P5 (((od40.ext E42).keep K44 (allS g_b11 all0)).keep K54 (allS g_b11 (allS g_t44 all0)))) hZ42 (ww hw 159 rfl) (ww hw 86 rfl) (by decide) (by decide)) q63a q63c (g := gK k62) rfl (by rw [hml]; rfl) (Steps.refl _) (argsL := []) (rest := []) (lenOf pd_21 rfl) rfl (by show 2 * 0 + _ ≤ _; exact Nat.le_of_eq rfl) (hb hby d6_129) (fun _ _ => ⟨rfl, rfl, (by decide : 7 + 2 ≤ _), (by decide : 126 + 24 ≤ _)⟩)
  dsimp only [Pt.U, Pt.locs, Pt.cells, Pt.slots] at X63 l63 y63 z63 st63 hQ63
  replace l63 := l63.symm; subst l63 y63 z63
  obtain ⟨x63, t63, kt63, rfl, zx63, zt63, N63q, K63, Ex63, Fx63_0, Fx63_1, Vt63⟩ := hQ63
  have N63 := Fr.app N54 N63q
  have sk64 : ∀ x ∈ ([] : List Addr), Safe Z own_EL T42.vm T54.heap x := all0
  have cc64 := CHr.trans cc55 (CHr.keep K63 sk64 cc55.1)
  have k66 : Kq X0 2 T63 (mkF m 134 (oL71 r0 x63) [(.ref x63)]) := fun t k => k62 t (st63.trans (XS.astoreN X63.here hx rfl (hb hby d6_132) rfl rfl (l' := (oL71 r0 x63)) rfl (XS.aloadN X63.here hx rfl (hb hby d6_133) rfl rfl k)))
  have hcr : CHr Z own_EL s.vm s.heap T63.vm T63.heap := by rw [hh, (rfl : T63.heap = T63.heap)]; exact cc64.trans (CHv.at (s := s) (vm0 := T42.vm) X63 hZ42 hEL cc64.1)
  obtain ⟨fs, hr, hrun, hended, w1, w2, w3, w4⟩ := X63.leaveW (s := s) (vm₁ := T42.vm) Sn42 (Nat.le_trans (Nat.le_trans (Nat.le_trans jk42 K44.1) K54.1) K63.1) (v := (some (.ref x63))) (fun h => by rw [Bd.returns] at h; cases h)
  refine ⟨_, _, k66 _ ?_, hrun, hended, _, _, rfl, ?_, hcr, w1, w2, w3, w4.mono (by decide) (by decide)⟩
  · exact retOut X63 hx Bd.returns rfl (Or.inr (Or.inr (Or.inr (Or.inr ⟨rfl, rfl, rfl⟩)))) (hb hby d6_134) hr
  · show Q6s11 Z r0 r1 s_r1 ta ka ua r2 s_r2 tm km um G1 h0 n0 _ T63.heap _
    exact ⟨x63, t63, kt63, _, rfl, N63, ((((((((((Keep.refl h0 []).ext E11).trans K14 (allS (Or.inr sz_b11) all0)).ext E17).trans K19 (allS (Or.inr sz_b11) (allS (Or.inr sz_t14) all0))).trans K27 (allS (Or.inr sz_b11) (allS (Or.inr sz_t14) all0))).ext E42).trans K44 (allS (Or.inr sz_b11) all0)).trans K54 (allS (Or.inr sz_b11) (allS (Or.inr sz_t44) all0))).trans K63 all0), Ex63, Fx63_0, Fx63_1, Vt63, rfl⟩
theorem own_c32 : nC 32 = 32 := by decide +kernel
theorem own_c44 : nC 44 = 44 := by decide +kernel
theorem own_c97 : nC 97 = 97 := by decide +kernel
theorem own_c98 : nC 98 = 98 := by decide +kernel
theorem own_c101 : nC 101 = 101 := by decide +kernel
theorem own_c109 : nC 109 = 109 := by decide +kernel
theorem own_c111 : nC 111 = 111 := by decide +kernel
theorem own_c115 : nC 115 = 115 := by decide +kernel
theorem own_c116 : nC 116 = 116 := by decide +kernel
theorem own_c118 : nC 118 = 118 := by decide +kernel
def own_ch (w : Int32) : Int32 := (w &&& (255 : Int32)).toUInt32.toUInt16.toUInt32.toInt32
theorem own_ch_ok (x : Int32) : ¬ nar .char (own_ch x) < 0 ∧ ¬ (255 : Int32) < nar .char (own_ch x) := by
  have t : ∀ k : Fin 256, ¬ nar .char ((Int32.ofNat k.val).toUInt32.toUInt16.toUInt32.toInt32) < 0 ∧ ¬ (255 : Int32) < nar .char ((Int32.ofNat k.val).toUInt32.toUInt16.toUInt32.toInt32) := by decide +kernel
  have h : (x &&& 255).toBitVec.toNat < 256 := by
    simp only [Int32.toBitVec_and, BitVec.toNat_and]
    exact Nat.lt_succ_of_le Nat.and_le_right
  have e : (x &&& 255) = Int32.ofNat (x &&& 255).toBitVec.toNat := by
    apply Int32.toBitVec_inj.mp
    show _ = BitVec.ofNat 32 _
    rw [BitVec.ofNat_toNat]; simp
  unfold own_ch
  rw [e]
  exact t ⟨_, h⟩
def own_hi (w : Int32) : Int32 := own_ch (w.toUInt32 >>> ((8 : Int32) &&& 31).toUInt32).toInt32
theorem own_hi_ok (x : Int32) : ¬ nar .char (own_hi x) < 0 ∧ ¬ (255 : Int32) < nar .char (own_hi x) := own_ch_ok _
theorem own_up (cs : List Int32) (h : ∀ c ∈ cs, ¬ c < 0 ∧ ¬ (255 : Int32) < c) : ∀ c ∈ cs, ¬ c < 0 ∧ ¬ (65535 : Int32) < c := fun c hc => ⟨(h c hc).1, fun q => (h c hc).2 (by rw [Int32.lt_iff_toInt_lt] at q ⊢; have e1 : (65535 : Int32).toInt = 65535 := rfl; have e2 : (255 : Int32).toInt = 255 := rfl; omega)⟩
theorem own_stC {p : Program} {l : Launch} {e : Env} {R : Room} {s : State} {m : MethodId} {args : Array Value} {below : List Frame} {meth : Method} {c : Code} {T : State} {locs : List Loc} {cells slots : Nat} {Z : State} {h : Heap} (X : Stand p l e R s m args below meth c T locs cells slots) (hx : p.tables.exec = Jvm.exec) (hZ : Z.Warmed39 s.vm) (eT : T.heap = h) {a : Addr} {k : ClassId} {z : Int32} {vs : List Value} (V : Arv Z h a k .char z vs (.int (0 : Int32))) (i : Nat) {j x : Int32} (hj : j.toNatClampNeg = i) (hi : i < vs.length) (q : ¬ j < 0 ∧ j < z) {g : JFrame} (hg : g.method = m) {rest : List Value} (hs : g.stack = .int x :: .int j :: .ref a :: rest) (hd : decode c.code g.pc = .ok (.castore, 1)) :
    ∃ T' h', Stand p l e R s m args below meth c T' (locs ++ [⟨a, j.toNatClampNeg⟩]) cells slots ∧ T'.heap = h' ∧ Wr h h' a j.toNatClampNeg (.int (nar .char x)) ∧ Arv Z h' a k .char z (vs.set i (.int (nar .char x))) (.int (0 : Int32)) ∧ ∀ target, Steps p.tables e below (T'.setTop { g with pc := g.pc + 1, stack := rest }) target → Steps p.tables e below (T.setTop g) target := by
  obtain ⟨cl, Ar, q1, S, N, H, G⟩ := V
  obtain ⟨T', h', X', e', W, st⟩ := stC X hx hZ eT Ar (inb_of S q) hg hs hd
  exact ⟨T', h', X', e', W, Arv.set Ar q1 S N H G (fits_nar_char _) W i hj hi, st⟩
theorem ef_0 (m : MethodId) (x0 : Int32) (x1 : Int32) (x2 : Int32) : entryFrame m #[(.int x0), (.int x1), (.int x2)] maxLocals = mkF m 0 #[.val (.int x0), .val (.int x1), .val (.int x2), .unset, .unset, .unset, .unset, .unset, .unset, .unset, .unset, .unset, .unset, .unset] [] := by first | (simp [entryFrame, mkF, argsToLocals, Value.category, maxLocals]; done) | rfl
theorem pn_7 : plainName "com/example/covenantry/covenantry/FeeLevelSpanPinLaw" = true := by first | (simp [plainName, overriddenIn]; done) | decide +kernel
theorem pd_22 : parseMethodDescriptor "(Ljava/lang/String;Ljava/lang/String;ILjava/lang/String;)V" = some ⟨[(.object "java/lang/String"), (.object "java/lang/String"), .int, (.object "java/lang/String")], none⟩ := by decide +kernel
theorem pd_23 : parseMethodDescriptor "(Lcom/example/covenantry/covenantry/Figure;Lcom/example/covenantry/covenantry/Figure;Lcom/example/covenantry/covenantry/Figure;)V" = some ⟨[(.object "com/example/covenantry/covenantry/Figure"), (.object "com/example/covenantry/covenantry/Figure"), (.object "com/example/covenantry/covenantry/Figure")], none⟩ := by decide +kernel
theorem pd_24 : parseMethodDescriptor "(Ljava/lang/Object;)Z" = some ⟨[(.object "java/lang/Object")], some .boolean⟩ := by decide +kernel
theorem pd_25 : parseMethodDescriptor "([C)V" = some ⟨[(.array .char)], none⟩ := by decide +kernel
def Q0 (Z : State) (p0 : Int32) (p1 : Int32) (p2 : Int32) (G1 : Int32) (h0 : Heap) (n0 : Nat) (v : Option Value) (h : Heap) (L : List Loc) : Prop := v = some (.int (1 : Int32)) ∧ Fr n0 L
def oL72 (p0 : Int32) (p1 : Int32) (p2 : Int32) : Array Slot := #[.val (.int p0), .val (.int p1), .val (.int p2), .unset, .unset, .unset, .unset, .unset, .unset, .unset, .unset, .unset, .unset, .unset]
def oL73 (p0 : Int32) (p1 : Int32) (p2 : Int32) : Array Slot := #[.val (.int p0), .val (.int p1), .val (.int p2), .val (.int (own_ch p1)), .val (.int (own_hi p1)), .val (.int (own_ch p2)), .val (.int (own_hi p2)), .unset, .unset, .unset, .unset, .unset, .unset, .unset]
def oL74 (p0 : Int32) (p1 : Int32) (p2 : Int32) : Array Slot := #[.val (.int p0), .val (.int p1), .val (.int p2), .val (.int (own_ch p1)), .unset, .unset, .unset, .unset, .unset, .unset, .unset, .unset, .unset, .unset]
def oL75 (p0 : Int32) (p1 : Int32) (p2 : Int32) : Array Slot := #[.val (.int p0), .val (.int p1), .val (.int p2), .val (.int (own_ch p1)), .val (.int (own_hi p1)), .unset, .unset, .unset, .unset, .unset, .unset, .unset, .unset, .unset]
def oL76 (p0 : Int32) (p1 : Int32) (p2 : Int32) : Array Slot := #[.val (.int p0), .val (.int p1), .val (.int p2), .val (.int (own_ch p1)), .val (.int (own_hi p1)), .val (.int (own_ch p2)), .unset, .unset, .unset, .unset, .unset, .unset, .unset, .unset]
def oL77 (p0 : Int32) (p1 : Int32) (p2 : Int32) : Array Slot := #[.val (.int p0), .val (.int p1), .val (.int p2), .val (.int (own_ch p1)), .val (.int (own_hi p1)), .val (.int (own_ch p2)), .val (.int (own_hi p2)), .val (.int (0 : Int32)), .unset, .unset, .unset, .unset, .unset, .unset]
def oL78 (p0 : Int32) (p1 : Int32) (p2 : Int32) : Array Slot := #[.val (.int p0), .val (.int p1), .val (.int p2), .val (.int (own_ch p1)), .val (.int (own_hi p1)), .val (.int (own_ch p2)), .val (.int (own_hi p2)), .val (.int (0 : Int32)), .val (.int (0 : Int32)), .val .null, .val .null, .unset, .unset, .unset]
def oL79 (p0 : Int32) (p1 : Int32) (p2 : Int32) : Array Slot := #[.val (.int p0), .val (.int p1), .val (.int p2), .val (.int (own_ch p1)), .val (.int (own_hi p1)), .val (.int (own_ch p2)), .val (.int (own_hi p2)), .val (.int (0 : Int32)), .val (.int (0 : Int32)), .unset, .unset, .unset, .unset, .unset]
def oL80 (p0 : Int32) (p1 : Int32) (p2 : Int32) : Array Slot := #[.val (.int p0), .val (.int p1), .val (.int p2), .val (.int (own_ch p1)), .val (.int (own_hi p1)), .val (.int (own_ch p2)), .val (.int (own_hi p2)), .val (.int (0 : Int32)), .val (.int (0 : Int32)), .val .null, .unset, .unset, .unset, .unset]
def oL81 (p0 : Int32) (p1 : Int32) (p2 : Int32) (b4 : Addr) : Array Slot := #[.val (.int p0), .val (.int p1), .val (.int p2), .val (.int (own_ch p1)), .val (.int (own_hi p1)), .val (.int (own_ch p2)), .val (.int (own_hi p2)), .val (.int (0 : Int32)), .val (.int (0 : Int32)), .val .null, .val .null, .val (.ref b4), .unset, .unset]
def oL82 (p0 : Int32) (p1 : Int32) (p2 : Int32) (b4 : Addr) (xs21 : Addr) : Array Slot := #[.val (.int p0), .val (.int p1), .val (.int p2), .val (.int (own_ch p1)), .val (.int (own_hi p1)), .val (.int (own_ch p2)), .val (.int (own_hi p2)), .val (.int (0 : Int32)), .val (.int (0 : Int32)), .val .null, .val .null, .val (.ref b4), .val (.ref xs21), .unset]
def oL83 (p0 : Int32) (p1 : Int32) (p2 : Int32) (b4 : Addr) (xs21 : Addr) (a24 : Addr) : Array Slot := #[.val (.int p0), .val (.int p1), .val (.int p2), .val (.int (own_ch p1)), .val (.int (own_hi p1)), .val (.int (own_ch p2)), .val (.int (own_hi p2)), .val (.int (0 : Int32)), .val (.int (0 : Int32)), .val .null, .val .null, .val (.ref b4), .val (.ref xs21), .val (.ref a24)]
def mN31 : MethodName := ⟨"java/lang/String", "equals", "(Ljava/lang/Object;)Z"⟩
def oL84 (p0 : Int32) (p1 : Int32) (p2 : Int32) : Array Slot := #[.val (.int p0), .val (.int p1), .val (.int p2), .val (.int (own_ch p1)), .val (.int (own_hi p1)), .val (.int (own_ch p2)), .val (.int (own_hi p2)), .val (.int (0 : Int32)), .val (.int (1 : Int32)), .val .null, .unset, .unset, .unset, .unset]
def oL85 (p0 : Int32) (p1 : Int32) (p2 : Int32) : Array Slot := #[.val (.int p0), .val (.int p1), .val (.int p2), .val (.int (own_ch p1)), .val (.int (own_hi p1)), .val (.int (own_ch p2)), .val (.int (own_hi p2)), .val (.int (0 : Int32)), .val (.int (1 : Int32)), .unset, .unset, .unset, .unset, .unset]
def mN32 : MethodName := ⟨"java/lang/String", "<init>", "([C)V"⟩
def oL86 (p0 : Int32) (p1 : Int32) (p2 : Int32) (b30 : Addr) : Array Slot := #[.val (.int p0), .val (.int p1), .val (.int p2), .val (.int (own_ch p1)), .val (.int (own_hi p1)), .val (.int (own_ch p2)), .val (.int (own_hi p2)), .val (.int (0 : Int32)), .val (.int (1 : Int32)), .val .null, .val (.ref b30), .unset, .unset, .unset]
def oL87 (p0 : Int32) (p1 : Int32) (p2 : Int32) (b30 : Addr) (b57 : Addr) : Array Slot := #[.val (.int p0), .val (.int p1), .val (.int p2), .val (.int (own_ch p1)), .val (.int (own_hi p1)), .val (.int (own_ch p2)), .val (.int (own_hi p2)), .val (.int (0 : Int32)), .val (.int (1 : Int32)), .val .null, .val (.ref b30), .val (.ref b57), .unset, .unset]
def oL88 (p0 : Int32) (p1 : Int32) (p2 : Int32) (b30 : Addr) (b57 : Addr) (xs75 : Addr) : Array Slot := #[.val (.int p0), .val (.int p1), .val (.int p2), .val (.int (own_ch p1)), .val (.int (own_hi p1)), .val (.int (own_ch p2)), .val (.int (own_hi p2)), .val (.int (0 : Int32)), .val (.int (1 : Int32)), .val .null, .val (.ref b30), .val (.ref b57), .val (.ref xs75), .unset]
def oL89 (p0 : Int32) (p1 : Int32) (p2 : Int32) (b30 : Addr) (b57 : Addr) (xs75 : Addr) (b78 : Addr) : Array Slot := #[.val (.int p0), .val (.int p1), .val (.int p2), .val (.int (own_ch p1)), .val (.int (own_hi p1)), .val (.int (own_ch p2)), .val (.int (own_hi p2)), .val (.int (0 : Int32)), .val (.int (1 : Int32)), .val .null, .val (.ref b30), .val (.ref b57), .val (.ref xs75), .val (.ref b78)]
def oL90 (p0 : Int32) (p1 : Int32) (p2 : Int32) : Array Slot := #[.val (.int p0), .val (.int p1), .val (.int p2), .val (.int (own_ch p1)), .val (.int (own_hi p1)), .val (.int (own_ch p2)), .val (.int (own_hi p2)), .val (.int (1 : Int32)), .unset, .unset, .unset, .unset, .unset, .unset]
def oL91 (p0 : Int32) (p1 : Int32) (p2 : Int32) : Array Slot := #[.val (.int p0), .val (.int p1), .val (.int p2), .val (.int (own_ch p1)), .val (.int (own_hi p1)), .val (.int (own_ch p2)), .val (.int (own_hi p2)), .val (.int (1 : Int32)), .val (.int (0 : Int32)), .unset, .unset, .unset, .unset, .unset]
def oL92 (p0 : Int32) (p1 : Int32) (p2 : Int32) (b142 : Addr) : Array Slot := #[.val (.int p0), .val (.int p1), .val (.int p2), .val (.int (own_ch p1)), .val (.int (own_hi p1)), .val (.int (own_ch p2)), .val (.int (own_hi p2)), .val (.int (1 : Int32)), .val (.int (0 : Int32)), .val (.ref b142), .val .null, .unset, .unset, .unset]
def oL93 (p0 : Int32) (p1 : Int32) (p2 : Int32) (b142 : Addr) : Array Slot := #[.val (.int p0), .val (.int p1), .val (.int p2), .val (.int (own_ch p1)), .val (.int (own_hi p1)), .val (.int (own_ch p2)), .val (.int (own_hi p2)), .val (.int (1 : Int32)), .val (.int (0 : Int32)), .val (.ref b142), .unset, .unset, .unset, .unset]
def oL94 (p0 : Int32) (p1 : Int32) (p2 : Int32) (b142 : Addr) (b169 : Addr) : Array Slot := #[.val (.int p0), .val (.int p1), .val (.int p2), .val (.int (own_ch p1)), .val (.int (own_hi p1)), .val (.int (own_ch p2)), .val (.int (own_hi p2)), .val (.int (1 : Int32)), .val (.int (0 : Int32)), .val (.ref b142), .val .null, .val (.ref b169), .unset, .unset]
def oL95 (p0 : Int32) (p1 : Int32) (p2 : Int32) (b142 : Addr) (b169 : Addr) (xs190 : Addr) : Array Slot := #[.val (.int p0), .val (.int p1), .val (.int p2), .val (.int (own_ch p1)), .val (.int (own_hi p1)), .val (.int (own_ch p2)), .val (.int (own_hi p2)), .val (.int (1 : Int32)), .val (.int (0 : Int32)), .val (.ref b142), .val .null, .val (.ref b169), .val (.ref xs190), .unset]
def oL96 (p0 : Int32) (p1 : Int32) (p2 : Int32) (b142 : Addr) (b169 : Addr) (xs190 : Addr) (b193 : Addr) : Array Slot := #[.val (.int p0), .val (.int p1), .val (.int p2), .val (.int (own_ch p1)), .val (.int (own_hi p1)), .val (.int (own_ch p2)), .val (.int (own_hi p2)), .val (.int (1 : Int32)), .val (.int (0 : Int32)), .val (.ref b142), .val .null, .val (.ref b169), .val (.ref xs190), .val (.ref b193)]
def oL97 (p0 : Int32) (p1 : Int32) (p2 : Int32) : Array Slot := #[.val (.int p0), .val (.int p1), .val (.int p2), .val (.int (own_ch p1)), .val (.int (own_hi p1)), .val (.int (own_ch p2)), .val (.int (own_hi p2)), .val (.int (1 : Int32)), .val (.int (1 : Int32)), .unset, .unset, .unset, .unset, .unset]
def oL98 (p0 : Int32) (p1 : Int32) (p2 : Int32) (b246 : Addr) : Array Slot := #[.val (.int p0), .val (.int p1), .val (.int p2), .val (.int (own_ch p1)), .val (.int (own_hi p1)), .val (.int (own_ch p2)), .val (.int (own_hi p2)), .val (.int (1 : Int32)), .val (.int (1 : Int32)), .val (.ref b246), .unset, .unset, .unset, .unset]
def oL99 (p0 : Int32) (p1 : Int32) (p2 : Int32) (b246 : Addr) (b273 : Addr) : Array Slot := #[.val (.int p0), .val (.int p1), .val (.int p2), .val (.int (own_ch p1)), .val (.int (own_hi p1)), .val (.int (own_ch p2)), .val (.int (own_hi p2)), .val (.int (1 : Int32)), .val (.int (1 : Int32)), .val (.ref b246), .val (.ref b273), .unset, .unset, .unset]
def oL100 (p0 : Int32) (p1 : Int32) (p2 : Int32) (b246 : Addr) (b273 : Addr) (b305 : Addr) : Array Slot := #[.val (.int p0), .val (.int p1), .val (.int p2), .val (.int (own_ch p1)), .val (.int (own_hi p1)), .val (.int (own_ch p2)), .val (.int (own_hi p2)), .val (.int (1 : Int32)), .val (.int (1 : Int32)), .val (.ref b246), .val (.ref b273), .val (.ref b305), .unset, .unset]
def oL101 (p0 : Int32) (p1 : Int32) (p2 : Int32) (b246 : Addr) (b273 : Addr) (b305 : Addr) (xs331 : Addr) : Array Slot := #[.val (.int p0), .val (.int p1), .val (.int p2), .val (.int (own_ch p1)), .val (.int (own_hi p1)), .val (.int (own_ch p2)), .val (.int (own_hi p2)), .val (.int (1 : Int32)), .val (.int (1 : Int32)), .val (.ref b246), .val (.ref b273), .val (.ref b305), .val (.ref xs331), .unset]
def oL102 (p0 : Int32) (p1 : Int32) (p2 : Int32) (b246 : Addr) (b273 : Addr) (b305 : Addr) (xs331 : Addr) (b334 : Addr) : Array Slot := #[.val (.int p0), .val (.int p1), .val (.int p2), .val (.int (own_ch p1)), .val (.int (own_hi p1)), .val (.int (own_ch p2)), .val (.int (own_hi p2)), .val (.int (1 : Int32)), .val (.int (1 : Int32)), .val (.ref b246), .val (.ref b273), .val (.ref b305), .val (.ref xs331), .val (.ref b334)]
theorem rm0 (l : Launch) (Z : State) (a0 : Array Value) (hw : ∀ d ∈ tables_1, d.before a0 Z = true) (ws : List Jvm.Cond) (p0 : Int32) (p1 : Int32) (p2 : Int32) (G1 : Int32) (h0 : Heap) (n0 : Nat) (Z0 : n0 ≤ h0.size) (O2 : Sta Z Z.heap "java/lang/String" "COMPACT_STRINGS" "Z" (.int G1)) (P5 : ¬ (G1 = (0 : Int32))) (X00 : Old Z n0 h0) :
    MetFree l x (head1 (Jvm.Cond.code x code maxLocals ret :: ws) room_1) (fun a U => a = #[(.int p0), (.int p1), (.int p2)] ∧ Z.Warmed39 U.vm ∧ U.heap = h0 ∧ CHv Z own_EL U.vm h0) (fun _ _ _ _ _ => True) (fun _ U o U' => ∃ v L, o = .returned v ∧ Q0 Z p0 p1 p2 G1 h0 n0 v U'.heap L ∧ ReturnedEndW U o U' L 28 269) := by
  refine MetFree.of_bodySF (plainFor_of_name pn_7) hisR ?_
  intro p e s m args below meth c s₁ Bd hml0 hP hK
  obtain ⟨rfl, hZ, hh, hch⟩ := hP
  have hx := Bd.exec
  have hby := Bd.bytes
  have hml : c.maxLocals = 14 := hml0
  have hown : s.vm.findClass "com/example/covenantry/covenantry/FeeLevelSpanPinLaw" = some m.cls := findClass_of_methodNamed Bd.named
  have X0 : Stand p l e room_1 s m #[(.int p0), (.int p1), (.int p2)] below meth c s₁ [] 0 0 := Stand.of_body Bd
  have e0 : s₁.heap = h0 := by rw [← hh, Bd.state]; rfl
  have N0 := Fr.nil n0
  have k0 : Kq X0 maxLocals s₁ (mkF m 0 (oL72 p0 p1 p2) []) := fun t k => castTop (ef_0 m p0 p1 p2) k
  have hEL : EW Z a0 own_EL := (EW.cons (text := "any ratio") (ww hw 53 rfl) (by decide) (EW.cons (text := "at most ") (ww hw 224 rfl) (by decide) (EW.cons (text := "above ") (ww hw 102 rfl) (by decide) (EW.cons (text := ", at most ") (ww hw 206 rfl) (by decide) (EW.cons (text := "x") (ww hw 83 rfl) (by decide) (EW.cons (text := "y") (ww hw 205 rfl) (by decide) (EW.cons (text := "0.375") (ww hw 3 rfl) (by decide) (EW.cons (text := "any ratio") (ww hw 54 rfl) (by decide) EW.nil))))))))
  have hsa : ∀ d ∈ Bundle.stringAtoms, d.before a0 Z = true := fun d hd => hw d ((by decide +kernel : ∀ d ∈ Bundle.stringAtoms, d ∈ tables_1) d hd)
  have hws : ∀ d ∈ StrChars.Road.words, d.before a0 Z = true := fun d hd => hw d ((by decide +kernel : ∀ d ∈ StrChars.Road.words, d ∈ tables_1) d hd)
  have heqw : ∀ d ∈ StrChars.Road.wordsEq, d.before a0 Z = true := fun d hd => hw d ((by decide +kernel : ∀ d ∈ StrChars.Road.wordsEq, d ∈ tables_1) d hd)
  have k1 : Kq X0 maxLocals s₁ (mkF m 40 (oL73 p0 p1 p2) [(.int (p0 &&& (1 : Int32)))]) := fun t k => k0 t (XS.iloadN X0.here hx rfl (hb hby at_0) rfl (XS.sipush X0.here hx rfl (hb hby at_1) (XS.iand X0.here hx rfl (hb hby at_4) rfl (XS.i2c X0.here hx rfl (hb hby at_5) rfl (XS.istoreN X0.here hx rfl (hb hby at_6) rfl (l' := (oL74 p0 p1 p2)) rfl (XS.iloadN X0.here hx rfl (hb hby at_7) rfl (show Sg X0 s₁ 8 (oL74 p0 p1 p2) [(.int p1)] t from (XS.bipush X0.here hx rfl (hb hby at_8) (XS.iushr X0.here hx rfl (hb hby at_10) rfl (XS.sipush X0.here hx rfl (hb hby at_11) (XS.iand X0.here hx rfl (hb hby at_14) rfl (XS.i2c X0.here hx rfl (hb hby at_15) rfl (XS.istore X0.here hx rfl (hb hby at_16) rfl (l' := (oL75 p0 p1 p2)) rfl (show Sg X0 s₁ 18 (oL75 p0 p1 p2) [] t from (XS.iloadN X0.here hx rfl (hb hby at_18) rfl (XS.sipush X0.here hx rfl (hb hby at_19) (XS.iand X0.here hx rfl (hb hby at_22) rfl (XS.i2c X0.here hx rfl (hb hby at_23) rfl (XS.istore X0.here hx rfl (hb hby at_24) rfl (l' := (oL76 p0 p1 p2)) rfl (XS.iloadN X0.here hx rfl (hb hby at_26) rfl (show Sg X0 s₁ 27 (oL76 p0 p1 p2) [(.int p2)] t from (XS.bipush X0.here hx rfl (hb hby at_27) (XS.iushr X0.here hx rfl (hb hby at_29) rfl (XS.sipush X0.here hx rfl (hb hby at_30) (XS.iand X0.here hx rfl (hb hby at_33) rfl (XS.i2c X0.here hx rfl (hb hby at_34) rfl (XS.istore X0.here hx rfl (hb hby at_35) rfl (l' := (oL73 p0 p1 p2)) rfl (show Sg X0 s₁ 37 (oL73 p0 p1 p2) [] t from (XS.iloadN X0.here hx rfl (hb hby at_37) rfl (XS.iconst X0.here hx rfl (hb hby at_38) (XS.iand X0.here hx rfl (hb hby at_39) rfl k)))))))))))))))))))))))))))))))
  by_cases hc40 : (p0 &&& (1 : Int32)) = (0 : Int32)
  · have k2 : Kq X0 maxLocals s₁ (mkF m 53 (oL77 p0 p1 p2) [(.int (p0 &&& (2 : Int32)))]) := fun t k => k1 t (XS.ifYes X0.here hx rfl (pc0 := 40) (pc' := 47) rfl (hb hby at_40) rfl ((if0 _ _).trans (teq hc40).1) (by decide) (by decide) (XS.iconst X0.here hx rfl (hb hby at_47) (XS.istore X0.here hx rfl (hb hby at_48) rfl (l' := (oL77 p0 p1 p2)) rfl (XS.iloadN X0.here hx rfl (hb hby at_50) rfl (XS.iconst X0.here hx rfl (hb hby at_51) (XS.iand X0.here hx rfl (hb hby at_52) rfl k))))))
    by_cases hc53 : (p0 &&& (2 : Int32)) = (0 : Int32)
    · have hc65 : (0 : Int32) = (0 : Int32) := by decide
      have hc106 : (0 : Int32) = (0 : Int32) := by decide
      have k3 : Kq X0 maxLocals s₁ (mkF m 146 (oL78 p0 p1 p2) []) := fun t k => k2 t (XS.ifYes X0.here hx rfl (pc0 := 53) (pc' := 60) rfl (hb hby at_53) rfl ((if0 _ _).trans (teq hc53).1) (by decide) (by decide) (XS.iconst X0.here hx rfl (hb hby at_60) (XS.istore X0.here hx rfl (hb hby at_61) rfl (l' := (oL79 p0 p1 p2)) rfl (XS.iload X0.here hx rfl (hb hby at_63) rfl (XS.ifYes X0.here hx rfl (pc0 := 65) (pc' := 101) rfl (hb hby at_65) rfl ((if0 _ _).trans (teq hc65).1) (by decide) (by decide) (XS.aconstNull X0.here hx rfl (hb hby at_101) (show Sg X0 s₁ 102 (oL79 p0 p1 p2) [.null] t from (XS.astore X0.here hx rfl (hb hby at_102) rfl rfl (l' := (oL80 p0 p1 p2)) rfl (XS.iload X0.here hx rfl (hb hby at_104) rfl (XS.ifYes X0.here hx rfl (pc0 := 106) (pc' := 143) rfl (hb hby at_106) rfl ((if0 _ _).trans (teq hc106).1) (by decide) (by decide) (XS.aconstNull X0.here hx rfl (hb hby at_143) (XS.astore X0.here hx rfl (hb hby at_144) rfl rfl (l' := (oL78 p0 p1 p2)) rfl k))))))))))))
      obtain ⟨T4, h4, X4, e4, E4, A4, D4, -, st4⟩ := newO X0 hx hZ hown (ww hw 0 rfl) (ww hw 1 rfl) (ww hw 2 rfl) e0 (g := gK k3) rfl (hb hby at_146) (by decide) (by decide)
      obtain ⟨b4, g4⟩ : ∃ z, z = h0.size := ⟨_, rfl⟩
      rw [← g4] at A4 D4 st4
      have F_value_b4 : Fld Z h4 b4 "com/example/covenantry/covenantry/Figure" "value" "Ljava/lang/String;" .null := D4 (Or.inr (ww hw 21 rfl)) (ty := (.object "java/lang/String")) (by decide)
      have F_section_b4 : Fld Z h4 b4 "com/example/covenantry/covenantry/Figure" "section" "Ljava/lang/String;" .null := D4 (Or.inr (ww hw 23 rfl)) (ty := (.object "java/lang/String")) (by decide)
      have F_line_b4 : Fld Z h4 b4 "com/example/covenantry/covenantry/Figure" "line" "I" (.int (0 : Int32)) := D4 (Or.inr (ww hw 25 rfl)) (ty := .int) (by decide)
      have F_text_b4 : Fld Z h4 b4 "com/example/covenantry/covenantry/Figure" "text" "Ljava/lang/String;" .null := D4 (Or.inr (ww hw 27 rfl)) (ty := (.object "java/lang/String")) (by decide)
      have F_derivedFrom_b4 : Fld Z h4 b4 "com/example/covenantry/covenantry/Figure" "derivedFrom" "Ljava/lang/String;" .null := D4 (Or.inr (ww hw 29 rfl)) (ty := (.object "java/lang/String")) (by decide)
      have g_b4 : n0 ≤ b4 := Nat.le_trans Z0 (Nat.le_of_eq g4.symm)
      have Zs4 : n0 ≤ h4.size := Nat.le_trans Z0 E4.1
      have k6 : Kq X0 maxLocals T4 (mkF m 150 (oL78 p0 p1 p2) [(.ref b4), (.ref b4)]) := fun t k => k3 t (st4 _ (XS.dup X4.here hx rfl (hb hby at_149) rfl rfl k))
      obtain ⟨a7, T7, h7, j7, t7, kb7, X7, e7, E7, Sn7, jk7, hZ7, hown7, Ex7, Cx7, Vx7, Ax7, la7, lb7, cr7, Lt7, sf7, st7⟩ := ldcCH (s := s) (vm0 := s.vm) X4 hx hZ hown (ww hw 3 rfl) hsa e4 ((State.WarmedH.refl s).since h0.size) (Nat.le_trans (Nat.le_refl h0.size) E4.1) hEL (by simp [own_EL]) (CHv.ext E4 hch) (vs := (oB [48, 46, 51, 55, 53])) (z := (5 : Int32)) ⟨by decide, by decide +kernel⟩ (by decide) (by decide) (g := gK k6) rfl (hb hby at_150) (n := 20) (by decide) (by decide) (by decide) (by decide)
      have Zs7 : n0 ≤ h7.size := Nat.le_trans Zs4 E7.1
      have k9 : Kq X0 maxLocals T7 (mkF m 154 (oL78 p0 p1 p2) [(.int (1 : Int32)), .null, (.ref a7), (.ref b4), (.ref b4)]) := fun t k => k6 t (st7 _ (XS.aconstNull X7.here hx rfl (hb hby at_152) (XS.iconst X7.here hx rfl (hb hby at_153) k)))
      have k10 : Kq X0 maxLocals T7 (mkF m 156 (oL78 p0 p1 p2) [(.ref a7), (.int (1 : Int32)), .null, (.ref a7), (.ref b4), (.ref b4)]) := fun t k => k9 t (ldcAgain (s := s) (vm0 := T7.vm) X7 hx hZ7 hown7 (ww hw 3 rfl) Lt7 (g := (mkF m 154 (oL78 p0 p1 p2) [(.int (1 : Int32)), .null, (.ref a7), (.ref b4), (.ref b4)])) rfl (hb hby at_154) _ k)
      obtain ⟨_, _, ⟨T11, L11, kq11, n11⟩, -, X11, ⟨Lc11, hQ11, l11, y11, z11⟩, st11⟩ := X7.specialBack hx (y := mN26) rfl hown7 (mw hZ7 hw 11 rfl) (mw hZ7 hw 12 rfl) (mw hZ7 hw 13 rfl) (by decide) (backOf (W := 1) (rm1 l Z a0 hw [] b4 a7 a7 h7 n0 Zs7 (F_value_b4.ext E7) (F_section_b4.ext E7) (F_line_b4.ext E7) (F_text_b4.ext E7) (F_derivedFrom_b4.ext E7) (A4.ext E7) g_b4) hZ7 (ww hw 13 rfl) (ww hw 2 rfl) (by decide) (by decide)) (g := gK k10) rfl (by rw [hml]; rfl) (Steps.refl _) (a := b4) (argsL := [(.ref a7), .null, (.int (1 : Int32)), (.ref a7)]) (rest := [(.ref b4)]) (lenOf pd_22 rfl) rfl (by show 2 * 0 + _ ≤ _; exact Nat.le_of_eq rfl) (hb hby at_156) (fun _ _ => ⟨rfl, e7, (by decide : 3 + 0 ≤ _), (by decide : 29 + 0 ≤ _)⟩)
      dsimp only [Pt.U, Pt.locs, Pt.cells, Pt.slots] at X11 l11 y11 z11 st11 hQ11
      replace l11 := l11.symm; subst l11 y11 z11
      obtain ⟨rfl, N11q, K11, Ex11, Fx11_0, Fx11_1, Fx11_2, Fx11_3, Fx11_4⟩ := hQ11
      have N11 := Fr.app N0 N11q
      have sk12 : ∀ x ∈ ([b4] : List Addr), Safe Z own_EL T7.vm h7 x := (allS (Safe.exa hZ7.alike (A4.ext E7) (by decide) (by decide)) all0)
      have cc12 := CHr.trans (((CHr.refl hch).trans (CHr.ext E4 hch)).trans cr7) (CHr.keep K11 sk12 cr7.1)
      have Zs11 : n0 ≤ T11.heap.size := Nat.le_trans Zs7 K11.1
      have k14 : Kq X0 maxLocals T11 (mkF m 161 (oL81 p0 p1 p2 b4) []) := fun t k => k10 t (st11.trans (XS.astore X11.here hx rfl (hb hby at_159) rfl rfl (l' := (oL81 p0 p1 p2 b4)) rfl k))
      obtain ⟨T15, h15, X15, e15, E15, A15, D15, -, st15⟩ := newO X11 hx hZ7 hown7 (ww hw 30 rfl) (ww hw 31 rfl) (ww hw 32 rfl) rfl (g := gK k14) rfl (hb hby at_161) (by decide) (by decide)
      obtain ⟨b15, g15⟩ : ∃ z, z = T11.heap.size := ⟨_, rfl⟩
      rw [← g15] at A15 D15 st15
      have F_above_b15 : Fld Z h15 b15 "com/example/covenantry/covenantry/FeeLevel" "above" "Lcom/example/covenantry/covenantry/Figure;" .null := D15 (Or.inr (ww hw 41 rfl)) (ty := (.object "com/example/covenantry/covenantry/Figure")) (by decide)
      have F_atMost_b15 : Fld Z h15 b15 "com/example/covenantry/covenantry/FeeLevel" "atMost" "Lcom/example/covenantry/covenantry/Figure;" .null := D15 (Or.inr (ww hw 43 rfl)) (ty := (.object "com/example/covenantry/covenantry/Figure")) (by decide)
      have F_rate_b15 : Fld Z h15 b15 "com/example/covenantry/covenantry/FeeLevel" "rate" "Lcom/example/covenantry/covenantry/Figure;" .null := D15 (Or.inr (ww hw 45 rfl)) (ty := (.object "com/example/covenantry/covenantry/Figure")) (by decide)
      have F_unreadable_b15 : Fld Z h15 b15 "com/example/covenantry/covenantry/FeeLevel" "unreadable" "Lcom/example/covenantry/covenantry/Unreadable;" .null := D15 (Or.inr (ww hw 47 rfl)) (ty := (.object "com/example/covenantry/covenantry/Unreadable")) (by decide)
      have g_b15 : n0 ≤ b15 := Nat.le_trans Zs11 (Nat.le_of_eq g15.symm)
      have Zs15 : n0 ≤ h15.size := Nat.le_trans Zs11 E15.1
      have k17 : Kq X0 maxLocals T15 (mkF m 171 (oL81 p0 p1 p2 b4) [(.ref b4), .null, .null, (.ref b15), (.ref b15)]) := fun t k => k14 t (st15 _ (XS.dup X15.here hx rfl (hb hby at_164) rfl rfl (XS.aload X15.here hx rfl (hb hby at_165) rfl rfl (XS.aload X15.here hx rfl (hb hby at_167) rfl rfl (XS.aload X15.here hx rfl (hb hby at_169) rfl rfl k)))))
      obtain ⟨_, _, ⟨T18, L18, kq18, n18⟩, -, X18, ⟨Lc18, hQ18, l18, y18, z18⟩, st18⟩ := X15.specialBack hx (y := mN29) rfl hown7 (mw hZ7 hw 33 rfl) (mw hZ7 hw 34 rfl) (mw hZ7 hw 35 rfl) (by decide) (backOf (W := 1) (rm4l00 l Z a0 hw [] b15 b4 h15 n0 Zs15 F_above_b15 F_atMost_b15 F_rate_b15 F_unreadable_b15 A15 g_b15) hZ7 (ww hw 35 rfl) (ww hw 32 rfl) (by decide) (by decide)) (g := gK k17) rfl (by rw [hml]; rfl) (Steps.refl _) (a := b15) (argsL := [.null, .null, (.ref b4)]) (rest := [(.ref b15)]) (lenOf pd_23 rfl) rfl (by show 2 * 0 + _ ≤ _; exact Nat.le_of_eq rfl) (hb hby at_171) (fun _ _ => ⟨rfl, e15, (by decide : 4 + 0 ≤ _), (by decide : 33 + 0 ≤ _)⟩)
      dsimp only [Pt.U, Pt.locs, Pt.cells, Pt.slots] at X18 l18 y18 z18 st18 hQ18
      replace l18 := l18.symm; subst l18 y18 z18
      obtain ⟨rfl, N18q, K18, Ex18, Fx18_0, Fx18_1, Fx18_2, Fx18_3⟩ := hQ18
      have N18 := Fr.app N11 N18q
      have sk19 : ∀ x ∈ ([b15] : List Addr), Safe Z own_EL T7.vm h15 x := (allS (Safe.exa hZ7.alike A15 (by decide) (by decide)) all0)
      have cc19 := CHr.trans (cc12.trans (CHr.ext E15 cc12.1)) (CHr.keep K18 sk19 (CHv.ext E15 cc12.1))
      have Zs18 : n0 ≤ T18.heap.size := Nat.le_trans Zs15 K18.1
      have k20 : Kq X0 maxLocals T18 (mkF m 174 (oL81 p0 p1 p2 b4) [(.ref b15)]) := fun t k => k17 t (st18.trans k)
      obtain ⟨cq21, kcq21, q21a, q21b, q21c⟩ := isOf hZ7 rfl Ex18
      obtain ⟨_, _, ⟨T21, L21, kq21, n21⟩, -, X21, Sc21, gr21, ⟨Lc21, hQ21, l21, y21, z21, cr21⟩, st21⟩ := X18.virtualBackS hx (y := mN30) (z := mN30) hown7 (mw hZ7 hw 48 rfl) (mw hZ7 hw 49 rfl) (notFace_of_selects (args := #[]) (mw hZ7 hw 51 rfl)) (mw hZ7 hw 51 rfl) (mw hZ7 hw 50 rfl) (by decide) (backOfSH (s := s) (vm0 := T7.vm) (W := 0) (rm6s00 l Z a0 hw [] b15 G1 T18.heap n0 Zs18 Fx18_0 Fx18_1 Ex18 O2 P5 (((((X00.ext E4).ext E7).keep K11 (allS g_b4 all0)).ext E15).keep K18 (allS g_b15 all0))) hZ7 (ww hw 52 rfl) (ww hw 32 rfl) (by decide) (by decide) hEL cc19.1) q21a q21c (g := gK k20) rfl (by rw [hml]; rfl) (Steps.refl _) (argsL := []) (rest := []) (lenOf pd_21 rfl) rfl (by show 2 * 0 + _ ≤ _; exact Nat.le_of_eq rfl) (hb hby at_174) (fun _ _ => ⟨rfl, rfl, (by decide : 4 + 2 ≤ _), (by decide : 33 + 40 ≤ _)⟩)
      dsimp only [Pt.U, Pt.locs, Pt.cells, Pt.slots] at Sc21 gr21 cr21
      dsimp only [Pt.U, Pt.locs, Pt.cells, Pt.slots] at X21 l21 y21 z21 st21 hQ21
      replace l21 := l21.symm; subst l21 y21 z21
      obtain ⟨xs21, ts21, ks21, W21, rfl, N21q, K21, Ex21, Fv21, Fc21, Vs21, hW21⟩ := hQ21
      have N21 := Fr.app N18 N21q
      have hZ21 : Z.Warmed39 (s.setVm T21.vm).vm := State.Warmed39.trans (t := s.setVm T7.vm) hZ7 Sc21.1
      have hown21 : (s.setVm T21.vm).vm.findClass "com/example/covenantry/covenantry/FeeLevelSpanPinLaw" = some m.cls := by rw [show (s.setVm T21.vm).vm = T21.vm from rfl, Sc21.1.alike.findClass]; exact hown7
      have Sn21 : s.Since T21.vm T21.heap.size := foldS (vm0 := T7.vm) Sn7 (Nat.le_trans (Nat.le_trans (Nat.le_trans jk7 K11.1) E15.1) K18.1) Sc21 gr21
      have hc181 : (0 : Int32) = (0 : Int32) := by decide
      have hc186 : (0 : Int32) = (0 : Int32) := by decide
      have k23 : Kq X0 maxLocals T21 (mkF m 189 (oL82 p0 p1 p2 b4 xs21) []) := fun t k => k20 t (st21.trans (XS.astore X21.here hx rfl (hb hby at_177) rfl rfl (l' := (oL82 p0 p1 p2 b4 xs21)) rfl (XS.iload X21.here hx rfl (hb hby at_179) rfl (XS.ifNo X21.here hx rfl (hb hby at_181) rfl ((if0 _ _).trans (teq hc181).2) (XS.iload X21.here hx rfl (hb hby at_184) rfl (XS.ifNo X21.here hx rfl (hb hby at_186) rfl ((if0 _ _).trans (teq hc186).2) k))))))
      obtain ⟨a24, T24, h24, j24, t24, kb24, X24, e24, E24, Sn24, jk24, hZ24, hown24, Ex24, Cx24, Vx24, Ax24, la24, lb24, cr24, Lt24, sf24, st24⟩ := ldcCH (s := s) (vm0 := T21.vm) X21 hx hZ21 hown21 (ww hw 54 rfl) hsa rfl Sn21 (Nat.le_refl _) hEL (by simp [own_EL]) cr21.1 (vs := (oB (97 :: 110 :: 121 :: 32 :: 114 :: 97 :: 116 :: 105 :: 111 :: []))) (z := (9 : Int32)) ⟨by decide, by decide +kernel⟩ (by decide) (by decide) (g := gK k23) rfl (hb hby at_189) (n := 36) (by decide) (by decide) (by decide) (by decide)
      have hpe : ∀ c ∈ ((97 :: 110 :: 121 :: 32 :: 114 :: 97 :: 116 :: 105 :: 111 :: []) : List Int32), ¬ c < 0 ∧ ¬ (255 : Int32) < c := by decide
      have hcd : StrChars.Road.CodA ((97 :: 110 :: 121 :: 32 :: 114 :: 97 :: 116 :: 105 :: 111 :: []) : List Int32) 0 (9 : Int32) (oB (97 :: 110 :: 121 :: 32 :: 114 :: 97 :: 116 :: 105 :: 111 :: [])) := StrChars.Road.codOf (n := 9) rfl (fun c hc => (hpe c hc).2)
      have hWe : W21 = (oB (97 :: 110 :: 121 :: 32 :: 114 :: 97 :: 116 :: 105 :: 111 :: [])) := hW21.trans rfl
      have Vse : Arv Z h24 ts21 ks21 .byte (9 : Int32) (oB (97 :: 110 :: 121 :: 32 :: 114 :: 97 :: 116 :: 105 :: 111 :: [])) (.int (0 : Int32)) := by rw [← hWe]; exact (Vs21.ext E24)
      have k26 : Kq X0 maxLocals T24 (mkF m 463 (oL83 p0 p1 p2 b4 xs21 a24) [(.ref xs21), (.ref a24)]) := fun t k => k23 t (st24 _ (XS.astore X24.here hx rfl (hb hby at_191) rfl rfl (l' := (oL83 p0 p1 p2 b4 xs21 a24)) rfl (XS.goto X24.here hx rfl (pc0 := 193) (pc' := 459) rfl (hb hby at_193) (by decide) (by decide) (XS.aload X24.here hx rfl (hb hby at_459) rfl rfl (XS.aload X24.here hx rfl (hb hby at_461) rfl rfl k)))))
      obtain ⟨cq27, kcq27, q27a, q27b, q27c⟩ := isOf hZ24 e24 Ex24
      obtain ⟨_, _, ⟨T27, L27, kq27, n27⟩, -, X27, ⟨Lc27, hQ27, l27, y27, z27⟩, st27⟩ := X24.virtualBack hx (y := mN31) (z := mN31) hown24 (mw hZ24 hw 55 rfl) (mw hZ24 hw 56 rfl) (notFace_of_selects (args := #[]) (mw hZ24 hw 58 rfl)) (mw hZ24 hw 58 rfl) (mw hZ24 hw 57 rfl) (by decide) (StrChars.Road.eqW (W := 0) hZ24 heqw (kI := 4) (ww hw 5 rfl) Ex24 Vx24 Cx24 Ax24 hcd (own_up _ hpe) (Nat.le_of_ble_eq_true rfl) (Ex21.ext E24) (Fv21.ext E24) (Fc21.ext E24) Vse hcd (own_up _ hpe) (Nat.le_of_ble_eq_true rfl) (O2.ext (((((((X00.ext E4).ext E7).keep K11 (allS g_b4 all0)).ext E15).keep K18 (allS g_b15 all0)).keep K21 all0).ext E24).2) P5 (by decide) (by decide)) q27a q27c (g := gK k26) rfl (by rw [hml]; rfl) (Steps.refl _) (argsL := [(.ref xs21)]) (rest := []) (lenOf pd_24 rfl) rfl (by show 2 * 0 + _ ≤ _; exact Nat.le_of_eq rfl) (hb hby at_463) (fun _ _ => ⟨rfl, e24, (by decide : 8 + 0 ≤ _), (by decide : 113 + 0 ≤ _)⟩)
      dsimp only [Pt.U, Pt.locs, Pt.cells, Pt.slots] at X27 l27 y27 z27 st27 hQ27
      replace l27 := l27.symm; subst l27 y27 z27
      obtain ⟨hcase27, rfl, e27⟩ := hQ27
      obtain rfl : _ = some (Value.int 1) := by rcases hcase27 with ⟨q, -⟩ | ⟨-, q⟩; exact q; exact absurd rfl q
      have N27 := Fr.app N21 (Fr.nil n0)
      have k28 : Kq X0 maxLocals T27 (mkF m 466 (oL83 p0 p1 p2 b4 xs21 a24) [(.int (1 : Int32))]) := fun t k => k26 t (st27.trans k)
      obtain ⟨fs, hr, hrun, hended, w1, w2, w3, w4⟩ := X27.leaveW (s := s) (vm₁ := T24.vm) Sn24 (by rw [e27]; exact jk24) (v := (some (.int (1 : Int32)))) (fun h => by rw [Bd.returns] at h; cases h)
      refine ⟨_, _, k28 _ ?_, hrun, hended, _, _, rfl, ?_, w1, w2, w3, w4.mono (by decide) (by decide)⟩
      · exact retN X27 hx (t := .boolean) Bd.returns (by simp) (hb hby at_466) hr
      · show Q0 Z p0 p1 p2 G1 h0 n0 _ T27.heap _
        rw [e27]
        exact ⟨rfl, N27⟩
    · have hc65 : (0 : Int32) = (0 : Int32) := by decide
      have hc106 : ¬ ((1 : Int32) = (0 : Int32)) := by decide
      have k29 : Kq X0 maxLocals s₁ (mkF m 109 (oL84 p0 p1 p2) []) := fun t k => k2 t (XS.ifNo X0.here hx rfl (hb hby at_53) rfl ((if0 _ _).trans (feq hc53).1) (XS.iconst X0.here hx rfl (hb hby at_56) (XS.goto X0.here hx rfl (pc0 := 57) (pc' := 61) rfl (hb hby at_57) (by decide) (by decide) (XS.istore X0.here hx rfl (hb hby at_61) rfl (l' := (oL85 p0 p1 p2)) rfl (XS.iload X0.here hx rfl (hb hby at_63) rfl (XS.ifYes X0.here hx rfl (pc0 := 65) (pc' := 101) rfl (hb hby at_65) rfl ((if0 _ _).trans (teq hc65).1) (by decide) (by decide) (show Sg X0 s₁ 101 (oL85 p0 p1 p2) [] t from (XS.aconstNull X0.here hx rfl (hb hby at_101) (XS.astore X0.here hx rfl (hb hby at_102) rfl rfl (l' := (oL84 p0 p1 p2)) rfl (XS.iload X0.here hx rfl (hb hby at_104) rfl (XS.ifNo X0.here hx rfl (hb hby at_106) rfl ((if0 _ _).trans (feq hc106).1) k)))))))))))
      obtain ⟨T30, h30, X30, e30, E30, A30, D30, -, st30⟩ := newO X0 hx hZ hown (ww hw 0 rfl) (ww hw 1 rfl) (ww hw 2 rfl) e0 (g := gK k29) rfl (hb hby at_109) (by decide) (by decide)
      obtain ⟨b30, g30⟩ : ∃ z, z = h0.size := ⟨_, rfl⟩
      rw [← g30] at A30 D30 st30
      have F_value_b30 : Fld Z h30 b30 "com/example/covenantry/covenantry/Figure" "value" "Ljava/lang/String;" .null := D30 (Or.inr (ww hw 21 rfl)) (ty := (.object "java/lang/String")) (by decide)
      have F_section_b30 : Fld Z h30 b30 "com/example/covenantry/covenantry/Figure" "section" "Ljava/lang/String;" .null := D30 (Or.inr (ww hw 23 rfl)) (ty := (.object "java/lang/String")) (by decide)
      have F_line_b30 : Fld Z h30 b30 "com/example/covenantry/covenantry/Figure" "line" "I" (.int (0 : Int32)) := D30 (Or.inr (ww hw 25 rfl)) (ty := .int) (by decide)
      have F_text_b30 : Fld Z h30 b30 "com/example/covenantry/covenantry/Figure" "text" "Ljava/lang/String;" .null := D30 (Or.inr (ww hw 27 rfl)) (ty := (.object "java/lang/String")) (by decide)
      have F_derivedFrom_b30 : Fld Z h30 b30 "com/example/covenantry/covenantry/Figure" "derivedFrom" "Ljava/lang/String;" .null := D30 (Or.inr (ww hw 29 rfl)) (ty := (.object "java/lang/String")) (by decide)
      have g_b30 : n0 ≤ b30 := Nat.le_trans Z0 (Nat.le_of_eq g30.symm)
      have Zs30 : n0 ≤ h30.size := Nat.le_trans Z0 E30.1
      have k32 : Kq X0 maxLocals T30 (mkF m 113 (oL84 p0 p1 p2) [(.ref b30), (.ref b30)]) := fun t k => k29 t (st30 _ (XS.dup X30.here hx rfl (hb hby at_112) rfl rfl k))
      obtain ⟨T33, h33, X33, e33, E33, A33, D33, -, st33⟩ := newO X30 hx hZ hown (ww hw 60 rfl) (ww hw 5 rfl) (ww hw 4 rfl) e30 (g := gK k32) rfl (hb hby at_113) (by decide) (by decide)
      obtain ⟨b33, g33⟩ : ∃ z, z = h30.size := ⟨_, rfl⟩
      rw [← g33] at A33 D33 st33
      have ne_b30_b33 : b30 ≠ b33 := Nat.ne_of_lt (Nat.lt_of_lt_of_le F_value_b30.lt (Nat.le_of_eq g33.symm))
      have sn_b33 : Safe Z own_EL s.vm h33 b33 := Safe.ext E33 (CHv.ext E30 hch) (Safe.new (Nat.le_of_eq g33.symm))
      have F_value_b33 : Fld Z h33 b33 "java/lang/String" "value" "[B" .null := D33 (Or.inr (ww hw 7 rfl)) (ty := (.array .byte)) (by decide)
      have F_coder_b33 : Fld Z h33 b33 "java/lang/String" "coder" "B" (.int (0 : Int32)) := D33 (Or.inr (ww hw 8 rfl)) (ty := .byte) (by decide)
      have g_b33 : n0 ≤ b33 := Nat.le_trans Zs30 (Nat.le_of_eq g33.symm)
      have Zs33 : n0 ≤ h33.size := Nat.le_trans Zs30 E33.1
      have k35 : Kq X0 maxLocals T33 (mkF m 118 (oL84 p0 p1 p2) [(.int (2 : Int32)), (.ref b33), (.ref b33), (.ref b30), (.ref b30)]) := fun t k => k32 t (st33 _ (XS.dup X33.here hx rfl (hb hby at_116) rfl rfl (XS.iconst X33.here hx rfl (hb hby at_117) k)))
      obtain ⟨T36, h36, ka36, X36, e36, E36, A36, st36⟩ := newP X33 hx hZ (ww hw 61 rfl) e33 (g := gK k35) rfl (hb hby at_118) rfl (by decide) (cap := 2) (by decide) (by decide) (by decide) (by decide)
      obtain ⟨b36, g36⟩ : ∃ z, z = h33.size := ⟨_, rfl⟩
      rw [← g36] at A36 st36
      have ne_b30_b36 : b30 ≠ b36 := Nat.ne_of_lt (Nat.lt_of_lt_of_le (F_value_b30.ext E33).lt (Nat.le_of_eq g36.symm))
      have ne_b33_b36 : b33 ≠ b36 := Nat.ne_of_lt (Nat.lt_of_lt_of_le F_value_b33.lt (Nat.le_of_eq g36.symm))
      have sn_b36 : Safe Z own_EL s.vm h36 b36 := Safe.ext E36 (CHv.ext E33 (CHv.ext E30 hch)) (Safe.new (Nat.le_of_eq g36.symm))
      have V_b36 : Arv Z h36 b36 ka36 .char (2 : Int32) [(.int (0 : Int32)), (.int (0 : Int32))] (.int (0 : Int32)) := (Arv.new A36 (by decide)).pad (pad_rep [] (.int (0 : Int32)) 2)
      have g_b36 : n0 ≤ b36 := Nat.le_trans Zs33 (Nat.le_of_eq g36.symm)
      have Zs36 : n0 ≤ h36.size := Nat.le_trans Zs33 E36.1
      have k38 : Kq X0 maxLocals T36 (mkF m 124 (oL84 p0 p1 p2) [(.int (own_ch p2)), (.int (0 : Int32)), (.ref b36), (.ref b36), (.ref b33), (.ref b33), (.ref b30), (.ref b30)]) := fun t k => k35 t (st36 _ (XS.dup X36.here hx rfl (hb hby at_120) rfl rfl (XS.iconst X36.here hx rfl (hb hby at_121) (XS.iload X36.here hx rfl (hb hby at_122) rfl k))))
      obtain ⟨T39, h39, X39, e39, W39, V39, st39⟩ := own_stC X36 hx hZ e36 V_b36 0 (j := (0 : Int32)) rfl (Nat.le_of_ble_eq_true rfl) ⟨by decide, by decide⟩ (g := gK k38) rfl rfl (hb hby at_124)
      have N39 := Fr.snoc X39 N0 g_b36
      have Zs39 : n0 ≤ h39.size := Nat.le_trans Zs36 (Keep.of_wr W39).1
      have so40 := sn_b36
      have sw40_1 := Safe.wr W39 so40 (CHv.ext E36 (CHv.ext E33 (CHv.ext E30 hch))) (Safe.ext E36 (CHv.ext E33 (CHv.ext E30 hch)) sn_b33)
      have sw40_2 := Safe.wr W39 so40 (CHv.ext E36 (CHv.ext E33 (CHv.ext E30 hch))) sn_b36
      have cw40 := CHr.trans ((((CHr.refl hch).trans (CHr.ext E30 hch)).trans (CHr.ext E33 (CHv.ext E30 hch))).trans (CHr.ext E36 (CHv.ext E33 (CHv.ext E30 hch)))) (CHr.wr W39 so40 (CHv.ext E36 (CHv.ext E33 (CHv.ext E30 hch))))
      have k42 : Kq X0 maxLocals T39 (mkF m 129 (oL84 p0 p1 p2) [(.int (own_hi p2)), (.int (1 : Int32)), (.ref b36), (.ref b36), (.ref b33), (.ref b33), (.ref b30), (.ref b30)]) := fun t k => k38 t (st39 _ (XS.dup X39.here hx rfl (hb hby at_125) rfl rfl (XS.iconst X39.here hx rfl (hb hby at_126) (XS.iload X39.here hx rfl (hb hby at_127) rfl k))))
      obtain ⟨T43, h43, X43, e43, W43, V43, st43⟩ := own_stC X39 hx hZ e39 V39 1 (j := (1 : Int32)) rfl (Nat.le_of_ble_eq_true rfl) ⟨by decide, by decide⟩ (g := gK k42) rfl rfl (hb hby at_129)
      have V_b36_129 : Arv Z h43 b36 ka36 .char (2 : Int32) [(.int (nar .char (own_ch p2))), (.int (nar .char (own_hi p2)))] (.int (0 : Int32)) := V43
      have N43 := Fr.snoc X43 N39 g_b36
      have Zs43 : n0 ≤ h43.size := Nat.le_trans Zs39 (Keep.of_wr W43).1
      have so44 := sw40_2
      have sw44_1 := Safe.wr W43 so44 cw40.1 sw40_1
      have cw44 := CHr.trans cw40 (CHr.wr W43 so44 cw40.1)
      have k45 : Kq X0 maxLocals T43 (mkF m 130 (oL84 p0 p1 p2) [(.ref b36), (.ref b33), (.ref b33), (.ref b30), (.ref b30)]) := fun t k => k42 t (st43 _ k)
      have hp46 : ∀ c ∈ ([(nar .char (own_ch p2)), (nar .char (own_hi p2))] : List Int32), ¬ c < 0 ∧ ¬ (255 : Int32) < c := by
        intro c hc
        simp only [List.mem_cons, List.not_mem_nil, or_false] at hc
        rcases hc with rfl | rfl
        · exact own_ch_ok _
        · exact own_hi_ok _
      obtain ⟨_, _, ⟨T46, L46, kq46, n46⟩, -, X46, ⟨Lc46, hQ46, l46, y46, z46⟩, st46⟩ := X43.specialBack hx (y := mN32) rfl hown (mw hZ hw 62 rfl) (mw hZ hw 63 rfl) (mw hZ hw 64 rfl) (by decide) (StrChars.Road.backV (W := 3) hZ hws (kI := 4) (ww hw 5 rfl) (cs := ([(nar .char (own_ch p2)), (nar .char (own_hi p2))] : List Int32)) (bs := (([(nar .char (own_ch p2)), (nar .char (own_hi p2))] : List Int32)).map (fun c => c.toInt8.toInt32)) (n := 2) g_b33 Zs43 (((A33.ext E36).wr W39).wr W43) (((F_value_b33.ext E36).other W39 (Or.inl ne_b33_b36)).other W43 (Or.inl ne_b33_b36)) (((F_coder_b33.ext E36).other W39 (Or.inl ne_b33_b36)).other W43 (Or.inl ne_b33_b36)) V_b36_129 (O2.ext (((((X00.ext E30).ext E33).ext E36).wr W39 g_b36).wr W43 g_b36).2) P5 rfl rfl (by decide) (by decide) hp46 rfl (by decide) (by decide)) (g := gK k45) rfl (by rw [hml]; rfl) (Steps.refl _) (a := b33) (argsL := [(.ref b36)]) (rest := [(.ref b33), (.ref b30), (.ref b30)]) (lenOf pd_25 rfl) rfl (by show 2 * 0 + _ ≤ _; exact Nat.le_of_eq rfl) (hb hby at_130) (fun _ _ => ⟨rfl, e43, (by decide : 3 + 1 ≤ _), (by decide : 11 + 2 ≤ _)⟩)
      dsimp only [Pt.U, Pt.locs, Pt.cells, Pt.slots] at X46 l46 y46 z46 st46 hQ46
      replace l46 := l46.symm; subst l46 y46 z46
      obtain ⟨rfl, N46q, K46, Ex46, Cx46, t46, kb46, gt46, zt46, nt46, Vx46, Ax46⟩ := hQ46
      have N46 := Fr.app N43 N46q
      have ne_b30_t46 : b30 ≠ t46 := Nat.ne_of_lt (Nat.lt_of_lt_of_le ((((F_value_b30.ext E33).ext E36).other W39 (Or.inl ne_b30_b36)).other W43 (Or.inl ne_b30_b36)).lt zt46)
      have sk47 : ∀ x ∈ ([b33] : List Addr), Safe Z own_EL s.vm h43 x := (allS sw44_1 all0)
      have cc47 := CHr.trans cw44 (CHr.keep K46 sk47 cw44.1)
      have Zs46 : n0 ≤ T46.heap.size := Nat.le_trans Zs43 K46.1
      have k49 : Kq X0 maxLocals T46 (mkF m 135 (oL84 p0 p1 p2) [(.int (1 : Int32)), .null, (.ref b33), (.ref b30), (.ref b30)]) := fun t k => k45 t (st46.trans (XS.aconstNull X46.here hx rfl (hb hby at_133) (XS.iconst X46.here hx rfl (hb hby at_134) k)))
      obtain ⟨a50, T50, h50, j50, t50, kb50, X50, e50, E50, Sn50, jk50, hZ50, hown50, Ex50, Cx50, Vx50, Ax50, la50, lb50, cr50, Lt50, sf50, st50⟩ := ldcCH (s := s) (vm0 := s.vm) X46 hx hZ hown (ww hw 205 rfl) hsa rfl ((State.WarmedH.refl s).since h0.size) (Nat.le_trans (Nat.le_trans (Nat.le_trans (Nat.le_trans (Nat.le_trans (Nat.le_trans (Nat.le_refl h0.size) E30.1) E33.1) E36.1) (Keep.of_wr W39).1) (Keep.of_wr W43).1) K46.1) hEL (by simp [own_EL]) cc47.1 (vs := (oB [121])) (z := (1 : Int32)) ⟨by decide, by decide +kernel⟩ (by decide) (by decide) (g := gK k49) rfl (hb hby at_135) (n := 4) (by decide) (by decide) (by decide) (by decide)
      have Zs50 : n0 ≤ h50.size := Nat.le_trans Zs46 E50.1
      have k51 : Kq X0 maxLocals T50 (mkF m 137 (oL84 p0 p1 p2) [(.ref a50), (.int (1 : Int32)), .null, (.ref b33), (.ref b30), (.ref b30)]) := fun t k => k49 t (st50 _ k)
      obtain ⟨_, _, ⟨T52, L52, kq52, n52⟩, -, X52, ⟨Lc52, hQ52, l52, y52, z52⟩, st52⟩ := X50.specialBack hx (y := mN26) rfl hown50 (mw hZ50 hw 11 rfl) (mw hZ50 hw 12 rfl) (mw hZ50 hw 13 rfl) (by decide) (backOf (W := 1) (rm1 l Z a0 hw [] b30 b33 a50 h50 n0 Zs50 ((((((F_value_b30.ext E33).ext E36).other W39 (Or.inl ne_b30_b36)).other W43 (Or.inl ne_b30_b36)).keep K46 (ninS ne_b30_b33 nin0)).ext E50) ((((((F_section_b30.ext E33).ext E36).other W39 (Or.inl ne_b30_b36)).other W43 (Or.inl ne_b30_b36)).keep K46 (ninS ne_b30_b33 nin0)).ext E50) ((((((F_line_b30.ext E33).ext E36).other W39 (Or.inl ne_b30_b36)).other W43 (Or.inl ne_b30_b36)).keep K46 (ninS ne_b30_b33 nin0)).ext E50) ((((((F_text_b30.ext E33).ext E36).other W39 (Or.inl ne_b30_b36)).other W43 (Or.inl ne_b30_b36)).keep K46 (ninS ne_b30_b33 nin0)).ext E50) ((((((F_derivedFrom_b30.ext E33).ext E36).other W39 (Or.inl ne_b30_b36)).other W43 (Or.inl ne_b30_b36)).keep K46 (ninS ne_b30_b33 nin0)).ext E50) ((((((A30.ext E33).ext E36).wr W39).wr W43).keep K46).ext E50) g_b30) hZ50 (ww hw 13 rfl) (ww hw 2 rfl) (by decide) (by decide)) (g := gK k51) rfl (by rw [hml]; rfl) (Steps.refl _) (a := b30) (argsL := [(.ref b33), .null, (.int (1 : Int32)), (.ref a50)]) (rest := [(.ref b30)]) (lenOf pd_22 rfl) rfl (by show 2 * 0 + _ ≤ _; exact Nat.le_of_eq rfl) (hb hby at_137) (fun _ _ => ⟨rfl, e50, (by decide : 6 + 0 ≤ _), (by decide : 21 + 0 ≤ _)⟩)
      dsimp only [Pt.U, Pt.locs, Pt.cells, Pt.slots] at X52 l52 y52 z52 st52 hQ52
      replace l52 := l52.symm; subst l52 y52 z52
      obtain ⟨rfl, N52q, K52, Ex52, Fx52_0, Fx52_1, Fx52_2, Fx52_3, Fx52_4⟩ := hQ52
      have N52 := Fr.app N46 N52q
      have sk53 : ∀ x ∈ ([b30] : List Addr), Safe Z own_EL T50.vm h50 x := (allS (Safe.exa hZ50.alike ((((((A30.ext E33).ext E36).wr W39).wr W43).keep K46).ext E50) (by decide) (by decide)) all0)
      have cc53 := CHr.trans (cc47.trans cr50) (CHr.keep K52 sk53 cr50.1)
      have od54 := ((((((((X00.ext E30).ext E33).ext E36).wr W39 g_b36).wr W43 g_b36).keep K46 (allS g_b33 all0)).ext E50).keep K52 (allS g_b30 all0))
      have Zs52 : n0 ≤ T52.heap.size := Nat.le_trans Zs50 K52.1
      have k56 : Kq X0 maxLocals T52 (mkF m 146 (oL86 p0 p1 p2 b30) []) := fun t k => k51 t (st52.trans (XS.goto X52.here hx rfl (pc0 := 140) (pc' := 144) rfl (hb hby at_140) (by decide) (by decide) (XS.astore X52.here hx rfl (hb hby at_144) rfl rfl (l' := (oL86 p0 p1 p2 b30)) rfl k)))
      obtain ⟨T57, h57, X57, e57, E57, A57, D57, -, st57⟩ := newO X52 hx hZ50 hown50 (ww hw 0 rfl) (ww hw 1 rfl) (ww hw 2 rfl) rfl (g := gK k56) rfl (hb hby at_146) (by decide) (by decide)
      obtain ⟨b57, g57⟩ : ∃ z, z = T52.heap.size := ⟨_, rfl⟩
      rw [← g57] at A57 D57 st57
      have ne_b30_b57 : b30 ≠ b57 := Nat.ne_of_lt (Nat.lt_of_lt_of_le Fx52_0.lt (Nat.le_of_eq g57.symm))
      have ne_b33_b57 : b33 ≠ b57 := Nat.ne_of_lt (Nat.lt_of_lt_of_le ((Vx46.ext E50).keep K52 (ninS ne_b30_b33.symm nin0)).lt (Nat.le_of_eq g57.symm))
      have ne_t46_b57 : t46 ≠ b57 := Nat.ne_of_lt (Nat.lt_of_lt_of_le ((Ax46.ext E50).keep K52 (ninS ne_b30_t46.symm nin0)).lt (Nat.le_of_eq g57.symm))
      have F_value_b57 : Fld Z h57 b57 "com/example/covenantry/covenantry/Figure" "value" "Ljava/lang/String;" .null := D57 (Or.inr (ww hw 21 rfl)) (ty := (.object "java/lang/String")) (by decide)
      have F_section_b57 : Fld Z h57 b57 "com/example/covenantry/covenantry/Figure" "section" "Ljava/lang/String;" .null := D57 (Or.inr (ww hw 23 rfl)) (ty := (.object "java/lang/String")) (by decide)
      have F_line_b57 : Fld Z h57 b57 "com/example/covenantry/covenantry/Figure" "line" "I" (.int (0 : Int32)) := D57 (Or.inr (ww hw 25 rfl)) (ty := .int) (by decide)
      have F_text_b57 : Fld Z h57 b57 "com/example/covenantry/covenantry/Figure" "text" "Ljava/lang/String;" .null := D57 (Or.inr (ww hw 27 rfl)) (ty := (.object "java/lang/String")) (by decide)
      have F_derivedFrom_b57 : Fld Z h57 b57 "com/example/covenantry/covenantry/Figure" "derivedFrom" "Ljava/lang/String;" .null := D57 (Or.inr (ww hw 29 rfl)) (ty := (.object "java/lang/String")) (by decide)
      have g_b57 : n0 ≤ b57 := Nat.le_trans Zs52 (Nat.le_of_eq g57.symm)
      have Zs57 : n0 ≤ h57.size := Nat.le_trans Zs52 E57.1
      have k59 : Kq X0 maxLocals T57 (mkF m 150 (oL86 p0 p1 p2 b30) [(.ref b57), (.ref b57)]) := fun t k => k56 t (st57 _ (XS.dup X57.here hx rfl (hb hby at_149) rfl rfl k))
      obtain ⟨a60, T60, h60, j60, t60, kb60, X60, e60, E60, Sn60, jk60, hZ60, hown60, Ex60, Cx60, Vx60, Ax60, la60, lb60, cr60, Lt60, sf60, st60⟩ := ldcCH (s := s) (vm0 := T50.vm) X57 hx hZ50 hown50 (ww hw 3 rfl) hsa e57 Sn50 (Nat.le_trans (Nat.le_trans jk50 K52.1) E57.1) hEL (by simp [own_EL]) (CHv.ext E57 cc53.1) (vs := (oB [48, 46, 51, 55, 53])) (z := (5 : Int32)) ⟨by decide, by decide +kernel⟩ (by decide) (by decide) (g := gK k59) rfl (hb hby at_150) (n := 20) (by decide) (by decide) (by decide) (by decide)
      have Zs60 : n0 ≤ h60.size := Nat.le_trans Zs57 E60.1
      have k62 : Kq X0 maxLocals T60 (mkF m 154 (oL86 p0 p1 p2 b30) [(.int (1 : Int32)), .null, (.ref a60), (.ref b57), (.ref b57)]) := fun t k => k59 t (st60 _ (XS.aconstNull X60.here hx rfl (hb hby at_152) (XS.iconst X60.here hx rfl (hb hby at_153) k)))
      have k63 : Kq X0 maxLocals T60 (mkF m 156 (oL86 p0 p1 p2 b30) [(.ref a60), (.int (1 : Int32)), .null, (.ref a60), (.ref b57), (.ref b57)]) := fun t k => k62 t (ldcAgain (s := s) (vm0 := T60.vm) X60 hx hZ60 hown60 (ww hw 3 rfl) Lt60 (g := (mkF m 154 (oL86 p0 p1 p2 b30) [(.int (1 : Int32)), .null, (.ref a60), (.ref b57), (.ref b57)])) rfl (hb hby at_154) _ k)
      obtain ⟨_, _, ⟨T64, L64, kq64, n64⟩, -, X64, ⟨Lc64, hQ64, l64, y64, z64⟩, st64⟩ := X60.specialBack hx (y := mN26) rfl hown60 (mw hZ60 hw 11 rfl) (mw hZ60 hw 12 rfl) (mw hZ60 hw 13 rfl) (by decide) (backOf (W := 1) (rm1 l Z a0 hw [] b57 a60 a60 h60 n0 Zs60 (F_value_b57.ext E60) (F_section_b57.ext E60) (F_line_b57.ext E60) (F_text_b57.ext E60) (F_derivedFrom_b57.ext E60) (A57.ext E60) g_b57) hZ60 (ww hw 13 rfl) (ww hw 2 rfl) (by decide) (by decide)) (g := gK k63) rfl (by rw [hml]; rfl) (Steps.refl _) (a := b57) (argsL := [(.ref a60), .null, (.int (1 : Int32)), (.ref a60)]) (rest := [(.ref b57)]) (lenOf pd_22 rfl) rfl (by show 2 * 0 + _ ≤ _; exact Nat.le_of_eq rfl) (hb hby at_156) (fun _ _ => ⟨rfl, e60, (by decide : 9 + 0 ≤ _), (by decide : 50 + 0 ≤ _)⟩)
      dsimp only [Pt.U, Pt.locs, Pt.cells, Pt.slots] at X64 l64 y64 z64 st64 hQ64
      replace l64 := l64.symm; subst l64 y64 z64
      obtain ⟨rfl, N64q, K64, Ex64, Fx64_0, Fx64_1, Fx64_2, Fx64_3, Fx64_4⟩ := hQ64
      have N64 := Fr.app N52 N64q
      have sk65 : ∀ x ∈ ([b57] : List Addr), Safe Z own_EL T60.vm h60 x := (allS (Safe.exa hZ60.alike (A57.ext E60) (by decide) (by decide)) all0)
      have cc65 := CHr.trans ((cc53.trans (CHr.ext E57 cc53.1)).trans cr60) (CHr.keep K64 sk65 cr60.1)
      have Zs64 : n0 ≤ T64.heap.size := Nat.le_trans Zs60 K64.1
      have k67 : Kq X0 maxLocals T64 (mkF m 161 (oL87 p0 p1 p2 b30 b57) []) := fun t k => k63 t (st64.trans (XS.astore X64.here hx rfl (hb hby at_159) rfl rfl (l' := (oL87 p0 p1 p2 b30 b57)) rfl k))
      obtain ⟨T68, h68, X68, e68, E68, A68, D68, -, st68⟩ := newO X64 hx hZ60 hown60 (ww hw 30 rfl) (ww hw 31 rfl) (ww hw 32 rfl) rfl (g := gK k67) rfl (hb hby at_161) (by decide) (by decide)
      obtain ⟨b68, g68⟩ : ∃ z, z = T64.heap.size := ⟨_, rfl⟩
      rw [← g68] at A68 D68 st68
      have ne_b30_b68 : b30 ≠ b68 := Nat.ne_of_lt (Nat.lt_of_lt_of_le (((Fx52_0.ext E57).ext E60).keep K64 (ninS ne_b30_b57 nin0)).lt (Nat.le_of_eq g68.symm))
      have ne_b33_b68 : b33 ≠ b68 := Nat.ne_of_lt (Nat.lt_of_lt_of_le (((((Vx46.ext E50).keep K52 (ninS ne_b30_b33.symm nin0)).ext E57).ext E60).keep K64 (ninS ne_b33_b57 nin0)).lt (Nat.le_of_eq g68.symm))
      have ne_t46_b68 : t46 ≠ b68 := Nat.ne_of_lt (Nat.lt_of_lt_of_le (((((Ax46.ext E50).keep K52 (ninS ne_b30_t46.symm nin0)).ext E57).ext E60).keep K64 (ninS ne_t46_b57 nin0)).lt (Nat.le_of_eq g68.symm))
      have F_above_b68 : Fld Z h68 b68 "com/example/covenantry/covenantry/FeeLevel" "above" "Lcom/example/covenantry/covenantry/Figure;" .null := D68 (Or.inr (ww hw 41 rfl)) (ty := (.object "com/example/covenantry/covenantry/Figure")) (by decide)
      have F_atMost_b68 : Fld Z h68 b68 "com/example/covenantry/covenantry/FeeLevel" "atMost" "Lcom/example/covenantry/covenantry/Figure;" .null := D68 (Or.inr (ww hw 43 rfl)) (ty := (.object "com/example/covenantry/covenantry/Figure")) (by decide)
      have F_rate_b68 : Fld Z h68 b68 "com/example/covenantry/covenantry/FeeLevel" "rate" "Lcom/example/covenantry/covenantry/Figure;" .null := D68 (Or.inr (ww hw 45 rfl)) (ty := (.object "com/example/covenantry/covenantry/Figure")) (by decide)
      have F_unreadable_b68 : Fld Z h68 b68 "com/example/covenantry/covenantry/FeeLevel" "unreadable" "Lcom/example/covenantry/covenantry/Unreadable;" .null := D68 (Or.inr (ww hw 47 rfl)) (ty := (.object "com/example/covenantry/covenantry/Unreadable")) (by decide)
      have g_b68 : n0 ≤ b68 := Nat.le_trans Zs64 (Nat.le_of_eq g68.symm)
      have Zs68 : n0 ≤ h68.size := Nat.le_trans Zs64 E68.1
      have k70 : Kq X0 maxLocals T68 (mkF m 171 (oL87 p0 p1 p2 b30 b57) [(.ref b57), (.ref b30), .null, (.ref b68), (.ref b68)]) := fun t k => k67 t (st68 _ (XS.dup X68.here hx rfl (hb hby at_164) rfl rfl (XS.aload X68.here hx rfl (hb hby at_165) rfl rfl (XS.aload X68.here hx rfl (hb hby at_167) rfl rfl (XS.aload X68.here hx rfl (hb hby at_169) rfl rfl k)))))
      obtain ⟨_, _, ⟨T71, L71, kq71, n71⟩, -, X71, ⟨Lc71, hQ71, l71, y71, z71⟩, st71⟩ := X68.specialBack hx (y := mN29) rfl hown60 (mw hZ60 hw 33 rfl) (mw hZ60 hw 34 rfl) (mw hZ60 hw 35 rfl) (by decide) (backOf (W := 1) (rm4l01 l Z a0 hw [] b68 b30 b57 h68 n0 Zs68 F_above_b68 F_atMost_b68 F_rate_b68 F_unreadable_b68 A68 g_b68) hZ60 (ww hw 35 rfl) (ww hw 32 rfl) (by decide) (by decide)) (g := gK k70) rfl (by rw [hml]; rfl) (Steps.refl _) (a := b68) (argsL := [.null, (.ref b30), (.ref b57)]) (rest := [(.ref b68)]) (lenOf pd_23 rfl) rfl (by show 2 * 0 + _ ≤ _; exact Nat.le_of_eq rfl) (hb hby at_171) (fun _ _ => ⟨rfl, e68, (by decide : 10 + 0 ≤ _), (by decide : 54 + 0 ≤ _)⟩)
      dsimp only [Pt.U, Pt.locs, Pt.cells, Pt.slots] at X71 l71 y71 z71 st71 hQ71
      replace l71 := l71.symm; subst l71 y71 z71
      obtain ⟨rfl, N71q, K71, Ex71, Fx71_0, Fx71_1, Fx71_2, Fx71_3⟩ := hQ71
      have N71 := Fr.app N64 N71q
      have sk72 : ∀ x ∈ ([b68] : List Addr), Safe Z own_EL T60.vm h68 x := (allS (Safe.exa hZ60.alike A68 (by decide) (by decide)) all0)
      have cc72 := CHr.trans (cc65.trans (CHr.ext E68 cc65.1)) (CHr.keep K71 sk72 (CHv.ext E68 cc65.1))
      have Zs71 : n0 ≤ T71.heap.size := Nat.le_trans Zs68 K71.1
      have k74 : Kq X0 maxLocals T71 (mkF m 174 (oL87 p0 p1 p2 b30 b57) [(.ref b68)]) := fun t k => k70 t (st71.trans k)
      obtain ⟨cq75, kcq75, q75a, q75b, q75c⟩ := isOf hZ60 rfl Ex71
      obtain ⟨_, _, ⟨T75, L75, kq75, n75⟩, -, X75, Sc75, gr75, ⟨Lc75, hQ75, l75, y75, z75, cr75⟩, st75⟩ := X71.virtualBackS hx (y := mN30) (z := mN30) hown60 (mw hZ60 hw 48 rfl) (mw hZ60 hw 49 rfl) (notFace_of_selects (args := #[]) (mw hZ60 hw 51 rfl)) (mw hZ60 hw 51 rfl) (mw hZ60 hw 50 rfl) (by decide) (backOfSH (s := s) (vm0 := T60.vm) (W := 0) (rm6s01 l Z a0 hw [] b68 b30 b33 t46 kb46 (oB [(nar .char (own_ch p2)), (nar .char (own_hi p2))]) G1 T71.heap n0 Zs71 Fx71_0 Fx71_1 Ex71 (((((Fx52_0.ext E57).ext E60).keep K64 (ninS ne_b30_b57 nin0)).ext E68).keep K71 (ninS ne_b30_b68 nin0)) (((((Ex52.ext E57).ext E60).keep K64).ext E68).keep K71) (((((((Ex46.ext E50).keep K52).ext E57).ext E60).keep K64).ext E68).keep K71) (((((((Vx46.ext E50).keep K52 (ninS ne_b30_b33.symm nin0)).ext E57).ext E60).keep K64 (ninS ne_b33_b57 nin0)).ext E68).keep K71 (ninS ne_b33_b68 nin0)) (((((((Cx46.ext E50).keep K52 (ninS ne_b30_b33.symm nin0)).ext E57).ext E60).keep K64 (ninS ne_b33_b57 nin0)).ext E68).keep K71 (ninS ne_b33_b68 nin0)) (((((((Ax46.ext E50).keep K52 (ninS ne_b30_t46.symm nin0)).ext E57).ext E60).keep K64 (ninS ne_t46_b57 nin0)).ext E68).keep K71 (ninS ne_t46_b68 nin0)) rfl O2 P5 (((((od54.ext E57).ext E60).keep K64 (allS g_b57 all0)).ext E68).keep K71 (allS g_b68 all0))) hZ60 (ww hw 52 rfl) (ww hw 32 rfl) (by decide) (by decide) hEL cc72.1) q75a q75c (g := gK k74) rfl (by rw [hml]; rfl) (Steps.refl _) (argsL := []) (rest := []) (lenOf pd_21 rfl) rfl (by show 2 * 0 + _ ≤ _; exact Nat.le_of_eq rfl) (hb hby at_174) (fun _ _ => ⟨rfl, rfl, (by decide : 10 + 6 ≤ _), (by decide : 54 + 70 ≤ _)⟩)
      dsimp only [Pt.U, Pt.locs, Pt.cells, Pt.slots] at Sc75 gr75 cr75
      dsimp only [Pt.U, Pt.locs, Pt.cells, Pt.slots] at X75 l75 y75 z75 st75 hQ75
      replace l75 := l75.symm; subst l75 y75 z75
      obtain ⟨xs75, ts75, ks75, W75, rfl, N75q, K75, Ex75, Fv75, Fc75, Vs75, hW75⟩ := hQ75
      have N75 := Fr.app N71 N75q
      have Zs75 : n0 ≤ T75.heap.size := Nat.le_trans Zs71 K75.1
      have hZ75 : Z.Warmed39 (s.setVm T75.vm).vm := State.Warmed39.trans (t := s.setVm T60.vm) hZ60 Sc75.1
      have hown75 : (s.setVm T75.vm).vm.findClass "com/example/covenantry/covenantry/FeeLevelSpanPinLaw" = some m.cls := by rw [show (s.setVm T75.vm).vm = T75.vm from rfl, Sc75.1.alike.findClass]; exact hown60
      have Sn75 : s.Since T75.vm T75.heap.size := foldS (vm0 := T60.vm) Sn60 (Nat.le_trans (Nat.le_trans (Nat.le_trans jk60 K64.1) E68.1) K71.1) Sc75 gr75
      have hc181 : (0 : Int32) = (0 : Int32) := by decide
      have hc186 : ¬ ((1 : Int32) = (0 : Int32)) := by decide
      have hc198 : (0 : Int32) = (0 : Int32) := by decide
      have k77 : Kq X0 maxLocals T75 (mkF m 201 (oL88 p0 p1 p2 b30 b57 xs75) []) := fun t k => k74 t (st75.trans (XS.astore X75.here hx rfl (hb hby at_177) rfl rfl (l' := (oL88 p0 p1 p2 b30 b57 xs75)) rfl (XS.iload X75.here hx rfl (hb hby at_179) rfl (XS.ifNo X75.here hx rfl (hb hby at_181) rfl ((if0 _ _).trans (teq hc181).2) (XS.iload X75.here hx rfl (hb hby at_184) rfl (XS.ifYes X75.here hx rfl (pc0 := 186) (pc' := 196) rfl (hb hby at_186) rfl ((if0 _ _).trans (feq hc186).2) (by decide) (by decide) (XS.iload X75.here hx rfl (hb hby at_196) rfl (show Sg X0 T75 198 (oL88 p0 p1 p2 b30 b57 xs75) [(.int (0 : Int32))] t from (XS.ifNo X75.here hx rfl (hb hby at_198) rfl ((if0 _ _).trans (teq hc198).2) k)))))))))
      obtain ⟨T78, h78, X78, e78, E78, A78, D78, -, st78⟩ := newO X75 hx hZ75 hown75 (ww hw 60 rfl) (ww hw 5 rfl) (ww hw 4 rfl) rfl (g := gK k77) rfl (hb hby at_201) (by decide) (by decide)
      obtain ⟨b78, g78⟩ : ∃ z, z = T75.heap.size := ⟨_, rfl⟩
      rw [← g78] at A78 D78 st78
      have ne_xs75_b78 : xs75 ≠ b78 := Nat.ne_of_lt (Nat.lt_of_lt_of_le Ex75.lt (Nat.le_of_eq g78.symm))
      have ne_ts75_b78 : ts75 ≠ b78 := Nat.ne_of_lt (Nat.lt_of_lt_of_le Vs75.lt (Nat.le_of_eq g78.symm))
      have F_value_b78 : Fld Z h78 b78 "java/lang/String" "value" "[B" .null := D78 (Or.inr (ww hw 7 rfl)) (ty := (.array .byte)) (by decide)
      have F_coder_b78 : Fld Z h78 b78 "java/lang/String" "coder" "B" (.int (0 : Int32)) := D78 (Or.inr (ww hw 8 rfl)) (ty := .byte) (by decide)
      have g_b78 : n0 ≤ b78 := Nat.le_trans Zs75 (Nat.le_of_eq g78.symm)
      have Zs78 : n0 ≤ h78.size := Nat.le_trans Zs75 E78.1
      have k80 : Kq X0 maxLocals T78 (mkF m 207 (oL88 p0 p1 p2 b30 b57 xs75) [(.int (10 : Int32)), (.ref b78), (.ref b78)]) := fun t k => k77 t (st78 _ (XS.dup X78.here hx rfl (hb hby at_204) rfl rfl (XS.bipush X78.here hx rfl (hb hby at_205) k)))
      obtain ⟨T81, h81, ka81, X81, e81, E81, A81, st81⟩ := newP X78 hx hZ75 (ww hw 61 rfl) e78 (g := gK k80) rfl (hb hby at_207) rfl (by decide) (cap := 10) (by decide) (by decide) (by decide) (by decide)
      obtain ⟨b81, g81⟩ : ∃ z, z = h78.size := ⟨_, rfl⟩
      rw [← g81] at A81 st81
      have ne_xs75_b81 : xs75 ≠ b81 := Nat.ne_of_lt (Nat.lt_of_lt_of_le (Ex75.ext E78).lt (Nat.le_of_eq g81.symm))
      have ne_ts75_b81 : ts75 ≠ b81 := Nat.ne_of_lt (Nat.lt_of_lt_of_le (Vs75.ext E78).lt (Nat.le_of_eq g81.symm))
      have ne_b78_b81 : b78 ≠ b81 := Nat.ne_of_lt (Nat.lt_of_lt_of_le F_value_b78.lt (Nat.le_of_eq g81.symm))
      have V_b81 : Arv Z h81 b81 ka81 .char (10 : Int32) oZ10 (.int (0 : Int32)) := (Arv.new A81 (by decide)).pad (pad_rep [] (.int (0 : Int32)) 10)
      have g_b81 : n0 ≤ b81 := Nat.le_trans Zs78 (Nat.le_of_eq g81.symm)
      have Zs81 : n0 ≤ h81.size := Nat.le_trans Zs78 E81.1
      have k83 : Kq X0 maxLocals T81 (mkF m 213 (oL88 p0 p1 p2 b30 b57 xs75) [(.int (97 : Int32)), (.int (0 : Int32)), (.ref b81), (.ref b81), (.ref b78), (.ref b78)]) := fun t k => k80 t (st81 _ (XS.dup X81.here hx rfl (hb hby at_209) rfl rfl (XS.iconst X81.here hx rfl (hb hby at_210) (XS.bipush X81.here hx rfl (hb hby at_211) k))))
      obtain ⟨T84, h84, X84, e84, W84, V84, st84⟩ := own_stC X81 hx hZ75 e81 V_b81 0 (j := (0 : Int32)) rfl (Nat.le_of_ble_eq_true rfl) ⟨by decide, by decide⟩ (g := gK k83) rfl rfl (hb hby at_213)
      have N84 := Fr.snoc X84 N75 g_b81
      have Zs84 : n0 ≤ h84.size := Nat.le_trans Zs81 (Keep.of_wr W84).1
      have od86 := (((((((((od54.ext E57).ext E60).keep K64 (allS g_b57 all0)).ext E68).keep K71 (allS g_b68 all0)).keep K75 all0).ext E78).ext E81).wr W84 g_b81)
      have k88 : Kq X0 maxLocals T84 (mkF m 218 (oL88 p0 p1 p2 b30 b57 xs75) [(.int (116 : Int32)), (.int (1 : Int32)), (.ref b81), (.ref b81), (.ref b78), (.ref b78)]) := fun t k => k83 t (st84 _ (XS.dup X84.here hx rfl (hb hby at_214) rfl rfl (XS.iconst X84.here hx rfl (hb hby at_215) (XS.bipush X84.here hx rfl (hb hby at_216) k))))
      obtain ⟨T89, h89, X89, e89, W89, V89, st89⟩ := own_stC X84 hx hZ75 e84 V84 1 (j := (1 : Int32)) rfl (Nat.le_of_ble_eq_true rfl) ⟨by decide, by decide⟩ (g := gK k88) rfl rfl (hb hby at_218)
      have N89 := Fr.snoc X89 N84 g_b81
      have Zs89 : n0 ≤ h89.size := Nat.le_trans Zs84 (Keep.of_wr W89).1
      have k92 : Kq X0 maxLocals T89 (mkF m 223 (oL88 p0 p1 p2 b30 b57 xs75) [(.int (32 : Int32)), (.int (2 : Int32)), (.ref b81), (.ref b81), (.ref b78), (.ref b78)]) := fun t k => k88 t (st89 _ (XS.dup X89.here hx rfl (hb hby at_219) rfl rfl (XS.iconst X89.here hx rfl (hb hby at_220) (XS.bipush X89.here hx rfl (hb hby at_221) k))))
      obtain ⟨T93, h93, X93, e93, W93, V93, st93⟩ := own_stC X89 hx hZ75 e89 V89 2 (j := (2 : Int32)) rfl (Nat.le_of_ble_eq_true rfl) ⟨by decide, by decide⟩ (g := gK k92) rfl rfl (hb hby at_223)
      have N93 := Fr.snoc X93 N89 g_b81
      have Zs93 : n0 ≤ h93.size := Nat.le_trans Zs89 (Keep.of_wr W93).1
      have k96 : Kq X0 maxLocals T93 (mkF m 228 (oL88 p0 p1 p2 b30 b57 xs75) [(.int (109 : Int32)), (.int (3 : Int32)), (.ref b81), (.ref b81), (.ref b78), (.ref b78)]) := fun t k => k92 t (st93 _ (XS.dup X93.here hx rfl (hb hby at_224) rfl rfl (XS.iconst X93.here hx rfl (hb hby at_225) (XS.bipush X93.here hx rfl (hb hby at_226) k))))
      obtain ⟨T97, h97, X97, e97, W97, V97, st97⟩ := own_stC X93 hx hZ75 e93 V93 3 (j := (3 : Int32)) rfl (Nat.le_of_ble_eq_true rfl) ⟨by decide, by decide⟩ (g := gK k96) rfl rfl (hb hby at_228)
      have N97 := Fr.snoc X97 N93 g_b81
      have Zs97 : n0 ≤ h97.size := Nat.le_trans Zs93 (Keep.of_wr W97).1
      have k100 : Kq X0 maxLocals T97 (mkF m 233 (oL88 p0 p1 p2 b30 b57 xs75) [(.int (111 : Int32)), (.int (4 : Int32)), (.ref b81), (.ref b81), (.ref b78), (.ref b78)]) := fun t k => k96 t (st97 _ (XS.dup X97.here hx rfl (hb hby at_229) rfl rfl (XS.iconst X97.here hx rfl (hb hby at_230) (XS.bipush X97.here hx rfl (hb hby at_231) k))))
      obtain ⟨T101, h101, X101, e101, W101, V101, st101⟩ := own_stC X97 hx hZ75 e97 V97 4 (j := (4 : Int32)) rfl (Nat.le_of_ble_eq_true rfl) ⟨by decide, by decide⟩ (g := gK k100) rfl rfl (hb hby at_233)
      have V_b81_233 : Arv Z h101 b81 ka81 .char (10 : Int32) ((.int (nC 97)) :: (.int (nC 116)) :: (.int (nC 32)) :: (.int (nC 109)) :: (.int (nC 111)) :: (.int (0 : Int32)) :: (.int (0 : Int32)) :: (.int (0 : Int32)) :: (.int (0 : Int32)) :: (.int (0 : Int32)) :: []) (.int (0 : Int32)) := V101
      have N101 := Fr.snoc X101 N97 g_b81
      have Zs101 : n0 ≤ h101.size := Nat.le_trans Zs97 (Keep.of_wr W101).1
      have fc103 := (((((((Fv75.ext E78).ext E81).other W84 (Or.inl ne_xs75_b81)).other W89 (Or.inl ne_xs75_b81)).other W93 (Or.inl ne_xs75_b81)).other W97 (Or.inl ne_xs75_b81)).other W101 (Or.inl ne_xs75_b81))
      have fc104 := (((((((Fc75.ext E78).ext E81).other W84 (Or.inl ne_xs75_b81)).other W89 (Or.inl ne_xs75_b81)).other W93 (Or.inl ne_xs75_b81)).other W97 (Or.inl ne_xs75_b81)).other W101 (Or.inl ne_xs75_b81))
      have fc105 := ((((((F_value_b78.ext E81).other W84 (Or.inl ne_b78_b81)).other W89 (Or.inl ne_b78_b81)).other W93 (Or.inl ne_b78_b81)).other W97 (Or.inl ne_b78_b81)).other W101 (Or.inl ne_b78_b81))
      have fc106 := ((((((F_coder_b78.ext E81).other W84 (Or.inl ne_b78_b81)).other W89 (Or.inl ne_b78_b81)).other W93 (Or.inl ne_b78_b81)).other W97 (Or.inl ne_b78_b81)).other W101 (Or.inl ne_b78_b81))
      have k108 : Kq X0 maxLocals T101 (mkF m 238 (oL88 p0 p1 p2 b30 b57 xs75) [(.int (115 : Int32)), (.int (5 : Int32)), (.ref b81), (.ref b81), (.ref b78), (.ref b78)]) := fun t k => k100 t (st101 _ (XS.dup X101.here hx rfl (hb hby at_234) rfl rfl (XS.iconst X101.here hx rfl (hb hby at_235) (XS.bipush X101.here hx rfl (hb hby at_236) k))))
      obtain ⟨T109, h109, X109, e109, W109, V109, st109⟩ := own_stC X101 hx hZ75 e101 V_b81_233 5 (j := (5 : Int32)) rfl (Nat.le_of_ble_eq_true rfl) ⟨by decide, by decide⟩ (g := gK k108) rfl rfl (hb hby at_238)
      have N109 := Fr.snoc X109 N101 g_b81
      have Zs109 : n0 ≤ h109.size := Nat.le_trans Zs101 (Keep.of_wr W109).1
      have fc111 := ((((((((Vs75.ext E78).ext E81).other W84 ne_ts75_b81).other W89 ne_ts75_b81).other W93 ne_ts75_b81).other W97 ne_ts75_b81).other W101 ne_ts75_b81).other W109 ne_ts75_b81)
      have k113 : Kq X0 maxLocals T109 (mkF m 244 (oL88 p0 p1 p2 b30 b57 xs75) [(.int (116 : Int32)), (.int (6 : Int32)), (.ref b81), (.ref b81), (.ref b78), (.ref b78)]) := fun t k => k108 t (st109 _ (XS.dup X109.here hx rfl (hb hby at_239) rfl rfl (XS.bipush X109.here hx rfl (hb hby at_240) (XS.bipush X109.here hx rfl (hb hby at_242) k))))
      obtain ⟨T114, h114, X114, e114, W114, V114, st114⟩ := own_stC X109 hx hZ75 e109 V109 6 (j := (6 : Int32)) rfl (Nat.le_of_ble_eq_true rfl) ⟨by decide, by decide⟩ (g := gK k113) rfl rfl (hb hby at_244)
      have N114 := Fr.snoc X114 N109 g_b81
      have Zs114 : n0 ≤ h114.size := Nat.le_trans Zs109 (Keep.of_wr W114).1
      have k117 : Kq X0 maxLocals T114 (mkF m 250 (oL88 p0 p1 p2 b30 b57 xs75) [(.int (32 : Int32)), (.int (7 : Int32)), (.ref b81), (.ref b81), (.ref b78), (.ref b78)]) := fun t k => k113 t (st114 _ (XS.dup X114.here hx rfl (hb hby at_245) rfl rfl (XS.bipush X114.here hx rfl (hb hby at_246) (XS.bipush X114.here hx rfl (hb hby at_248) k))))
      obtain ⟨T118, h118, X118, e118, W118, V118, st118⟩ := own_stC X114 hx hZ75 e114 V114 7 (j := (7 : Int32)) rfl (Nat.le_of_ble_eq_true rfl) ⟨by decide, by decide⟩ (g := gK k117) rfl rfl (hb hby at_250)
      have N118 := Fr.snoc X118 N114 g_b81
      have Zs118 : n0 ≤ h118.size := Nat.le_trans Zs114 (Keep.of_wr W118).1
      have k121 : Kq X0 maxLocals T118 (mkF m 256 (oL88 p0 p1 p2 b30 b57 xs75) [(.int (own_ch p2)), (.int (8 : Int32)), (.ref b81), (.ref b81), (.ref b78), (.ref b78)]) := fun t k => k117 t (st118 _ (XS.dup X118.here hx rfl (hb hby at_251) rfl rfl (XS.bipush X118.here hx rfl (hb hby at_252) (XS.iload X118.here hx rfl (hb hby at_254) rfl k))))
      obtain ⟨T122, h122, X122, e122, W122, V122, st122⟩ := own_stC X118 hx hZ75 e118 V118 8 (j := (8 : Int32)) rfl (Nat.le_of_ble_eq_true rfl) ⟨by decide, by decide⟩ (g := gK k121) rfl rfl (hb hby at_256)
      have N122 := Fr.snoc X122 N118 g_b81
      have Zs122 : n0 ≤ h122.size := Nat.le_trans Zs118 (Keep.of_wr W122).1
      have od124 := ((((((((od86.wr W89 g_b81).wr W93 g_b81).wr W97 g_b81).wr W101 g_b81).wr W109 g_b81).wr W114 g_b81).wr W118 g_b81).wr W122 g_b81)
      have k126 : Kq X0 maxLocals T122 (mkF m 262 (oL88 p0 p1 p2 b30 b57 xs75) [(.int (own_hi p2)), (.int (9 : Int32)), (.ref b81), (.ref b81), (.ref b78), (.ref b78)]) := fun t k => k121 t (st122 _ (XS.dup X122.here hx rfl (hb hby at_257) rfl rfl (XS.bipush X122.here hx rfl (hb hby at_258) (XS.iload X122.here hx rfl (hb hby at_260) rfl k))))
      obtain ⟨T127, h127, X127, e127, W127, V127, st127⟩ := own_stC X122 hx hZ75 e122 V122 9 (j := (9 : Int32)) rfl (Nat.le_of_ble_eq_true rfl) ⟨by decide, by decide⟩ (g := gK k126) rfl rfl (hb hby at_262)
      have V_b81_262 : Arv Z h127 b81 ka81 .char (10 : Int32) ((.int (nC 97)) :: (.int (nC 116)) :: (.int (nC 32)) :: (.int (nC 109)) :: (.int (nC 111)) :: (.int (nC 115)) :: (.int (nC 116)) :: (.int (nC 32)) :: (.int (nar .char (own_ch p2))) :: (.int (nar .char (own_hi p2))) :: []) (.int (0 : Int32)) := V127
      have N127 := Fr.snoc X127 N122 g_b81
      have Zs127 : n0 ≤ h127.size := Nat.le_trans Zs122 (Keep.of_wr W127).1
      have fc129 := (((((fc103.other W109 (Or.inl ne_xs75_b81)).other W114 (Or.inl ne_xs75_b81)).other W118 (Or.inl ne_xs75_b81)).other W122 (Or.inl ne_xs75_b81)).other W127 (Or.inl ne_xs75_b81))
      have fc130 := (((((fc104.other W109 (Or.inl ne_xs75_b81)).other W114 (Or.inl ne_xs75_b81)).other W118 (Or.inl ne_xs75_b81)).other W122 (Or.inl ne_xs75_b81)).other W127 (Or.inl ne_xs75_b81))
      have fc131 := (((((fc105.other W109 (Or.inl ne_b78_b81)).other W114 (Or.inl ne_b78_b81)).other W118 (Or.inl ne_b78_b81)).other W122 (Or.inl ne_b78_b81)).other W127 (Or.inl ne_b78_b81))
      have fc132 := (((((fc106.other W109 (Or.inl ne_b78_b81)).other W114 (Or.inl ne_b78_b81)).other W118 (Or.inl ne_b78_b81)).other W122 (Or.inl ne_b78_b81)).other W127 (Or.inl ne_b78_b81))
      have k133 : Kq X0 maxLocals T127 (mkF m 263 (oL88 p0 p1 p2 b30 b57 xs75) [(.ref b81), (.ref b78), (.ref b78)]) := fun t k => k126 t (st127 _ k)
      have hp134 : ∀ c ∈ (((nC 97) :: (nC 116) :: (nC 32) :: (nC 109) :: (nC 111) :: (nC 115) :: (nC 116) :: (nC 32) :: (nar .char (own_ch p2)) :: (nar .char (own_hi p2)) :: []) : List Int32), ¬ c < 0 ∧ ¬ (255 : Int32) < c := by
        intro c hc
        simp only [List.mem_cons, List.not_mem_nil, or_false] at hc
        rcases hc with rfl | rfl | rfl | rfl | rfl | rfl | rfl | rfl | rfl | rfl
        · exact by decide
        · exact by decide
        · exact by decide
        · exact by decide
        · exact by decide
        · exact by decide
        · exact by decide
        · exact by decide
        · exact own_ch_ok _
        · exact own_hi_ok _
      obtain ⟨_, _, ⟨T134, L134, kq134, n134⟩, -, X134, ⟨Lc134, hQ134, l134, y134, z134⟩, st134⟩ := X127.specialBack hx (y := mN32) rfl hown75 (mw hZ75 hw 62 rfl) (mw hZ75 hw 63 rfl) (mw hZ75 hw 64 rfl) (by decide) (StrChars.Road.backV (W := 1) hZ75 hws (kI := 4) (ww hw 5 rfl) (cs := (((nC 97) :: (nC 116) :: (nC 32) :: (nC 109) :: (nC 111) :: (nC 115) :: (nC 116) :: (nC 32) :: (nar .char (own_ch p2)) :: (nar .char (own_hi p2)) :: []) : List Int32)) (bs := ((((nC 97) :: (nC 116) :: (nC 32) :: (nC 109) :: (nC 111) :: (nC 115) :: (nC 116) :: (nC 32) :: (nar .char (own_ch p2)) :: (nar .char (own_hi p2)) :: []) : List Int32)).map (fun c => c.toInt8.toInt32)) (n := 10) g_b78 Zs127 (((((((((((A78.ext E81).wr W84).wr W89).wr W93).wr W97).wr W101).wr W109).wr W114).wr W118).wr W122).wr W127) fc131 fc132 V_b81_262 (O2.ext (od124.wr W127 g_b81).2) P5 rfl rfl (by decide) (by decide) hp134 rfl (by decide) (by decide)) (g := gK k133) rfl (by rw [hml]; rfl) (Steps.refl _) (a := b78) (argsL := [(.ref b81)]) (rest := [(.ref b78)]) (lenOf pd_25 rfl) rfl (by show 2 * 0 + _ ≤ _; exact Nat.le_of_eq rfl) (hb hby at_263) (fun _ _ => ⟨rfl, e127, (by decide : 18 + 1 ≤ _), (by decide : 138 + 10 ≤ _)⟩)
      dsimp only [Pt.U, Pt.locs, Pt.cells, Pt.slots] at X134 l134 y134 z134 st134 hQ134
      replace l134 := l134.symm; subst l134 y134 z134
      obtain ⟨rfl, N134q, K134, Ex134, Cx134, t134, kb134, gt134, zt134, nt134, Vx134, Ax134⟩ := hQ134
      have N134 := Fr.app N127 N134q
      have hpe : ∀ c ∈ (((nC 97) :: (nC 116) :: (nC 32) :: (nC 109) :: (nC 111) :: (nC 115) :: (nC 116) :: (nC 32) :: (nar .char (own_ch p2)) :: (nar .char (own_hi p2)) :: []) : List Int32), ¬ c < 0 ∧ ¬ (255 : Int32) < c := hp134
      have hcd : StrChars.Road.CodA (((nC 97) :: (nC 116) :: (nC 32) :: (nC 109) :: (nC 111) :: (nC 115) :: (nC 116) :: (nC 32) :: (nar .char (own_ch p2)) :: (nar .char (own_hi p2)) :: []) : List Int32) 0 (10 : Int32) (oB ((nC 97) :: (nC 116) :: (nC 32) :: (nC 109) :: (nC 111) :: (nC 115) :: (nC 116) :: (nC 32) :: (nar .char (own_ch p2)) :: (nar .char (own_hi p2)) :: [])) := StrChars.Road.codOf (n := 10) rfl (fun c hc => (hpe c hc).2)
      have hWe : W75 = (oB ((nC 97) :: (nC 116) :: (nC 32) :: (nC 109) :: (nC 111) :: (nC 115) :: (nC 116) :: (nC 32) :: (nar .char (own_ch p2)) :: (nar .char (own_hi p2)) :: [])) := hW75.trans (by simp only [own_c32, own_c97, own_c109, own_c111, own_c115, own_c116]; rfl)
      have Vse : Arv Z T134.heap ts75 ks75 .byte (10 : Int32) (oB ((nC 97) :: (nC 116) :: (nC 32) :: (nC 109) :: (nC 111) :: (nC 115) :: (nC 116) :: (nC 32) :: (nar .char (own_ch p2)) :: (nar .char (own_hi p2)) :: [])) (.int (0 : Int32)) := by rw [← hWe]; exact (((((fc111.other W114 ne_ts75_b81).other W118 ne_ts75_b81).other W122 ne_ts75_b81).other W127 ne_ts75_b81).keep K134 (ninS ne_ts75_b78 nin0))
      have k137 : Kq X0 maxLocals T134 (mkF m 463 (oL89 p0 p1 p2 b30 b57 xs75 b78) [(.ref xs75), (.ref b78)]) := fun t k => k133 t (st134.trans (XS.astore X134.here hx rfl (hb hby at_266) rfl rfl (l' := (oL89 p0 p1 p2 b30 b57 xs75 b78)) rfl (XS.goto X134.here hx rfl (pc0 := 268) (pc' := 459) rfl (hb hby at_268) (by decide) (by decide) (XS.aload X134.here hx rfl (hb hby at_459) rfl rfl (XS.aload X134.here hx rfl (hb hby at_461) rfl rfl k)))))
      obtain ⟨cq138, kcq138, q138a, q138b, q138c⟩ := isOf hZ75 rfl Ex134
      obtain ⟨_, _, ⟨T138, L138, kq138, n138⟩, -, X138, ⟨Lc138, hQ138, l138, y138, z138⟩, st138⟩ := X134.virtualBack hx (y := mN31) (z := mN31) hown75 (mw hZ75 hw 55 rfl) (mw hZ75 hw 56 rfl) (notFace_of_selects (args := #[]) (mw hZ75 hw 58 rfl)) (mw hZ75 hw 58 rfl) (mw hZ75 hw 57 rfl) (by decide) (StrChars.Road.eqW (W := 0) hZ75 heqw (kI := 4) (ww hw 5 rfl) Ex134 Vx134 Cx134 Ax134 hcd (own_up _ hpe) (Nat.le_of_ble_eq_true rfl) (((((((((((((Ex75.ext E78).ext E81).wr W84).wr W89).wr W93).wr W97).wr W101).wr W109).wr W114).wr W118).wr W122).wr W127).keep K134) (fc129.keep K134 (ninS ne_xs75_b78 nin0)) (fc130.keep K134 (ninS ne_xs75_b78 nin0)) Vse hcd (own_up _ hpe) (Nat.le_of_ble_eq_true rfl) (O2.ext ((od124.wr W127 g_b81).keep K134 (allS g_b78 all0)).2) P5 (by decide) (by decide)) q138a q138c (g := gK k137) rfl (by rw [hml]; rfl) (Steps.refl _) (argsL := [(.ref xs75)]) (rest := []) (lenOf pd_24 rfl) rfl (by show 2 * 0 + _ ≤ _; exact Nat.le_of_eq rfl) (hb hby at_463) (fun _ _ => ⟨rfl, rfl, (by decide : 19 + 0 ≤ _), (by decide : 148 + 0 ≤ _)⟩)
      dsimp only [Pt.U, Pt.locs, Pt.cells, Pt.slots] at X138 l138 y138 z138 st138 hQ138
      replace l138 := l138.symm; subst l138 y138 z138
      obtain ⟨hcase138, rfl, e138⟩ := hQ138
      obtain rfl : _ = some (Value.int 1) := by rcases hcase138 with ⟨q, -⟩ | ⟨-, q⟩; exact q; exact absurd rfl q
      have N138 := Fr.app N134 (Fr.nil n0)
      have k139 : Kq X0 maxLocals T138 (mkF m 466 (oL89 p0 p1 p2 b30 b57 xs75 b78) [(.int (1 : Int32))]) := fun t k => k137 t (st138.trans k)
      obtain ⟨fs, hr, hrun, hended, w1, w2, w3, w4⟩ := X138.leaveW (s := s) (vm₁ := T75.vm) Sn75 (by rw [e138]; exact (Nat.le_trans (Nat.le_trans (Nat.le_trans (Nat.le_trans (Nat.le_trans (Nat.le_trans (Nat.le_trans (Nat.le_trans (Nat.le_trans (Nat.le_trans (Nat.le_trans (Nat.le_trans (Nat.le_trans (Nat.le_refl _) E78.1) E81.1) (Keep.of_wr W84).1) (Keep.of_wr W89).1) (Keep.of_wr W93).1) (Keep.of_wr W97).1) (Keep.of_wr W101).1) (Keep.of_wr W109).1) (Keep.of_wr W114).1) (Keep.of_wr W118).1) (Keep.of_wr W122).1) (Keep.of_wr W127).1) K134.1)) (v := (some (.int (1 : Int32)))) (fun h => by rw [Bd.returns] at h; cases h)
      refine ⟨_, _, k139 _ ?_, hrun, hended, _, _, rfl, ?_, w1, w2, w3, w4.mono (by decide) (by decide)⟩
      · exact retN X138 hx (t := .boolean) Bd.returns (by simp) (hb hby at_466) hr
      · show Q0 Z p0 p1 p2 G1 h0 n0 _ T138.heap _
        rw [e138]
        exact ⟨rfl, N138⟩
  · have k140 : Kq X0 maxLocals s₁ (mkF m 53 (oL90 p0 p1 p2) [(.int (p0 &&& (2 : Int32)))]) := fun t k => k1 t (XS.ifNo X0.here hx rfl (hb hby at_40) rfl ((if0 _ _).trans (feq hc40).1) (XS.iconst X0.here hx rfl (hb hby at_43) (XS.goto X0.here hx rfl (pc0 := 44) (pc' := 48) rfl (hb hby at_44) (by decide) (by decide) (XS.istore X0.here hx rfl (hb hby at_48) rfl (l' := (oL90 p0 p1 p2)) rfl (XS.iloadN X0.here hx rfl (hb hby at_50) rfl (XS.iconst X0.here hx rfl (hb hby at_51) (show Sg X0 s₁ 52 (oL90 p0 p1 p2) [(.int (2 : Int32)), (.int p0)] t from (XS.iand X0.here hx rfl (hb hby at_52) rfl k))))))))
    by_cases hc53 : (p0 &&& (2 : Int32)) = (0 : Int32)
    · have hc65 : ¬ ((1 : Int32) = (0 : Int32)) := by decide
      have k141 : Kq X0 maxLocals s₁ (mkF m 68 (oL91 p0 p1 p2) []) := fun t k => k140 t (XS.ifYes X0.here hx rfl (pc0 := 53) (pc' := 60) rfl (hb hby at_53) rfl ((if0 _ _).trans (teq hc53).1) (by decide) (by decide) (XS.iconst X0.here hx rfl (hb hby at_60) (XS.istore X0.here hx rfl (hb hby at_61) rfl (l' := (oL91 p0 p1 p2)) rfl (XS.iload X0.here hx rfl (hb hby at_63) rfl (XS.ifNo X0.here hx rfl (hb hby at_65) rfl ((if0 _ _).trans (feq hc65).1) k)))))
      obtain ⟨T142, h142, X142, e142, E142, A142, D142, -, st142⟩ := newO X0 hx hZ hown (ww hw 0 rfl) (ww hw 1 rfl) (ww hw 2 rfl) e0 (g := gK k141) rfl (hb hby at_68) (by decide) (by decide)
      obtain ⟨b142, g142⟩ : ∃ z, z = h0.size := ⟨_, rfl⟩
      rw [← g142] at A142 D142 st142
      have F_value_b142 : Fld Z h142 b142 "com/example/covenantry/covenantry/Figure" "value" "Ljava/lang/String;" .null := D142 (Or.inr (ww hw 21 rfl)) (ty := (.object "java/lang/String")) (by decide)
      have F_section_b142 : Fld Z h142 b142 "com/example/covenantry/covenantry/Figure" "section" "Ljava/lang/String;" .null := D142 (Or.inr (ww hw 23 rfl)) (ty := (.object "java/lang/String")) (by decide)
      have F_line_b142 : Fld Z h142 b142 "com/example/covenantry/covenantry/Figure" "line" "I" (.int (0 : Int32)) := D142 (Or.inr (ww hw 25 rfl)) (ty := .int) (by decide)
      have F_text_b142 : Fld Z h142 b142 "com/example/covenantry/covenantry/Figure" "text" "Ljava/lang/String;" .null := D142 (Or.inr (ww hw 27 rfl)) (ty := (.object "java/lang/String")) (by decide)
      have F_derivedFrom_b142 : Fld Z h142 b142 "com/example/covenantry/covenantry/Figure" "derivedFrom" "Ljava/lang/String;" .null := D142 (Or.inr (ww hw 29 rfl)) (ty := (.object "java/lang/String")) (by decide)
      have g_b142 : n0 ≤ b142 := Nat.le_trans Z0 (Nat.le_of_eq g142.symm)
      have Zs142 : n0 ≤ h142.size := Nat.le_trans Z0 E142.1
      have k144 : Kq X0 maxLocals T142 (mkF m 72 (oL91 p0 p1 p2) [(.ref b142), (.ref b142)]) := fun t k => k141 t (st142 _ (XS.dup X142.here hx rfl (hb hby at_71) rfl rfl k))
      obtain ⟨T145, h145, X145, e145, E145, A145, D145, -, st145⟩ := newO X142 hx hZ hown (ww hw 60 rfl) (ww hw 5 rfl) (ww hw 4 rfl) e142 (g := gK k144) rfl (hb hby at_72) (by decide) (by decide)
      obtain ⟨b145, g145⟩ : ∃ z, z = h142.size := ⟨_, rfl⟩
      rw [← g145] at A145 D145 st145
      have ne_b142_b145 : b142 ≠ b145 := Nat.ne_of_lt (Nat.lt_of_lt_of_le F_value_b142.lt (Nat.le_of_eq g145.symm))
      have sn_b145 : Safe Z own_EL s.vm h145 b145 := Safe.ext E145 (CHv.ext E142 hch) (Safe.new (Nat.le_of_eq g145.symm))
      have F_value_b145 : Fld Z h145 b145 "java/lang/String" "value" "[B" .null := D145 (Or.inr (ww hw 7 rfl)) (ty := (.array .byte)) (by decide)
      have F_coder_b145 : Fld Z h145 b145 "java/lang/String" "coder" "B" (.int (0 : Int32)) := D145 (Or.inr (ww hw 8 rfl)) (ty := .byte) (by decide)
      have g_b145 : n0 ≤ b145 := Nat.le_trans Zs142 (Nat.le_of_eq g145.symm)
      have Zs145 : n0 ≤ h145.size := Nat.le_trans Zs142 E145.1
      have k147 : Kq X0 maxLocals T145 (mkF m 77 (oL91 p0 p1 p2) [(.int (2 : Int32)), (.ref b145), (.ref b145), (.ref b142), (.ref b142)]) := fun t k => k144 t (st145 _ (XS.dup X145.here hx rfl (hb hby at_75) rfl rfl (XS.iconst X145.here hx rfl (hb hby at_76) k)))
      obtain ⟨T148, h148, ka148, X148, e148, E148, A148, st148⟩ := newP X145 hx hZ (ww hw 61 rfl) e145 (g := gK k147) rfl (hb hby at_77) rfl (by decide) (cap := 2) (by decide) (by decide) (by decide) (by decide)
      obtain ⟨b148, g148⟩ : ∃ z, z = h145.size := ⟨_, rfl⟩
      rw [← g148] at A148 st148
      have ne_b142_b148 : b142 ≠ b148 := Nat.ne_of_lt (Nat.lt_of_lt_of_le (F_value_b142.ext E145).lt (Nat.le_of_eq g148.symm))
      have ne_b145_b148 : b145 ≠ b148 := Nat.ne_of_lt (Nat.lt_of_lt_of_le F_value_b145.lt (Nat.le_of_eq g148.symm))
      have sn_b148 : Safe Z own_EL s.vm h148 b148 := Safe.ext E148 (CHv.ext E145 (CHv.ext E142 hch)) (Safe.new (Nat.le_of_eq g148.symm))
      have V_b148 : Arv Z h148 b148 ka148 .char (2 : Int32) [(.int (0 : Int32)), (.int (0 : Int32))] (.int (0 : Int32)) := (Arv.new A148 (by decide)).pad (pad_rep [] (.int (0 : Int32)) 2)
      have g_b148 : n0 ≤ b148 := Nat.le_trans Zs145 (Nat.le_of_eq g148.symm)
      have Zs148 : n0 ≤ h148.size := Nat.le_trans Zs145 E148.1
      have k150 : Kq X0 maxLocals T148 (mkF m 82 (oL91 p0 p1 p2) [(.int (own_ch p1)), (.int (0 : Int32)), (.ref b148), (.ref b148), (.ref b145), (.ref b145), (.ref b142), (.ref b142)]) := fun t k => k147 t (st148 _ (XS.dup X148.here hx rfl (hb hby at_79) rfl rfl (XS.iconst X148.here hx rfl (hb hby at_80) (XS.iloadN X148.here hx rfl (hb hby at_81) rfl k))))
      obtain ⟨T151, h151, X151, e151, W151, V151, st151⟩ := own_stC X148 hx hZ e148 V_b148 0 (j := (0 : Int32)) rfl (Nat.le_of_ble_eq_true rfl) ⟨by decide, by decide⟩ (g := gK k150) rfl rfl (hb hby at_82)
      have N151 := Fr.snoc X151 N0 g_b148
      have Zs151 : n0 ≤ h151.size := Nat.le_trans Zs148 (Keep.of_wr W151).1
      have so152 := sn_b148
      have sw152_1 := Safe.wr W151 so152 (CHv.ext E148 (CHv.ext E145 (CHv.ext E142 hch))) (Safe.ext E148 (CHv.ext E145 (CHv.ext E142 hch)) sn_b145)
      have sw152_2 := Safe.wr W151 so152 (CHv.ext E148 (CHv.ext E145 (CHv.ext E142 hch))) sn_b148
      have cw152 := CHr.trans ((((CHr.refl hch).trans (CHr.ext E142 hch)).trans (CHr.ext E145 (CHv.ext E142 hch))).trans (CHr.ext E148 (CHv.ext E145 (CHv.ext E142 hch)))) (CHr.wr W151 so152 (CHv.ext E148 (CHv.ext E145 (CHv.ext E142 hch))))
      have k154 : Kq X0 maxLocals T151 (mkF m 87 (oL91 p0 p1 p2) [(.int (own_hi p1)), (.int (1 : Int32)), (.ref b148), (.ref b148), (.ref b145), (.ref b145), (.ref b142), (.ref b142)]) := fun t k => k150 t (st151 _ (XS.dup X151.here hx rfl (hb hby at_83) rfl rfl (XS.iconst X151.here hx rfl (hb hby at_84) (XS.iload X151.here hx rfl (hb hby at_85) rfl k))))
      obtain ⟨T155, h155, X155, e155, W155, V155, st155⟩ := own_stC X151 hx hZ e151 V151 1 (j := (1 : Int32)) rfl (Nat.le_of_ble_eq_true rfl) ⟨by decide, by decide⟩ (g := gK k154) rfl rfl (hb hby at_87)
      have V_b148_87 : Arv Z h155 b148 ka148 .char (2 : Int32) [(.int (nar .char (own_ch p1))), (.int (nar .char (own_hi p1)))] (.int (0 : Int32)) := V155
      have N155 := Fr.snoc X155 N151 g_b148
      have Zs155 : n0 ≤ h155.size := Nat.le_trans Zs151 (Keep.of_wr W155).1
      have so156 := sw152_2
      have sw156_1 := Safe.wr W155 so156 cw152.1 sw152_1
      have cw156 := CHr.trans cw152 (CHr.wr W155 so156 cw152.1)
      have k157 : Kq X0 maxLocals T155 (mkF m 88 (oL91 p0 p1 p2) [(.ref b148), (.ref b145), (.ref b145), (.ref b142), (.ref b142)]) := fun t k => k154 t (st155 _ k)
      have hp158 : ∀ c ∈ ([(nar .char (own_ch p1)), (nar .char (own_hi p1))] : List Int32), ¬ c < 0 ∧ ¬ (255 : Int32) < c := by
        intro c hc
        simp only [List.mem_cons, List.not_mem_nil, or_false] at hc
        rcases hc with rfl | rfl
        · exact own_ch_ok _
        · exact own_hi_ok _
      obtain ⟨_, _, ⟨T158, L158, kq158, n158⟩, -, X158, ⟨Lc158, hQ158, l158, y158, z158⟩, st158⟩ := X155.specialBack hx (y := mN32) rfl hown (mw hZ hw 62 rfl) (mw hZ hw 63 rfl) (mw hZ hw 64 rfl) (by decide) (StrChars.Road.backV (W := 3) hZ hws (kI := 4) (ww hw 5 rfl) (cs := ([(nar .char (own_ch p1)), (nar .char (own_hi p1))] : List Int32)) (bs := (([(nar .char (own_ch p1)), (nar .char (own_hi p1))] : List Int32)).map (fun c => c.toInt8.toInt32)) (n := 2) g_b145 Zs155 (((A145.ext E148).wr W151).wr W155) (((F_value_b145.ext E148).other W151 (Or.inl ne_b145_b148)).other W155 (Or.inl ne_b145_b148)) (((F_coder_b145.ext E148).other W151 (Or.inl ne_b145_b148)).other W155 (Or.inl ne_b145_b148)) V_b148_87 (O2.ext (((((X00.ext E142).ext E145).ext E148).wr W151 g_b148).wr W155 g_b148).2) P5 rfl rfl (by decide) (by decide) hp158 rfl (by decide) (by decide)) (g := gK k157) rfl (by rw [hml]; rfl) (Steps.refl _) (a := b145) (argsL := [(.ref b148)]) (rest := [(.ref b145), (.ref b142), (.ref b142)]) (lenOf pd_25 rfl) rfl (by show 2 * 0 + _ ≤ _; exact Nat.le_of_eq rfl) (hb hby at_88) (fun _ _ => ⟨rfl, e155, (by decide : 3 + 1 ≤ _), (by decide : 11 + 2 ≤ _)⟩)
      dsimp only [Pt.U, Pt.locs, Pt.cells, Pt.slots] at X158 l158 y158 z158 st158 hQ158
      replace l158 := l158.symm; subst l158 y158 z158
      obtain ⟨rfl, N158q, K158, Ex158, Cx158, t158, kb158, gt158, zt158, nt158, Vx158, Ax158⟩ := hQ158
      have N158 := Fr.app N155 N158q
      have ne_b142_t158 : b142 ≠ t158 := Nat.ne_of_lt (Nat.lt_of_lt_of_le ((((F_value_b142.ext E145).ext E148).other W151 (Or.inl ne_b142_b148)).other W155 (Or.inl ne_b142_b148)).lt zt158)
      have sk159 : ∀ x ∈ ([b145] : List Addr), Safe Z own_EL s.vm h155 x := (allS sw156_1 all0)
      have cc159 := CHr.trans cw156 (CHr.keep K158 sk159 cw156.1)
      have Zs158 : n0 ≤ T158.heap.size := Nat.le_trans Zs155 K158.1
      have k161 : Kq X0 maxLocals T158 (mkF m 93 (oL91 p0 p1 p2) [(.int (1 : Int32)), .null, (.ref b145), (.ref b142), (.ref b142)]) := fun t k => k157 t (st158.trans (XS.aconstNull X158.here hx rfl (hb hby at_91) (XS.iconst X158.here hx rfl (hb hby at_92) k)))
      obtain ⟨a162, T162, h162, j162, t162, kb162, X162, e162, E162, Sn162, jk162, hZ162, hown162, Ex162, Cx162, Vx162, Ax162, la162, lb162, cr162, Lt162, sf162, st162⟩ := ldcCH (s := s) (vm0 := s.vm) X158 hx hZ hown (ww hw 83 rfl) hsa rfl ((State.WarmedH.refl s).since h0.size) (Nat.le_trans (Nat.le_trans (Nat.le_trans (Nat.le_trans (Nat.le_trans (Nat.le_trans (Nat.le_refl h0.size) E142.1) E145.1) E148.1) (Keep.of_wr W151).1) (Keep.of_wr W155).1) K158.1) hEL (by simp [own_EL]) cc159.1 (vs := (oB [120])) (z := (1 : Int32)) ⟨by decide, by decide +kernel⟩ (by decide) (by decide) (g := gK k161) rfl (hb hby at_93) (n := 4) (by decide) (by decide) (by decide) (by decide)
      have Zs162 : n0 ≤ h162.size := Nat.le_trans Zs158 E162.1
      have k163 : Kq X0 maxLocals T162 (mkF m 95 (oL91 p0 p1 p2) [(.ref a162), (.int (1 : Int32)), .null, (.ref b145), (.ref b142), (.ref b142)]) := fun t k => k161 t (st162 _ k)
      obtain ⟨_, _, ⟨T164, L164, kq164, n164⟩, -, X164, ⟨Lc164, hQ164, l164, y164, z164⟩, st164⟩ := X162.specialBack hx (y := mN26) rfl hown162 (mw hZ162 hw 11 rfl) (mw hZ162 hw 12 rfl) (mw hZ162 hw 13 rfl) (by decide) (backOf (W := 1) (rm1 l Z a0 hw [] b142 b145 a162 h162 n0 Zs162 ((((((F_value_b142.ext E145).ext E148).other W151 (Or.inl ne_b142_b148)).other W155 (Or.inl ne_b142_b148)).keep K158 (ninS ne_b142_b145 nin0)).ext E162) ((((((F_section_b142.ext E145).ext E148).other W151 (Or.inl ne_b142_b148)).other W155 (Or.inl ne_b142_b148)).keep K158 (ninS ne_b142_b145 nin0)).ext E162) ((((((F_line_b142.ext E145).ext E148).other W151 (Or.inl ne_b142_b148)).other W155 (Or.inl ne_b142_b148)).keep K158 (ninS ne_b142_b145 nin0)).ext E162) ((((((F_text_b142.ext E145).ext E148).other W151 (Or.inl ne_b142_b148)).other W155 (Or.inl ne_b142_b148)).keep K158 (ninS ne_b142_b145 nin0)).ext E162) ((((((F_derivedFrom_b142.ext E145).ext E148).other W151 (Or.inl ne_b142_b148)).other W155 (Or.inl ne_b142_b148)).keep K158 (ninS ne_b142_b145 nin0)).ext E162) ((((((A142.ext E145).ext E148).wr W151).wr W155).keep K158).ext E162) g_b142) hZ162 (ww hw 13 rfl) (ww hw 2 rfl) (by decide) (by decide)) (g := gK k163) rfl (by rw [hml]; rfl) (Steps.refl _) (a := b142) (argsL := [(.ref b145), .null, (.int (1 : Int32)), (.ref a162)]) (rest := [(.ref b142)]) (lenOf pd_22 rfl) rfl (by show 2 * 0 + _ ≤ _; exact Nat.le_of_eq rfl) (hb hby at_95) (fun _ _ => ⟨rfl, e162, (by decide : 6 + 0 ≤ _), (by decide : 21 + 0 ≤ _)⟩)
      dsimp only [Pt.U, Pt.locs, Pt.cells, Pt.slots] at X164 l164 y164 z164 st164 hQ164
      replace l164 := l164.symm; subst l164 y164 z164
      obtain ⟨rfl, N164q, K164, Ex164, Fx164_0, Fx164_1, Fx164_2, Fx164_3, Fx164_4⟩ := hQ164
      have N164 := Fr.app N158 N164q
      have sk165 : ∀ x ∈ ([b142] : List Addr), Safe Z own_EL T162.vm h162 x := (allS (Safe.exa hZ162.alike ((((((A142.ext E145).ext E148).wr W151).wr W155).keep K158).ext E162) (by decide) (by decide)) all0)
      have cc165 := CHr.trans (cc159.trans cr162) (CHr.keep K164 sk165 cr162.1)
      have od166 := ((((((((X00.ext E142).ext E145).ext E148).wr W151 g_b148).wr W155 g_b148).keep K158 (allS g_b145 all0)).ext E162).keep K164 (allS g_b142 all0))
      have Zs164 : n0 ≤ T164.heap.size := Nat.le_trans Zs162 K164.1
      have hc106 : (0 : Int32) = (0 : Int32) := by decide
      have k168 : Kq X0 maxLocals T164 (mkF m 146 (oL92 p0 p1 p2 b142) []) := fun t k => k163 t (st164.trans (XS.goto X164.here hx rfl (pc0 := 98) (pc' := 102) rfl (hb hby at_98) (by decide) (by decide) (XS.astore X164.here hx rfl (hb hby at_102) rfl rfl (l' := (oL93 p0 p1 p2 b142)) rfl (XS.iload X164.here hx rfl (hb hby at_104) rfl (XS.ifYes X164.here hx rfl (pc0 := 106) (pc' := 143) rfl (hb hby at_106) rfl ((if0 _ _).trans (teq hc106).1) (by decide) (by decide) (XS.aconstNull X164.here hx rfl (hb hby at_143) (XS.astore X164.here hx rfl (hb hby at_144) rfl rfl (l' := (oL92 p0 p1 p2 b142)) rfl k)))))))
      obtain ⟨T169, h169, X169, e169, E169, A169, D169, -, st169⟩ := newO X164 hx hZ162 hown162 (ww hw 0 rfl) (ww hw 1 rfl) (ww hw 2 rfl) rfl (g := gK k168) rfl (hb hby at_146) (by decide) (by decide)
      obtain ⟨b169, g169⟩ : ∃ z, z = T164.heap.size := ⟨_, rfl⟩
      rw [← g169] at A169 D169 st169
      have ne_b142_b169 : b142 ≠ b169 := Nat.ne_of_lt (Nat.lt_of_lt_of_le Fx164_0.lt (Nat.le_of_eq g169.symm))
      have ne_b145_b169 : b145 ≠ b169 := Nat.ne_of_lt (Nat.lt_of_lt_of_le ((Vx158.ext E162).keep K164 (ninS ne_b142_b145.symm nin0)).lt (Nat.le_of_eq g169.symm))
      have ne_t158_b169 : t158 ≠ b169 := Nat.ne_of_lt (Nat.lt_of_lt_of_le ((Ax158.ext E162).keep K164 (ninS ne_b142_t158.symm nin0)).lt (Nat.le_of_eq g169.symm))
      have F_value_b169 : Fld Z h169 b169 "com/example/covenantry/covenantry/Figure" "value" "Ljava/lang/String;" .null := D169 (Or.inr (ww hw 21 rfl)) (ty := (.object "java/lang/String")) (by decide)
      have F_section_b169 : Fld Z h169 b169 "com/example/covenantry/covenantry/Figure" "section" "Ljava/lang/String;" .null := D169 (Or.inr (ww hw 23 rfl)) (ty := (.object "java/lang/String")) (by decide)
      have F_line_b169 : Fld Z h169 b169 "com/example/covenantry/covenantry/Figure" "line" "I" (.int (0 : Int32)) := D169 (Or.inr (ww hw 25 rfl)) (ty := .int) (by decide)
      have F_text_b169 : Fld Z h169 b169 "com/example/covenantry/covenantry/Figure" "text" "Ljava/lang/String;" .null := D169 (Or.inr (ww hw 27 rfl)) (ty := (.object "java/lang/String")) (by decide)
      have F_derivedFrom_b169 : Fld Z h169 b169 "com/example/covenantry/covenantry/Figure" "derivedFrom" "Ljava/lang/String;" .null := D169 (Or.inr (ww hw 29 rfl)) (ty := (.object "java/lang/String")) (by decide)
      have g_b169 : n0 ≤ b169 := Nat.le_trans Zs164 (Nat.le_of_eq g169.symm)
      have Zs169 : n0 ≤ h169.size := Nat.le_trans Zs164 E169.1
      have k171 : Kq X0 maxLocals T169 (mkF m 150 (oL92 p0 p1 p2 b142) [(.ref b169), (.ref b169)]) := fun t k => k168 t (st169 _ (XS.dup X169.here hx rfl (hb hby at_149) rfl rfl k))
      obtain ⟨a172, T172, h172, j172, t172, kb172, X172, e172, E172, Sn172, jk172, hZ172, hown172, Ex172, Cx172, Vx172, Ax172, la172, lb172, cr172, Lt172, sf172, st172⟩ := ldcCH (s := s) (vm0 := T162.vm) X169 hx hZ162 hown162 (ww hw 3 rfl) hsa e169 Sn162 (Nat.le_trans (Nat.le_trans jk162 K164.1) E169.1) hEL (by simp [own_EL]) (CHv.ext E169 cc165.1) (vs := (oB [48, 46, 51, 55, 53])) (z := (5 : Int32)) ⟨by decide, by decide +kernel⟩ (by decide) (by decide) (g := gK k171) rfl (hb hby at_150) (n := 20) (by decide) (by decide) (by decide) (by decide)
      have Zs172 : n0 ≤ h172.size := Nat.le_trans Zs169 E172.1
      have k174 : Kq X0 maxLocals T172 (mkF m 154 (oL92 p0 p1 p2 b142) [(.int (1 : Int32)), .null, (.ref a172), (.ref b169), (.ref b169)]) := fun t k => k171 t (st172 _ (XS.aconstNull X172.here hx rfl (hb hby at_152) (XS.iconst X172.here hx rfl (hb hby at_153) k)))
      have k175 : Kq X0 maxLocals T172 (mkF m 156 (oL92 p0 p1 p2 b142) [(.ref a172), (.int (1 : Int32)), .null, (.ref a172), (.ref b169), (.ref b169)]) := fun t k => k174 t (ldcAgain (s := s) (vm0 := T172.vm) X172 hx hZ172 hown172 (ww hw 3 rfl) Lt172 (g := (mkF m 154 (oL92 p0 p1 p2 b142) [(.int (1 : Int32)), .null, (.ref a172), (.ref b169), (.ref b169)])) rfl (hb hby at_154) _ k)
      obtain ⟨_, _, ⟨T176, L176, kq176, n176⟩, -, X176, ⟨Lc176, hQ176, l176, y176, z176⟩, st176⟩ := X172.specialBack hx (y := mN26) rfl hown172 (mw hZ172 hw 11 rfl) (mw hZ172 hw 12 rfl) (mw hZ172 hw 13 rfl) (by decide) (backOf (W := 1) (rm1 l Z a0 hw [] b169 a172 a172 h172 n0 Zs172 (F_value_b169.ext E172) (F_section_b169.ext E172) (F_line_b169.ext E172) (F_text_b169.ext E172) (F_derivedFrom_b169.ext E172) (A169.ext E172) g_b169) hZ172 (ww hw 13 rfl) (ww hw 2 rfl) (by decide) (by decide)) (g := gK k175) rfl (by rw [hml]; rfl) (Steps.refl _) (a := b169) (argsL := [(.ref a172), .null, (.int (1 : Int32)), (.ref a172)]) (rest := [(.ref b169)]) (lenOf pd_22 rfl) rfl (by show 2 * 0 + _ ≤ _; exact Nat.le_of_eq rfl) (hb hby at_156) (fun _ _ => ⟨rfl, e172, (by decide : 9 + 0 ≤ _), (by decide : 50 + 0 ≤ _)⟩)
      dsimp only [Pt.U, Pt.locs, Pt.cells, Pt.slots] at X176 l176 y176 z176 st176 hQ176
      replace l176 := l176.symm; subst l176 y176 z176
      obtain ⟨rfl, N176q, K176, Ex176, Fx176_0, Fx176_1, Fx176_2, Fx176_3, Fx176_4⟩ := hQ176
      have N176 := Fr.app N164 N176q
      have sk177 : ∀ x ∈ ([b169] : List Addr), Safe Z own_EL T172.vm h172 x := (allS (Safe.exa hZ172.alike (A169.ext E172) (by decide) (by decide)) all0)
      have cc177 := CHr.trans ((cc165.trans (CHr.ext E169 cc165.1)).trans cr172) (CHr.keep K176 sk177 cr172.1)
      have Zs176 : n0 ≤ T176.heap.size := Nat.le_trans Zs172 K176.1
      have k180 : Kq X0 maxLocals T176 (mkF m 161 (oL94 p0 p1 p2 b142 b169) []) := fun t k => k175 t (st176.trans (XS.astore X176.here hx rfl (hb hby at_159) rfl rfl (l' := (oL94 p0 p1 p2 b142 b169)) rfl k))
      obtain ⟨T181, h181, X181, e181, E181, A181, D181, -, st181⟩ := newO X176 hx hZ172 hown172 (ww hw 30 rfl) (ww hw 31 rfl) (ww hw 32 rfl) rfl (g := gK k180) rfl (hb hby at_161) (by decide) (by decide)
      obtain ⟨b181, g181⟩ : ∃ z, z = T176.heap.size := ⟨_, rfl⟩
      rw [← g181] at A181 D181 st181
      have ne_b142_b181 : b142 ≠ b181 := Nat.ne_of_lt (Nat.lt_of_lt_of_le (((Fx164_0.ext E169).ext E172).keep K176 (ninS ne_b142_b169 nin0)).lt (Nat.le_of_eq g181.symm))
      have ne_b145_b181 : b145 ≠ b181 := Nat.ne_of_lt (Nat.lt_of_lt_of_le (((((Vx158.ext E162).keep K164 (ninS ne_b142_b145.symm nin0)).ext E169).ext E172).keep K176 (ninS ne_b145_b169 nin0)).lt (Nat.le_of_eq g181.symm))
      have ne_t158_b181 : t158 ≠ b181 := Nat.ne_of_lt (Nat.lt_of_lt_of_le (((((Ax158.ext E162).keep K164 (ninS ne_b142_t158.symm nin0)).ext E169).ext E172).keep K176 (ninS ne_t158_b169 nin0)).lt (Nat.le_of_eq g181.symm))
      have F_above_b181 : Fld Z h181 b181 "com/example/covenantry/covenantry/FeeLevel" "above" "Lcom/example/covenantry/covenantry/Figure;" .null := D181 (Or.inr (ww hw 41 rfl)) (ty := (.object "com/example/covenantry/covenantry/Figure")) (by decide)
      have F_atMost_b181 : Fld Z h181 b181 "com/example/covenantry/covenantry/FeeLevel" "atMost" "Lcom/example/covenantry/covenantry/Figure;" .null := D181 (Or.inr (ww hw 43 rfl)) (ty := (.object "com/example/covenantry/covenantry/Figure")) (by decide)
      have F_rate_b181 : Fld Z h181 b181 "com/example/covenantry/covenantry/FeeLevel" "rate" "Lcom/example/covenantry/covenantry/Figure;" .null := D181 (Or.inr (ww hw 45 rfl)) (ty := (.object "com/example/covenantry/covenantry/Figure")) (by decide)
      have F_unreadable_b181 : Fld Z h181 b181 "com/example/covenantry/covenantry/FeeLevel" "unreadable" "Lcom/example/covenantry/covenantry/Unreadable;" .null := D181 (Or.inr (ww hw 47 rfl)) (ty := (.object "com/example/covenantry/covenantry/Unreadable")) (by decide)
      have g_b181 : n0 ≤ b181 := Nat.le_trans Zs176 (Nat.le_of_eq g181.symm)
      have Zs181 : n0 ≤ h181.size := Nat.le_trans Zs176 E181.1
      have k183 : Kq X0 maxLocals T181 (mkF m 171 (oL94 p0 p1 p2 b142 b169) [(.ref b169), .null, (.ref b142), (.ref b181), (.ref b181)]) := fun t k => k180 t (st181 _ (XS.dup X181.here hx rfl (hb hby at_164) rfl rfl (XS.aload X181.here hx rfl (hb hby at_165) rfl rfl (XS.aload X181.here hx rfl (hb hby at_167) rfl rfl (XS.aload X181.here hx rfl (hb hby at_169) rfl rfl k)))))
      obtain ⟨_, _, ⟨T184, L184, kq184, n184⟩, -, X184, ⟨Lc184, hQ184, l184, y184, z184⟩, st184⟩ := X181.specialBack hx (y := mN29) rfl hown172 (mw hZ172 hw 33 rfl) (mw hZ172 hw 34 rfl) (mw hZ172 hw 35 rfl) (by decide) (backOf (W := 1) (rm4l10 l Z a0 hw [] b181 b142 b169 h181 n0 Zs181 F_above_b181 F_atMost_b181 F_rate_b181 F_unreadable_b181 A181 g_b181) hZ172 (ww hw 35 rfl) (ww hw 32 rfl) (by decide) (by decide)) (g := gK k183) rfl (by rw [hml]; rfl) (Steps.refl _) (a := b181) (argsL := [(.ref b142), .null, (.ref b169)]) (rest := [(.ref b181)]) (lenOf pd_23 rfl) rfl (by show 2 * 0 + _ ≤ _; exact Nat.le_of_eq rfl) (hb hby at_171) (fun _ _ => ⟨rfl, e181, (by decide : 10 + 0 ≤ _), (by decide : 54 + 0 ≤ _)⟩)
      dsimp only [Pt.U, Pt.locs, Pt.cells, Pt.slots] at X184 l184 y184 z184 st184 hQ184
      replace l184 := l184.symm; subst l184 y184 z184
      obtain ⟨rfl, N184q, K184, Ex184, Fx184_0, Fx184_1, Fx184_2, Fx184_3⟩ := hQ184
      have N184 := Fr.app N176 N184q
      have sk185 : ∀ x ∈ ([b181] : List Addr), Safe Z own_EL T172.vm h181 x := (allS (Safe.exa hZ172.alike A181 (by decide) (by decide)) all0)
      have cc185 := CHr.trans (cc177.trans (CHr.ext E181 cc177.1)) (CHr.keep K184 sk185 (CHv.ext E181 cc177.1))
      have fc186 := (((((((Vx158.ext E162).keep K164 (ninS ne_b142_b145.symm nin0)).ext E169).ext E172).keep K176 (ninS ne_b145_b169 nin0)).ext E181).keep K184 (ninS ne_b145_b181 nin0))
      have fc187 := (((((((Cx158.ext E162).keep K164 (ninS ne_b142_b145.symm nin0)).ext E169).ext E172).keep K176 (ninS ne_b145_b169 nin0)).ext E181).keep K184 (ninS ne_b145_b181 nin0))
      have fc188 := (((((((Ax158.ext E162).keep K164 (ninS ne_b142_t158.symm nin0)).ext E169).ext E172).keep K176 (ninS ne_t158_b169 nin0)).ext E181).keep K184 (ninS ne_t158_b181 nin0))
      have Zs184 : n0 ≤ T184.heap.size := Nat.le_trans Zs181 K184.1
      have k189 : Kq X0 maxLocals T184 (mkF m 174 (oL94 p0 p1 p2 b142 b169) [(.ref b181)]) := fun t k => k183 t (st184.trans k)
      obtain ⟨cq190, kcq190, q190a, q190b, q190c⟩ := isOf hZ172 rfl Ex184
      obtain ⟨_, _, ⟨T190, L190, kq190, n190⟩, -, X190, Sc190, gr190, ⟨Lc190, hQ190, l190, y190, z190, cr190⟩, st190⟩ := X184.virtualBackS hx (y := mN30) (z := mN30) hown172 (mw hZ172 hw 48 rfl) (mw hZ172 hw 49 rfl) (notFace_of_selects (args := #[]) (mw hZ172 hw 51 rfl)) (mw hZ172 hw 51 rfl) (mw hZ172 hw 50 rfl) (by decide) (backOfSH (s := s) (vm0 := T172.vm) (W := 0) (rm6s10 l Z a0 hw [] b181 b142 b145 t158 kb158 (oB [(nar .char (own_ch p1)), (nar .char (own_hi p1))]) G1 T184.heap n0 Zs184 Fx184_0 Fx184_1 Ex184 (((((Fx164_0.ext E169).ext E172).keep K176 (ninS ne_b142_b169 nin0)).ext E181).keep K184 (ninS ne_b142_b181 nin0)) (((((Ex164.ext E169).ext E172).keep K176).ext E181).keep K184) (((((((Ex158.ext E162).keep K164).ext E169).ext E172).keep K176).ext E181).keep K184) fc186 fc187 fc188 rfl O2 P5 (((((od166.ext E169).ext E172).keep K176 (allS g_b169 all0)).ext E181).keep K184 (allS g_b181 all0))) hZ172 (ww hw 52 rfl) (ww hw 32 rfl) (by decide) (by decide) hEL cc185.1) q190a q190c (g := gK k189) rfl (by rw [hml]; rfl) (Steps.refl _) (argsL := []) (rest := []) (lenOf pd_21 rfl) rfl (by show 2 * 0 + _ ≤ _; exact Nat.le_of_eq rfl) (hb hby at_174) (fun _ _ => ⟨rfl, rfl, (by decide : 10 + 6 ≤ _), (by decide : 54 + 60 ≤ _)⟩)
      dsimp only [Pt.U, Pt.locs, Pt.cells, Pt.slots] at Sc190 gr190 cr190
      dsimp only [Pt.U, Pt.locs, Pt.cells, Pt.slots] at X190 l190 y190 z190 st190 hQ190
      replace l190 := l190.symm; subst l190 y190 z190
      obtain ⟨xs190, ts190, ks190, W190, rfl, N190q, K190, Ex190, Fv190, Fc190, Vs190, hW190⟩ := hQ190
      have N190 := Fr.app N184 N190q
      have Zs190 : n0 ≤ T190.heap.size := Nat.le_trans Zs184 K190.1
      have hZ190 : Z.Warmed39 (s.setVm T190.vm).vm := State.Warmed39.trans (t := s.setVm T172.vm) hZ172 Sc190.1
      have hown190 : (s.setVm T190.vm).vm.findClass "com/example/covenantry/covenantry/FeeLevelSpanPinLaw" = some m.cls := by rw [show (s.setVm T190.vm).vm = T190.vm from rfl, Sc190.1.alike.findClass]; exact hown172
      have Sn190 : s.Since T190.vm T190.heap.size := foldS (vm0 := T172.vm) Sn172 (Nat.le_trans (Nat.le_trans (Nat.le_trans jk172 K176.1) E181.1) K184.1) Sc190 gr190
      have hc181 : ¬ ((1 : Int32) = (0 : Int32)) := by decide
      have hc198 : ¬ ((1 : Int32) = (0 : Int32)) := by decide
      have hc273 : (0 : Int32) = (0 : Int32) := by decide
      have k192 : Kq X0 maxLocals T190 (mkF m 276 (oL95 p0 p1 p2 b142 b169 xs190) []) := fun t k => k189 t (st190.trans (XS.astore X190.here hx rfl (hb hby at_177) rfl rfl (l' := (oL95 p0 p1 p2 b142 b169 xs190)) rfl (XS.iload X190.here hx rfl (hb hby at_179) rfl (XS.ifYes X190.here hx rfl (pc0 := 181) (pc' := 196) rfl (hb hby at_181) rfl ((if0 _ _).trans (feq hc181).2) (by decide) (by decide) (XS.iload X190.here hx rfl (hb hby at_196) rfl (XS.ifYes X190.here hx rfl (pc0 := 198) (pc' := 271) rfl (hb hby at_198) rfl ((if0 _ _).trans (feq hc198).2) (by decide) (by decide) (XS.iload X190.here hx rfl (hb hby at_271) rfl (show Sg X0 T190 273 (oL95 p0 p1 p2 b142 b169 xs190) [(.int (0 : Int32))] t from (XS.ifNo X190.here hx rfl (hb hby at_273) rfl ((if0 _ _).trans (teq hc273).2) k)))))))))
      obtain ⟨T193, h193, X193, e193, E193, A193, D193, -, st193⟩ := newO X190 hx hZ190 hown190 (ww hw 60 rfl) (ww hw 5 rfl) (ww hw 4 rfl) rfl (g := gK k192) rfl (hb hby at_276) (by decide) (by decide)
      obtain ⟨b193, g193⟩ : ∃ z, z = T190.heap.size := ⟨_, rfl⟩
      rw [← g193] at A193 D193 st193
      have ne_xs190_b193 : xs190 ≠ b193 := Nat.ne_of_lt (Nat.lt_of_lt_of_le Ex190.lt (Nat.le_of_eq g193.symm))
      have ne_ts190_b193 : ts190 ≠ b193 := Nat.ne_of_lt (Nat.lt_of_lt_of_le Vs190.lt (Nat.le_of_eq g193.symm))
      have F_value_b193 : Fld Z h193 b193 "java/lang/String" "value" "[B" .null := D193 (Or.inr (ww hw 7 rfl)) (ty := (.array .byte)) (by decide)
      have F_coder_b193 : Fld Z h193 b193 "java/lang/String" "coder" "B" (.int (0 : Int32)) := D193 (Or.inr (ww hw 8 rfl)) (ty := .byte) (by decide)
      have g_b193 : n0 ≤ b193 := Nat.le_trans Zs190 (Nat.le_of_eq g193.symm)
      have Zs193 : n0 ≤ h193.size := Nat.le_trans Zs190 E193.1
      have k195 : Kq X0 maxLocals T193 (mkF m 282 (oL95 p0 p1 p2 b142 b169 xs190) [(.int (8 : Int32)), (.ref b193), (.ref b193)]) := fun t k => k192 t (st193 _ (XS.dup X193.here hx rfl (hb hby at_279) rfl rfl (XS.bipush X193.here hx rfl (hb hby at_280) k)))
      obtain ⟨T196, h196, ka196, X196, e196, E196, A196, st196⟩ := newP X193 hx hZ190 (ww hw 61 rfl) e193 (g := gK k195) rfl (hb hby at_282) rfl (by decide) (cap := 8) (by decide) (by decide) (by decide) (by decide)
      obtain ⟨b196, g196⟩ : ∃ z, z = h193.size := ⟨_, rfl⟩
      rw [← g196] at A196 st196
      have ne_xs190_b196 : xs190 ≠ b196 := Nat.ne_of_lt (Nat.lt_of_lt_of_le (Ex190.ext E193).lt (Nat.le_of_eq g196.symm))
      have ne_ts190_b196 : ts190 ≠ b196 := Nat.ne_of_lt (Nat.lt_of_lt_of_le (Vs190.ext E193).lt (Nat.le_of_eq g196.symm))
      have ne_b193_b196 : b193 ≠ b196 := Nat.ne_of_lt (Nat.lt_of_lt_of_le F_value_b193.lt (Nat.le_of_eq g196.symm))
      have V_b196 : Arv Z h196 b196 ka196 .char (8 : Int32) oZ8 (.int (0 : Int32)) := (Arv.new A196 (by decide)).pad (pad_rep [] (.int (0 : Int32)) 8)
      have g_b196 : n0 ≤ b196 := Nat.le_trans Zs193 (Nat.le_of_eq g196.symm)
      have Zs196 : n0 ≤ h196.size := Nat.le_trans Zs193 E196.1
      have k198 : Kq X0 maxLocals T196 (mkF m 288 (oL95 p0 p1 p2 b142 b169 xs190) [(.int (97 : Int32)), (.int (0 : Int32)), (.ref b196), (.ref b196), (.ref b193), (.ref b193)]) := fun t k => k195 t (st196 _ (XS.dup X196.here hx rfl (hb hby at_284) rfl rfl (XS.iconst X196.here hx rfl (hb hby at_285) (XS.bipush X196.here hx rfl (hb hby at_286) k))))
      obtain ⟨T199, h199, X199, e199, W199, V199, st199⟩ := own_stC X196 hx hZ190 e196 V_b196 0 (j := (0 : Int32)) rfl (Nat.le_of_ble_eq_true rfl) ⟨by decide, by decide⟩ (g := gK k198) rfl rfl (hb hby at_288)
      have N199 := Fr.snoc X199 N190 g_b196
      have Zs199 : n0 ≤ h199.size := Nat.le_trans Zs196 (Keep.of_wr W199).1
      have od201 := (((((((((od166.ext E169).ext E172).keep K176 (allS g_b169 all0)).ext E181).keep K184 (allS g_b181 all0)).keep K190 all0).ext E193).ext E196).wr W199 g_b196)
      have k203 : Kq X0 maxLocals T199 (mkF m 293 (oL95 p0 p1 p2 b142 b169 xs190) [(.int (98 : Int32)), (.int (1 : Int32)), (.ref b196), (.ref b196), (.ref b193), (.ref b193)]) := fun t k => k198 t (st199 _ (XS.dup X199.here hx rfl (hb hby at_289) rfl rfl (XS.iconst X199.here hx rfl (hb hby at_290) (XS.bipush X199.here hx rfl (hb hby at_291) k))))
      obtain ⟨T204, h204, X204, e204, W204, V204, st204⟩ := own_stC X199 hx hZ190 e199 V199 1 (j := (1 : Int32)) rfl (Nat.le_of_ble_eq_true rfl) ⟨by decide, by decide⟩ (g := gK k203) rfl rfl (hb hby at_293)
      have N204 := Fr.snoc X204 N199 g_b196
      have Zs204 : n0 ≤ h204.size := Nat.le_trans Zs199 (Keep.of_wr W204).1
      have k207 : Kq X0 maxLocals T204 (mkF m 298 (oL95 p0 p1 p2 b142 b169 xs190) [(.int (111 : Int32)), (.int (2 : Int32)), (.ref b196), (.ref b196), (.ref b193), (.ref b193)]) := fun t k => k203 t (st204 _ (XS.dup X204.here hx rfl (hb hby at_294) rfl rfl (XS.iconst X204.here hx rfl (hb hby at_295) (XS.bipush X204.here hx rfl (hb hby at_296) k))))
      obtain ⟨T208, h208, X208, e208, W208, V208, st208⟩ := own_stC X204 hx hZ190 e204 V204 2 (j := (2 : Int32)) rfl (Nat.le_of_ble_eq_true rfl) ⟨by decide, by decide⟩ (g := gK k207) rfl rfl (hb hby at_298)
      have N208 := Fr.snoc X208 N204 g_b196
      have Zs208 : n0 ≤ h208.size := Nat.le_trans Zs204 (Keep.of_wr W208).1
      have k211 : Kq X0 maxLocals T208 (mkF m 303 (oL95 p0 p1 p2 b142 b169 xs190) [(.int (118 : Int32)), (.int (3 : Int32)), (.ref b196), (.ref b196), (.ref b193), (.ref b193)]) := fun t k => k207 t (st208 _ (XS.dup X208.here hx rfl (hb hby at_299) rfl rfl (XS.iconst X208.here hx rfl (hb hby at_300) (XS.bipush X208.here hx rfl (hb hby at_301) k))))
      obtain ⟨T212, h212, X212, e212, W212, V212, st212⟩ := own_stC X208 hx hZ190 e208 V208 3 (j := (3 : Int32)) rfl (Nat.le_of_ble_eq_true rfl) ⟨by decide, by decide⟩ (g := gK k211) rfl rfl (hb hby at_303)
      have N212 := Fr.snoc X212 N208 g_b196
      have Zs212 : n0 ≤ h212.size := Nat.le_trans Zs208 (Keep.of_wr W212).1
      have fc214 := ((((((Fv190.ext E193).ext E196).other W199 (Or.inl ne_xs190_b196)).other W204 (Or.inl ne_xs190_b196)).other W208 (Or.inl ne_xs190_b196)).other W212 (Or.inl ne_xs190_b196))
      have fc215 := ((((((Fc190.ext E193).ext E196).other W199 (Or.inl ne_xs190_b196)).other W204 (Or.inl ne_xs190_b196)).other W208 (Or.inl ne_xs190_b196)).other W212 (Or.inl ne_xs190_b196))
      have fc216 := (((((F_value_b193.ext E196).other W199 (Or.inl ne_b193_b196)).other W204 (Or.inl ne_b193_b196)).other W208 (Or.inl ne_b193_b196)).other W212 (Or.inl ne_b193_b196))
      have fc217 := (((((F_coder_b193.ext E196).other W199 (Or.inl ne_b193_b196)).other W204 (Or.inl ne_b193_b196)).other W208 (Or.inl ne_b193_b196)).other W212 (Or.inl ne_b193_b196))
      have k219 : Kq X0 maxLocals T212 (mkF m 308 (oL95 p0 p1 p2 b142 b169 xs190) [(.int (101 : Int32)), (.int (4 : Int32)), (.ref b196), (.ref b196), (.ref b193), (.ref b193)]) := fun t k => k211 t (st212 _ (XS.dup X212.here hx rfl (hb hby at_304) rfl rfl (XS.iconst X212.here hx rfl (hb hby at_305) (XS.bipush X212.here hx rfl (hb hby at_306) k))))
      obtain ⟨T220, h220, X220, e220, W220, V220, st220⟩ := own_stC X212 hx hZ190 e212 V212 4 (j := (4 : Int32)) rfl (Nat.le_of_ble_eq_true rfl) ⟨by decide, by decide⟩ (g := gK k219) rfl rfl (hb hby at_308)
      have V_b196_308 : Arv Z h220 b196 ka196 .char (8 : Int32) [(.int (nC 97)), (.int (nC 98)), (.int (nC 111)), (.int (nC 118)), (.int (nC 101)), (.int (0 : Int32)), (.int (0 : Int32)), (.int (0 : Int32))] (.int (0 : Int32)) := V220
      have N220 := Fr.snoc X220 N212 g_b196
      have Zs220 : n0 ≤ h220.size := Nat.le_trans Zs212 (Keep.of_wr W220).1
      have fc222 := (((((((Vs190.ext E193).ext E196).other W199 ne_ts190_b196).other W204 ne_ts190_b196).other W208 ne_ts190_b196).other W212 ne_ts190_b196).other W220 ne_ts190_b196)
      have k224 : Kq X0 maxLocals T220 (mkF m 313 (oL95 p0 p1 p2 b142 b169 xs190) [(.int (32 : Int32)), (.int (5 : Int32)), (.ref b196), (.ref b196), (.ref b193), (.ref b193)]) := fun t k => k219 t (st220 _ (XS.dup X220.here hx rfl (hb hby at_309) rfl rfl (XS.iconst X220.here hx rfl (hb hby at_310) (XS.bipush X220.here hx rfl (hb hby at_311) k))))
      obtain ⟨T225, h225, X225, e225, W225, V225, st225⟩ := own_stC X220 hx hZ190 e220 V_b196_308 5 (j := (5 : Int32)) rfl (Nat.le_of_ble_eq_true rfl) ⟨by decide, by decide⟩ (g := gK k224) rfl rfl (hb hby at_313)
      have N225 := Fr.snoc X225 N220 g_b196
      have Zs225 : n0 ≤ h225.size := Nat.le_trans Zs220 (Keep.of_wr W225).1
      have k228 : Kq X0 maxLocals T225 (mkF m 318 (oL95 p0 p1 p2 b142 b169 xs190) [(.int (own_ch p1)), (.int (6 : Int32)), (.ref b196), (.ref b196), (.ref b193), (.ref b193)]) := fun t k => k224 t (st225 _ (XS.dup X225.here hx rfl (hb hby at_314) rfl rfl (XS.bipush X225.here hx rfl (hb hby at_315) (XS.iloadN X225.here hx rfl (hb hby at_317) rfl k))))
      obtain ⟨T229, h229, X229, e229, W229, V229, st229⟩ := own_stC X225 hx hZ190 e225 V225 6 (j := (6 : Int32)) rfl (Nat.le_of_ble_eq_true rfl) ⟨by decide, by decide⟩ (g := gK k228) rfl rfl (hb hby at_318)
      have N229 := Fr.snoc X229 N225 g_b196
      have Zs229 : n0 ≤ h229.size := Nat.le_trans Zs225 (Keep.of_wr W229).1
      have k232 : Kq X0 maxLocals T229 (mkF m 324 (oL95 p0 p1 p2 b142 b169 xs190) [(.int (own_hi p1)), (.int (7 : Int32)), (.ref b196), (.ref b196), (.ref b193), (.ref b193)]) := fun t k => k228 t (st229 _ (XS.dup X229.here hx rfl (hb hby at_319) rfl rfl (XS.bipush X229.here hx rfl (hb hby at_320) (XS.iload X229.here hx rfl (hb hby at_322) rfl k))))
      obtain ⟨T233, h233, X233, e233, W233, V233, st233⟩ := own_stC X229 hx hZ190 e229 V229 7 (j := (7 : Int32)) rfl (Nat.le_of_ble_eq_true rfl) ⟨by decide, by decide⟩ (g := gK k232) rfl rfl (hb hby at_324)
      have V_b196_324 : Arv Z h233 b196 ka196 .char (8 : Int32) [(.int (nC 97)), (.int (nC 98)), (.int (nC 111)), (.int (nC 118)), (.int (nC 101)), (.int (nC 32)), (.int (nar .char (own_ch p1))), (.int (nar .char (own_hi p1)))] (.int (0 : Int32)) := V233
      have N233 := Fr.snoc X233 N229 g_b196
      have Zs233 : n0 ≤ h233.size := Nat.le_trans Zs229 (Keep.of_wr W233).1
      have od235 := (((((((od201.wr W204 g_b196).wr W208 g_b196).wr W212 g_b196).wr W220 g_b196).wr W225 g_b196).wr W229 g_b196).wr W233 g_b196)
      have k236 : Kq X0 maxLocals T233 (mkF m 325 (oL95 p0 p1 p2 b142 b169 xs190) [(.ref b196), (.ref b193), (.ref b193)]) := fun t k => k232 t (st233 _ k)
      have hp237 : ∀ c ∈ ([(nC 97), (nC 98), (nC 111), (nC 118), (nC 101), (nC 32), (nar .char (own_ch p1)), (nar .char (own_hi p1))] : List Int32), ¬ c < 0 ∧ ¬ (255 : Int32) < c := by
        intro c hc
        simp only [List.mem_cons, List.not_mem_nil, or_false] at hc
        rcases hc with rfl | rfl | rfl | rfl | rfl | rfl | rfl | rfl
        · exact by decide
        · exact by decide
        · exact by decide
        · exact by decide
        · exact by decide
        · exact by decide
        · exact own_ch_ok _
        · exact own_hi_ok _
      obtain ⟨_, _, ⟨T237, L237, kq237, n237⟩, -, X237, ⟨Lc237, hQ237, l237, y237, z237⟩, st237⟩ := X233.specialBack hx (y := mN32) rfl hown190 (mw hZ190 hw 62 rfl) (mw hZ190 hw 63 rfl) (mw hZ190 hw 64 rfl) (by decide) (StrChars.Road.backV (W := 1) hZ190 hws (kI := 4) (ww hw 5 rfl) (cs := ([(nC 97), (nC 98), (nC 111), (nC 118), (nC 101), (nC 32), (nar .char (own_ch p1)), (nar .char (own_hi p1))] : List Int32)) (bs := (([(nC 97), (nC 98), (nC 111), (nC 118), (nC 101), (nC 32), (nar .char (own_ch p1)), (nar .char (own_hi p1))] : List Int32)).map (fun c => c.toInt8.toInt32)) (n := 8) g_b193 Zs233 (((((((((A193.ext E196).wr W199).wr W204).wr W208).wr W212).wr W220).wr W225).wr W229).wr W233) ((((fc216.other W220 (Or.inl ne_b193_b196)).other W225 (Or.inl ne_b193_b196)).other W229 (Or.inl ne_b193_b196)).other W233 (Or.inl ne_b193_b196)) ((((fc217.other W220 (Or.inl ne_b193_b196)).other W225 (Or.inl ne_b193_b196)).other W229 (Or.inl ne_b193_b196)).other W233 (Or.inl ne_b193_b196)) V_b196_324 (O2.ext od235.2) P5 rfl rfl (by decide) (by decide) hp237 rfl (by decide) (by decide)) (g := gK k236) rfl (by rw [hml]; rfl) (Steps.refl _) (a := b193) (argsL := [(.ref b196)]) (rest := [(.ref b193)]) (lenOf pd_25 rfl) rfl (by show 2 * 0 + _ ≤ _; exact Nat.le_of_eq rfl) (hb hby at_325) (fun _ _ => ⟨rfl, e233, (by decide : 18 + 1 ≤ _), (by decide : 126 + 8 ≤ _)⟩)
      dsimp only [Pt.U, Pt.locs, Pt.cells, Pt.slots] at X237 l237 y237 z237 st237 hQ237
      replace l237 := l237.symm; subst l237 y237 z237
      obtain ⟨rfl, N237q, K237, Ex237, Cx237, t237, kb237, gt237, zt237, nt237, Vx237, Ax237⟩ := hQ237
      have N237 := Fr.app N233 N237q
      have fc239 := (((((fc214.other W220 (Or.inl ne_xs190_b196)).other W225 (Or.inl ne_xs190_b196)).other W229 (Or.inl ne_xs190_b196)).other W233 (Or.inl ne_xs190_b196)).keep K237 (ninS ne_xs190_b193 nin0))
      have fc240 := (((((fc215.other W220 (Or.inl ne_xs190_b196)).other W225 (Or.inl ne_xs190_b196)).other W229 (Or.inl ne_xs190_b196)).other W233 (Or.inl ne_xs190_b196)).keep K237 (ninS ne_xs190_b193 nin0))
      have hpe : ∀ c ∈ ([(nC 97), (nC 98), (nC 111), (nC 118), (nC 101), (nC 32), (nar .char (own_ch p1)), (nar .char (own_hi p1))] : List Int32), ¬ c < 0 ∧ ¬ (255 : Int32) < c := hp237
      have hcd : StrChars.Road.CodA ([(nC 97), (nC 98), (nC 111), (nC 118), (nC 101), (nC 32), (nar .char (own_ch p1)), (nar .char (own_hi p1))] : List Int32) 0 (8 : Int32) (oB [(nC 97), (nC 98), (nC 111), (nC 118), (nC 101), (nC 32), (nar .char (own_ch p1)), (nar .char (own_hi p1))]) := StrChars.Road.codOf (n := 8) rfl (fun c hc => (hpe c hc).2)
      have hWe : W190 = (oB [(nC 97), (nC 98), (nC 111), (nC 118), (nC 101), (nC 32), (nar .char (own_ch p1)), (nar .char (own_hi p1))]) := hW190.trans (by simp only [own_c32, own_c97, own_c98, own_c101, own_c111, own_c118]; rfl)
      have Vse : Arv Z T237.heap ts190 ks190 .byte (8 : Int32) (oB [(nC 97), (nC 98), (nC 111), (nC 118), (nC 101), (nC 32), (nar .char (own_ch p1)), (nar .char (own_hi p1))]) (.int (0 : Int32)) := by rw [← hWe]; exact ((((fc222.other W225 ne_ts190_b196).other W229 ne_ts190_b196).other W233 ne_ts190_b196).keep K237 (ninS ne_ts190_b193 nin0))
      have k242 : Kq X0 maxLocals T237 (mkF m 463 (oL96 p0 p1 p2 b142 b169 xs190 b193) [(.ref xs190), (.ref b193)]) := fun t k => k236 t (st237.trans (XS.astore X237.here hx rfl (hb hby at_328) rfl rfl (l' := (oL96 p0 p1 p2 b142 b169 xs190 b193)) rfl (XS.goto X237.here hx rfl (pc0 := 330) (pc' := 459) rfl (hb hby at_330) (by decide) (by decide) (XS.aload X237.here hx rfl (hb hby at_459) rfl rfl (XS.aload X237.here hx rfl (hb hby at_461) rfl rfl k)))))
      obtain ⟨cq243, kcq243, q243a, q243b, q243c⟩ := isOf hZ190 rfl Ex237
      obtain ⟨_, _, ⟨T243, L243, kq243, n243⟩, -, X243, ⟨Lc243, hQ243, l243, y243, z243⟩, st243⟩ := X237.virtualBack hx (y := mN31) (z := mN31) hown190 (mw hZ190 hw 55 rfl) (mw hZ190 hw 56 rfl) (notFace_of_selects (args := #[]) (mw hZ190 hw 58 rfl)) (mw hZ190 hw 58 rfl) (mw hZ190 hw 57 rfl) (by decide) (StrChars.Road.eqW (W := 0) hZ190 heqw (kI := 4) (ww hw 5 rfl) Ex237 Vx237 Cx237 Ax237 hcd (own_up _ hpe) (Nat.le_of_ble_eq_true rfl) (((((((((((Ex190.ext E193).ext E196).wr W199).wr W204).wr W208).wr W212).wr W220).wr W225).wr W229).wr W233).keep K237) fc239 fc240 Vse hcd (own_up _ hpe) (Nat.le_of_ble_eq_true rfl) (O2.ext (od235.keep K237 (allS g_b193 all0)).2) P5 (by decide) (by decide)) q243a q243c (g := gK k242) rfl (by rw [hml]; rfl) (Steps.refl _) (argsL := [(.ref xs190)]) (rest := []) (lenOf pd_24 rfl) rfl (by show 2 * 0 + _ ≤ _; exact Nat.le_of_eq rfl) (hb hby at_463) (fun _ _ => ⟨rfl, rfl, (by decide : 19 + 0 ≤ _), (by decide : 134 + 0 ≤ _)⟩)
      dsimp only [Pt.U, Pt.locs, Pt.cells, Pt.slots] at X243 l243 y243 z243 st243 hQ243
      replace l243 := l243.symm; subst l243 y243 z243
      obtain ⟨hcase243, rfl, e243⟩ := hQ243
      obtain rfl : _ = some (Value.int 1) := by rcases hcase243 with ⟨q, -⟩ | ⟨-, q⟩; exact q; exact absurd rfl q
      have N243 := Fr.app N237 (Fr.nil n0)
      have k244 : Kq X0 maxLocals T243 (mkF m 466 (oL96 p0 p1 p2 b142 b169 xs190 b193) [(.int (1 : Int32))]) := fun t k => k242 t (st243.trans k)
      obtain ⟨fs, hr, hrun, hended, w1, w2, w3, w4⟩ := X243.leaveW (s := s) (vm₁ := T190.vm) Sn190 (by rw [e243]; exact (Nat.le_trans (Nat.le_trans (Nat.le_trans (Nat.le_trans (Nat.le_trans (Nat.le_trans (Nat.le_trans (Nat.le_trans (Nat.le_trans (Nat.le_trans (Nat.le_trans (Nat.le_refl _) E193.1) E196.1) (Keep.of_wr W199).1) (Keep.of_wr W204).1) (Keep.of_wr W208).1) (Keep.of_wr W212).1) (Keep.of_wr W220).1) (Keep.of_wr W225).1) (Keep.of_wr W229).1) (Keep.of_wr W233).1) K237.1)) (v := (some (.int (1 : Int32)))) (fun h => by rw [Bd.returns] at h; cases h)
      refine ⟨_, _, k244 _ ?_, hrun, hended, _, _, rfl, ?_, w1, w2, w3, w4.mono (by decide) (by decide)⟩
      · exact retN X243 hx (t := .boolean) Bd.returns (by simp) (hb hby at_466) hr
      · show Q0 Z p0 p1 p2 G1 h0 n0 _ T243.heap _
        rw [e243]
        exact ⟨rfl, N243⟩
    · have hc65 : ¬ ((1 : Int32) = (0 : Int32)) := by decide
      have k245 : Kq X0 maxLocals s₁ (mkF m 68 (oL97 p0 p1 p2) []) := fun t k => k140 t (XS.ifNo X0.here hx rfl (hb hby at_53) rfl ((if0 _ _).trans (feq hc53).1) (XS.iconst X0.here hx rfl (hb hby at_56) (XS.goto X0.here hx rfl (pc0 := 57) (pc' := 61) rfl (hb hby at_57) (by decide) (by decide) (XS.istore X0.here hx rfl (hb hby at_61) rfl (l' := (oL97 p0 p1 p2)) rfl (XS.iload X0.here hx rfl (hb hby at_63) rfl (XS.ifNo X0.here hx rfl (hb hby at_65) rfl ((if0 _ _).trans (feq hc65).1) k))))))
      obtain ⟨T246, h246, X246, e246, E246, A246, D246, -, st246⟩ := newO X0 hx hZ hown (ww hw 0 rfl) (ww hw 1 rfl) (ww hw 2 rfl) e0 (g := gK k245) rfl (hb hby at_68) (by decide) (by decide)
      obtain ⟨b246, g246⟩ : ∃ z, z = h0.size := ⟨_, rfl⟩
      rw [← g246] at A246 D246 st246
      have F_value_b246 : Fld Z h246 b246 "com/example/covenantry/covenantry/Figure" "value" "Ljava/lang/String;" .null := D246 (Or.inr (ww hw 21 rfl)) (ty := (.object "java/lang/String")) (by decide)
      have F_section_b246 : Fld Z h246 b246 "com/example/covenantry/covenantry/Figure" "section" "Ljava/lang/String;" .null := D246 (Or.inr (ww hw 23 rfl)) (ty := (.object "java/lang/String")) (by decide)
      have F_line_b246 : Fld Z h246 b246 "com/example/covenantry/covenantry/Figure" "line" "I" (.int (0 : Int32)) := D246 (Or.inr (ww hw 25 rfl)) (ty := .int) (by decide)
      have F_text_b246 : Fld Z h246 b246 "com/example/covenantry/covenantry/Figure" "text" "Ljava/lang/String;" .null := D246 (Or.inr (ww hw 27 rfl)) (ty := (.object "java/lang/String")) (by decide)
      have F_derivedFrom_b246 : Fld Z h246 b246 "com/example/covenantry/covenantry/Figure" "derivedFrom" "Ljava/lang/String;" .null := D246 (Or.inr (ww hw 29 rfl)) (ty := (.object "java/lang/String")) (by decide)
      have g_b246 : n0 ≤ b246 := Nat.le_trans Z0 (Nat.le_of_eq g246.symm)
      have Zs246 : n0 ≤ h246.size := Nat.le_trans Z0 E246.1
      have k248 : Kq X0 maxLocals T246 (mkF m 72 (oL97 p0 p1 p2) [(.ref b246), (.ref b246)]) := fun t k => k245 t (st246 _ (XS.dup X246.here hx rfl (hb hby at_71) rfl rfl k))
      obtain ⟨T249, h249, X249, e249, E249, A249, D249, -, st249⟩ := newO X246 hx hZ hown (ww hw 60 rfl) (ww hw 5 rfl) (ww hw 4 rfl) e246 (g := gK k248) rfl (hb hby at_72) (by decide) (by decide)
      obtain ⟨b249, g249⟩ : ∃ z, z = h246.size := ⟨_, rfl⟩
      rw [← g249] at A249 D249 st249
      have ne_b246_b249 : b246 ≠ b249 := Nat.ne_of_lt (Nat.lt_of_lt_of_le F_value_b246.lt (Nat.le_of_eq g249.symm))
      have sn_b249 : Safe Z own_EL s.vm h249 b249 := Safe.ext E249 (CHv.ext E246 hch) (Safe.new (Nat.le_of_eq g249.symm))
      have F_value_b249 : Fld Z h249 b249 "java/lang/String" "value" "[B" .null := D249 (Or.inr (ww hw 7 rfl)) (ty := (.array .byte)) (by decide)
      have F_coder_b249 : Fld Z h249 b249 "java/lang/String" "coder" "B" (.int (0 : Int32)) := D249 (Or.inr (ww hw 8 rfl)) (ty := .byte) (by decide)
      have g_b249 : n0 ≤ b249 := Nat.le_trans Zs246 (Nat.le_of_eq g249.symm)
      have Zs249 : n0 ≤ h249.size := Nat.le_trans Zs246 E249.1
      have k251 : Kq X0 maxLocals T249 (mkF m 77 (oL97 p0 p1 p2) [(.int (2 : Int32)), (.ref b249), (.ref b249), (.ref b246), (.ref b246)]) := fun t k => k248 t (st249 _ (XS.dup X249.here hx rfl (hb hby at_75) rfl rfl (XS.iconst X249.here hx rfl (hb hby at_76) k)))
      obtain ⟨T252, h252, ka252, X252, e252, E252, A252, st252⟩ := newP X249 hx hZ (ww hw 61 rfl) e249 (g := gK k251) rfl (hb hby at_77) rfl (by decide) (cap := 2) (by decide) (by decide) (by decide) (by decide)
      obtain ⟨b252, g252⟩ : ∃ z, z = h249.size := ⟨_, rfl⟩
      rw [← g252] at A252 st252
      have ne_b246_b252 : b246 ≠ b252 := Nat.ne_of_lt (Nat.lt_of_lt_of_le (F_value_b246.ext E249).lt (Nat.le_of_eq g252.symm))
      have ne_b249_b252 : b249 ≠ b252 := Nat.ne_of_lt (Nat.lt_of_lt_of_le F_value_b249.lt (Nat.le_of_eq g252.symm))
      have sn_b252 : Safe Z own_EL s.vm h252 b252 := Safe.ext E252 (CHv.ext E249 (CHv.ext E246 hch)) (Safe.new (Nat.le_of_eq g252.symm))
      have V_b252 : Arv Z h252 b252 ka252 .char (2 : Int32) [(.int (0 : Int32)), (.int (0 : Int32))] (.int (0 : Int32)) := (Arv.new A252 (by decide)).pad (pad_rep [] (.int (0 : Int32)) 2)
      have g_b252 : n0 ≤ b252 := Nat.le_trans Zs249 (Nat.le_of_eq g252.symm)
      have Zs252 : n0 ≤ h252.size := Nat.le_trans Zs249 E252.1
      have k254 : Kq X0 maxLocals T252 (mkF m 82 (oL97 p0 p1 p2) [(.int (own_ch p1)), (.int (0 : Int32)), (.ref b252), (.ref b252), (.ref b249), (.ref b249), (.ref b246), (.ref b246)]) := fun t k => k251 t (st252 _ (XS.dup X252.here hx rfl (hb hby at_79) rfl rfl (XS.iconst X252.here hx rfl (hb hby at_80) (XS.iloadN X252.here hx rfl (hb hby at_81) rfl k))))
      obtain ⟨T255, h255, X255, e255, W255, V255, st255⟩ := own_stC X252 hx hZ e252 V_b252 0 (j := (0 : Int32)) rfl (Nat.le_of_ble_eq_true rfl) ⟨by decide, by decide⟩ (g := gK k254) rfl rfl (hb hby at_82)
      have N255 := Fr.snoc X255 N0 g_b252
      have Zs255 : n0 ≤ h255.size := Nat.le_trans Zs252 (Keep.of_wr W255).1
      have so256 := sn_b252
      have sw256_1 := Safe.wr W255 so256 (CHv.ext E252 (CHv.ext E249 (CHv.ext E246 hch))) (Safe.ext E252 (CHv.ext E249 (CHv.ext E246 hch)) sn_b249)
      have sw256_2 := Safe.wr W255 so256 (CHv.ext E252 (CHv.ext E249 (CHv.ext E246 hch))) sn_b252
      have cw256 := CHr.trans ((((CHr.refl hch).trans (CHr.ext E246 hch)).trans (CHr.ext E249 (CHv.ext E246 hch))).trans (CHr.ext E252 (CHv.ext E249 (CHv.ext E246 hch)))) (CHr.wr W255 so256 (CHv.ext E252 (CHv.ext E249 (CHv.ext E246 hch))))
      have k258 : Kq X0 maxLocals T255 (mkF m 87 (oL97 p0 p1 p2) [(.int (own_hi p1)), (.int (1 : Int32)), (.ref b252), (.ref b252), (.ref b249), (.ref b249), (.ref b246), (.ref b246)]) := fun t k => k254 t (st255 _ (XS.dup X255.here hx rfl (hb hby at_83) rfl rfl (XS.iconst X255.here hx rfl (hb hby at_84) (XS.iload X255.here hx rfl (hb hby at_85) rfl k))))
      obtain ⟨T259, h259, X259, e259, W259, V259, st259⟩ := own_stC X255 hx hZ e255 V255 1 (j := (1 : Int32)) rfl (Nat.le_of_ble_eq_true rfl) ⟨by decide, by decide⟩ (g := gK k258) rfl rfl (hb hby at_87)
      have V_b252_87 : Arv Z h259 b252 ka252 .char (2 : Int32) [(.int (nar .char (own_ch p1))), (.int (nar .char (own_hi p1)))] (.int (0 : Int32)) := V259
      have N259 := Fr.snoc X259 N255 g_b252
      have Zs259 : n0 ≤ h259.size := Nat.le_trans Zs255 (Keep.of_wr W259).1
      have so260 := sw256_2
      have sw260_1 := Safe.wr W259 so260 cw256.1 sw256_1
      have cw260 := CHr.trans cw256 (CHr.wr W259 so260 cw256.1)
      have k261 : Kq X0 maxLocals T259 (mkF m 88 (oL97 p0 p1 p2) [(.ref b252), (.ref b249), (.ref b249), (.ref b246), (.ref b246)]) := fun t k => k258 t (st259 _ k)
      have hp262 : ∀ c ∈ ([(nar .char (own_ch p1)), (nar .char (own_hi p1))] : List Int32), ¬ c < 0 ∧ ¬ (255 : Int32) < c := by
        intro c hc
        simp only [List.mem_cons, List.not_mem_nil, or_false] at hc
        rcases hc with rfl | rfl
        · exact own_ch_ok _
        · exact own_hi_ok _
      obtain ⟨_, _, ⟨T262, L262, kq262, n262⟩, -, X262, ⟨Lc262, hQ262, l262, y262, z262⟩, st262⟩ := X259.specialBack hx (y := mN32) rfl hown (mw hZ hw 62 rfl) (mw hZ hw 63 rfl) (mw hZ hw 64 rfl) (by decide) (StrChars.Road.backV (W := 3) hZ hws (kI := 4) (ww hw 5 rfl) (cs := ([(nar .char (own_ch p1)), (nar .char (own_hi p1))] : List Int32)) (bs := (([(nar .char (own_ch p1)), (nar .char (own_hi p1))] : List Int32)).map (fun c => c.toInt8.toInt32)) (n := 2) g_b249 Zs259 (((A249.ext E252).wr W255).wr W259) (((F_value_b249.ext E252).other W255 (Or.inl ne_b249_b252)).other W259 (Or.inl ne_b249_b252)) (((F_coder_b249.ext E252).other W255 (Or.inl ne_b249_b252)).other W259 (Or.inl ne_b249_b252)) V_b252_87 (O2.ext (((((X00.ext E246).ext E249).ext E252).wr W255 g_b252).wr W259 g_b252).2) P5 rfl rfl (by decide) (by decide) hp262 rfl (by decide) (by decide)) (g := gK k261) rfl (by rw [hml]; rfl) (Steps.refl _) (a := b249) (argsL := [(.ref b252)]) (rest := [(.ref b249), (.ref b246), (.ref b246)]) (lenOf pd_25 rfl) rfl (by show 2 * 0 + _ ≤ _; exact Nat.le_of_eq rfl) (hb hby at_88) (fun _ _ => ⟨rfl, e259, (by decide : 3 + 1 ≤ _), (by decide : 11 + 2 ≤ _)⟩)
      dsimp only [Pt.U, Pt.locs, Pt.cells, Pt.slots] at X262 l262 y262 z262 st262 hQ262
      replace l262 := l262.symm; subst l262 y262 z262
      obtain ⟨rfl, N262q, K262, Ex262, Cx262, t262, kb262, gt262, zt262, nt262, Vx262, Ax262⟩ := hQ262
      have N262 := Fr.app N259 N262q
      have ne_b246_t262 : b246 ≠ t262 := Nat.ne_of_lt (Nat.lt_of_lt_of_le ((((F_value_b246.ext E249).ext E252).other W255 (Or.inl ne_b246_b252)).other W259 (Or.inl ne_b246_b252)).lt zt262)
      have sk263 : ∀ x ∈ ([b249] : List Addr), Safe Z own_EL s.vm h259 x := (allS sw260_1 all0)
      have cc263 := CHr.trans cw260 (CHr.keep K262 sk263 cw260.1)
      have Zs262 : n0 ≤ T262.heap.size := Nat.le_trans Zs259 K262.1
      have k265 : Kq X0 maxLocals T262 (mkF m 93 (oL97 p0 p1 p2) [(.int (1 : Int32)), .null, (.ref b249), (.ref b246), (.ref b246)]) := fun t k => k261 t (st262.trans (XS.aconstNull X262.here hx rfl (hb hby at_91) (XS.iconst X262.here hx rfl (hb hby at_92) k)))
      obtain ⟨a266, T266, h266, j266, t266, kb266, X266, e266, E266, Sn266, jk266, hZ266, hown266, Ex266, Cx266, Vx266, Ax266, la266, lb266, cr266, Lt266, sf266, st266⟩ := ldcCH (s := s) (vm0 := s.vm) X262 hx hZ hown (ww hw 83 rfl) hsa rfl ((State.WarmedH.refl s).since h0.size) (Nat.le_trans (Nat.le_trans (Nat.le_trans (Nat.le_trans (Nat.le_trans (Nat.le_trans (Nat.le_refl h0.size) E246.1) E249.1) E252.1) (Keep.of_wr W255).1) (Keep.of_wr W259).1) K262.1) hEL (by simp [own_EL]) cc263.1 (vs := (oB [120])) (z := (1 : Int32)) ⟨by decide, by decide +kernel⟩ (by decide) (by decide) (g := gK k265) rfl (hb hby at_93) (n := 4) (by decide) (by decide) (by decide) (by decide)
      have Zs266 : n0 ≤ h266.size := Nat.le_trans Zs262 E266.1
      have k267 : Kq X0 maxLocals T266 (mkF m 95 (oL97 p0 p1 p2) [(.ref a266), (.int (1 : Int32)), .null, (.ref b249), (.ref b246), (.ref b246)]) := fun t k => k265 t (st266 _ k)
      obtain ⟨_, _, ⟨T268, L268, kq268, n268⟩, -, X268, ⟨Lc268, hQ268, l268, y268, z268⟩, st268⟩ := X266.specialBack hx (y := mN26) rfl hown266 (mw hZ266 hw 11 rfl) (mw hZ266 hw 12 rfl) (mw hZ266 hw 13 rfl) (by decide) (backOf (W := 1) (rm1 l Z a0 hw [] b246 b249 a266 h266 n0 Zs266 ((((((F_value_b246.ext E249).ext E252).other W255 (Or.inl ne_b246_b252)).other W259 (Or.inl ne_b246_b252)).keep K262 (ninS ne_b246_b249 nin0)).ext E266) ((((((F_section_b246.ext E249).ext E252).other W255 (Or.inl ne_b246_b252)).other W259 (Or.inl ne_b246_b252)).keep K262 (ninS ne_b246_b249 nin0)).ext E266) ((((((F_line_b246.ext E249).ext E252).other W255 (Or.inl ne_b246_b252)).other W259 (Or.inl ne_b246_b252)).keep K262 (ninS ne_b246_b249 nin0)).ext E266) ((((((F_text_b246.ext E249).ext E252).other W255 (Or.inl ne_b246_b252)).other W259 (Or.inl ne_b246_b252)).keep K262 (ninS ne_b246_b249 nin0)).ext E266) ((((((F_derivedFrom_b246.ext E249).ext E252).other W255 (Or.inl ne_b246_b252)).other W259 (Or.inl ne_b246_b252)).keep K262 (ninS ne_b246_b249 nin0)).ext E266) ((((((A246.ext E249).ext E252).wr W255).wr W259).keep K262).ext E266) g_b246) hZ266 (ww hw 13 rfl) (ww hw 2 rfl) (by decide) (by decide)) (g := gK k267) rfl (by rw [hml]; rfl) (Steps.refl _) (a := b246) (argsL := [(.ref b249), .null, (.int (1 : Int32)), (.ref a266)]) (rest := [(.ref b246)]) (lenOf pd_22 rfl) rfl (by show 2 * 0 + _ ≤ _; exact Nat.le_of_eq rfl) (hb hby at_95) (fun _ _ => ⟨rfl, e266, (by decide : 6 + 0 ≤ _), (by decide : 21 + 0 ≤ _)⟩)
      dsimp only [Pt.U, Pt.locs, Pt.cells, Pt.slots] at X268 l268 y268 z268 st268 hQ268
      replace l268 := l268.symm; subst l268 y268 z268
      obtain ⟨rfl, N268q, K268, Ex268, Fx268_0, Fx268_1, Fx268_2, Fx268_3, Fx268_4⟩ := hQ268
      have N268 := Fr.app N262 N268q
      have sk269 : ∀ x ∈ ([b246] : List Addr), Safe Z own_EL T266.vm h266 x := (allS (Safe.exa hZ266.alike ((((((A246.ext E249).ext E252).wr W255).wr W259).keep K262).ext E266) (by decide) (by decide)) all0)
      have cc269 := CHr.trans (cc263.trans cr266) (CHr.keep K268 sk269 cr266.1)
      have od270 := ((((((((X00.ext E246).ext E249).ext E252).wr W255 g_b252).wr W259 g_b252).keep K262 (allS g_b249 all0)).ext E266).keep K268 (allS g_b246 all0))
      have Zs268 : n0 ≤ T268.heap.size := Nat.le_trans Zs266 K268.1
      have hc106 : ¬ ((1 : Int32) = (0 : Int32)) := by decide
      have k272 : Kq X0 maxLocals T268 (mkF m 109 (oL98 p0 p1 p2 b246) []) := fun t k => k267 t (st268.trans (XS.goto X268.here hx rfl (pc0 := 98) (pc' := 102) rfl (hb hby at_98) (by decide) (by decide) (XS.astore X268.here hx rfl (hb hby at_102) rfl rfl (l' := (oL98 p0 p1 p2 b246)) rfl (XS.iload X268.here hx rfl (hb hby at_104) rfl (XS.ifNo X268.here hx rfl (hb hby at_106) rfl ((if0 _ _).trans (feq hc106).1) k)))))
      obtain ⟨T273, h273, X273, e273, E273, A273, D273, -, st273⟩ := newO X268 hx hZ266 hown266 (ww hw 0 rfl) (ww hw 1 rfl) (ww hw 2 rfl) rfl (g := gK k272) rfl (hb hby at_109) (by decide) (by decide)
      obtain ⟨b273, g273⟩ : ∃ z, z = T268.heap.size := ⟨_, rfl⟩
      rw [← g273] at A273 D273 st273
      have ne_b246_b273 : b246 ≠ b273 := Nat.ne_of_lt (Nat.lt_of_lt_of_le Fx268_0.lt (Nat.le_of_eq g273.symm))
      have ne_b249_b273 : b249 ≠ b273 := Nat.ne_of_lt (Nat.lt_of_lt_of_le ((Vx262.ext E266).keep K268 (ninS ne_b246_b249.symm nin0)).lt (Nat.le_of_eq g273.symm))
      have ne_t262_b273 : t262 ≠ b273 := Nat.ne_of_lt (Nat.lt_of_lt_of_le ((Ax262.ext E266).keep K268 (ninS ne_b246_t262.symm nin0)).lt (Nat.le_of_eq g273.symm))
      have F_value_b273 : Fld Z h273 b273 "com/example/covenantry/covenantry/Figure" "value" "Ljava/lang/String;" .null := D273 (Or.inr (ww hw 21 rfl)) (ty := (.object "java/lang/String")) (by decide)
      have F_section_b273 : Fld Z h273 b273 "com/example/covenantry/covenantry/Figure" "section" "Ljava/lang/String;" .null := D273 (Or.inr (ww hw 23 rfl)) (ty := (.object "java/lang/String")) (by decide)
      have F_line_b273 : Fld Z h273 b273 "com/example/covenantry/covenantry/Figure" "line" "I" (.int (0 : Int32)) := D273 (Or.inr (ww hw 25 rfl)) (ty := .int) (by decide)
      have F_text_b273 : Fld Z h273 b273 "com/example/covenantry/covenantry/Figure" "text" "Ljava/lang/String;" .null := D273 (Or.inr (ww hw 27 rfl)) (ty := (.object "java/lang/String")) (by decide)
      have F_derivedFrom_b273 : Fld Z h273 b273 "com/example/covenantry/covenantry/Figure" "derivedFrom" "Ljava/lang/String;" .null := D273 (Or.inr (ww hw 29 rfl)) (ty := (.object "java/lang/String")) (by decide)
      have g_b273 : n0 ≤ b273 := Nat.le_trans Zs268 (Nat.le_of_eq g273.symm)
      have Zs273 : n0 ≤ h273.size := Nat.le_trans Zs268 E273.1
      have k275 : Kq X0 maxLocals T273 (mkF m 113 (oL98 p0 p1 p2 b246) [(.ref b273), (.ref b273)]) := fun t k => k272 t (st273 _ (XS.dup X273.here hx rfl (hb hby at_112) rfl rfl k))
      obtain ⟨T276, h276, X276, e276, E276, A276, D276, -, st276⟩ := newO X273 hx hZ266 hown266 (ww hw 60 rfl) (ww hw 5 rfl) (ww hw 4 rfl) e273 (g := gK k275) rfl (hb hby at_113) (by decide) (by decide)
      obtain ⟨b276, g276⟩ : ∃ z, z = h273.size := ⟨_, rfl⟩
      rw [← g276] at A276 D276 st276
      have ne_b246_b276 : b246 ≠ b276 := Nat.ne_of_lt (Nat.lt_of_lt_of_le (Fx268_0.ext E273).lt (Nat.le_of_eq g276.symm))
      have ne_b249_b276 : b249 ≠ b276 := Nat.ne_of_lt (Nat.lt_of_lt_of_le (((Vx262.ext E266).keep K268 (ninS ne_b246_b249.symm nin0)).ext E273).lt (Nat.le_of_eq g276.symm))
      have ne_t262_b276 : t262 ≠ b276 := Nat.ne_of_lt (Nat.lt_of_lt_of_le (((Ax262.ext E266).keep K268 (ninS ne_b246_t262.symm nin0)).ext E273).lt (Nat.le_of_eq g276.symm))
      have ne_b273_b276 : b273 ≠ b276 := Nat.ne_of_lt (Nat.lt_of_lt_of_le F_value_b273.lt (Nat.le_of_eq g276.symm))
      have sn_b276 : Safe Z own_EL T266.vm h276 b276 := Safe.ext E276 (CHv.ext E273 cc269.1) (Safe.new (Nat.le_of_eq g276.symm))
      have F_value_b276 : Fld Z h276 b276 "java/lang/String" "value" "[B" .null := D276 (Or.inr (ww hw 7 rfl)) (ty := (.array .byte)) (by decide)
      have F_coder_b276 : Fld Z h276 b276 "java/lang/String" "coder" "B" (.int (0 : Int32)) := D276 (Or.inr (ww hw 8 rfl)) (ty := .byte) (by decide)
      have g_b276 : n0 ≤ b276 := Nat.le_trans Zs273 (Nat.le_of_eq g276.symm)
      have Zs276 : n0 ≤ h276.size := Nat.le_trans Zs273 E276.1
      have k278 : Kq X0 maxLocals T276 (mkF m 118 (oL98 p0 p1 p2 b246) [(.int (2 : Int32)), (.ref b276), (.ref b276), (.ref b273), (.ref b273)]) := fun t k => k275 t (st276 _ (XS.dup X276.here hx rfl (hb hby at_116) rfl rfl (XS.iconst X276.here hx rfl (hb hby at_117) k)))
      obtain ⟨T279, h279, ka279, X279, e279, E279, A279, st279⟩ := newP X276 hx hZ266 (ww hw 61 rfl) e276 (g := gK k278) rfl (hb hby at_118) rfl (by decide) (cap := 2) (by decide) (by decide) (by decide) (by decide)
      obtain ⟨b279, g279⟩ : ∃ z, z = h276.size := ⟨_, rfl⟩
      rw [← g279] at A279 st279
      have ne_b246_b279 : b246 ≠ b279 := Nat.ne_of_lt (Nat.lt_of_lt_of_le ((Fx268_0.ext E273).ext E276).lt (Nat.le_of_eq g279.symm))
      have ne_b249_b279 : b249 ≠ b279 := Nat.ne_of_lt (Nat.lt_of_lt_of_le ((((Vx262.ext E266).keep K268 (ninS ne_b246_b249.symm nin0)).ext E273).ext E276).lt (Nat.le_of_eq g279.symm))
      have ne_t262_b279 : t262 ≠ b279 := Nat.ne_of_lt (Nat.lt_of_lt_of_le ((((Ax262.ext E266).keep K268 (ninS ne_b246_t262.symm nin0)).ext E273).ext E276).lt (Nat.le_of_eq g279.symm))
      have ne_b273_b279 : b273 ≠ b279 := Nat.ne_of_lt (Nat.lt_of_lt_of_le (F_value_b273.ext E276).lt (Nat.le_of_eq g279.symm))
      have ne_b276_b279 : b276 ≠ b279 := Nat.ne_of_lt (Nat.lt_of_lt_of_le F_value_b276.lt (Nat.le_of_eq g279.symm))
      have sn_b279 : Safe Z own_EL T266.vm h279 b279 := Safe.ext E279 (CHv.ext E276 (CHv.ext E273 cc269.1)) (Safe.new (Nat.le_of_eq g279.symm))
      have V_b279 : Arv Z h279 b279 ka279 .char (2 : Int32) [(.int (0 : Int32)), (.int (0 : Int32))] (.int (0 : Int32)) := (Arv.new A279 (by decide)).pad (pad_rep [] (.int (0 : Int32)) 2)
      have g_b279 : n0 ≤ b279 := Nat.le_trans Zs276 (Nat.le_of_eq g279.symm)
      have Zs279 : n0 ≤ h279.size := Nat.le_trans Zs276 E279.1
      have k281 : Kq X0 maxLocals T279 (mkF m 124 (oL98 p0 p1 p2 b246) [(.int (own_ch p2)), (.int (0 : Int32)), (.ref b279), (.ref b279), (.ref b276), (.ref b276), (.ref b273), (.ref b273)]) := fun t k => k278 t (st279 _ (XS.dup X279.here hx rfl (hb hby at_120) rfl rfl (XS.iconst X279.here hx rfl (hb hby at_121) (XS.iload X279.here hx rfl (hb hby at_122) rfl k))))
      obtain ⟨T282, h282, X282, e282, W282, V282, st282⟩ := own_stC X279 hx hZ266 e279 V_b279 0 (j := (0 : Int32)) rfl (Nat.le_of_ble_eq_true rfl) ⟨by decide, by decide⟩ (g := gK k281) rfl rfl (hb hby at_124)
      have N282 := Fr.snoc X282 N268 g_b279
      have Zs282 : n0 ≤ h282.size := Nat.le_trans Zs279 (Keep.of_wr W282).1
      have so283 := sn_b279
      have sw283_4 := Safe.wr W282 so283 (CHv.ext E279 (CHv.ext E276 (CHv.ext E273 cc269.1))) (Safe.ext E279 (CHv.ext E276 (CHv.ext E273 cc269.1)) sn_b276)
      have sw283_5 := Safe.wr W282 so283 (CHv.ext E279 (CHv.ext E276 (CHv.ext E273 cc269.1))) sn_b279
      have cw283 := CHr.trans (((cc269.trans (CHr.ext E273 cc269.1)).trans (CHr.ext E276 (CHv.ext E273 cc269.1))).trans (CHr.ext E279 (CHv.ext E276 (CHv.ext E273 cc269.1)))) (CHr.wr W282 so283 (CHv.ext E279 (CHv.ext E276 (CHv.ext E273 cc269.1))))
      have k286 : Kq X0 maxLocals T282 (mkF m 129 (oL98 p0 p1 p2 b246) [(.int (own_hi p2)), (.int (1 : Int32)), (.ref b279), (.ref b279), (.ref b276), (.ref b276), (.ref b273), (.ref b273)]) := fun t k => k281 t (st282 _ (XS.dup X282.here hx rfl (hb hby at_125) rfl rfl (XS.iconst X282.here hx rfl (hb hby at_126) (XS.iload X282.here hx rfl (hb hby at_127) rfl k))))
      obtain ⟨T287, h287, X287, e287, W287, V287, st287⟩ := own_stC X282 hx hZ266 e282 V282 1 (j := (1 : Int32)) rfl (Nat.le_of_ble_eq_true rfl) ⟨by decide, by decide⟩ (g := gK k286) rfl rfl (hb hby at_129)
      have V_b279_129 : Arv Z h287 b279 ka279 .char (2 : Int32) [(.int (nar .char (own_ch p2))), (.int (nar .char (own_hi p2)))] (.int (0 : Int32)) := V287
      have N287 := Fr.snoc X287 N282 g_b279
      have Zs287 : n0 ≤ h287.size := Nat.le_trans Zs282 (Keep.of_wr W287).1
      have so288 := sw283_5
      have sw288_4 := Safe.wr W287 so288 cw283.1 sw283_4
      have cw288 := CHr.trans cw283 (CHr.wr W287 so288 cw283.1)
      have fc289 := (((((((Vx262.ext E266).keep K268 (ninS ne_b246_b249.symm nin0)).ext E273).ext E276).ext E279).other W282 (Or.inl ne_b249_b279)).other W287 (Or.inl ne_b249_b279))
      have fc290 := (((((((Cx262.ext E266).keep K268 (ninS ne_b246_b249.symm nin0)).ext E273).ext E276).ext E279).other W282 (Or.inl ne_b249_b279)).other W287 (Or.inl ne_b249_b279))
      have k291 : Kq X0 maxLocals T287 (mkF m 130 (oL98 p0 p1 p2 b246) [(.ref b279), (.ref b276), (.ref b276), (.ref b273), (.ref b273)]) := fun t k => k286 t (st287 _ k)
      have hp292 : ∀ c ∈ ([(nar .char (own_ch p2)), (nar .char (own_hi p2))] : List Int32), ¬ c < 0 ∧ ¬ (255 : Int32) < c := by
        intro c hc
        simp only [List.mem_cons, List.not_mem_nil, or_false] at hc
        rcases hc with rfl | rfl
        · exact own_ch_ok _
        · exact own_hi_ok _
      obtain ⟨_, _, ⟨T292, L292, kq292, n292⟩, -, X292, ⟨Lc292, hQ292, l292, y292, z292⟩, st292⟩ := X287.specialBack hx (y := mN32) rfl hown266 (mw hZ266 hw 62 rfl) (mw hZ266 hw 63 rfl) (mw hZ266 hw 64 rfl) (by decide) (StrChars.Road.backV (W := 3) hZ266 hws (kI := 4) (ww hw 5 rfl) (cs := ([(nar .char (own_ch p2)), (nar .char (own_hi p2))] : List Int32)) (bs := (([(nar .char (own_ch p2)), (nar .char (own_hi p2))] : List Int32)).map (fun c => c.toInt8.toInt32)) (n := 2) g_b276 Zs287 (((A276.ext E279).wr W282).wr W287) (((F_value_b276.ext E279).other W282 (Or.inl ne_b276_b279)).other W287 (Or.inl ne_b276_b279)) (((F_coder_b276.ext E279).other W282 (Or.inl ne_b276_b279)).other W287 (Or.inl ne_b276_b279)) V_b279_129 (O2.ext (((((od270.ext E273).ext E276).ext E279).wr W282 g_b279).wr W287 g_b279).2) P5 rfl rfl (by decide) (by decide) hp292 rfl (by decide) (by decide)) (g := gK k291) rfl (by rw [hml]; rfl) (Steps.refl _) (a := b276) (argsL := [(.ref b279)]) (rest := [(.ref b276), (.ref b273), (.ref b273)]) (lenOf pd_25 rfl) rfl (by show 2 * 0 + _ ≤ _; exact Nat.le_of_eq rfl) (hb hby at_130) (fun _ _ => ⟨rfl, e287, (by decide : 9 + 1 ≤ _), (by decide : 32 + 2 ≤ _)⟩)
      dsimp only [Pt.U, Pt.locs, Pt.cells, Pt.slots] at X292 l292 y292 z292 st292 hQ292
      replace l292 := l292.symm; subst l292 y292 z292
      obtain ⟨rfl, N292q, K292, Ex292, Cx292, t292, kb292, gt292, zt292, nt292, Vx292, Ax292⟩ := hQ292
      have N292 := Fr.app N287 N292q
      have ne_b273_t292 : b273 ≠ t292 := Nat.ne_of_lt (Nat.lt_of_lt_of_le ((((F_value_b273.ext E276).ext E279).other W282 (Or.inl ne_b273_b279)).other W287 (Or.inl ne_b273_b279)).lt zt292)
      have sk293 : ∀ x ∈ ([b276] : List Addr), Safe Z own_EL T266.vm h287 x := (allS sw288_4 all0)
      have cc293 := CHr.trans cw288 (CHr.keep K292 sk293 cw288.1)
      have fc294 := ((((((((Ax262.ext E266).keep K268 (ninS ne_b246_t262.symm nin0)).ext E273).ext E276).ext E279).other W282 ne_t262_b279).other W287 ne_t262_b279).keep K292 (ninS ne_t262_b276 nin0))
      have Zs292 : n0 ≤ T292.heap.size := Nat.le_trans Zs287 K292.1
      have k296 : Kq X0 maxLocals T292 (mkF m 135 (oL98 p0 p1 p2 b246) [(.int (1 : Int32)), .null, (.ref b276), (.ref b273), (.ref b273)]) := fun t k => k291 t (st292.trans (XS.aconstNull X292.here hx rfl (hb hby at_133) (XS.iconst X292.here hx rfl (hb hby at_134) k)))
      obtain ⟨a297, T297, h297, j297, t297, kb297, X297, e297, E297, Sn297, jk297, hZ297, hown297, Ex297, Cx297, Vx297, Ax297, la297, lb297, cr297, Lt297, sf297, st297⟩ := ldcCH (s := s) (vm0 := T266.vm) X292 hx hZ266 hown266 (ww hw 205 rfl) hsa rfl Sn266 (Nat.le_trans (Nat.le_trans (Nat.le_trans (Nat.le_trans (Nat.le_trans (Nat.le_trans (Nat.le_trans jk266 K268.1) E273.1) E276.1) E279.1) (Keep.of_wr W282).1) (Keep.of_wr W287).1) K292.1) hEL (by simp [own_EL]) cc293.1 (vs := (oB [121])) (z := (1 : Int32)) ⟨by decide, by decide +kernel⟩ (by decide) (by decide) (g := gK k296) rfl (hb hby at_135) (n := 4) (by decide) (by decide) (by decide) (by decide)
      have Zs297 : n0 ≤ h297.size := Nat.le_trans Zs292 E297.1
      have k298 : Kq X0 maxLocals T297 (mkF m 137 (oL98 p0 p1 p2 b246) [(.ref a297), (.int (1 : Int32)), .null, (.ref b276), (.ref b273), (.ref b273)]) := fun t k => k296 t (st297 _ k)
      obtain ⟨_, _, ⟨T299, L299, kq299, n299⟩, -, X299, ⟨Lc299, hQ299, l299, y299, z299⟩, st299⟩ := X297.specialBack hx (y := mN26) rfl hown297 (mw hZ297 hw 11 rfl) (mw hZ297 hw 12 rfl) (mw hZ297 hw 13 rfl) (by decide) (backOf (W := 1) (rm1 l Z a0 hw [] b273 b276 a297 h297 n0 Zs297 ((((((F_value_b273.ext E276).ext E279).other W282 (Or.inl ne_b273_b279)).other W287 (Or.inl ne_b273_b279)).keep K292 (ninS ne_b273_b276 nin0)).ext E297) ((((((F_section_b273.ext E276).ext E279).other W282 (Or.inl ne_b273_b279)).other W287 (Or.inl ne_b273_b279)).keep K292 (ninS ne_b273_b276 nin0)).ext E297) ((((((F_line_b273.ext E276).ext E279).other W282 (Or.inl ne_b273_b279)).other W287 (Or.inl ne_b273_b279)).keep K292 (ninS ne_b273_b276 nin0)).ext E297) ((((((F_text_b273.ext E276).ext E279).other W282 (Or.inl ne_b273_b279)).other W287 (Or.inl ne_b273_b279)).keep K292 (ninS ne_b273_b276 nin0)).ext E297) ((((((F_derivedFrom_b273.ext E276).ext E279).other W282 (Or.inl ne_b273_b279)).other W287 (Or.inl ne_b273_b279)).keep K292 (ninS ne_b273_b276 nin0)).ext E297) ((((((A273.ext E276).ext E279).wr W282).wr W287).keep K292).ext E297) g_b273) hZ297 (ww hw 13 rfl) (ww hw 2 rfl) (by decide) (by decide)) (g := gK k298) rfl (by rw [hml]; rfl) (Steps.refl _) (a := b273) (argsL := [(.ref b276), .null, (.int (1 : Int32)), (.ref a297)]) (rest := [(.ref b273)]) (lenOf pd_22 rfl) rfl (by show 2 * 0 + _ ≤ _; exact Nat.le_of_eq rfl) (hb hby at_137) (fun _ _ => ⟨rfl, e297, (by decide : 12 + 0 ≤ _), (by decide : 42 + 0 ≤ _)⟩)
      dsimp only [Pt.U, Pt.locs, Pt.cells, Pt.slots] at X299 l299 y299 z299 st299 hQ299
      replace l299 := l299.symm; subst l299 y299 z299
      obtain ⟨rfl, N299q, K299, Ex299, Fx299_0, Fx299_1, Fx299_2, Fx299_3, Fx299_4⟩ := hQ299
      have N299 := Fr.app N292 N299q
      have sk300 : ∀ x ∈ ([b273] : List Addr), Safe Z own_EL T297.vm h297 x := (allS (Safe.exa hZ297.alike ((((((A273.ext E276).ext E279).wr W282).wr W287).keep K292).ext E297) (by decide) (by decide)) all0)
      have cc300 := CHr.trans (cc293.trans cr297) (CHr.keep K299 sk300 cr297.1)
      have fc301 := ((((((((Fx268_0.ext E273).ext E276).ext E279).other W282 (Or.inl ne_b246_b279)).other W287 (Or.inl ne_b246_b279)).keep K292 (ninS ne_b246_b276 nin0)).ext E297).keep K299 (ninS ne_b246_b273 nin0))
      have od302 := ((((((((od270.ext E273).ext E276).ext E279).wr W282 g_b279).wr W287 g_b279).keep K292 (allS g_b276 all0)).ext E297).keep K299 (allS g_b273 all0))
      have Zs299 : n0 ≤ T299.heap.size := Nat.le_trans Zs297 K299.1
      have k304 : Kq X0 maxLocals T299 (mkF m 146 (oL99 p0 p1 p2 b246 b273) []) := fun t k => k298 t (st299.trans (XS.goto X299.here hx rfl (pc0 := 140) (pc' := 144) rfl (hb hby at_140) (by decide) (by decide) (XS.astore X299.here hx rfl (hb hby at_144) rfl rfl (l' := (oL99 p0 p1 p2 b246 b273)) rfl k)))
      obtain ⟨T305, h305, X305, e305, E305, A305, D305, -, st305⟩ := newO X299 hx hZ297 hown297 (ww hw 0 rfl) (ww hw 1 rfl) (ww hw 2 rfl) rfl (g := gK k304) rfl (hb hby at_146) (by decide) (by decide)
      obtain ⟨b305, g305⟩ : ∃ z, z = T299.heap.size := ⟨_, rfl⟩
      rw [← g305] at A305 D305 st305
      have ne_b246_b305 : b246 ≠ b305 := Nat.ne_of_lt (Nat.lt_of_lt_of_le fc301.lt (Nat.le_of_eq g305.symm))
      have ne_b249_b305 : b249 ≠ b305 := Nat.ne_of_lt (Nat.lt_of_lt_of_le (((fc289.keep K292 (ninS ne_b249_b276 nin0)).ext E297).keep K299 (ninS ne_b249_b273 nin0)).lt (Nat.le_of_eq g305.symm))
      have ne_t262_b305 : t262 ≠ b305 := Nat.ne_of_lt (Nat.lt_of_lt_of_le ((fc294.ext E297).keep K299 (ninS ne_t262_b273 nin0)).lt (Nat.le_of_eq g305.symm))
      have ne_b273_b305 : b273 ≠ b305 := Nat.ne_of_lt (Nat.lt_of_lt_of_le Fx299_0.lt (Nat.le_of_eq g305.symm))
      have ne_b276_b305 : b276 ≠ b305 := Nat.ne_of_lt (Nat.lt_of_lt_of_le ((Vx292.ext E297).keep K299 (ninS ne_b273_b276.symm nin0)).lt (Nat.le_of_eq g305.symm))
      have ne_t292_b305 : t292 ≠ b305 := Nat.ne_of_lt (Nat.lt_of_lt_of_le ((Ax292.ext E297).keep K299 (ninS ne_b273_t292.symm nin0)).lt (Nat.le_of_eq g305.symm))
      have F_value_b305 : Fld Z h305 b305 "com/example/covenantry/covenantry/Figure" "value" "Ljava/lang/String;" .null := D305 (Or.inr (ww hw 21 rfl)) (ty := (.object "java/lang/String")) (by decide)
      have F_section_b305 : Fld Z h305 b305 "com/example/covenantry/covenantry/Figure" "section" "Ljava/lang/String;" .null := D305 (Or.inr (ww hw 23 rfl)) (ty := (.object "java/lang/String")) (by decide)
      have F_line_b305 : Fld Z h305 b305 "com/example/covenantry/covenantry/Figure" "line" "I" (.int (0 : Int32)) := D305 (Or.inr (ww hw 25 rfl)) (ty := .int) (by decide)
      have F_text_b305 : Fld Z h305 b305 "com/example/covenantry/covenantry/Figure" "text" "Ljava/lang/String;" .null := D305 (Or.inr (ww hw 27 rfl)) (ty := (.object "java/lang/String")) (by decide)
      have F_derivedFrom_b305 : Fld Z h305 b305 "com/example/covenantry/covenantry/Figure" "derivedFrom" "Ljava/lang/String;" .null := D305 (Or.inr (ww hw 29 rfl)) (ty := (.object "java/lang/String")) (by decide)
      have g_b305 : n0 ≤ b305 := Nat.le_trans Zs299 (Nat.le_of_eq g305.symm)
      have Zs305 : n0 ≤ h305.size := Nat.le_trans Zs299 E305.1
      have k307 : Kq X0 maxLocals T305 (mkF m 150 (oL99 p0 p1 p2 b246 b273) [(.ref b305), (.ref b305)]) := fun t k => k304 t (st305 _ (XS.dup X305.here hx rfl (hb hby at_149) rfl rfl k))
      obtain ⟨a308, T308, h308, j308, t308, kb308, X308, e308, E308, Sn308, jk308, hZ308, hown308, Ex308, Cx308, Vx308, Ax308, la308, lb308, cr308, Lt308, sf308, st308⟩ := ldcCH (s := s) (vm0 := T297.vm) X305 hx hZ297 hown297 (ww hw 3 rfl) hsa e305 Sn297 (Nat.le_trans (Nat.le_trans jk297 K299.1) E305.1) hEL (by simp [own_EL]) (CHv.ext E305 cc300.1) (vs := (oB [48, 46, 51, 55, 53])) (z := (5 : Int32)) ⟨by decide, by decide +kernel⟩ (by decide) (by decide) (g := gK k307) rfl (hb hby at_150) (n := 20) (by decide) (by decide) (by decide) (by decide)
      have Zs308 : n0 ≤ h308.size := Nat.le_trans Zs305 E308.1
      have k310 : Kq X0 maxLocals T308 (mkF m 154 (oL99 p0 p1 p2 b246 b273) [(.int (1 : Int32)), .null, (.ref a308), (.ref b305), (.ref b305)]) := fun t k => k307 t (st308 _ (XS.aconstNull X308.here hx rfl (hb hby at_152) (XS.iconst X308.here hx rfl (hb hby at_153) k)))
      have k311 : Kq X0 maxLocals T308 (mkF m 156 (oL99 p0 p1 p2 b246 b273) [(.ref a308), (.int (1 : Int32)), .null, (.ref a308), (.ref b305), (.ref b305)]) := fun t k => k310 t (ldcAgain (s := s) (vm0 := T308.vm) X308 hx hZ308 hown308 (ww hw 3 rfl) Lt308 (g := (mkF m 154 (oL99 p0 p1 p2 b246 b273) [(.int (1 : Int32)), .null, (.ref a308), (.ref b305), (.ref b305)])) rfl (hb hby at_154) _ k)
      obtain ⟨_, _, ⟨T312, L312, kq312, n312⟩, -, X312, ⟨Lc312, hQ312, l312, y312, z312⟩, st312⟩ := X308.specialBack hx (y := mN26) rfl hown308 (mw hZ308 hw 11 rfl) (mw hZ308 hw 12 rfl) (mw hZ308 hw 13 rfl) (by decide) (backOf (W := 1) (rm1 l Z a0 hw [] b305 a308 a308 h308 n0 Zs308 (F_value_b305.ext E308) (F_section_b305.ext E308) (F_line_b305.ext E308) (F_text_b305.ext E308) (F_derivedFrom_b305.ext E308) (A305.ext E308) g_b305) hZ308 (ww hw 13 rfl) (ww hw 2 rfl) (by decide) (by decide)) (g := gK k311) rfl (by rw [hml]; rfl) (Steps.refl _) (a := b305) (argsL := [(.ref a308), .null, (.int (1 : Int32)), (.ref a308)]) (rest := [(.ref b305)]) (lenOf pd_22 rfl) rfl (by show 2 * 0 + _ ≤ _; exact Nat.le_of_eq rfl) (hb hby at_156) (fun _ _ => ⟨rfl, e308, (by decide : 15 + 0 ≤ _), (by decide : 71 + 0 ≤ _)⟩)
      dsimp only [Pt.U, Pt.locs, Pt.cells, Pt.slots] at X312 l312 y312 z312 st312 hQ312
      replace l312 := l312.symm; subst l312 y312 z312
      obtain ⟨rfl, N312q, K312, Ex312, Fx312_0, Fx312_1, Fx312_2, Fx312_3, Fx312_4⟩ := hQ312
      have N312 := Fr.app N299 N312q
      have sk313 : ∀ x ∈ ([b305] : List Addr), Safe Z own_EL T308.vm h308 x := (allS (Safe.exa hZ308.alike (A305.ext E308) (by decide) (by decide)) all0)
      have cc313 := CHr.trans ((cc300.trans (CHr.ext E305 cc300.1)).trans cr308) (CHr.keep K312 sk313 cr308.1)
      have Zs312 : n0 ≤ T312.heap.size := Nat.le_trans Zs308 K312.1
      have k317 : Kq X0 maxLocals T312 (mkF m 161 (oL100 p0 p1 p2 b246 b273 b305) []) := fun t k => k311 t (st312.trans (XS.astore X312.here hx rfl (hb hby at_159) rfl rfl (l' := (oL100 p0 p1 p2 b246 b273 b305)) rfl k))
      obtain ⟨T318, h318, X318, e318, E318, A318, D318, -, st318⟩ := newO X312 hx hZ308 hown308 (ww hw 30 rfl) (ww hw 31 rfl) (ww hw 32 rfl) rfl (g := gK k317) rfl (hb hby at_161) (by decide) (by decide)
      obtain ⟨b318, g318⟩ : ∃ z, z = T312.heap.size := ⟨_, rfl⟩
      rw [← g318] at A318 D318 st318
      have ne_b246_b318 : b246 ≠ b318 := Nat.ne_of_lt (Nat.lt_of_lt_of_le (((fc301.ext E305).ext E308).keep K312 (ninS ne_b246_b305 nin0)).lt (Nat.le_of_eq g318.symm))
      have ne_b249_b318 : b249 ≠ b318 := Nat.ne_of_lt (Nat.lt_of_lt_of_le ((((((fc289.keep K292 (ninS ne_b249_b276 nin0)).ext E297).keep K299 (ninS ne_b249_b273 nin0)).ext E305).ext E308).keep K312 (ninS ne_b249_b305 nin0)).lt (Nat.le_of_eq g318.symm))
      have ne_t262_b318 : t262 ≠ b318 := Nat.ne_of_lt (Nat.lt_of_lt_of_le (((((fc294.ext E297).keep K299 (ninS ne_t262_b273 nin0)).ext E305).ext E308).keep K312 (ninS ne_t262_b305 nin0)).lt (Nat.le_of_eq g318.symm))
      have ne_b273_b318 : b273 ≠ b318 := Nat.ne_of_lt (Nat.lt_of_lt_of_le (((Fx299_0.ext E305).ext E308).keep K312 (ninS ne_b273_b305 nin0)).lt (Nat.le_of_eq g318.symm))
      have ne_b276_b318 : b276 ≠ b318 := Nat.ne_of_lt (Nat.lt_of_lt_of_le (((((Vx292.ext E297).keep K299 (ninS ne_b273_b276.symm nin0)).ext E305).ext E308).keep K312 (ninS ne_b276_b305 nin0)).lt (Nat.le_of_eq g318.symm))
      have ne_t292_b318 : t292 ≠ b318 := Nat.ne_of_lt (Nat.lt_of_lt_of_le (((((Ax292.ext E297).keep K299 (ninS ne_b273_t292.symm nin0)).ext E305).ext E308).keep K312 (ninS ne_t292_b305 nin0)).lt (Nat.le_of_eq g318.symm))
      have F_above_b318 : Fld Z h318 b318 "com/example/covenantry/covenantry/FeeLevel" "above" "Lcom/example/covenantry/covenantry/Figure;" .null := D318 (Or.inr (ww hw 41 rfl)) (ty := (.object "com/example/covenantry/covenantry/Figure")) (by decide)
      have F_atMost_b318 : Fld Z h318 b318 "com/example/covenantry/covenantry/FeeLevel" "atMost" "Lcom/example/covenantry/covenantry/Figure;" .null := D318 (Or.inr (ww hw 43 rfl)) (ty := (.object "com/example/covenantry/covenantry/Figure")) (by decide)
      have F_rate_b318 : Fld Z h318 b318 "com/example/covenantry/covenantry/FeeLevel" "rate" "Lcom/example/covenantry/covenantry/Figure;" .null := D318 (Or.inr (ww hw 45 rfl)) (ty := (.object "com/example/covenantry/covenantry/Figure")) (by decide)
      have F_unreadable_b318 : Fld Z h318 b318 "com/example/covenantry/covenantry/FeeLevel" "unreadable" "Lcom/example/covenantry/covenantry/Unreadable;" .null := D318 (Or.inr (ww hw 47 rfl)) (ty := (.object "com/example/covenantry/covenantry/Unreadable")) (by decide)
      have g_b318 : n0 ≤ b318 := Nat.le_trans Zs312 (Nat.le_of_eq g318.symm)
      have Zs318 : n0 ≤ h318.size := Nat.le_trans Zs312 E318.1
      have k320 : Kq X0 maxLocals T318 (mkF m 171 (oL100 p0 p1 p2 b246 b273 b305) [(.ref b305), (.ref b273), (.ref b246), (.ref b318), (.ref b318)]) := fun t k => k317 t (st318 _ (XS.dup X318.here hx rfl (hb hby at_164) rfl rfl (XS.aload X318.here hx rfl (hb hby at_165) rfl rfl (XS.aload X318.here hx rfl (hb hby at_167) rfl rfl (XS.aload X318.here hx rfl (hb hby at_169) rfl rfl k)))))
      obtain ⟨_, _, ⟨T321, L321, kq321, n321⟩, -, X321, ⟨Lc321, hQ321, l321, y321, z321⟩, st321⟩ := X318.specialBack hx (y := mN29) rfl hown308 (mw hZ308 hw 33 rfl) (mw hZ308 hw 34 rfl) (mw hZ308 hw 35 rfl) (by decide) (backOf (W := 1) (rm4l11 l Z a0 hw [] b318 b246 b273 b305 h318 n0 Zs318 F_above_b318 F_atMost_b318 F_rate_b318 F_unreadable_b318 A318 g_b318) hZ308 (ww hw 35 rfl) (ww hw 32 rfl) (by decide) (by decide)) (g := gK k320) rfl (by rw [hml]; rfl) (Steps.refl _) (a := b318) (argsL := [(.ref b246), (.ref b273), (.ref b305)]) (rest := [(.ref b318)]) (lenOf pd_23 rfl) rfl (by show 2 * 0 + _ ≤ _; exact Nat.le_of_eq rfl) (hb hby at_171) (fun _ _ => ⟨rfl, e318, (by decide : 16 + 0 ≤ _), (by decide : 75 + 0 ≤ _)⟩)
      dsimp only [Pt.U, Pt.locs, Pt.cells, Pt.slots] at X321 l321 y321 z321 st321 hQ321
      replace l321 := l321.symm; subst l321 y321 z321
      obtain ⟨rfl, N321q, K321, Ex321, Fx321_0, Fx321_1, Fx321_2, Fx321_3⟩ := hQ321
      have N321 := Fr.app N312 N321q
      have sk322 : ∀ x ∈ ([b318] : List Addr), Safe Z own_EL T308.vm h318 x := (allS (Safe.exa hZ308.alike A318 (by decide) (by decide)) all0)
      have cc322 := CHr.trans (cc313.trans (CHr.ext E318 cc313.1)) (CHr.keep K321 sk322 (CHv.ext E318 cc313.1))
      have fc323 := ((((((((fc289.keep K292 (ninS ne_b249_b276 nin0)).ext E297).keep K299 (ninS ne_b249_b273 nin0)).ext E305).ext E308).keep K312 (ninS ne_b249_b305 nin0)).ext E318).keep K321 (ninS ne_b249_b318 nin0))
      have fc324 := ((((((((fc290.keep K292 (ninS ne_b249_b276 nin0)).ext E297).keep K299 (ninS ne_b249_b273 nin0)).ext E305).ext E308).keep K312 (ninS ne_b249_b305 nin0)).ext E318).keep K321 (ninS ne_b249_b318 nin0))
      have fc325 := (((((((((((((((Ex262.ext E266).keep K268).ext E273).ext E276).ext E279).wr W282).wr W287).keep K292).ext E297).keep K299).ext E305).ext E308).keep K312).ext E318).keep K321)
      have fc327 := (((((((Vx292.ext E297).keep K299 (ninS ne_b273_b276.symm nin0)).ext E305).ext E308).keep K312 (ninS ne_b276_b305 nin0)).ext E318).keep K321 (ninS ne_b276_b318 nin0))
      have fc328 := (((((((Cx292.ext E297).keep K299 (ninS ne_b273_b276.symm nin0)).ext E305).ext E308).keep K312 (ninS ne_b276_b305 nin0)).ext E318).keep K321 (ninS ne_b276_b318 nin0))
      have fc329 := (((((((Ax292.ext E297).keep K299 (ninS ne_b273_t292.symm nin0)).ext E305).ext E308).keep K312 (ninS ne_t292_b305 nin0)).ext E318).keep K321 (ninS ne_t292_b318 nin0))
      have Zs321 : n0 ≤ T321.heap.size := Nat.le_trans Zs318 K321.1
      have k330 : Kq X0 maxLocals T321 (mkF m 174 (oL100 p0 p1 p2 b246 b273 b305) [(.ref b318)]) := fun t k => k320 t (st321.trans k)
      obtain ⟨cq331, kcq331, q331a, q331b, q331c⟩ := isOf hZ308 rfl Ex321
      obtain ⟨_, _, ⟨T331, L331, kq331, n331⟩, -, X331, Sc331, gr331, ⟨Lc331, hQ331, l331, y331, z331, cr331⟩, st331⟩ := X321.virtualBackS hx (y := mN30) (z := mN30) hown308 (mw hZ308 hw 48 rfl) (mw hZ308 hw 49 rfl) (notFace_of_selects (args := #[]) (mw hZ308 hw 51 rfl)) (mw hZ308 hw 51 rfl) (mw hZ308 hw 50 rfl) (by decide) (backOfSH (s := s) (vm0 := T308.vm) (W := 0) (rm6s11 l Z a0 hw [] b318 b246 b249 t262 kb262 (oB [(nar .char (own_ch p1)), (nar .char (own_hi p1))]) b273 b276 t292 kb292 (oB [(nar .char (own_ch p2)), (nar .char (own_hi p2))]) G1 T321.heap n0 Zs321 Fx321_0 Fx321_1 Ex321 (((((fc301.ext E305).ext E308).keep K312 (ninS ne_b246_b305 nin0)).ext E318).keep K321 (ninS ne_b246_b318 nin0)) (((((((((((((Ex268.ext E273).ext E276).ext E279).wr W282).wr W287).keep K292).ext E297).keep K299).ext E305).ext E308).keep K312).ext E318).keep K321) fc325 fc323 fc324 (((((((fc294.ext E297).keep K299 (ninS ne_t262_b273 nin0)).ext E305).ext E308).keep K312 (ninS ne_t262_b305 nin0)).ext E318).keep K321 (ninS ne_t262_b318 nin0)) rfl (((((Fx299_0.ext E305).ext E308).keep K312 (ninS ne_b273_b305 nin0)).ext E318).keep K321 (ninS ne_b273_b318 nin0)) (((((Ex299.ext E305).ext E308).keep K312).ext E318).keep K321) (((((((Ex292.ext E297).keep K299).ext E305).ext E308).keep K312).ext E318).keep K321) fc327 fc328 fc329 rfl O2 P5 (((((od302.ext E305).ext E308).keep K312 (allS g_b305 all0)).ext E318).keep K321 (allS g_b318 all0))) hZ308 (ww hw 52 rfl) (ww hw 32 rfl) (by decide) (by decide) hEL cc322.1) q331a q331c (g := gK k330) rfl (by rw [hml]; rfl) (Steps.refl _) (argsL := []) (rest := []) (lenOf pd_21 rfl) rfl (by show 2 * 0 + _ ≤ _; exact Nat.le_of_eq rfl) (hb hby at_174) (fun _ _ => ⟨rfl, rfl, (by decide : 16 + 9 ≤ _), (by decide : 75 + 150 ≤ _)⟩)
      dsimp only [Pt.U, Pt.locs, Pt.cells, Pt.slots] at Sc331 gr331 cr331
      dsimp only [Pt.U, Pt.locs, Pt.cells, Pt.slots] at X331 l331 y331 z331 st331 hQ331
      replace l331 := l331.symm; subst l331 y331 z331
      obtain ⟨xs331, ts331, ks331, W331, rfl, N331q, K331, Ex331, Fv331, Fc331, Vs331, hW331⟩ := hQ331
      have N331 := Fr.app N321 N331q
      have Zs331 : n0 ≤ T331.heap.size := Nat.le_trans Zs321 K331.1
      have hZ331 : Z.Warmed39 (s.setVm T331.vm).vm := State.Warmed39.trans (t := s.setVm T308.vm) hZ308 Sc331.1
      have hown331 : (s.setVm T331.vm).vm.findClass "com/example/covenantry/covenantry/FeeLevelSpanPinLaw" = some m.cls := by rw [show (s.setVm T331.vm).vm = T331.vm from rfl, Sc331.1.alike.findClass]; exact hown308
      have Sn331 : s.Since T331.vm T331.heap.size := foldS (vm0 := T308.vm) Sn308 (Nat.le_trans (Nat.le_trans (Nat.le_trans jk308 K312.1) E318.1) K321.1) Sc331 gr331
      have hc181 : ¬ ((1 : Int32) = (0 : Int32)) := by decide
      have hc198 : ¬ ((1 : Int32) = (0 : Int32)) := by decide
      have hc273 : ¬ ((1 : Int32) = (0 : Int32)) := by decide
      have k333 : Kq X0 maxLocals T331 (mkF m 333 (oL101 p0 p1 p2 b246 b273 b305 xs331) []) := fun t k => k330 t (st331.trans (XS.astore X331.here hx rfl (hb hby at_177) rfl rfl (l' := (oL101 p0 p1 p2 b246 b273 b305 xs331)) rfl (XS.iload X331.here hx rfl (hb hby at_179) rfl (XS.ifYes X331.here hx rfl (pc0 := 181) (pc' := 196) rfl (hb hby at_181) rfl ((if0 _ _).trans (feq hc181).2) (by decide) (by decide) (XS.iload X331.here hx rfl (hb hby at_196) rfl (XS.ifYes X331.here hx rfl (pc0 := 198) (pc' := 271) rfl (hb hby at_198) rfl ((if0 _ _).trans (feq hc198).2) (by decide) (by decide) (XS.iload X331.here hx rfl (hb hby at_271) rfl (show Sg X0 T331 273 (oL101 p0 p1 p2 b246 b273 b305 xs331) [(.int (1 : Int32))] t from (XS.ifYes X331.here hx rfl (pc0 := 273) (pc' := 333) rfl (hb hby at_273) rfl ((if0 _ _).trans (feq hc273).2) (by decide) (by decide) k)))))))))
      obtain ⟨T334, h334, X334, e334, E334, A334, D334, -, st334⟩ := newO X331 hx hZ331 hown331 (ww hw 60 rfl) (ww hw 5 rfl) (ww hw 4 rfl) rfl (g := gK k333) rfl (hb hby at_333) (by decide) (by decide)
      obtain ⟨b334, g334⟩ : ∃ z, z = T331.heap.size := ⟨_, rfl⟩
      rw [← g334] at A334 D334 st334
      have ne_xs331_b334 : xs331 ≠ b334 := Nat.ne_of_lt (Nat.lt_of_lt_of_le Ex331.lt (Nat.le_of_eq g334.symm))
      have ne_ts331_b334 : ts331 ≠ b334 := Nat.ne_of_lt (Nat.lt_of_lt_of_le Vs331.lt (Nat.le_of_eq g334.symm))
      have F_value_b334 : Fld Z h334 b334 "java/lang/String" "value" "[B" .null := D334 (Or.inr (ww hw 7 rfl)) (ty := (.array .byte)) (by decide)
      have F_coder_b334 : Fld Z h334 b334 "java/lang/String" "coder" "B" (.int (0 : Int32)) := D334 (Or.inr (ww hw 8 rfl)) (ty := .byte) (by decide)
      have g_b334 : n0 ≤ b334 := Nat.le_trans Zs331 (Nat.le_of_eq g334.symm)
      have Zs334 : n0 ≤ h334.size := Nat.le_trans Zs331 E334.1
      have k336 : Kq X0 maxLocals T334 (mkF m 339 (oL101 p0 p1 p2 b246 b273 b305 xs331) [(.int (20 : Int32)), (.ref b334), (.ref b334)]) := fun t k => k333 t (st334 _ (XS.dup X334.here hx rfl (hb hby at_336) rfl rfl (XS.bipush X334.here hx rfl (hb hby at_337) k)))
      obtain ⟨T337, h337, ka337, X337, e337, E337, A337, st337⟩ := newP X334 hx hZ331 (ww hw 61 rfl) e334 (g := gK k336) rfl (hb hby at_339) rfl (by decide) (cap := 20) (by decide) (by decide) (by decide) (by decide)
      obtain ⟨b337, g337⟩ : ∃ z, z = h334.size := ⟨_, rfl⟩
      rw [← g337] at A337 st337
      have ne_xs331_b337 : xs331 ≠ b337 := Nat.ne_of_lt (Nat.lt_of_lt_of_le (Ex331.ext E334).lt (Nat.le_of_eq g337.symm))
      have ne_ts331_b337 : ts331 ≠ b337 := Nat.ne_of_lt (Nat.lt_of_lt_of_le (Vs331.ext E334).lt (Nat.le_of_eq g337.symm))
      have ne_b334_b337 : b334 ≠ b337 := Nat.ne_of_lt (Nat.lt_of_lt_of_le F_value_b334.lt (Nat.le_of_eq g337.symm))
      have V_b337 : Arv Z h337 b337 ka337 .char (20 : Int32) oZ20 (.int (0 : Int32)) := (Arv.new A337 (by decide)).pad (pad_rep [] (.int (0 : Int32)) 20)
      have g_b337 : n0 ≤ b337 := Nat.le_trans Zs334 (Nat.le_of_eq g337.symm)
      have Zs337 : n0 ≤ h337.size := Nat.le_trans Zs334 E337.1
      have k339 : Kq X0 maxLocals T337 (mkF m 345 (oL101 p0 p1 p2 b246 b273 b305 xs331) [(.int (97 : Int32)), (.int (0 : Int32)), (.ref b337), (.ref b337), (.ref b334), (.ref b334)]) := fun t k => k336 t (st337 _ (XS.dup X337.here hx rfl (hb hby at_341) rfl rfl (XS.iconst X337.here hx rfl (hb hby at_342) (XS.bipush X337.here hx rfl (hb hby at_343) k))))
      obtain ⟨T340, h340, X340, e340, W340, V340, st340⟩ := own_stC X337 hx hZ331 e337 V_b337 0 (j := (0 : Int32)) rfl (Nat.le_of_ble_eq_true rfl) ⟨by decide, by decide⟩ (g := gK k339) rfl rfl (hb hby at_345)
      have N340 := Fr.snoc X340 N331 g_b337
      have Zs340 : n0 ≤ h340.size := Nat.le_trans Zs337 (Keep.of_wr W340).1
      have od342 := (((((((((od302.ext E305).ext E308).keep K312 (allS g_b305 all0)).ext E318).keep K321 (allS g_b318 all0)).keep K331 all0).ext E334).ext E337).wr W340 g_b337)
      have k344 : Kq X0 maxLocals T340 (mkF m 350 (oL101 p0 p1 p2 b246 b273 b305 xs331) [(.int (98 : Int32)), (.int (1 : Int32)), (.ref b337), (.ref b337), (.ref b334), (.ref b334)]) := fun t k => k339 t (st340 _ (XS.dup X340.here hx rfl (hb hby at_346) rfl rfl (XS.iconst X340.here hx rfl (hb hby at_347) (XS.bipush X340.here hx rfl (hb hby at_348) k))))
      obtain ⟨T345, h345, X345, e345, W345, V345, st345⟩ := own_stC X340 hx hZ331 e340 V340 1 (j := (1 : Int32)) rfl (Nat.le_of_ble_eq_true rfl) ⟨by decide, by decide⟩ (g := gK k344) rfl rfl (hb hby at_350)
      have N345 := Fr.snoc X345 N340 g_b337
      have Zs345 : n0 ≤ h345.size := Nat.le_trans Zs340 (Keep.of_wr W345).1
      have k348 : Kq X0 maxLocals T345 (mkF m 355 (oL101 p0 p1 p2 b246 b273 b305 xs331) [(.int (111 : Int32)), (.int (2 : Int32)), (.ref b337), (.ref b337), (.ref b334), (.ref b334)]) := fun t k => k344 t (st345 _ (XS.dup X345.here hx rfl (hb hby at_351) rfl rfl (XS.iconst X345.here hx rfl (hb hby at_352) (XS.bipush X345.here hx rfl (hb hby at_353) k))))
      obtain ⟨T349, h349, X349, e349, W349, V349, st349⟩ := own_stC X345 hx hZ331 e345 V345 2 (j := (2 : Int32)) rfl (Nat.le_of_ble_eq_true rfl) ⟨by decide, by decide⟩ (g := gK k348) rfl rfl (hb hby at_355)
      have N349 := Fr.snoc X349 N345 g_b337
      have Zs349 : n0 ≤ h349.size := Nat.le_trans Zs345 (Keep.of_wr W349).1
      have k352 : Kq X0 maxLocals T349 (mkF m 360 (oL101 p0 p1 p2 b246 b273 b305 xs331) [(.int (118 : Int32)), (.int (3 : Int32)), (.ref b337), (.ref b337), (.ref b334), (.ref b334)]) := fun t k => k348 t (st349 _ (XS.dup X349.here hx rfl (hb hby at_356) rfl rfl (XS.iconst X349.here hx rfl (hb hby at_357) (XS.bipush X349.here hx rfl (hb hby at_358) k))))
      obtain ⟨T353, h353, X353, e353, W353, V353, st353⟩ := own_stC X349 hx hZ331 e349 V349 3 (j := (3 : Int32)) rfl (Nat.le_of_ble_eq_true rfl) ⟨by decide, by decide⟩ (g := gK k352) rfl rfl (hb hby at_360)
      have N353 := Fr.snoc X353 N349 g_b337
      have Zs353 : n0 ≤ h353.size := Nat.le_trans Zs349 (Keep.of_wr W353).1
      have fc355 := ((((((Fv331.ext E334).ext E337).other W340 (Or.inl ne_xs331_b337)).other W345 (Or.inl ne_xs331_b337)).other W349 (Or.inl ne_xs331_b337)).other W353 (Or.inl ne_xs331_b337))
      have fc356 := ((((((Fc331.ext E334).ext E337).other W340 (Or.inl ne_xs331_b337)).other W345 (Or.inl ne_xs331_b337)).other W349 (Or.inl ne_xs331_b337)).other W353 (Or.inl ne_xs331_b337))
      have fc357 := (((((F_value_b334.ext E337).other W340 (Or.inl ne_b334_b337)).other W345 (Or.inl ne_b334_b337)).other W349 (Or.inl ne_b334_b337)).other W353 (Or.inl ne_b334_b337))
      have fc358 := (((((F_coder_b334.ext E337).other W340 (Or.inl ne_b334_b337)).other W345 (Or.inl ne_b334_b337)).other W349 (Or.inl ne_b334_b337)).other W353 (Or.inl ne_b334_b337))
      have k360 : Kq X0 maxLocals T353 (mkF m 365 (oL101 p0 p1 p2 b246 b273 b305 xs331) [(.int (101 : Int32)), (.int (4 : Int32)), (.ref b337), (.ref b337), (.ref b334), (.ref b334)]) := fun t k => k352 t (st353 _ (XS.dup X353.here hx rfl (hb hby at_361) rfl rfl (XS.iconst X353.here hx rfl (hb hby at_362) (XS.bipush X353.here hx rfl (hb hby at_363) k))))
      obtain ⟨T361, h361, X361, e361, W361, V361, st361⟩ := own_stC X353 hx hZ331 e353 V353 4 (j := (4 : Int32)) rfl (Nat.le_of_ble_eq_true rfl) ⟨by decide, by decide⟩ (g := gK k360) rfl rfl (hb hby at_365)
      have V_b337_365 : Arv Z h361 b337 ka337 .char (20 : Int32) ((.int (nC 97)) :: (.int (nC 98)) :: (.int (nC 111)) :: (.int (nC 118)) :: (.int (nC 101)) :: (.int (0 : Int32)) :: (.int (0 : Int32)) :: (.int (0 : Int32)) :: (.int (0 : Int32)) :: (.int (0 : Int32)) :: (.int (0 : Int32)) :: (.int (0 : Int32)) :: (.int (0 : Int32)) :: (.int (0 : Int32)) :: (.int (0 : Int32)) :: (.int (0 : Int32)) :: (.int (0 : Int32)) :: (.int (0 : Int32)) :: (.int (0 : Int32)) :: (.int (0 : Int32)) :: []) (.int (0 : Int32)) := V361
      have N361 := Fr.snoc X361 N353 g_b337
      have Zs361 : n0 ≤ h361.size := Nat.le_trans Zs353 (Keep.of_wr W361).1
      have fc363 := (((((((Vs331.ext E334).ext E337).other W340 ne_ts331_b337).other W345 ne_ts331_b337).other W349 ne_ts331_b337).other W353 ne_ts331_b337).other W361 ne_ts331_b337)
      have k365 : Kq X0 maxLocals T361 (mkF m 370 (oL101 p0 p1 p2 b246 b273 b305 xs331) [(.int (32 : Int32)), (.int (5 : Int32)), (.ref b337), (.ref b337), (.ref b334), (.ref b334)]) := fun t k => k360 t (st361 _ (XS.dup X361.here hx rfl (hb hby at_366) rfl rfl (XS.iconst X361.here hx rfl (hb hby at_367) (XS.bipush X361.here hx rfl (hb hby at_368) k))))
      obtain ⟨T366, h366, X366, e366, W366, V366, st366⟩ := own_stC X361 hx hZ331 e361 V_b337_365 5 (j := (5 : Int32)) rfl (Nat.le_of_ble_eq_true rfl) ⟨by decide, by decide⟩ (g := gK k365) rfl rfl (hb hby at_370)
      have N366 := Fr.snoc X366 N361 g_b337
      have Zs366 : n0 ≤ h366.size := Nat.le_trans Zs361 (Keep.of_wr W366).1
      have k369 : Kq X0 maxLocals T366 (mkF m 375 (oL101 p0 p1 p2 b246 b273 b305 xs331) [(.int (own_ch p1)), (.int (6 : Int32)), (.ref b337), (.ref b337), (.ref b334), (.ref b334)]) := fun t k => k365 t (st366 _ (XS.dup X366.here hx rfl (hb hby at_371) rfl rfl (XS.bipush X366.here hx rfl (hb hby at_372) (XS.iloadN X366.here hx rfl (hb hby at_374) rfl k))))
      obtain ⟨T370, h370, X370, e370, W370, V370, st370⟩ := own_stC X366 hx hZ331 e366 V366 6 (j := (6 : Int32)) rfl (Nat.le_of_ble_eq_true rfl) ⟨by decide, by decide⟩ (g := gK k369) rfl rfl (hb hby at_375)
      have N370 := Fr.snoc X370 N366 g_b337
      have Zs370 : n0 ≤ h370.size := Nat.le_trans Zs366 (Keep.of_wr W370).1
      have k373 : Kq X0 maxLocals T370 (mkF m 381 (oL101 p0 p1 p2 b246 b273 b305 xs331) [(.int (own_hi p1)), (.int (7 : Int32)), (.ref b337), (.ref b337), (.ref b334), (.ref b334)]) := fun t k => k369 t (st370 _ (XS.dup X370.here hx rfl (hb hby at_376) rfl rfl (XS.bipush X370.here hx rfl (hb hby at_377) (XS.iload X370.here hx rfl (hb hby at_379) rfl k))))
      obtain ⟨T374, h374, X374, e374, W374, V374, st374⟩ := own_stC X370 hx hZ331 e370 V370 7 (j := (7 : Int32)) rfl (Nat.le_of_ble_eq_true rfl) ⟨by decide, by decide⟩ (g := gK k373) rfl rfl (hb hby at_381)
      have N374 := Fr.snoc X374 N370 g_b337
      have Zs374 : n0 ≤ h374.size := Nat.le_trans Zs370 (Keep.of_wr W374).1
      have od376 := (((((((od342.wr W345 g_b337).wr W349 g_b337).wr W353 g_b337).wr W361 g_b337).wr W366 g_b337).wr W370 g_b337).wr W374 g_b337)
      have k378 : Kq X0 maxLocals T374 (mkF m 387 (oL101 p0 p1 p2 b246 b273 b305 xs331) [(.int (44 : Int32)), (.int (8 : Int32)), (.ref b337), (.ref b337), (.ref b334), (.ref b334)]) := fun t k => k373 t (st374 _ (XS.dup X374.here hx rfl (hb hby at_382) rfl rfl (XS.bipush X374.here hx rfl (hb hby at_383) (XS.bipush X374.here hx rfl (hb hby at_385) k))))
      obtain ⟨T379, h379, X379, e379, W379, V379, st379⟩ := own_stC X374 hx hZ331 e374 V374 8 (j := (8 : Int32)) rfl (Nat.le_of_ble_eq_true rfl) ⟨by decide, by decide⟩ (g := gK k378) rfl rfl (hb hby at_387)
      have N379 := Fr.snoc X379 N374 g_b337
      have Zs379 : n0 ≤ h379.size := Nat.le_trans Zs374 (Keep.of_wr W379).1
      have fc381 := (((((fc355.other W361 (Or.inl ne_xs331_b337)).other W366 (Or.inl ne_xs331_b337)).other W370 (Or.inl ne_xs331_b337)).other W374 (Or.inl ne_xs331_b337)).other W379 (Or.inl ne_xs331_b337))
      have fc382 := (((((fc356.other W361 (Or.inl ne_xs331_b337)).other W366 (Or.inl ne_xs331_b337)).other W370 (Or.inl ne_xs331_b337)).other W374 (Or.inl ne_xs331_b337)).other W379 (Or.inl ne_xs331_b337))
      have fc383 := (((((fc357.other W361 (Or.inl ne_b334_b337)).other W366 (Or.inl ne_b334_b337)).other W370 (Or.inl ne_b334_b337)).other W374 (Or.inl ne_b334_b337)).other W379 (Or.inl ne_b334_b337))
      have fc384 := (((((fc358.other W361 (Or.inl ne_b334_b337)).other W366 (Or.inl ne_b334_b337)).other W370 (Or.inl ne_b334_b337)).other W374 (Or.inl ne_b334_b337)).other W379 (Or.inl ne_b334_b337))
      have k386 : Kq X0 maxLocals T379 (mkF m 393 (oL101 p0 p1 p2 b246 b273 b305 xs331) [(.int (32 : Int32)), (.int (9 : Int32)), (.ref b337), (.ref b337), (.ref b334), (.ref b334)]) := fun t k => k378 t (st379 _ (XS.dup X379.here hx rfl (hb hby at_388) rfl rfl (XS.bipush X379.here hx rfl (hb hby at_389) (XS.bipush X379.here hx rfl (hb hby at_391) k))))
      obtain ⟨T387, h387, X387, e387, W387, V387, st387⟩ := own_stC X379 hx hZ331 e379 V379 9 (j := (9 : Int32)) rfl (Nat.le_of_ble_eq_true rfl) ⟨by decide, by decide⟩ (g := gK k386) rfl rfl (hb hby at_393)
      have V_b337_393 : Arv Z h387 b337 ka337 .char (20 : Int32) ((.int (nC 97)) :: (.int (nC 98)) :: (.int (nC 111)) :: (.int (nC 118)) :: (.int (nC 101)) :: (.int (nC 32)) :: (.int (nar .char (own_ch p1))) :: (.int (nar .char (own_hi p1))) :: (.int (nC 44)) :: (.int (nC 32)) :: (.int (0 : Int32)) :: (.int (0 : Int32)) :: (.int (0 : Int32)) :: (.int (0 : Int32)) :: (.int (0 : Int32)) :: (.int (0 : Int32)) :: (.int (0 : Int32)) :: (.int (0 : Int32)) :: (.int (0 : Int32)) :: (.int (0 : Int32)) :: []) (.int (0 : Int32)) := V387
      have N387 := Fr.snoc X387 N379 g_b337
      have Zs387 : n0 ≤ h387.size := Nat.le_trans Zs379 (Keep.of_wr W387).1
      have k390 : Kq X0 maxLocals T387 (mkF m 399 (oL101 p0 p1 p2 b246 b273 b305 xs331) [(.int (97 : Int32)), (.int (10 : Int32)), (.ref b337), (.ref b337), (.ref b334), (.ref b334)]) := fun t k => k386 t (st387 _ (XS.dup X387.here hx rfl (hb hby at_394) rfl rfl (XS.bipush X387.here hx rfl (hb hby at_395) (XS.bipush X387.here hx rfl (hb hby at_397) k))))
      obtain ⟨T391, h391, X391, e391, W391, V391, st391⟩ := own_stC X387 hx hZ331 e387 V_b337_393 10 (j := (10 : Int32)) rfl (Nat.le_of_ble_eq_true rfl) ⟨by decide, by decide⟩ (g := gK k390) rfl rfl (hb hby at_399)
      have N391 := Fr.snoc X391 N387 g_b337
      have Zs391 : n0 ≤ h391.size := Nat.le_trans Zs387 (Keep.of_wr W391).1
      have fc393 := ((((((fc363.other W366 ne_ts331_b337).other W370 ne_ts331_b337).other W374 ne_ts331_b337).other W379 ne_ts331_b337).other W387 ne_ts331_b337).other W391 ne_ts331_b337)
      have k395 : Kq X0 maxLocals T391 (mkF m 405 (oL101 p0 p1 p2 b246 b273 b305 xs331) [(.int (116 : Int32)), (.int (11 : Int32)), (.ref b337), (.ref b337), (.ref b334), (.ref b334)]) := fun t k => k390 t (st391 _ (XS.dup X391.here hx rfl (hb hby at_400) rfl rfl (XS.bipush X391.here hx rfl (hb hby at_401) (XS.bipush X391.here hx rfl (hb hby at_403) k))))
      obtain ⟨T396, h396, X396, e396, W396, V396, st396⟩ := own_stC X391 hx hZ331 e391 V391 11 (j := (11 : Int32)) rfl (Nat.le_of_ble_eq_true rfl) ⟨by decide, by decide⟩ (g := gK k395) rfl rfl (hb hby at_405)
      have N396 := Fr.snoc X396 N391 g_b337
      have Zs396 : n0 ≤ h396.size := Nat.le_trans Zs391 (Keep.of_wr W396).1
      have k399 : Kq X0 maxLocals T396 (mkF m 411 (oL101 p0 p1 p2 b246 b273 b305 xs331) [(.int (32 : Int32)), (.int (12 : Int32)), (.ref b337), (.ref b337), (.ref b334), (.ref b334)]) := fun t k => k395 t (st396 _ (XS.dup X396.here hx rfl (hb hby at_406) rfl rfl (XS.bipush X396.here hx rfl (hb hby at_407) (XS.bipush X396.here hx rfl (hb hby at_409) k))))
      obtain ⟨T400, h400, X400, e400, W400, V400, st400⟩ := own_stC X396 hx hZ331 e396 V396 12 (j := (12 : Int32)) rfl (Nat.le_of_ble_eq_true rfl) ⟨by decide, by decide⟩ (g := gK k399) rfl rfl (hb hby at_411)
      have N400 := Fr.snoc X400 N396 g_b337
      have Zs400 : n0 ≤ h400.size := Nat.le_trans Zs396 (Keep.of_wr W400).1
      have k403 : Kq X0 maxLocals T400 (mkF m 417 (oL101 p0 p1 p2 b246 b273 b305 xs331) [(.int (109 : Int32)), (.int (13 : Int32)), (.ref b337), (.ref b337), (.ref b334), (.ref b334)]) := fun t k => k399 t (st400 _ (XS.dup X400.here hx rfl (hb hby at_412) rfl rfl (XS.bipush X400.here hx rfl (hb hby at_413) (XS.bipush X400.here hx rfl (hb hby at_415) k))))
      obtain ⟨T404, h404, X404, e404, W404, V404, st404⟩ := own_stC X400 hx hZ331 e400 V400 13 (j := (13 : Int32)) rfl (Nat.le_of_ble_eq_true rfl) ⟨by decide, by decide⟩ (g := gK k403) rfl rfl (hb hby at_417)
      have N404 := Fr.snoc X404 N400 g_b337
      have Zs404 : n0 ≤ h404.size := Nat.le_trans Zs400 (Keep.of_wr W404).1
      have fc406 := ((((((((((((((((Ex331.ext E334).ext E337).wr W340).wr W345).wr W349).wr W353).wr W361).wr W366).wr W370).wr W374).wr W379).wr W387).wr W391).wr W396).wr W400).wr W404)
      have fc407 := (((((fc381.other W387 (Or.inl ne_xs331_b337)).other W391 (Or.inl ne_xs331_b337)).other W396 (Or.inl ne_xs331_b337)).other W400 (Or.inl ne_xs331_b337)).other W404 (Or.inl ne_xs331_b337))
      have fc408 := (((((fc382.other W387 (Or.inl ne_xs331_b337)).other W391 (Or.inl ne_xs331_b337)).other W396 (Or.inl ne_xs331_b337)).other W400 (Or.inl ne_xs331_b337)).other W404 (Or.inl ne_xs331_b337))
      have fc409 := (((((fc383.other W387 (Or.inl ne_b334_b337)).other W391 (Or.inl ne_b334_b337)).other W396 (Or.inl ne_b334_b337)).other W400 (Or.inl ne_b334_b337)).other W404 (Or.inl ne_b334_b337))
      have fc410 := (((((fc384.other W387 (Or.inl ne_b334_b337)).other W391 (Or.inl ne_b334_b337)).other W396 (Or.inl ne_b334_b337)).other W400 (Or.inl ne_b334_b337)).other W404 (Or.inl ne_b334_b337))
      have k412 : Kq X0 maxLocals T404 (mkF m 423 (oL101 p0 p1 p2 b246 b273 b305 xs331) [(.int (111 : Int32)), (.int (14 : Int32)), (.ref b337), (.ref b337), (.ref b334), (.ref b334)]) := fun t k => k403 t (st404 _ (XS.dup X404.here hx rfl (hb hby at_418) rfl rfl (XS.bipush X404.here hx rfl (hb hby at_419) (XS.bipush X404.here hx rfl (hb hby at_421) k))))
      obtain ⟨T413, h413, X413, e413, W413, V413, st413⟩ := own_stC X404 hx hZ331 e404 V404 14 (j := (14 : Int32)) rfl (Nat.le_of_ble_eq_true rfl) ⟨by decide, by decide⟩ (g := gK k412) rfl rfl (hb hby at_423)
      have V_b337_423 : Arv Z h413 b337 ka337 .char (20 : Int32) ((.int (nC 97)) :: (.int (nC 98)) :: (.int (nC 111)) :: (.int (nC 118)) :: (.int (nC 101)) :: (.int (nC 32)) :: (.int (nar .char (own_ch p1))) :: (.int (nar .char (own_hi p1))) :: (.int (nC 44)) :: (.int (nC 32)) :: (.int (nC 97)) :: (.int (nC 116)) :: (.int (nC 32)) :: (.int (nC 109)) :: (.int (nC 111)) :: (.int (0 : Int32)) :: (.int (0 : Int32)) :: (.int (0 : Int32)) :: (.int (0 : Int32)) :: (.int (0 : Int32)) :: []) (.int (0 : Int32)) := V413
      have N413 := Fr.snoc X413 N404 g_b337
      have Zs413 : n0 ≤ h413.size := Nat.le_trans Zs404 (Keep.of_wr W413).1
      have fc415 := ((((((((((((((((A334.ext E337).wr W340).wr W345).wr W349).wr W353).wr W361).wr W366).wr W370).wr W374).wr W379).wr W387).wr W391).wr W396).wr W400).wr W404).wr W413)
      have od416 := (((((((od376.wr W379 g_b337).wr W387 g_b337).wr W391 g_b337).wr W396 g_b337).wr W400 g_b337).wr W404 g_b337).wr W413 g_b337)
      have k418 : Kq X0 maxLocals T413 (mkF m 429 (oL101 p0 p1 p2 b246 b273 b305 xs331) [(.int (115 : Int32)), (.int (15 : Int32)), (.ref b337), (.ref b337), (.ref b334), (.ref b334)]) := fun t k => k412 t (st413 _ (XS.dup X413.here hx rfl (hb hby at_424) rfl rfl (XS.bipush X413.here hx rfl (hb hby at_425) (XS.bipush X413.here hx rfl (hb hby at_427) k))))
      obtain ⟨T419, h419, X419, e419, W419, V419, st419⟩ := own_stC X413 hx hZ331 e413 V_b337_423 15 (j := (15 : Int32)) rfl (Nat.le_of_ble_eq_true rfl) ⟨by decide, by decide⟩ (g := gK k418) rfl rfl (hb hby at_429)
      have N419 := Fr.snoc X419 N413 g_b337
      have Zs419 : n0 ≤ h419.size := Nat.le_trans Zs413 (Keep.of_wr W419).1
      have k422 : Kq X0 maxLocals T419 (mkF m 435 (oL101 p0 p1 p2 b246 b273 b305 xs331) [(.int (116 : Int32)), (.int (16 : Int32)), (.ref b337), (.ref b337), (.ref b334), (.ref b334)]) := fun t k => k418 t (st419 _ (XS.dup X419.here hx rfl (hb hby at_430) rfl rfl (XS.bipush X419.here hx rfl (hb hby at_431) (XS.bipush X419.here hx rfl (hb hby at_433) k))))
      obtain ⟨T423, h423, X423, e423, W423, V423, st423⟩ := own_stC X419 hx hZ331 e419 V419 16 (j := (16 : Int32)) rfl (Nat.le_of_ble_eq_true rfl) ⟨by decide, by decide⟩ (g := gK k422) rfl rfl (hb hby at_435)
      have N423 := Fr.snoc X423 N419 g_b337
      have Zs423 : n0 ≤ h423.size := Nat.le_trans Zs419 (Keep.of_wr W423).1
      have fc425 := ((((((fc393.other W396 ne_ts331_b337).other W400 ne_ts331_b337).other W404 ne_ts331_b337).other W413 ne_ts331_b337).other W419 ne_ts331_b337).other W423 ne_ts331_b337)
      have k427 : Kq X0 maxLocals T423 (mkF m 441 (oL101 p0 p1 p2 b246 b273 b305 xs331) [(.int (32 : Int32)), (.int (17 : Int32)), (.ref b337), (.ref b337), (.ref b334), (.ref b334)]) := fun t k => k422 t (st423 _ (XS.dup X423.here hx rfl (hb hby at_436) rfl rfl (XS.bipush X423.here hx rfl (hb hby at_437) (XS.bipush X423.here hx rfl (hb hby at_439) k))))
      obtain ⟨T428, h428, X428, e428, W428, V428, st428⟩ := own_stC X423 hx hZ331 e423 V423 17 (j := (17 : Int32)) rfl (Nat.le_of_ble_eq_true rfl) ⟨by decide, by decide⟩ (g := gK k427) rfl rfl (hb hby at_441)
      have N428 := Fr.snoc X428 N423 g_b337
      have Zs428 : n0 ≤ h428.size := Nat.le_trans Zs423 (Keep.of_wr W428).1
      have k431 : Kq X0 maxLocals T428 (mkF m 447 (oL101 p0 p1 p2 b246 b273 b305 xs331) [(.int (own_ch p2)), (.int (18 : Int32)), (.ref b337), (.ref b337), (.ref b334), (.ref b334)]) := fun t k => k427 t (st428 _ (XS.dup X428.here hx rfl (hb hby at_442) rfl rfl (XS.bipush X428.here hx rfl (hb hby at_443) (XS.iload X428.here hx rfl (hb hby at_445) rfl k))))
      obtain ⟨T432, h432, X432, e432, W432, V432, st432⟩ := own_stC X428 hx hZ331 e428 V428 18 (j := (18 : Int32)) rfl (Nat.le_of_ble_eq_true rfl) ⟨by decide, by decide⟩ (g := gK k431) rfl rfl (hb hby at_447)
      have N432 := Fr.snoc X432 N428 g_b337
      have Zs432 : n0 ≤ h432.size := Nat.le_trans Zs428 (Keep.of_wr W432).1
      have fc434 := (((((fc407.other W413 (Or.inl ne_xs331_b337)).other W419 (Or.inl ne_xs331_b337)).other W423 (Or.inl ne_xs331_b337)).other W428 (Or.inl ne_xs331_b337)).other W432 (Or.inl ne_xs331_b337))
      have fc435 := (((((fc408.other W413 (Or.inl ne_xs331_b337)).other W419 (Or.inl ne_xs331_b337)).other W423 (Or.inl ne_xs331_b337)).other W428 (Or.inl ne_xs331_b337)).other W432 (Or.inl ne_xs331_b337))
      have fc436 := (((((fc409.other W413 (Or.inl ne_b334_b337)).other W419 (Or.inl ne_b334_b337)).other W423 (Or.inl ne_b334_b337)).other W428 (Or.inl ne_b334_b337)).other W432 (Or.inl ne_b334_b337))
      have fc437 := (((((fc410.other W413 (Or.inl ne_b334_b337)).other W419 (Or.inl ne_b334_b337)).other W423 (Or.inl ne_b334_b337)).other W428 (Or.inl ne_b334_b337)).other W432 (Or.inl ne_b334_b337))
      have k439 : Kq X0 maxLocals T432 (mkF m 453 (oL101 p0 p1 p2 b246 b273 b305 xs331) [(.int (own_hi p2)), (.int (19 : Int32)), (.ref b337), (.ref b337), (.ref b334), (.ref b334)]) := fun t k => k431 t (st432 _ (XS.dup X432.here hx rfl (hb hby at_448) rfl rfl (XS.bipush X432.here hx rfl (hb hby at_449) (XS.iload X432.here hx rfl (hb hby at_451) rfl k))))
      obtain ⟨T440, h440, X440, e440, W440, V440, st440⟩ := own_stC X432 hx hZ331 e432 V432 19 (j := (19 : Int32)) rfl (Nat.le_of_ble_eq_true rfl) ⟨by decide, by decide⟩ (g := gK k439) rfl rfl (hb hby at_453)
      have V_b337_453 : Arv Z h440 b337 ka337 .char (20 : Int32) ((.int (nC 97)) :: (.int (nC 98)) :: (.int (nC 111)) :: (.int (nC 118)) :: (.int (nC 101)) :: (.int (nC 32)) :: (.int (nar .char (own_ch p1))) :: (.int (nar .char (own_hi p1))) :: (.int (nC 44)) :: (.int (nC 32)) :: (.int (nC 97)) :: (.int (nC 116)) :: (.int (nC 32)) :: (.int (nC 109)) :: (.int (nC 111)) :: (.int (nC 115)) :: (.int (nC 116)) :: (.int (nC 32)) :: (.int (nar .char (own_ch p2))) :: (.int (nar .char (own_hi p2))) :: []) (.int (0 : Int32)) := V440
      have N440 := Fr.snoc X440 N432 g_b337
      have Zs440 : n0 ≤ h440.size := Nat.le_trans Zs432 (Keep.of_wr W440).1
      have k442 : Kq X0 maxLocals T440 (mkF m 454 (oL101 p0 p1 p2 b246 b273 b305 xs331) [(.ref b337), (.ref b334), (.ref b334)]) := fun t k => k439 t (st440 _ k)
      have hp443 : ∀ c ∈ (((nC 97) :: (nC 98) :: (nC 111) :: (nC 118) :: (nC 101) :: (nC 32) :: (nar .char (own_ch p1)) :: (nar .char (own_hi p1)) :: (nC 44) :: (nC 32) :: (nC 97) :: (nC 116) :: (nC 32) :: (nC 109) :: (nC 111) :: (nC 115) :: (nC 116) :: (nC 32) :: (nar .char (own_ch p2)) :: (nar .char (own_hi p2)) :: []) : List Int32), ¬ c < 0 ∧ ¬ (255 : Int32) < c := by
        intro c hc
        simp only [List.mem_cons, List.not_mem_nil, or_false] at hc
        rcases hc with rfl | rfl | rfl | rfl | rfl | rfl | rfl | rfl | rfl | rfl | rfl | rfl | rfl | rfl | rfl | rfl | rfl | rfl | rfl | rfl
        · exact by decide
        · exact by decide
        · exact by decide
        · exact by decide
        · exact by decide
        · exact by decide
        · exact own_ch_ok _
        · exact own_hi_ok _
        · exact by decide
        · exact by decide
        · exact by decide
        · exact by decide
        · exact by decide
        · exact by decide
        · exact by decide
        · exact by decide
        · exact by decide
        · exact by decide
        · exact own_ch_ok _
        · exact own_hi_ok _
      obtain ⟨_, _, ⟨T443, L443, kq443, n443⟩, -, X443, ⟨Lc443, hQ443, l443, y443, z443⟩, st443⟩ := X440.specialBack hx (y := mN32) rfl hown331 (mw hZ331 hw 62 rfl) (mw hZ331 hw 63 rfl) (mw hZ331 hw 64 rfl) (by decide) (StrChars.Road.backV (W := 1) hZ331 hws (kI := 4) (ww hw 5 rfl) (cs := (((nC 97) :: (nC 98) :: (nC 111) :: (nC 118) :: (nC 101) :: (nC 32) :: (nar .char (own_ch p1)) :: (nar .char (own_hi p1)) :: (nC 44) :: (nC 32) :: (nC 97) :: (nC 116) :: (nC 32) :: (nC 109) :: (nC 111) :: (nC 115) :: (nC 116) :: (nC 32) :: (nar .char (own_ch p2)) :: (nar .char (own_hi p2)) :: []) : List Int32)) (bs := ((((nC 97) :: (nC 98) :: (nC 111) :: (nC 118) :: (nC 101) :: (nC 32) :: (nar .char (own_ch p1)) :: (nar .char (own_hi p1)) :: (nC 44) :: (nC 32) :: (nC 97) :: (nC 116) :: (nC 32) :: (nC 109) :: (nC 111) :: (nC 115) :: (nC 116) :: (nC 32) :: (nar .char (own_ch p2)) :: (nar .char (own_hi p2)) :: []) : List Int32)).map (fun c => c.toInt8.toInt32)) (n := 20) g_b334 Zs440 (((((fc415.wr W419).wr W423).wr W428).wr W432).wr W440) (fc436.other W440 (Or.inl ne_b334_b337)) (fc437.other W440 (Or.inl ne_b334_b337)) V_b337_453 (O2.ext (((((od416.wr W419 g_b337).wr W423 g_b337).wr W428 g_b337).wr W432 g_b337).wr W440 g_b337).2) P5 rfl rfl (by decide) (by decide) hp443 rfl (by decide) (by decide)) (g := gK k442) rfl (by rw [hml]; rfl) (Steps.refl _) (a := b334) (argsL := [(.ref b337)]) (rest := [(.ref b334)]) (lenOf pd_25 rfl) rfl (by show 2 * 0 + _ ≤ _; exact Nat.le_of_eq rfl) (hb hby at_454) (fun _ _ => ⟨rfl, e440, (by decide : 27 + 1 ≤ _), (by decide : 249 + 20 ≤ _)⟩)
      dsimp only [Pt.U, Pt.locs, Pt.cells, Pt.slots] at X443 l443 y443 z443 st443 hQ443
      replace l443 := l443.symm; subst l443 y443 z443
      obtain ⟨rfl, N443q, K443, Ex443, Cx443, t443, kb443, gt443, zt443, nt443, Vx443, Ax443⟩ := hQ443
      have N443 := Fr.app N440 N443q
      have od445 := ((((((od416.wr W419 g_b337).wr W423 g_b337).wr W428 g_b337).wr W432 g_b337).wr W440 g_b337).keep K443 (allS g_b334 all0))
      have hpe : ∀ c ∈ (((nC 97) :: (nC 98) :: (nC 111) :: (nC 118) :: (nC 101) :: (nC 32) :: (nar .char (own_ch p1)) :: (nar .char (own_hi p1)) :: (nC 44) :: (nC 32) :: (nC 97) :: (nC 116) :: (nC 32) :: (nC 109) :: (nC 111) :: (nC 115) :: (nC 116) :: (nC 32) :: (nar .char (own_ch p2)) :: (nar .char (own_hi p2)) :: []) : List Int32), ¬ c < 0 ∧ ¬ (255 : Int32) < c := hp443
      have hcd : StrChars.Road.CodA (((nC 97) :: (nC 98) :: (nC 111) :: (nC 118) :: (nC 101) :: (nC 32) :: (nar .char (own_ch p1)) :: (nar .char (own_hi p1)) :: (nC 44) :: (nC 32) :: (nC 97) :: (nC 116) :: (nC 32) :: (nC 109) :: (nC 111) :: (nC 115) :: (nC 116) :: (nC 32) :: (nar .char (own_ch p2)) :: (nar .char (own_hi p2)) :: []) : List Int32) 0 (20 : Int32) (oB ((nC 97) :: (nC 98) :: (nC 111) :: (nC 118) :: (nC 101) :: (nC 32) :: (nar .char (own_ch p1)) :: (nar .char (own_hi p1)) :: (nC 44) :: (nC 32) :: (nC 97) :: (nC 116) :: (nC 32) :: (nC 109) :: (nC 111) :: (nC 115) :: (nC 116) :: (nC 32) :: (nar .char (own_ch p2)) :: (nar .char (own_hi p2)) :: [])) := StrChars.Road.codOf (n := 20) rfl (fun c hc => (hpe c hc).2)
      have hWe : W331 = (oB ((nC 97) :: (nC 98) :: (nC 111) :: (nC 118) :: (nC 101) :: (nC 32) :: (nar .char (own_ch p1)) :: (nar .char (own_hi p1)) :: (nC 44) :: (nC 32) :: (nC 97) :: (nC 116) :: (nC 32) :: (nC 109) :: (nC 111) :: (nC 115) :: (nC 116) :: (nC 32) :: (nar .char (own_ch p2)) :: (nar .char (own_hi p2)) :: [])) := hW331.trans (by simp only [own_c32, own_c44, own_c97, own_c98, own_c101, own_c109, own_c111, own_c115, own_c116, own_c118]; rfl)
      have Vse : Arv Z T443.heap ts331 ks331 .byte (20 : Int32) (oB ((nC 97) :: (nC 98) :: (nC 111) :: (nC 118) :: (nC 101) :: (nC 32) :: (nar .char (own_ch p1)) :: (nar .char (own_hi p1)) :: (nC 44) :: (nC 32) :: (nC 97) :: (nC 116) :: (nC 32) :: (nC 109) :: (nC 111) :: (nC 115) :: (nC 116) :: (nC 32) :: (nar .char (own_ch p2)) :: (nar .char (own_hi p2)) :: [])) (.int (0 : Int32)) := by rw [← hWe]; exact ((((fc425.other W428 ne_ts331_b337).other W432 ne_ts331_b337).other W440 ne_ts331_b337).keep K443 (ninS ne_ts331_b334 nin0))
      have k447 : Kq X0 maxLocals T443 (mkF m 463 (oL102 p0 p1 p2 b246 b273 b305 xs331 b334) [(.ref xs331), (.ref b334)]) := fun t k => k442 t (st443.trans (XS.astore X443.here hx rfl (hb hby at_457) rfl rfl (l' := (oL102 p0 p1 p2 b246 b273 b305 xs331 b334)) rfl (XS.aload X443.here hx rfl (hb hby at_459) rfl rfl (XS.aload X443.here hx rfl (hb hby at_461) rfl rfl k))))
      obtain ⟨cq448, kcq448, q448a, q448b, q448c⟩ := isOf hZ331 rfl Ex443
      obtain ⟨_, _, ⟨T448, L448, kq448, n448⟩, -, X448, ⟨Lc448, hQ448, l448, y448, z448⟩, st448⟩ := X443.virtualBack hx (y := mN31) (z := mN31) hown331 (mw hZ331 hw 55 rfl) (mw hZ331 hw 56 rfl) (notFace_of_selects (args := #[]) (mw hZ331 hw 58 rfl)) (mw hZ331 hw 58 rfl) (mw hZ331 hw 57 rfl) (by decide) (StrChars.Road.eqW (W := 0) hZ331 heqw (kI := 4) (ww hw 5 rfl) Ex443 Vx443 Cx443 Ax443 hcd (own_up _ hpe) (Nat.le_of_ble_eq_true rfl) (((((((fc406.wr W413).wr W419).wr W423).wr W428).wr W432).wr W440).keep K443) ((fc434.other W440 (Or.inl ne_xs331_b337)).keep K443 (ninS ne_xs331_b334 nin0)) ((fc435.other W440 (Or.inl ne_xs331_b337)).keep K443 (ninS ne_xs331_b334 nin0)) Vse hcd (own_up _ hpe) (Nat.le_of_ble_eq_true rfl) (O2.ext od445.2) P5 (by decide) (by decide)) q448a q448c (g := gK k447) rfl (by rw [hml]; rfl) (Steps.refl _) (argsL := [(.ref xs331)]) (rest := []) (lenOf pd_24 rfl) rfl (by show 2 * 0 + _ ≤ _; exact Nat.le_of_eq rfl) (hb hby at_463) (fun _ _ => ⟨rfl, rfl, (by decide : 28 + 0 ≤ _), (by decide : 269 + 0 ≤ _)⟩)
      dsimp only [Pt.U, Pt.locs, Pt.cells, Pt.slots] at X448 l448 y448 z448 st448 hQ448
      replace l448 := l448.symm; subst l448 y448 z448
      obtain ⟨hcase448, rfl, e448⟩ := hQ448
      obtain rfl : _ = some (Value.int 1) := by rcases hcase448 with ⟨q, -⟩ | ⟨-, q⟩; exact q; exact absurd rfl q
      have N448 := Fr.app N443 (Fr.nil n0)
      have k449 : Kq X0 maxLocals T448 (mkF m 466 (oL102 p0 p1 p2 b246 b273 b305 xs331 b334) [(.int (1 : Int32))]) := fun t k => k447 t (st448.trans k)
      obtain ⟨fs, hr, hrun, hended, w1, w2, w3, w4⟩ := X448.leaveW (s := s) (vm₁ := T331.vm) Sn331 (by rw [e448]; exact (Nat.le_trans (Nat.le_trans (Nat.le_trans (Nat.le_trans (Nat.le_trans (Nat.le_trans (Nat.le_trans (Nat.le_trans (Nat.le_trans (Nat.le_trans (Nat.le_trans (Nat.le_trans (Nat.le_trans (Nat.le_trans (Nat.le_trans (Nat.le_trans (Nat.le_trans (Nat.le_trans (Nat.le_trans (Nat.le_trans (Nat.le_trans (Nat.le_trans (Nat.le_trans (Nat.le_refl _) E334.1) E337.1) (Keep.of_wr W340).1) (Keep.of_wr W345).1) (Keep.of_wr W349).1) (Keep.of_wr W353).1) (Keep.of_wr W361).1) (Keep.of_wr W366).1) (Keep.of_wr W370).1) (Keep.of_wr W374).1) (Keep.of_wr W379).1) (Keep.of_wr W387).1) (Keep.of_wr W391).1) (Keep.of_wr W396).1) (Keep.of_wr W400).1) (Keep.of_wr W404).1) (Keep.of_wr W413).1) (Keep.of_wr W419).1) (Keep.of_wr W423).1) (Keep.of_wr W428).1) (Keep.of_wr W432).1) (Keep.of_wr W440).1) K443.1)) (v := (some (.int (1 : Int32)))) (fun h => by rw [Bd.returns] at h; cases h)
      refine ⟨_, _, k449 _ ?_, hrun, hended, _, _, rfl, ?_, w1, w2, w3, w4.mono (by decide) (by decide)⟩
      · exact retN X448 hx (t := .boolean) Bd.returns (by simp) (hb hby at_466) hr
      · show Q0 Z p0 p1 p2 G1 h0 n0 _ T448.heap _
        rw [e448]
        exact ⟨rfl, N448⟩
theorem comes_1 {Post : Tables → Env → Array Value → State → Outcome → State → Prop} (hpost : ∀ tb e args s v u, (limb_1_1.after args s (.returned v) u = true ∧ limb_1_2.after args s (.returned v) u = true ∧ True) → ReturnedEndW s (.returned v) u (Jvm.fieldLocs frame_1_writes args s ++ Jvm.arrayLocs frame_1_arrays args s ++ Jvm.staticLocs frame_1_statics s) 64 8640 → Post tb e args s (.returned v) u) :
    ArmFor flags0 classFile x code maxLocals ret World_1 tables_1 room_1 Calls_1 rest_1 Pre_1 Post := by
  intro l hfl _ _ p e ha hc hk s m args below hf hA hF happ hP
  obtain ⟨hcalls, hrest, hpre⟩ := hP
  obtain ⟨-, -, -, hnamed, -, -, -, hat⟩ := (Spec.applies_iff hf).mp happ
  obtain ⟨hg, hn⟩ := and_e (Cond.before_iff.mp (show (Jvm.Cond.and given_1 narrow_1).before args s = true from hpre))
  obtain ⟨hcount, hgs⟩ := and_e hg
  obtain ⟨w0, w1, w2, rfl⟩ : ∃ w0 w1 w2 : Value, args = #[w0, w1, w2] := by
    have hs : args.size = 3 := by simpa [Cond.value, given_1] using hcount
    obtain ⟨L⟩ := args
    match L, hs with
    | [w0, w1, w2], _ => exact ⟨w0, w1, w2, rfl⟩
  have hw := fun d (hd : d ∈ tables_1) => atoms_spec (ws := Jvm.Cond.code x code maxLocals ret :: tables_1) hat d (List.mem_cons_of_mem _ hd)
  obtain ⟨hg0, hgr0⟩ := and_e hgs
  obtain ⟨i0, ei0⟩ := is_v hg0
  obtain rfl : w0 = (.int i0) := Option.some.inj ei0
  obtain ⟨hg1, hgr1⟩ := and_e hgr0
  obtain ⟨i1, ei1⟩ := is_v hg1
  obtain rfl : w1 = (.int i1) := Option.some.inj ei1
  obtain ⟨i2, ei2⟩ := is_v hgr1
  obtain rfl : w2 = (.int i2) := Option.some.inj ei2
  obtain ⟨hsets, hown0⟩ := atoms_of _ (rest_1_c_eq ▸ (show rest_1_c.before _ s = true from hrest))
  have n5 := not_v (Cond.before_iff.mp (hsets _ (own_wi 2 rfl)))
  obtain ⟨G1, eG1⟩ := is_v (Cond.before_iff.mp (hsets _ (own_wi 1 rfl)))
  have O2 : Sta s s.heap "java/lang/String" "COMPACT_STRINGS" "Z" (.int G1) := Sta.start eG1 (Or.inl (hsets _ (own_wi 0 rfl)))
  have P5 : ¬ (G1 = (0 : Int32)) := gotF (Cond.eq_ints eG1 (Term.int_eval (0))) n5
  have hELs : EW s #[(.int i0), (.int i1), (.int i2)] own_EL := (EW.cons (text := "any ratio") (ww hw 53 rfl) (by decide) (EW.cons (text := "at most ") (ww hw 224 rfl) (by decide) (EW.cons (text := "above ") (ww hw 102 rfl) (by decide) (EW.cons (text := ", at most ") (ww hw 206 rfl) (by decide) (EW.cons (text := "x") (ww hw 83 rfl) (by decide) (EW.cons (text := "y") (ww hw 205 rfl) (by decide) (EW.cons (text := "0.375") (ww hw 3 rfl) (by decide) (EW.cons (text := "any ratio") (ww hw 54 rfl) (by decide) EW.nil))))))))
  have hCH : CHv s own_EL s.vm s.heap := CHv.start hELs (fun p hp => hcalls.1 p hp) (hsets _ (own_wi 2 rfl)) (ww hw 6 rfl) (ww hw 5 rfl)
  obtain ⟨n, o, h1, h2, h3, _, L, rfl, ⟨rfl, N⟩, hq⟩ := rm0 l s _ hw tables_1 i0 i1 i2 G1 s.heap s.heap.size (Nat.le_refl _) O2 P5 (Old.start s) p e ha hc hk s m _ below hf ((Spec.applies_iff_loose hf).mp happ).1 ⟨rfl, State.Warmed39.refl s, rfl, hCH⟩ trivial
  refine ⟨n, _, h1, h2, h3, hpost _ _ _ _ _ _ ⟨Cond.after_iff.mpr rfl, Cond.after_iff.mpr (eq_i res_at (Term.int_eval (1)) rfl), trivial⟩ ⟨hq.1, hq.2.1, hq.2.2.1, (hq.2.2.2.sift fun y hy => Or.inr (N y hy)).mono (by decide) (by decide)⟩⟩
theorem main_1_1 : Claimed_1_1 := comes_1 fun _ _ _ _ _ _ h hF => ⟨h.1, hF⟩
theorem main_1_2 : Claimed_1_2 := comes_1 fun _ _ _ _ _ _ h hF => ⟨h.2.1, hF⟩
end Jvm.Pilot.@@N@@
namespace Jvm.Pilot.@@N@@
open Jvm Jvm.ClassFile Sem Op Lib Jvm.Free Jvm.Stand Jvm.Pilot.@@N@@.Jvm.D
/-! MADE BY PROGRAM (witnessworld.py) out of the Statement's table words and the real class files: 27 classes; the members and pool entries that the words name. The judged class is class 1, her method 1. -/
namespace start1
open Jvm.ClassFile
def u (s : String) : CpInfo := .utf8 (stringToUtf16 s)
/-- a pool by its gaps: so many unusable entries, then the entry; so many at the end -/
def gap : Nat → List CpInfo → List CpInfo
  | 0, r => r
  | n + 1, r => .unusable :: gap n r
def poolList (es : List (Nat × CpInfo)) (last : Nat) : List CpInfo := es.foldr (fun e r => gap e.1 (e.2 :: r)) (gap last [])
def pool (es : List (Nat × CpInfo)) (last : Nat) : Array CpInfo := ⟨poolList es last⟩
def fileOf (pool : Array CpInfo) (this : Nat) (attrs : Array Attribute := #[]) (ms : Array MethodInfo := #[]) (fl : Nat := 33) (sup : Nat := 0) (ifs : Array Nat := #[]) (fds : Array FieldInfo := #[]) : ClassFile where
  minorVersion := 0
  majorVersion := 65
  constantPool := pool
  accessFlags := fl
  thisClass := this
  superClass := sup
  interfaces := ifs
  fields := fds
  methods := ms
  attributes := attrs
def plain (name : String) (sup : Option ClassId) : Class where
  name := name
  kind := .ordinary
  loader := none
  accessFlags := 33
  super := sup
  interfaces := #[]
  cf := none
  fields := #[]
  methods := #[]
  instanceTypes := #[]
  staticTypes := #[]
  resolved := #[]
  callSites := []
  init := .initialized
  statics := none
  mirror := none

def pool0 : Array CpInfo := pool [(5, u "<init>"), (0, u "()V"), (1, .class_ 10), (1, u "java/lang/Object")] 113

def k0c0 : Code := { maxStack := 0, maxLocals := 1, code := object_method_1_code, exceptionTable := #[], attributes := #[] }
def k0m0 : Method := { name := "<init>", desc := "()V", sig := { parameters := [], returnType := none }, accessFlags := 1, code := some k0c0 }
/-- java/lang/Object -/
def k0 : Class := { plain "java/lang/Object" none with
  accessFlags := 33
  interfaces := #[]
  cf := some (fileOf pool0 8 #[] #[{ accessFlags := 1, nameIndex := 5, descriptorIndex := 6, attributes := #[] }] 33 0 #[] #[])
  fields := #[]
  methods := #[k0m0]
  instanceTypes := #[]
  staticTypes := #[]
  resolved := Array.replicate 124 none
  statics := none }

def pool1 : Array CpInfo := pool [(2, .class_ 4), (1, u "java/lang/Object"), (0, u "<init>"), (0, u "()V"), (0, .class_ 8), (0, u "com/example/covenantry/covenantry/Figure"), (0, .class_ 10), (0, u "java/lang/String"), (0, .methodref 9 12), (0, .nameAndType 5 13), (0, u "([C)V"), (0, .string 15), (0, u "x"), (0, .methodref 7 17), (0, .nameAndType 5 18), (0, u "(Ljava/lang/String;Ljava/lang/String;ILjava/lang/String;)V"), (0, .string 20), (0, u "y"), (0, .string 22), (0, u "0.375"), (0, .class_ 24), (0, u "com/example/covenantry/covenantry/FeeLevel"), (0, .methodref 23 26), (0, .nameAndType 5 27), (0, u "(Lcom/example/covenantry/covenantry/Figure;Lcom/example/covenantry/covenantry/Figure;Lcom/example/covenantry/covenantry/Figure;)V"), (0, .methodref 23 29), (0, .nameAndType 30 31), (0, u "span"), (0, u "()Ljava/lang/String;"), (0, .string 33), (0, u "any ratio"), (0, .methodref 9 35), (0, .nameAndType 36 37), (0, u "equals"), (0, u "(Ljava/lang/Object;)Z"), (0, .class_ 39), (0, u "com/example/covenantry/covenantry/FeeLevelSpanPinLaw"), (2, u "law"), (0, u "(III)Z")] 3

def k1m0 : Method := { name := "<init>", desc := "()V", sig := { parameters := [], returnType := none }, accessFlags := 1, code := none }
def k1c1 : Code := { maxStack := 8, maxLocals := 14, code := code, exceptionTable := #[], attributes := #[] }
def k1m1 : Method := { name := "law", desc := "(III)Z", sig := { parameters := [.int, .int, .int], returnType := some .boolean }, accessFlags := 9, code := some k1c1 }
/-- com/example/covenantry/covenantry/FeeLevelSpanPinLaw -/
def k1 : Class := { plain "com/example/covenantry/covenantry/FeeLevelSpanPinLaw" (some 0) with
  accessFlags := 49
  interfaces := #[]
  cf := some (fileOf pool1 38 #[] #[{ accessFlags := 1, nameIndex := 5, descriptorIndex := 6, attributes := #[] }, { accessFlags := 9, nameIndex := 42, descriptorIndex := 43, attributes := #[] }] 49 2 #[] #[])
  fields := #[]
  methods := #[k1m0, k1m1]
  instanceTypes := #[]
  staticTypes := #[]
  resolved := Array.replicate 47 none
  statics := none }

def pool2 : Array CpInfo := pool [(1, .methodref 2 3), (0, .class_ 4), (0, .nameAndType 5 6), (0, u "com/example/covenantry/covenantry/Figure"), (0, u "<init>"), (0, u "(Ljava/lang/String;Ljava/lang/String;ILjava/lang/String;Ljava/lang/String;)V"), (0, .methodref 8 9), (0, .class_ 10), (0, .nameAndType 5 11), (0, u "java/lang/Object"), (0, u "()V"), (0, .fieldref 2 13), (0, .nameAndType 14 15), (0, u "value"), (0, u "Ljava/lang/String;"), (0, .fieldref 2 17), (0, .nameAndType 18 15), (0, u "section"), (0, .fieldref 2 20), (0, .nameAndType 21 22), (0, u "line"), (0, u "I"), (0, .fieldref 2 24), (0, .nameAndType 25 15), (0, u "text"), (0, .fieldref 2 27), (0, .nameAndType 28 15), (0, u "derivedFrom"), (0, u "(Ljava/lang/String;Ljava/lang/String;ILjava/lang/String;)V"), (4, u "()Ljava/lang/String;")] 3

def k2c0 : Code := { maxStack := 6, maxLocals := 5, code := prog_29_method_1_code, exceptionTable := #[], attributes := #[] }
def k2m0 : Method := { name := "<init>", desc := "(Ljava/lang/String;Ljava/lang/String;ILjava/lang/String;)V", sig := { parameters := [(.object "java/lang/String"), (.object "java/lang/String"), .int, (.object "java/lang/String")], returnType := none }, accessFlags := 1, code := some k2c0 }
def k2c1 : Code := { maxStack := 2, maxLocals := 6, code := prog_29_method_2_code, exceptionTable := #[], attributes := #[] }
def k2m1 : Method := { name := "<init>", desc := "(Ljava/lang/String;Ljava/lang/String;ILjava/lang/String;Ljava/lang/String;)V", sig := { parameters := [(.object "java/lang/String"), (.object "java/lang/String"), .int, (.object "java/lang/String"), (.object "java/lang/String")], returnType := none }, accessFlags := 2, code := some k2c1 }
def k2c2 : Code := { maxStack := 1, maxLocals := 1, code := prog_29_method_4_code, exceptionTable := #[], attributes := #[] }
def k2m2 : Method := { name := "value", desc := "()Ljava/lang/String;", sig := { parameters := [], returnType := some (.object "java/lang/String") }, accessFlags := 1, code := some k2c2 }
/-- com/example/covenantry/covenantry/Figure -/
def k2 : Class := { plain "com/example/covenantry/covenantry/Figure" (some 0) with
  accessFlags := 49
  interfaces := #[]
  cf := some (fileOf pool2 2 #[] #[{ accessFlags := 1, nameIndex := 5, descriptorIndex := 29, attributes := #[] }, { accessFlags := 2, nameIndex := 5, descriptorIndex := 6, attributes := #[] }, { accessFlags := 1, nameIndex := 14, descriptorIndex := 34, attributes := #[] }] 49 8 #[] #[{ accessFlags := 18, nameIndex := 14, descriptorIndex := 15, attributes := #[] }, { accessFlags := 18, nameIndex := 18, descriptorIndex := 15, attributes := #[] }, { accessFlags := 18, nameIndex := 21, descriptorIndex := 22, attributes := #[] }, { accessFlags := 18, nameIndex := 25, descriptorIndex := 15, attributes := #[] }, { accessFlags := 18, nameIndex := 28, descriptorIndex := 15, attributes := #[] }])
  fields := #[{ name := "value", type := (.object "java/lang/String"), accessFlags := 18, slot := 0, constantValue := 0 }, { name := "section", type := (.object "java/lang/String"), accessFlags := 18, slot := 1, constantValue := 0 }, { name := "line", type := .int, accessFlags := 18, slot := 2, constantValue := 0 }, { name := "text", type := (.object "java/lang/String"), accessFlags := 18, slot := 3, constantValue := 0 }, { name := "derivedFrom", type := (.object "java/lang/String"), accessFlags := 18, slot := 4, constantValue := 0 }]
  methods := #[k2m0, k2m1, k2m2]
  instanceTypes := #[(.object "java/lang/String"), (.object "java/lang/String"), .int, (.object "java/lang/String"), (.object "java/lang/String")]
  staticTypes := #[]
  resolved := Array.replicate 38 none
  statics := none }

def pool3 : Array CpInfo := pool [(1, .class_ 2), (0, u "java/io/Serializable"), (0, .class_ 4), (0, u "java/lang/Object")] 2

/-- java/io/Serializable -/
def k3 : Class := { plain "java/io/Serializable" (some 0) with
  accessFlags := 1537
  interfaces := #[]
  cf := some (fileOf pool3 1 #[] #[] 1537 3 #[] #[])
  fields := #[]
  methods := #[]
  instanceTypes := #[]
  staticTypes := #[]
  resolved := Array.replicate 7 none
  statics := none }

def pool4 : Array CpInfo := pool [(1, .class_ 2), (0, u "java/lang/Comparable"), (0, .class_ 4), (0, u "java/lang/Object")] 7

/-- java/lang/Comparable -/
def k4 : Class := { plain "java/lang/Comparable" (some 0) with
  accessFlags := 1537
  interfaces := #[]
  cf := some (fileOf pool4 1 #[] #[] 1537 3 #[] #[])
  fields := #[]
  methods := #[]
  instanceTypes := #[]
  staticTypes := #[]
  resolved := Array.replicate 12 none
  statics := none }

def pool5 : Array CpInfo := pool [(2, .class_ 4), (1, u "java/lang/CharSequence"), (42, .class_ 48), (0, u "java/lang/CharSequence$1CodePointIterator"), (10, .class_ 60), (0, u "java/lang/CharSequence$1CharIterator"), (5, .class_ 67), (0, u "java/lang/Object")] 63

/-- java/lang/CharSequence -/
def k5 : Class := { plain "java/lang/CharSequence" (some 0) with
  accessFlags := 1537
  interfaces := #[]
  cf := some (fileOf pool5 2 #[.nestMembers #[47, 59]] #[] 1537 66 #[] #[])
  fields := #[]
  methods := #[]
  instanceTypes := #[]
  staticTypes := #[]
  resolved := Array.replicate 131 none
  statics := none }

def pool6 : Array CpInfo := pool [(1, .class_ 2), (0, u "java/lang/constant/Constable"), (0, .class_ 4), (0, u "java/lang/Object")] 6

/-- java/lang/constant/Constable -/
def k6 : Class := { plain "java/lang/constant/Constable" (some 0) with
  accessFlags := 1537
  interfaces := #[]
  cf := some (fileOf pool6 1 #[] #[] 1537 3 #[] #[])
  fields := #[]
  methods := #[]
  instanceTypes := #[]
  staticTypes := #[]
  resolved := Array.replicate 11 none
  statics := none }

def pool7 : Array CpInfo := pool [(1, .class_ 2), (0, u "java/lang/constant/ConstantDesc"), (0, .class_ 4), (0, u "java/lang/Object")] 32

/-- java/lang/constant/ConstantDesc -/
def k7 : Class := { plain "java/lang/constant/ConstantDesc" (some 0) with
  accessFlags := 1537
  interfaces := #[]
  cf := some (fileOf pool7 1 #[] #[] 1537 3 #[] #[])
  fields := #[]
  methods := #[]
  instanceTypes := #[]
  staticTypes := #[]
  resolved := Array.replicate 37 none
  statics := none }

def pool8 : Array CpInfo := pool [(1, .methodref 2 3), (0, .class_ 4), (0, .nameAndType 5 6), (0, u "java/lang/Object"), (0, u "<init>"), (0, u "()V"), (2, .fieldref 10 11), (0, .class_ 12), (0, .nameAndType 13 14), (0, u "java/lang/String"), (0, u "value"), (0, u "[B"), (0, .fieldref 10 16), (0, .nameAndType 17 18), (0, u "coder"), (0, u "B"), (2, u "hash"), (0, u "I"), (2, u "hashIsZero"), (0, u "Z"), (0, .methodref 10 28), (0, .nameAndType 5 29), (0, u "([CIILjava/lang/Void;)V"), (8, .fieldref 10 39), (0, .nameAndType 40 26), (0, u "COMPACT_STRINGS"), (1, .class_ 44), (1, u "java/lang/StringUTF16"), (0, u "compress"), (1, .methodref 42 48), (0, .nameAndType 49 50), (0, u "coderFromArrayLen"), (0, u "([BI)B"), (3, .methodref 55 56), (0, .class_ 57), (0, .nameAndType 58 59), (0, u "java/util/Arrays"), (0, u "copyOfRange"), (0, u "([BII)[B"), (47, .class_ 109), (1, u "java/lang/StringLatin1"), (32, u "()Z"), (34, .methodref 42 178), (0, .nameAndType 45 179), (0, u "([CII)[B"), (13, .class_ 195), (1, u "java/lang/System"), (16, .methodref 193 213), (0, .nameAndType 214 215), (0, u "arraycopy"), (0, u "(Ljava/lang/Object;ILjava/lang/Object;II)V"), (118, u "()I"), (0, .methodref 10 336), (0, .nameAndType 17 337), (0, u "()B"), (2, u "()[B"), (148, .methodref 10 490), (0, .nameAndType 5 491), (0, u "(Ljava/lang/AbstractStringBuilder;Ljava/lang/Void;)V"), (1, .nameAndType 494 142), (0, u "isLatin1"), (11, .nameAndType 507 334), (0, u "length"), (24, u "getBytes"), (8, .methodref 107 542), (0, .nameAndType 543 544), (0, u "equals"), (0, u "([B[B)Z"), (4, .methodref 550 506), (0, .class_ 551), (0, u "java/lang/AbstractStringBuilder"), (0, .methodref 550 553), (0, .nameAndType 554 340), (0, u "getValue"), (18, u "(Ljava/lang/Object;)Z"), (1, .class_ 576), (0, u "java/lang/CharSequence"), (22, u "CASE_INSENSITIVE_ORDER"), (0, u "Ljava/util/Comparator;"), (220, u "([BIB)V"), (188, u "([C)V"), (36, .methodref 550 493), (53, u "serialPersistentFields"), (0, u "[Ljava/io/ObjectStreamField;"), (0, .class_ 1104), (0, u "java/lang/String$CaseInsensitiveComparator"), (1, .class_ 1107), (0, u "java/io/Serializable"), (0, .class_ 1109), (0, u "java/lang/Comparable"), (0, .class_ 1111), (0, u "java/lang/constant/Constable"), (0, .class_ 1113), (0, u "java/lang/constant/ConstantDesc"), (2, u "serialVersionUID"), (0, u "J"), (3, u "REPL"), (0, u "C"), (2, u "LATIN1"), (1, u "UTF16"), (105, u "(Ljava/lang/StringBuilder;)V")] 217

def k8m0 : Method := { name := "<init>", desc := "()V", sig := { parameters := [], returnType := none }, accessFlags := 1, code := none }
def k8c1 : Code := { maxStack := 5, maxLocals := 2, code := jdk_42_method_3_code, exceptionTable := #[], attributes := #[] }
def k8m1 : Method := { name := "<init>", desc := "([C)V", sig := { parameters := [(.array .char)], returnType := none }, accessFlags := 1, code := some k8c1 }
def k8c2 : Code := { maxStack := 3, maxLocals := 2, code := jdk_42_method_53_code, exceptionTable := #[], attributes := #[] }
def k8m2 : Method := { name := "<init>", desc := "(Ljava/lang/StringBuilder;)V", sig := { parameters := [(.object "java/lang/StringBuilder")], returnType := none }, accessFlags := 1, code := some k8c2 }
def k8c3 : Code := { maxStack := 2, maxLocals := 1, code := jdk_42_method_54_code, exceptionTable := #[], attributes := #[] }
def k8m3 : Method := { name := "length", desc := "()I", sig := { parameters := [], returnType := some .int }, accessFlags := 1, code := some k8c3 }
def k8c4 : Code := { maxStack := 2, maxLocals := 3, code := jdk_42_method_66_code, exceptionTable := #[], attributes := #[] }
def k8m4 : Method := { name := "equals", desc := "(Ljava/lang/Object;)Z", sig := { parameters := [(.object "java/lang/Object")], returnType := some .boolean }, accessFlags := 1, code := some k8c4 }
def k8c5 : Code := { maxStack := 5, maxLocals := 4, code := jdk_42_method_147_code, exceptionTable := #[], attributes := #[] }
def k8m5 : Method := { name := "getBytes", desc := "([BIB)V", sig := { parameters := [(.array .byte), .int, .byte], returnType := none }, accessFlags := 0, code := some k8c5 }
def k8c6 : Code := { maxStack := 4, maxLocals := 6, code := jdk_42_method_149_code, exceptionTable := #[], attributes := #[] }
def k8m6 : Method := { name := "<init>", desc := "([CIILjava/lang/Void;)V", sig := { parameters := [(.array .char), .int, .int, (.object "java/lang/Void")], returnType := none }, accessFlags := 2, code := some k8c6 }
def k8c7 : Code := { maxStack := 5, maxLocals := 5, code := jdk_42_method_150_code, exceptionTable := #[], attributes := #[] }
def k8m7 : Method := { name := "<init>", desc := "(Ljava/lang/AbstractStringBuilder;Ljava/lang/Void;)V", sig := { parameters := [(.object "java/lang/AbstractStringBuilder"), (.object "java/lang/Void")], returnType := none }, accessFlags := 0, code := some k8c7 }
def k8c8 : Code := { maxStack := 1, maxLocals := 1, code := jdk_42_method_152_code, exceptionTable := #[], attributes := #[] }
def k8m8 : Method := { name := "coder", desc := "()B", sig := { parameters := [], returnType := some .byte }, accessFlags := 0, code := some k8c8 }
/-- java/lang/String -/
def k8 : Class := { plain "java/lang/String" (some 0) with
  accessFlags := 49
  interfaces := #[3, 4, 5, 6, 7]
  cf := some (fileOf pool8 10 #[.nestMembers #[1103]] #[{ accessFlags := 1, nameIndex := 5, descriptorIndex := 6, attributes := #[] }, { accessFlags := 1, nameIndex := 5, descriptorIndex := 1010, attributes := #[] }, { accessFlags := 1, nameIndex := 5, descriptorIndex := 1233, attributes := #[] }, { accessFlags := 1, nameIndex := 507, descriptorIndex := 334, attributes := #[] }, { accessFlags := 1, nameIndex := 543, descriptorIndex := 573, attributes := #[] }, { accessFlags := 0, nameIndex := 532, descriptorIndex := 821, attributes := #[] }, { accessFlags := 2, nameIndex := 5, descriptorIndex := 29, attributes := #[] }, { accessFlags := 0, nameIndex := 5, descriptorIndex := 491, attributes := #[] }, { accessFlags := 0, nameIndex := 17, descriptorIndex := 337, attributes := #[] }] 49 2 #[1106, 1108, 575, 1110, 1112] #[{ accessFlags := 18, nameIndex := 13, descriptorIndex := 14, attributes := #[] }, { accessFlags := 18, nameIndex := 17, descriptorIndex := 18, attributes := #[] }, { accessFlags := 2, nameIndex := 21, descriptorIndex := 22, attributes := #[] }, { accessFlags := 2, nameIndex := 25, descriptorIndex := 26, attributes := #[] }, { accessFlags := 26, nameIndex := 1116, descriptorIndex := 1117, attributes := #[] }, { accessFlags := 24, nameIndex := 40, descriptorIndex := 26, attributes := #[] }, { accessFlags := 26, nameIndex := 1101, descriptorIndex := 1102, attributes := #[] }, { accessFlags := 26, nameIndex := 1121, descriptorIndex := 1122, attributes := #[] }, { accessFlags := 25, nameIndex := 599, descriptorIndex := 600, attributes := #[] }, { accessFlags := 24, nameIndex := 1125, descriptorIndex := 18, attributes := #[] }, { accessFlags := 24, nameIndex := 1127, descriptorIndex := 18, attributes := #[] }])
  fields := #[{ name := "value", type := (.array .byte), accessFlags := 18, slot := 0, constantValue := 0 }, { name := "coder", type := .byte, accessFlags := 18, slot := 1, constantValue := 0 }, { name := "hash", type := .int, accessFlags := 2, slot := 2, constantValue := 0 }, { name := "hashIsZero", type := .boolean, accessFlags := 2, slot := 3, constantValue := 0 }, { name := "serialVersionUID", type := .long, accessFlags := 26, slot := 0, constantValue := 0 }, { name := "COMPACT_STRINGS", type := .boolean, accessFlags := 24, slot := 1, constantValue := 0 }, { name := "serialPersistentFields", type := (.array (.object "java/io/ObjectStreamField")), accessFlags := 26, slot := 2, constantValue := 0 }, { name := "REPL", type := .char, accessFlags := 26, slot := 3, constantValue := 0 }, { name := "CASE_INSENSITIVE_ORDER", type := (.object "java/util/Comparator"), accessFlags := 25, slot := 4, constantValue := 0 }, { name := "LATIN1", type := .byte, accessFlags := 24, slot := 5, constantValue := 0 }, { name := "UTF16", type := .byte, accessFlags := 24, slot := 6, constantValue := 0 }]
  methods := #[k8m0, k8m1, k8m2, k8m3, k8m4, k8m5, k8m6, k8m7, k8m8]
  instanceTypes := #[(.array .byte), .byte, .int, .boolean]
  staticTypes := #[.long, .boolean, (.array (.object "java/io/ObjectStreamField")), .char, (.object "java/util/Comparator"), .byte, .byte]
  resolved := Array.replicate 1451 none
  statics := some 0 }

def pool9 : Array CpInfo := pool [(1, .methodref 2 3), (0, .class_ 4), (0, .nameAndType 5 6), (0, u "com/example/covenantry/covenantry/FeeLevel"), (0, u "<init>"), (0, u "(Lcom/example/covenantry/covenantry/Figure;Lcom/example/covenantry/covenantry/Figure;Lcom/example/covenantry/covenantry/Figure;Lcom/example/covenantry/covenantry/Unreadable;)V"), (0, .methodref 8 9), (0, .class_ 10), (0, .nameAndType 5 11), (0, u "java/lang/Object"), (0, u "()V"), (0, .fieldref 2 13), (0, .nameAndType 14 15), (0, u "above"), (0, u "Lcom/example/covenantry/covenantry/Figure;"), (0, .fieldref 2 17), (0, .nameAndType 18 15), (0, u "atMost"), (0, .fieldref 2 20), (0, .nameAndType 21 15), (0, u "rate"), (0, .fieldref 2 23), (0, .nameAndType 24 25), (0, u "unreadable"), (0, u "Lcom/example/covenantry/covenantry/Unreadable;"), (2, .methodref 29 30), (0, .class_ 31), (0, .nameAndType 32 33), (0, u "com/example/covenantry/covenantry/Figure"), (0, u "value"), (0, u "()Ljava/lang/String;"), (7, .string 42), (0, u "any ratio"), (0, .class_ 44), (0, u "java/lang/StringBuilder"), (0, .methodref 43 9), (0, .string 47), (0, u "at most "), (0, .methodref 43 49), (0, .nameAndType 50 51), (0, u "append"), (0, u "(Ljava/lang/String;)Ljava/lang/StringBuilder;"), (0, .methodref 43 53), (0, .nameAndType 54 33), (0, u "toString"), (0, .string 56), (0, u "above "), (0, .string 58), (0, u ", at most "), (0, u "(Lcom/example/covenantry/covenantry/Figure;Lcom/example/covenantry/covenantry/Figure;Lcom/example/covenantry/covenantry/Figure;)V"), (6, u "span")] 6

def k9c0 : Code := { maxStack := 5, maxLocals := 4, code := prog_27_method_1_code, exceptionTable := #[], attributes := #[] }
def k9m0 : Method := { name := "<init>", desc := "(Lcom/example/covenantry/covenantry/Figure;Lcom/example/covenantry/covenantry/Figure;Lcom/example/covenantry/covenantry/Figure;)V", sig := { parameters := [(.object "com/example/covenantry/covenantry/Figure"), (.object "com/example/covenantry/covenantry/Figure"), (.object "com/example/covenantry/covenantry/Figure")], returnType := none }, accessFlags := 1, code := some k9c0 }
def k9c1 : Code := { maxStack := 2, maxLocals := 5, code := prog_27_method_3_code, exceptionTable := #[], attributes := #[] }
def k9m1 : Method := { name := "<init>", desc := "(Lcom/example/covenantry/covenantry/Figure;Lcom/example/covenantry/covenantry/Figure;Lcom/example/covenantry/covenantry/Figure;Lcom/example/covenantry/covenantry/Unreadable;)V", sig := { parameters := [(.object "com/example/covenantry/covenantry/Figure"), (.object "com/example/covenantry/covenantry/Figure"), (.object "com/example/covenantry/covenantry/Figure"), (.object "com/example/covenantry/covenantry/Unreadable")], returnType := none }, accessFlags := 2, code := some k9c1 }
def k9c2 : Code := { maxStack := 2, maxLocals := 2, code := prog_27_method_5_code, exceptionTable := #[], attributes := #[] }
def k9m2 : Method := { name := "span", desc := "()Ljava/lang/String;", sig := { parameters := [], returnType := some (.object "java/lang/String") }, accessFlags := 1, code := some k9c2 }
/-- com/example/covenantry/covenantry/FeeLevel -/
def k9 : Class := { plain "com/example/covenantry/covenantry/FeeLevel" (some 0) with
  accessFlags := 49
  interfaces := #[]
  cf := some (fileOf pool9 2 #[] #[{ accessFlags := 1, nameIndex := 5, descriptorIndex := 59, attributes := #[] }, { accessFlags := 2, nameIndex := 5, descriptorIndex := 6, attributes := #[] }, { accessFlags := 1, nameIndex := 66, descriptorIndex := 33, attributes := #[] }] 49 8 #[] #[{ accessFlags := 18, nameIndex := 14, descriptorIndex := 15, attributes := #[] }, { accessFlags := 18, nameIndex := 18, descriptorIndex := 15, attributes := #[] }, { accessFlags := 18, nameIndex := 21, descriptorIndex := 15, attributes := #[] }, { accessFlags := 18, nameIndex := 24, descriptorIndex := 25, attributes := #[] }])
  fields := #[{ name := "above", type := (.object "com/example/covenantry/covenantry/Figure"), accessFlags := 18, slot := 0, constantValue := 0 }, { name := "atMost", type := (.object "com/example/covenantry/covenantry/Figure"), accessFlags := 18, slot := 1, constantValue := 0 }, { name := "rate", type := (.object "com/example/covenantry/covenantry/Figure"), accessFlags := 18, slot := 2, constantValue := 0 }, { name := "unreadable", type := (.object "com/example/covenantry/covenantry/Unreadable"), accessFlags := 18, slot := 3, constantValue := 0 }]
  methods := #[k9m0, k9m1, k9m2]
  instanceTypes := #[(.object "com/example/covenantry/covenantry/Figure"), (.object "com/example/covenantry/covenantry/Figure"), (.object "com/example/covenantry/covenantry/Figure"), (.object "com/example/covenantry/covenantry/Unreadable")]
  staticTypes := #[]
  resolved := Array.replicate 73 none
  statics := none }

def pool10 : Array CpInfo := pool [(6, .class_ 8), (1, u "java/lang/Object"), (0, u "<init>"), (0, u "()V"), (1, .class_ 14), (1, u "java/lang/StringUTF16"), (31, u "$assertionsDisabled"), (0, u "Z"), (13, u "HI_BYTE_SHIFT"), (0, u "I"), (2, u "LO_BYTE_SHIFT"), (49, .methodref 12 116), (0, .nameAndType 117 118), (0, u "compress"), (0, u "([CI[BII)I"), (3, u "([CII)[B"), (138, u "coderFromArrayLen"), (0, u "([BI)B"), (106, .class_ 371), (1, u "java/lang/StringUTF16$LinesSpliterator"), (58, u "MAX_LENGTH"), (196, .class_ 628), (0, u "java/lang/StringUTF16$CodePointsSpliterator"), (0, .class_ 630), (0, u "java/lang/StringUTF16$CharsSpliterator")] 4

def k10m0 : Method := { name := "<init>", desc := "()V", sig := { parameters := [], returnType := none }, accessFlags := 0, code := none }
def k10c1 : Code := { maxStack := 2, maxLocals := 2, code := jdk_52_method_15_code, exceptionTable := #[], attributes := #[] }
def k10m1 : Method := { name := "coderFromArrayLen", desc := "([BI)B", sig := { parameters := [(.array .byte), .int], returnType := some .byte }, accessFlags := 8, code := some k10c1 }
def k10c2 : Code := { maxStack := 5, maxLocals := 6, code := jdk_52_method_16_code, exceptionTable := #[], attributes := #[] }
def k10m2 : Method := { name := "compress", desc := "([CII)[B", sig := { parameters := [(.array .char), .int, .int], returnType := some (.array .byte) }, accessFlags := 9, code := some k10c2 }
def k10c3 : Code := { maxStack := 3, maxLocals := 7, code := jdk_52_method_21_code, exceptionTable := #[], attributes := #[] }
def k10m3 : Method := { name := "compress", desc := "([CI[BII)I", sig := { parameters := [(.array .char), .int, (.array .byte), .int, .int], returnType := some .int }, accessFlags := 9, code := some k10c3 }
/-- java/lang/StringUTF16 -/
def k10 : Class := { plain "java/lang/StringUTF16" (some 0) with
  accessFlags := 48
  interfaces := #[]
  cf := some (fileOf pool10 12 #[.nestMembers #[627, 629, 369]] #[{ accessFlags := 0, nameIndex := 9, descriptorIndex := 10, attributes := #[] }, { accessFlags := 8, nameIndex := 261, descriptorIndex := 262, attributes := #[] }, { accessFlags := 9, nameIndex := 117, descriptorIndex := 122, attributes := #[] }, { accessFlags := 9, nameIndex := 117, descriptorIndex := 118, attributes := #[] }] 48 6 #[] #[{ accessFlags := 26, nameIndex := 61, descriptorIndex := 62, attributes := #[] }, { accessFlags := 26, nameIndex := 65, descriptorIndex := 62, attributes := #[] }, { accessFlags := 24, nameIndex := 430, descriptorIndex := 62, attributes := #[] }, { accessFlags := 4120, nameIndex := 46, descriptorIndex := 47, attributes := #[] }])
  fields := #[{ name := "HI_BYTE_SHIFT", type := .int, accessFlags := 26, slot := 0, constantValue := 0 }, { name := "LO_BYTE_SHIFT", type := .int, accessFlags := 26, slot := 1, constantValue := 0 }, { name := "MAX_LENGTH", type := .int, accessFlags := 24, slot := 2, constantValue := 0 }, { name := "$assertionsDisabled", type := .boolean, accessFlags := 4120, slot := 3, constantValue := 0 }]
  methods := #[k10m0, k10m1, k10m2, k10m3]
  instanceTypes := #[]
  staticTypes := #[.int, .int, .int, .boolean]
  resolved := Array.replicate 635 none
  statics := none }

def pool11 : Array CpInfo := pool [(1, .class_ 2), (0, u "java/lang/Appendable"), (0, .class_ 4), (0, u "java/lang/Object")] 9

/-- java/lang/Appendable -/
def k11 : Class := { plain "java/lang/Appendable" (some 0) with
  accessFlags := 1537
  interfaces := #[]
  cf := some (fileOf pool11 1 #[] #[] 1537 3 #[] #[])
  fields := #[]
  methods := #[]
  instanceTypes := #[]
  staticTypes := #[]
  resolved := Array.replicate 14 none
  statics := none }

def pool12 : Array CpInfo := pool [(1, .class_ 2), (0, u "java/lang/String"), (0, .methodref 4 5), (0, .class_ 6), (0, .nameAndType 7 8), (0, u "java/lang/Object"), (0, u "<init>"), (0, u "()V"), (1, .class_ 12), (1, u "java/lang/AbstractStringBuilder"), (0, u "EMPTYVALUE"), (0, u "[B"), (0, .fieldref 10 16), (0, .nameAndType 17 14), (0, u "value"), (0, .fieldref 1 19), (0, .nameAndType 20 21), (0, u "COMPACT_STRINGS"), (0, u "Z"), (0, .fieldref 10 23), (0, .nameAndType 24 25), (0, u "coder"), (0, u "B"), (6, .methodref 1 33), (0, .nameAndType 34 35), (0, u "length"), (0, u "()I"), (3, .integer 2147483647), (0, .methodref 1 41), (0, .nameAndType 24 42), (0, u "()B"), (2, u "append"), (0, u "(Ljava/lang/String;)Ljava/lang/AbstractStringBuilder;"), (1, .class_ 49), (0, u "java/lang/CharSequence"), (19, u "(Ljava/lang/String;)V"), (5, u "maybeLatin1"), (3, .fieldref 10 80), (0, .nameAndType 81 82), (0, u "count"), (0, u "I"), (2, u "isLatin1"), (0, u "()Z"), (13, .methodref 10 101), (0, .nameAndType 102 103), (0, u "ensureCapacityInternal"), (0, u "(I)V"), (0, .methodref 10 105), (0, .nameAndType 106 107), (0, u "newCapacity"), (0, u "(I)I"), (0, .methodref 109 110), (0, .class_ 111), (0, .nameAndType 112 113), (0, u "java/util/Arrays"), (0, u "copyOf"), (0, u "([BI)[B"), (0, .methodref 115 116), (0, .class_ 117), (0, .nameAndType 118 119), (0, u "jdk/internal/util/ArraysSupport"), (0, u "newLength"), (0, u "(III)I"), (88, .methodref 10 209), (0, .nameAndType 210 211), (0, u "putStringAt"), (0, u "(ILjava/lang/String;)V"), (5, u "inflateIfNeededFor"), (2, .nameAndType 221 222), (0, u "getBytes"), (0, u "([BIB)V"), (174, .methodref 10 398), (0, .nameAndType 217 69), (0, .methodref 1 220), (3, u "()[B"), (40, .class_ 445), (0, u "java/lang/Appendable"), (106, u "getValue")] 56

def k12m0 : Method := { name := "<init>", desc := "()V", sig := { parameters := [], returnType := none }, accessFlags := 0, code := none }
def k12c1 : Code := { maxStack := 2, maxLocals := 2, code := jdk_68_method_2_code, exceptionTable := #[], attributes := #[] }
def k12m1 : Method := { name := "<init>", desc := "(I)V", sig := { parameters := [.int], returnType := none }, accessFlags := 0, code := some k12c1 }
def k12c2 : Code := { maxStack := 1, maxLocals := 1, code := jdk_68_method_6_code, exceptionTable := #[], attributes := #[] }
def k12m2 : Method := { name := "length", desc := "()I", sig := { parameters := [], returnType := some .int }, accessFlags := 1, code := some k12c2 }
def k12c3 : Code := { maxStack := 4, maxLocals := 3, code := jdk_68_method_9_code, exceptionTable := #[], attributes := #[] }
def k12m3 : Method := { name := "ensureCapacityInternal", desc := "(I)V", sig := { parameters := [.int], returnType := none }, accessFlags := 2, code := some k12c3 }
def k12c4 : Code := { maxStack := 5, maxLocals := 6, code := jdk_68_method_10_code, exceptionTable := #[], attributes := #[] }
def k12m4 : Method := { name := "newCapacity", desc := "(I)I", sig := { parameters := [.int], returnType := some .int }, accessFlags := 2, code := some k12c4 }
def k12c5 : Code := { maxStack := 3, maxLocals := 3, code := jdk_68_method_22_code, exceptionTable := #[], attributes := #[] }
def k12m5 : Method := { name := "append", desc := "(Ljava/lang/String;)Ljava/lang/AbstractStringBuilder;", sig := { parameters := [(.object "java/lang/String")], returnType := some (.object "java/lang/AbstractStringBuilder") }, accessFlags := 1, code := some k12c5 }
def k12c6 : Code := { maxStack := 1, maxLocals := 1, code := jdk_68_method_64_code, exceptionTable := #[], attributes := #[] }
def k12m6 : Method := { name := "getValue", desc := "()[B", sig := { parameters := [], returnType := some (.array .byte) }, accessFlags := 16, code := some k12c6 }
def k12c7 : Code := { maxStack := 1, maxLocals := 1, code := jdk_68_method_68_code, exceptionTable := #[], attributes := #[] }
def k12m7 : Method := { name := "isLatin1", desc := "()Z", sig := { parameters := [], returnType := some .boolean }, accessFlags := 16, code := some k12c7 }
def k12c8 : Code := { maxStack := 2, maxLocals := 2, code := jdk_68_method_71_code, exceptionTable := #[], attributes := #[] }
def k12m8 : Method := { name := "inflateIfNeededFor", desc := "(Ljava/lang/String;)V", sig := { parameters := [(.object "java/lang/String")], returnType := none }, accessFlags := 2, code := some k12c8 }
def k12c9 : Code := { maxStack := 4, maxLocals := 3, code := jdk_68_method_73_code, exceptionTable := #[], attributes := #[] }
def k12m9 : Method := { name := "putStringAt", desc := "(ILjava/lang/String;)V", sig := { parameters := [.int, (.object "java/lang/String")], returnType := none }, accessFlags := 2, code := some k12c9 }
/-- java/lang/AbstractStringBuilder -/
def k12 : Class := { plain "java/lang/AbstractStringBuilder" (some 0) with
  accessFlags := 1056
  interfaces := #[11, 5]
  cf := some (fileOf pool12 10 #[] #[{ accessFlags := 0, nameIndex := 7, descriptorIndex := 8, attributes := #[] }, { accessFlags := 0, nameIndex := 7, descriptorIndex := 103, attributes := #[] }, { accessFlags := 1, nameIndex := 34, descriptorIndex := 35, attributes := #[] }, { accessFlags := 2, nameIndex := 102, descriptorIndex := 103, attributes := #[] }, { accessFlags := 2, nameIndex := 106, descriptorIndex := 107, attributes := #[] }, { accessFlags := 1, nameIndex := 45, descriptorIndex := 46, attributes := #[] }, { accessFlags := 16, nameIndex := 552, descriptorIndex := 403, attributes := #[] }, { accessFlags := 16, nameIndex := 85, descriptorIndex := 86, attributes := #[] }, { accessFlags := 2, nameIndex := 217, descriptorIndex := 69, attributes := #[] }, { accessFlags := 2, nameIndex := 210, descriptorIndex := 211, attributes := #[] }] 1056 4 #[444, 48] #[{ accessFlags := 0, nameIndex := 17, descriptorIndex := 14, attributes := #[] }, { accessFlags := 0, nameIndex := 24, descriptorIndex := 25, attributes := #[] }, { accessFlags := 0, nameIndex := 75, descriptorIndex := 21, attributes := #[] }, { accessFlags := 0, nameIndex := 81, descriptorIndex := 82, attributes := #[] }, { accessFlags := 26, nameIndex := 13, descriptorIndex := 14, attributes := #[] }])
  fields := #[{ name := "value", type := (.array .byte), accessFlags := 0, slot := 0, constantValue := 0 }, { name := "coder", type := .byte, accessFlags := 0, slot := 1, constantValue := 0 }, { name := "maybeLatin1", type := .boolean, accessFlags := 0, slot := 2, constantValue := 0 }, { name := "count", type := .int, accessFlags := 0, slot := 3, constantValue := 0 }, { name := "EMPTYVALUE", type := (.array .byte), accessFlags := 26, slot := 0, constantValue := 0 }]
  methods := #[k12m0, k12m1, k12m2, k12m3, k12m4, k12m5, k12m6, k12m7, k12m8, k12m9]
  instanceTypes := #[(.array .byte), .byte, .boolean, .int]
  staticTypes := #[(.array .byte)]
  resolved := Array.replicate 609 none
  statics := none }

def pool13 : Array CpInfo := pool [(1, .methodref 2 3), (0, .class_ 4), (0, .nameAndType 5 6), (0, u "java/lang/AbstractStringBuilder"), (0, u "<init>"), (0, u "(I)V"), (11, .class_ 20), (1, u "java/lang/String"), (3, .class_ 26), (1, u "java/lang/StringBuilder"), (0, u "append"), (0, u "(Ljava/lang/String;)Ljava/lang/StringBuilder;"), (0, .methodref 2 30), (0, .nameAndType 27 31), (0, u "(Ljava/lang/String;)Ljava/lang/AbstractStringBuilder;"), (105, .methodref 18 138), (0, .nameAndType 5 139), (0, u "(Ljava/lang/StringBuilder;)V"), (5, u "()V"), (10, u "()I"), (186, .methodref 2 344), (0, .nameAndType 345 156), (0, u "length"), (3, .class_ 350), (0, u "java/lang/Appendable"), (0, .class_ 352), (0, u "java/io/Serializable"), (0, .class_ 354), (0, u "java/lang/Comparable"), (0, .class_ 356), (0, u "java/lang/CharSequence"), (0, u "serialVersionUID"), (0, u "J"), (40, u "toString"), (0, u "()Ljava/lang/String;")] 21

def k13c0 : Code := { maxStack := 2, maxLocals := 1, code := jdk_67_method_1_code, exceptionTable := #[], attributes := #[] }
def k13m0 : Method := { name := "<init>", desc := "()V", sig := { parameters := [], returnType := none }, accessFlags := 1, code := some k13c0 }
def k13c1 : Code := { maxStack := 2, maxLocals := 2, code := jdk_67_method_7_code, exceptionTable := #[], attributes := #[] }
def k13m1 : Method := { name := "append", desc := "(Ljava/lang/String;)Ljava/lang/StringBuilder;", sig := { parameters := [(.object "java/lang/String")], returnType := some (.object "java/lang/StringBuilder") }, accessFlags := 1, code := some k13c1 }
def k13c2 : Code := { maxStack := 3, maxLocals := 1, code := jdk_67_method_42_code, exceptionTable := #[], attributes := #[] }
def k13m2 : Method := { name := "toString", desc := "()Ljava/lang/String;", sig := { parameters := [], returnType := some (.object "java/lang/String") }, accessFlags := 1, code := some k13c2 }
def k13c3 : Code := { maxStack := 1, maxLocals := 1, code := jdk_67_method_93_code, exceptionTable := #[], attributes := #[] }
def k13m3 : Method := { name := "length", desc := "()I", sig := { parameters := [], returnType := some .int }, accessFlags := 4161, code := some k13c3 }
/-- java/lang/StringBuilder -/
def k13 : Class := { plain "java/lang/StringBuilder" (some 12) with
  accessFlags := 49
  interfaces := #[11, 3, 4, 5]
  cf := some (fileOf pool13 24 #[] #[{ accessFlags := 1, nameIndex := 5, descriptorIndex := 145, attributes := #[] }, { accessFlags := 1, nameIndex := 27, descriptorIndex := 28, attributes := #[] }, { accessFlags := 1, nameIndex := 399, descriptorIndex := 400, attributes := #[] }, { accessFlags := 4161, nameIndex := 345, descriptorIndex := 156, attributes := #[] }] 49 2 #[349, 351, 353, 355] #[{ accessFlags := 24, nameIndex := 357, descriptorIndex := 358, attributes := #[] }])
  fields := #[{ name := "serialVersionUID", type := .long, accessFlags := 24, slot := 0, constantValue := 0 }]
  methods := #[k13m0, k13m1, k13m2, k13m3]
  instanceTypes := #[(.array .byte), .byte, .boolean, .int]
  staticTypes := #[.long]
  resolved := Array.replicate 422 none
  statics := none }

def pool14 : Array CpInfo := pool [(2, .class_ 4), (1, u "java/lang/Object"), (0, u "<init>"), (0, u "()V"), (1, .class_ 10), (1, u "java/lang/System"), (0, u "allowSecurityManager"), (0, u "I"), (16, u "cons"), (0, u "Ljava/io/Console;"), (77, .class_ 110), (1, u "java/lang/System$CallersHolder"), (43, u "initialErrStream"), (0, u "Ljava/io/PrintStream;"), (19, u "security"), (0, u "Ljava/lang/SecurityManager;"), (31, .class_ 209), (0, u "java/lang/System$1"), (7, u "props"), (0, u "Ljava/util/Properties;"), (2, u "lineSeparator"), (0, u "Ljava/lang/String;"), (96, .class_ 321), (1, u "java/lang/System$LoggerFinder"), (5, .class_ 328), (0, u "java/lang/System$Logger"), (67, u "err"), (2, u "out"), (91, u "notSupportedJnuEncoding"), (15, u "in"), (17, u "initialIn"), (0, u "Ljava/io/InputStream;"), (35, u "bootLayer"), (0, u "Ljava/lang/ModuleLayer;"), (99, .class_ 664), (0, u "java/lang/System$2"), (9, u "NEVER"), (2, u "MAYBE"), (49, u "arraycopy"), (0, u "(Ljava/lang/Object;ILjava/lang/Object;II)V"), (72, .class_ 802), (0, u "java/lang/System$Logger$Level")] 31

def k14m0 : Method := { name := "<init>", desc := "()V", sig := { parameters := [], returnType := none }, accessFlags := 2, code := none }
def k14m1 : Method := { name := "arraycopy", desc := "(Ljava/lang/Object;ILjava/lang/Object;II)V", sig := { parameters := [(.object "java/lang/Object"), .int, (.object "java/lang/Object"), .int, .int], returnType := none }, accessFlags := 265, code := none }
/-- java/lang/System -/
def k14 : Class := { plain "java/lang/System" (some 0) with
  accessFlags := 49
  interfaces := #[]
  cf := some (fileOf pool14 8 #[.nestMembers #[319, 327, 801, 108, 663, 208]] #[{ accessFlags := 2, nameIndex := 5, descriptorIndex := 6, attributes := #[] }, { accessFlags := 265, nameIndex := 727, descriptorIndex := 728, attributes := #[] }] 49 2 #[] #[{ accessFlags := 25, nameIndex := 507, descriptorIndex := 526, attributes := #[] }, { accessFlags := 25, nameIndex := 399, descriptorIndex := 155, attributes := #[] }, { accessFlags := 25, nameIndex := 396, descriptorIndex := 155, attributes := #[] }, { accessFlags := 10, nameIndex := 525, descriptorIndex := 526, attributes := #[] }, { accessFlags := 26, nameIndex := 674, descriptorIndex := 12, attributes := #[] }, { accessFlags := 26, nameIndex := 677, descriptorIndex := 12, attributes := #[] }, { accessFlags := 10, nameIndex := 11, descriptorIndex := 12, attributes := #[] }, { accessFlags := 74, nameIndex := 175, descriptorIndex := 176, attributes := #[] }, { accessFlags := 10, nameIndex := 491, descriptorIndex := 222, attributes := #[] }, { accessFlags := 74, nameIndex := 29, descriptorIndex := 30, attributes := #[] }, { accessFlags := 74, nameIndex := 154, descriptorIndex := 155, attributes := #[] }, { accessFlags := 10, nameIndex := 217, descriptorIndex := 218, attributes := #[] }, { accessFlags := 10, nameIndex := 221, descriptorIndex := 222, attributes := #[] }, { accessFlags := 8, nameIndex := 562, descriptorIndex := 563, attributes := #[] }])
  fields := #[{ name := "in", type := (.object "java/io/InputStream"), accessFlags := 25, slot := 0, constantValue := 0 }, { name := "out", type := (.object "java/io/PrintStream"), accessFlags := 25, slot := 1, constantValue := 0 }, { name := "err", type := (.object "java/io/PrintStream"), accessFlags := 25, slot := 2, constantValue := 0 }, { name := "initialIn", type := (.object "java/io/InputStream"), accessFlags := 10, slot := 3, constantValue := 0 }, { name := "NEVER", type := .int, accessFlags := 26, slot := 4, constantValue := 0 }, { name := "MAYBE", type := .int, accessFlags := 26, slot := 5, constantValue := 0 }, { name := "allowSecurityManager", type := .int, accessFlags := 10, slot := 6, constantValue := 0 }, { name := "security", type := (.object "java/lang/SecurityManager"), accessFlags := 74, slot := 7, constantValue := 0 }, { name := "notSupportedJnuEncoding", type := (.object "java/lang/String"), accessFlags := 10, slot := 8, constantValue := 0 }, { name := "cons", type := (.object "java/io/Console"), accessFlags := 74, slot := 9, constantValue := 0 }, { name := "initialErrStream", type := (.object "java/io/PrintStream"), accessFlags := 74, slot := 10, constantValue := 0 }, { name := "props", type := (.object "java/util/Properties"), accessFlags := 10, slot := 11, constantValue := 0 }, { name := "lineSeparator", type := (.object "java/lang/String"), accessFlags := 10, slot := 12, constantValue := 0 }, { name := "bootLayer", type := (.object "java/lang/ModuleLayer"), accessFlags := 8, slot := 13, constantValue := 0 }]
  methods := #[k14m0, k14m1]
  instanceTypes := #[]
  staticTypes := #[(.object "java/io/InputStream"), (.object "java/io/PrintStream"), (.object "java/io/PrintStream"), (.object "java/io/InputStream"), .int, .int, .int, (.object "java/lang/SecurityManager"), (.object "java/lang/String"), (.object "java/io/Console"), (.object "java/io/PrintStream"), (.object "java/util/Properties"), (.object "java/lang/String"), (.object "java/lang/ModuleLayer")]
  resolved := Array.replicate 834 none
  statics := none }

def pool15 : Array CpInfo := pool [(2, .class_ 4), (1, u "java/lang/Object"), (0, u "<init>"), (0, u "()V"), (7, .class_ 16), (1, u "java/util/Arrays"), (57, .class_ 76), (1, u "java/util/Arrays$NaturalOrder"), (36, .class_ 115), (1, u "java/util/Arrays$LegacyMergeSort"), (1, u "Z"), (21, u "copyOfRange"), (10, .methodref 151 152), (0, .class_ 153), (0, .nameAndType 154 155), (0, u "java/lang/System"), (0, u "arraycopy"), (0, u "(Ljava/lang/Object;ILjava/lang/Object;II)V"), (146, u "copyOf"), (1, .methodref 305 306), (0, .class_ 307), (0, .nameAndType 308 309), (0, u "java/lang/Math"), (0, u "min"), (0, u "(II)I"), (29, .methodref 14 340), (0, .nameAndType 341 342), (0, u "copyOfRangeByte"), (0, u "([BII)[B"), (0, .methodref 14 344), (0, .nameAndType 345 346), (0, u "checkLength"), (0, u "(II)V"), (28, .class_ 376), (0, u "java/util/Arrays$ArrayList"), (68, u "$assertionsDisabled"), (269, u "MIN_ARRAY_SORT_GRAN"), (0, u "I"), (2, u "INSERTIONSORT_THRESHOLD"), (149, u "([BI)[B"), (105, .class_ 976), (0, u "java/util/Arrays$ArrayItr")] 52

def k15m0 : Method := { name := "<init>", desc := "()V", sig := { parameters := [], returnType := none }, accessFlags := 2, code := none }
def k15c1 : Code := { maxStack := 6, maxLocals := 3, code := jdk_65_method_121_code, exceptionTable := #[], attributes := #[] }
def k15m1 : Method := { name := "copyOf", desc := "([BI)[B", sig := { parameters := [(.array .byte), .int], returnType := some (.array .byte) }, accessFlags := 9, code := some k15c1 }
def k15c2 : Code := { maxStack := 4, maxLocals := 2, code := jdk_65_method_131_code, exceptionTable := #[], attributes := #[] }
def k15m2 : Method := { name := "checkLength", desc := "(II)V", sig := { parameters := [.int, .int], returnType := none }, accessFlags := 10, code := some k15c2 }
def k15c3 : Code := { maxStack := 3, maxLocals := 3, code := jdk_65_method_132_code, exceptionTable := #[], attributes := #[] }
def k15m3 : Method := { name := "copyOfRange", desc := "([BII)[B", sig := { parameters := [(.array .byte), .int, .int], returnType := some (.array .byte) }, accessFlags := 9, code := some k15c3 }
def k15c4 : Code := { maxStack := 6, maxLocals := 5, code := jdk_65_method_133_code, exceptionTable := #[], attributes := #[] }
def k15m4 : Method := { name := "copyOfRangeByte", desc := "([BII)[B", sig := { parameters := [(.array .byte), .int, .int], returnType := some (.array .byte) }, accessFlags := 10, code := some k15c4 }
/-- java/util/Arrays -/
def k15 : Class := { plain "java/util/Arrays" (some 0) with
  accessFlags := 49
  interfaces := #[]
  cf := some (fileOf pool15 14 #[.nestMembers #[975, 375, 113, 74]] #[{ accessFlags := 2, nameIndex := 5, descriptorIndex := 6, attributes := #[] }, { accessFlags := 9, nameIndex := 302, descriptorIndex := 869, attributes := #[] }, { accessFlags := 10, nameIndex := 345, descriptorIndex := 346, attributes := #[] }, { accessFlags := 9, nameIndex := 139, descriptorIndex := 342, attributes := #[] }, { accessFlags := 10, nameIndex := 341, descriptorIndex := 342, attributes := #[] }] 49 2 #[] #[{ accessFlags := 26, nameIndex := 715, descriptorIndex := 716, attributes := #[] }, { accessFlags := 26, nameIndex := 719, descriptorIndex := 716, attributes := #[] }, { accessFlags := 4120, nameIndex := 445, descriptorIndex := 117, attributes := #[] }])
  fields := #[{ name := "MIN_ARRAY_SORT_GRAN", type := .int, accessFlags := 26, slot := 0, constantValue := 0 }, { name := "INSERTIONSORT_THRESHOLD", type := .int, accessFlags := 26, slot := 1, constantValue := 0 }, { name := "$assertionsDisabled", type := .boolean, accessFlags := 4120, slot := 2, constantValue := 0 }]
  methods := #[k15m0, k15m1, k15m2, k15m3, k15m4]
  instanceTypes := #[]
  staticTypes := #[.int, .int, .boolean]
  resolved := Array.replicate 1029 none
  statics := none }

def pool16 : Array CpInfo := pool [(1, .class_ 2), (0, u "java/lang/Math"), (1, .class_ 6), (1, u "java/lang/Object"), (0, u "<init>"), (0, u "()V"), (89, .class_ 100), (1, u "java/lang/Math$RandomNumberGeneratorHolder"), (71, u "negativeZeroFloatBits"), (0, u "J"), (2, u "negativeZeroDoubleBits"), (21, u "max"), (2, u "min"), (43, u "$assertionsDisabled"), (0, u "Z"), (88, u "(II)I"), (2, u "twoToTheDoubleScaleDown"), (0, u "D"), (4, u "twoToTheDoubleScaleUp"), (9, u "E"), (3, u "PI"), (2, u "TAU"), (2, u "DEGREES_TO_RADIANS"), (0, u "RADIANS_TO_DEGREES")] 94

def k16m0 : Method := { name := "<init>", desc := "()V", sig := { parameters := [], returnType := none }, accessFlags := 2, code := none }
def k16c1 : Code := { maxStack := 2, maxLocals := 2, code := jdk_29_method_65_code, exceptionTable := #[], attributes := #[] }
def k16m1 : Method := { name := "max", desc := "(II)I", sig := { parameters := [.int, .int], returnType := some .int }, accessFlags := 9, code := some k16c1 }
def k16c2 : Code := { maxStack := 2, maxLocals := 2, code := jdk_29_method_69_code, exceptionTable := #[], attributes := #[] }
def k16m2 : Method := { name := "min", desc := "(II)I", sig := { parameters := [.int, .int], returnType := some .int }, accessFlags := 9, code := some k16c2 }
/-- java/lang/Math -/
def k16 : Class := { plain "java/lang/Math" (some 0) with
  accessFlags := 49
  interfaces := #[]
  cf := some (fileOf pool16 1 #[.nestMembers #[98]] #[{ accessFlags := 2, nameIndex := 7, descriptorIndex := 8, attributes := #[] }, { accessFlags := 9, nameIndex := 198, descriptorIndex := 335, attributes := #[] }, { accessFlags := 9, nameIndex := 201, descriptorIndex := 335, attributes := #[] }] 49 4 #[] #[{ accessFlags := 25, nameIndex := 354, descriptorIndex := 339, attributes := #[] }, { accessFlags := 25, nameIndex := 358, descriptorIndex := 339, attributes := #[] }, { accessFlags := 25, nameIndex := 361, descriptorIndex := 339, attributes := #[] }, { accessFlags := 26, nameIndex := 364, descriptorIndex := 339, attributes := #[] }, { accessFlags := 26, nameIndex := 365, descriptorIndex := 339, attributes := #[] }, { accessFlags := 26, nameIndex := 172, descriptorIndex := 173, attributes := #[] }, { accessFlags := 26, nameIndex := 176, descriptorIndex := 173, attributes := #[] }, { accessFlags := 8, nameIndex := 344, descriptorIndex := 339, attributes := #[] }, { accessFlags := 8, nameIndex := 338, descriptorIndex := 339, attributes := #[] }, { accessFlags := 4120, nameIndex := 245, descriptorIndex := 246, attributes := #[] }])
  fields := #[{ name := "E", type := .double, accessFlags := 25, slot := 0, constantValue := 0 }, { name := "PI", type := .double, accessFlags := 25, slot := 1, constantValue := 0 }, { name := "TAU", type := .double, accessFlags := 25, slot := 2, constantValue := 0 }, { name := "DEGREES_TO_RADIANS", type := .double, accessFlags := 26, slot := 3, constantValue := 0 }, { name := "RADIANS_TO_DEGREES", type := .double, accessFlags := 26, slot := 4, constantValue := 0 }, { name := "negativeZeroFloatBits", type := .long, accessFlags := 26, slot := 5, constantValue := 0 }, { name := "negativeZeroDoubleBits", type := .long, accessFlags := 26, slot := 6, constantValue := 0 }, { name := "twoToTheDoubleScaleUp", type := .double, accessFlags := 8, slot := 7, constantValue := 0 }, { name := "twoToTheDoubleScaleDown", type := .double, accessFlags := 8, slot := 8, constantValue := 0 }, { name := "$assertionsDisabled", type := .boolean, accessFlags := 4120, slot := 9, constantValue := 0 }]
  methods := #[k16m0, k16m1, k16m2]
  instanceTypes := #[]
  staticTypes := #[.double, .double, .double, .double, .double, .long, .long, .double, .double, .boolean]
  resolved := Array.replicate 460 none
  statics := none }

def pool17 : Array CpInfo := pool [(4, .class_ 6), (1, u "java/lang/Object"), (0, u "<init>"), (0, u "()V"), (5, .class_ 16), (1, u "java/lang/StringLatin1"), (104, u "$assertionsDisabled"), (0, u "Z"), (98, .class_ 223), (1, u "java/lang/StringLatin1$LinesSpliterator"), (57, u "equals"), (0, u "([B[B)Z"), (107, .class_ 391), (0, u "java/lang/StringLatin1$CharsSpliterator")] 3

def k17m0 : Method := { name := "<init>", desc := "()V", sig := { parameters := [], returnType := none }, accessFlags := 0, code := none }
def k17c1 : Code := { maxStack := 3, maxLocals := 3, code := jdk_43_method_13_code, exceptionTable := #[], attributes := #[] }
def k17m1 : Method := { name := "equals", desc := "([B[B)Z", sig := { parameters := [(.array .byte), (.array .byte)], returnType := some .boolean }, accessFlags := 9, code := some k17c1 }
/-- java/lang/StringLatin1 -/
def k17 : Class := { plain "java/lang/StringLatin1" (some 0) with
  accessFlags := 48
  interfaces := #[]
  cf := some (fileOf pool17 14 #[.nestMembers #[390, 221]] #[{ accessFlags := 0, nameIndex := 7, descriptorIndex := 8, attributes := #[] }, { accessFlags := 9, nameIndex := 281, descriptorIndex := 282, attributes := #[] }] 48 4 #[] #[{ accessFlags := 4120, nameIndex := 121, descriptorIndex := 122, attributes := #[] }])
  fields := #[{ name := "$assertionsDisabled", type := .boolean, accessFlags := 4120, slot := 0, constantValue := 0 }]
  methods := #[k17m0, k17m1]
  instanceTypes := #[]
  staticTypes := #[.boolean]
  resolved := Array.replicate 395 none
  statics := none }

def pool18 : Array CpInfo := pool [(9, u "<init>"), (6, .class_ 18), (1, u "java/lang/Object"), (0, u "()V"), (1, .class_ 23), (1, u "jdk/internal/util/ArraysSupport"), (0, u "LOG2_ARRAY_LONG_INDEX_SCALE"), (0, u "I"), (2, u "U"), (0, u "Ljdk/internal/misc/Unsafe;"), (8, u "BIG_ENDIAN"), (0, u "Z"), (8, u "LOG2_BYTE_BIT_SIZE"), (4, u "LOG2_ARRAY_INT_INDEX_SCALE"), (54, u "JLA"), (0, u "Ljdk/internal/access/JavaLangAccess;"), (11, u "LOG2_ARRAY_BOOLEAN_INDEX_SCALE"), (9, u "LOG2_ARRAY_BYTE_INDEX_SCALE"), (5, u "LOG2_ARRAY_CHAR_INDEX_SCALE"), (5, u "LOG2_ARRAY_SHORT_INDEX_SCALE"), (18, u "LOG2_ARRAY_FLOAT_INDEX_SCALE"), (24, u "LOG2_ARRAY_DOUBLE_INDEX_SCALE"), (6, .methodref 195 196), (0, .class_ 197), (0, .nameAndType 198 199), (0, u "java/lang/Math"), (0, u "max"), (0, u "(II)I"), (0, .integer 2147483639), (76, u "T_BOOLEAN"), (2, u "T_CHAR"), (1, u "T_FLOAT"), (1, u "T_DOUBLE"), (1, u "T_BYTE"), (1, u "T_SHORT"), (1, u "T_INT"), (1, u "T_LONG"), (1, u "SOFT_MAX_ARRAY_LENGTH"), (56, u "newLength"), (0, u "(III)I")] 25

def k18m0 : Method := { name := "<init>", desc := "()V", sig := { parameters := [], returnType := none }, accessFlags := 2, code := none }
def k18c1 : Code := { maxStack := 3, maxLocals := 4, code := jdk_48_method_27_code, exceptionTable := #[], attributes := #[] }
def k18m1 : Method := { name := "newLength", desc := "(III)I", sig := { parameters := [.int, .int, .int], returnType := some .int }, accessFlags := 9, code := some k18c1 }
/-- jdk/internal/util/ArraysSupport -/
def k18 : Class := { plain "jdk/internal/util/ArraysSupport" (some 0) with
  accessFlags := 33
  interfaces := #[]
  cf := some (fileOf pool18 21 #[] #[{ accessFlags := 2, nameIndex := 9, descriptorIndex := 19, attributes := #[] }, { accessFlags := 9, nameIndex := 351, descriptorIndex := 352, attributes := #[] }] 33 16 #[] #[{ accessFlags := 24, nameIndex := 28, descriptorIndex := 29, attributes := #[] }, { accessFlags := 26, nameIndex := 38, descriptorIndex := 39, attributes := #[] }, { accessFlags := 25, nameIndex := 121, descriptorIndex := 25, attributes := #[] }, { accessFlags := 25, nameIndex := 131, descriptorIndex := 25, attributes := #[] }, { accessFlags := 25, nameIndex := 137, descriptorIndex := 25, attributes := #[] }, { accessFlags := 25, nameIndex := 143, descriptorIndex := 25, attributes := #[] }, { accessFlags := 25, nameIndex := 53, descriptorIndex := 25, attributes := #[] }, { accessFlags := 25, nameIndex := 24, descriptorIndex := 25, attributes := #[] }, { accessFlags := 25, nameIndex := 162, descriptorIndex := 25, attributes := #[] }, { accessFlags := 25, nameIndex := 187, descriptorIndex := 25, attributes := #[] }, { accessFlags := 26, nameIndex := 48, descriptorIndex := 25, attributes := #[] }, { accessFlags := 25, nameIndex := 277, descriptorIndex := 25, attributes := #[] }, { accessFlags := 25, nameIndex := 280, descriptorIndex := 25, attributes := #[] }, { accessFlags := 25, nameIndex := 282, descriptorIndex := 25, attributes := #[] }, { accessFlags := 25, nameIndex := 284, descriptorIndex := 25, attributes := #[] }, { accessFlags := 25, nameIndex := 286, descriptorIndex := 25, attributes := #[] }, { accessFlags := 25, nameIndex := 288, descriptorIndex := 25, attributes := #[] }, { accessFlags := 25, nameIndex := 290, descriptorIndex := 25, attributes := #[] }, { accessFlags := 25, nameIndex := 292, descriptorIndex := 25, attributes := #[] }, { accessFlags := 26, nameIndex := 108, descriptorIndex := 109, attributes := #[] }, { accessFlags := 25, nameIndex := 294, descriptorIndex := 25, attributes := #[] }])
  fields := #[{ name := "U", type := (.object "jdk/internal/misc/Unsafe"), accessFlags := 24, slot := 0, constantValue := 0 }, { name := "BIG_ENDIAN", type := .boolean, accessFlags := 26, slot := 1, constantValue := 0 }, { name := "LOG2_ARRAY_BOOLEAN_INDEX_SCALE", type := .int, accessFlags := 25, slot := 2, constantValue := 0 }, { name := "LOG2_ARRAY_BYTE_INDEX_SCALE", type := .int, accessFlags := 25, slot := 3, constantValue := 0 }, { name := "LOG2_ARRAY_CHAR_INDEX_SCALE", type := .int, accessFlags := 25, slot := 4, constantValue := 0 }, { name := "LOG2_ARRAY_SHORT_INDEX_SCALE", type := .int, accessFlags := 25, slot := 5, constantValue := 0 }, { name := "LOG2_ARRAY_INT_INDEX_SCALE", type := .int, accessFlags := 25, slot := 6, constantValue := 0 }, { name := "LOG2_ARRAY_LONG_INDEX_SCALE", type := .int, accessFlags := 25, slot := 7, constantValue := 0 }, { name := "LOG2_ARRAY_FLOAT_INDEX_SCALE", type := .int, accessFlags := 25, slot := 8, constantValue := 0 }, { name := "LOG2_ARRAY_DOUBLE_INDEX_SCALE", type := .int, accessFlags := 25, slot := 9, constantValue := 0 }, { name := "LOG2_BYTE_BIT_SIZE", type := .int, accessFlags := 26, slot := 10, constantValue := 0 }, { name := "T_BOOLEAN", type := .int, accessFlags := 25, slot := 11, constantValue := 0 }, { name := "T_CHAR", type := .int, accessFlags := 25, slot := 12, constantValue := 0 }, { name := "T_FLOAT", type := .int, accessFlags := 25, slot := 13, constantValue := 0 }, { name := "T_DOUBLE", type := .int, accessFlags := 25, slot := 14, constantValue := 0 }, { name := "T_BYTE", type := .int, accessFlags := 25, slot := 15, constantValue := 0 }, { name := "T_SHORT", type := .int, accessFlags := 25, slot := 16, constantValue := 0 }, { name := "T_INT", type := .int, accessFlags := 25, slot := 17, constantValue := 0 }, { name := "T_LONG", type := .int, accessFlags := 25, slot := 18, constantValue := 0 }, { name := "JLA", type := (.object "jdk/internal/access/JavaLangAccess"), accessFlags := 26, slot := 19, constantValue := 0 }, { name := "SOFT_MAX_ARRAY_LENGTH", type := .int, accessFlags := 25, slot := 20, constantValue := 0 }]
  methods := #[k18m0, k18m1]
  instanceTypes := #[]
  staticTypes := #[(.object "jdk/internal/misc/Unsafe"), .boolean, .int, .int, .int, .int, .int, .int, .int, .int, .int, .int, .int, .int, .int, .int, .int, .int, .int, (.object "jdk/internal/access/JavaLangAccess"), .int]
  resolved := Array.replicate 378 none
  statics := none }

def pool19 : Array CpInfo := pool [(2, .class_ 4), (1, u "java/lang/Object"), (0, u "<init>"), (0, u "()V"), (17, .class_ 26), (1, u "jdk/internal/util/Preconditions"), (28, .class_ 56), (0, u "jdk/internal/util/Preconditions$4"), (57, .class_ 115), (0, u "jdk/internal/util/Preconditions$1"), (7, u "SIOOBE_FORMATTER"), (0, u "Ljava/util/function/BiFunction;"), (0, .class_ 126), (0, u "jdk/internal/util/Preconditions$2"), (3, u "AIOOBE_FORMATTER"), (0, .class_ 132), (0, u "jdk/internal/util/Preconditions$3"), (3, u "IOOBE_FORMATTER")] 57

def k19m0 : Method := { name := "<init>", desc := "()V", sig := { parameters := [], returnType := none }, accessFlags := 1, code := none }
/-- jdk/internal/util/Preconditions -/
def k19 : Class := { plain "jdk/internal/util/Preconditions" (some 0) with
  accessFlags := 33
  interfaces := #[]
  cf := some (fileOf pool19 24 #[.nestMembers #[55, 131, 125, 114]] #[{ accessFlags := 1, nameIndex := 5, descriptorIndex := 6, attributes := #[] }] 33 2 #[] #[{ accessFlags := 25, nameIndex := 123, descriptorIndex := 124, attributes := #[] }, { accessFlags := 25, nameIndex := 130, descriptorIndex := 124, attributes := #[] }, { accessFlags := 25, nameIndex := 136, descriptorIndex := 124, attributes := #[] }])
  fields := #[{ name := "SIOOBE_FORMATTER", type := (.object "java/util/function/BiFunction"), accessFlags := 25, slot := 0, constantValue := 0 }, { name := "AIOOBE_FORMATTER", type := (.object "java/util/function/BiFunction"), accessFlags := 25, slot := 1, constantValue := 0 }, { name := "IOOBE_FORMATTER", type := (.object "java/util/function/BiFunction"), accessFlags := 25, slot := 2, constantValue := 0 }]
  methods := #[k19m0]
  instanceTypes := #[]
  staticTypes := #[(.object "java/util/function/BiFunction"), (.object "java/util/function/BiFunction"), (.object "java/util/function/BiFunction")]
  resolved := Array.replicate 194 none
  statics := some 1 }

def pool20 : Array CpInfo := pool [(1, u "java/lang/Cloneable"), (0, .class_ 1), (0, u "java/lang/Object"), (0, .class_ 3)] 3

/-- java/lang/Cloneable -/
def k20 : Class := { plain "java/lang/Cloneable" (some 0) with
  accessFlags := 1537
  interfaces := #[]
  cf := some (fileOf pool20 2 #[] #[] 1537 4 #[] #[])
  fields := #[]
  methods := #[]
  instanceTypes := #[]
  staticTypes := #[]
  resolved := Array.replicate 8 none
  statics := none }

/-- the primitive byte -/
def k21 : Class := { plain "byte" none with kind := .primitive 'B', accessFlags := 0x411 }
/-- [B -/
def k22 : Class := { plain "[B" (some 0) with kind := .array 21 .byte, interfaces := #[20, 3], accessFlags := 1041 }

/-- the primitive char -/
def k23 : Class := { plain "char" none with kind := .primitive 'C', accessFlags := 0x411 }
/-- [C -/
def k24 : Class := { plain "[C" (some 0) with kind := .array 23 .char, interfaces := #[20, 3], accessFlags := 1041 }

/-- the primitive int -/
def k25 : Class := { plain "int" none with kind := .primitive 'I', accessFlags := 0x411 }
/-- [I -/
def k26 : Class := { plain "[I" (some 0) with kind := .array 25 .int, interfaces := #[20, 3], accessFlags := 1041 }

def heap : Heap := #[{ cls := 8, slots := #[.long 0, .int 1, .null, .int 0, .null, .int 0, .int 0], vm := .statics 8 },
  { cls := 19, slots := #[.null, .null, .null], vm := .statics 19 }]
def classes : Array Class := #[k0, k1, k2, k3, k4, k5, k6, k7, k8, k9, k10, k11, k12, k13, k14, k15, k16, k17, k18, k19, k20, k21, k22, k23, k24, k25, k26]
def interned : List (Array UInt16 × Addr) := []
def slotsUsed : Nat := 10
def theMethod : MethodId := ⟨1, 1⟩
def args0 : Array Value := #[.int 3, .int 300, .int 7]
def aboutOver (below : List Frame) : State where
  vm := { classes := classes, interned := interned.toArray }
  heap := heap
  slotsUsed := slotsUsed
  threads := #[{ frames := .invoking theMethod args0 :: below }]
def below0 : List Frame := [.native { method := ⟨0, 0⟩, args := #[] }]
def about1 : State := aboutOver below0
def p0 : Program := .bare "" "" ""
def e0 : Env := launch0.env 0 0 0
theorem w_frames : about1.frames = Frame.invoking theMethod args0 :: below0 := rfl
set_option maxRecDepth 65536 in
theorem w_args : argsFit about1.vm theMethod args0 = true := by decide +kernel
set_option maxRecDepth 65536 in
theorem w_heap : heapFits about1 = true := by decide +kernel
set_option maxRecDepth 65536 in
theorem w_runnable : about1.curStatus? = some .runnable := by decide +kernel
set_option maxRecDepth 65536 in
theorem w_alone : about1.alone = true := by decide +kernel
set_option maxRecDepth 65536 in
theorem w_named : about1.methodNamed? x = some theMethod := by decide +kernel
set_option maxRecDepth 65536 in
theorem w_hears : about1.hears theMethod below0 = true := by decide +kernel
set_option maxRecDepth 65536 in
theorem w_ripe : about1.ripe theMethod args0 below0 = true := by decide +kernel
theorem w_running : about1.status = .running := rfl
set_option maxRecDepth 65536 in
theorem w_room : about1.hasRoom e0.platform room_1 = true :=
  launch0.hasRoom_least _ room_1 (by decide +kernel) (by decide +kernel) (by decide +kernel) (by decide +kernel) (by decide +kernel) (by decide +kernel)
theorem allAtoms_all (ts : List Jvm.Cond) (a : Array Jvm.Value) (st : Jvm.State) : (allAtoms ts).before a st = ts.all (fun c => c.before a st) := by
  induction ts with
  | nil => rfl
  | cons c t ih =>
    show (Jvm.Cond.and c (allAtoms t)).before a st = _
    rw [Jvm.Cond.before_and, ih, List.all_cons]
def words1 : List Jvm.Cond := Jvm.Cond.code x code maxLocals ret :: tables_1
/-- a 'code' word, met by the world's own term for the bytes: nothing is compared byte by byte -/
theorem code_word {y : MethodName} {bytes : ByteArray} {mx : Nat} {rt : Option FieldType} {a : Array Value} {s : State} {m : MethodId} {meth : Method} {c : Code} (h1 : s.methodNamed? y = some m) (h2 : s.vm.method? m = some meth) (h3 : meth.code = some c) (h4 : c.code = bytes)
    (h5 : (c.maxLocals == mx && c.exceptionTable.isEmpty && decide (c.maxStack ≤ mostOperands) && decide (meth.sig.returnType = rt) && !meth.locks && decide (parseMethodDescriptor y.desc = some meth.sig)) = true) : (Jvm.Cond.code y bytes mx rt).before a s = true := by
  simp only [Bool.and_eq_true, beq_iff_eq, Bool.not_eq_true', decide_eq_true_eq] at h5
  obtain ⟨⟨⟨⟨⟨g1, g2⟩, g3⟩, g4⟩, g5⟩, g6⟩ := h5
  simp [Cond.before, Cond.holds, Cond.value, h1, h2, h3, h4, g1, g2, g3, g4, g5, g6]
def isCode : Jvm.Cond → Bool
  | .code _ _ _ _ => true
  | _ => false
theorem all_split {L : List Jvm.Cond} {P : Jvm.Cond → Bool} (h1 : L.all (fun c => isCode c || P c) = true) (h2 : ∀ c ∈ L.filter isCode, P c = true) : L.all P = true := by
  refine List.all_eq_true.mpr fun c hc => ?_
  have h := List.all_eq_true.mp h1 c hc
  rcases Bool.eq_false_or_eq_true (isCode c) with hi | hi
  · exact h2 c (List.mem_filter.mpr ⟨hc, hi⟩)
  · simpa [hi] using h
set_option maxRecDepth 65536 in
theorem w_c0 : (Jvm.Cond.code x code maxLocals ret).before args0 about1 = true := code_word (m := ⟨1, 1⟩) (meth := k1m1) (c := k1c1) (by decide +kernel) rfl rfl rfl (by decide +kernel)
set_option maxRecDepth 65536 in
theorem w_c1 : (Jvm.Cond.code ({ cls := "com/example/covenantry/covenantry/Figure", name := "<init>", desc := "(Ljava/lang/String;Ljava/lang/String;ILjava/lang/String;)V" } : Jvm.MethodName) prog_29_method_1_code (5 : Nat) (Option.none : Option Jvm.ClassFile.FieldType)).before args0 about1 = true := code_word (m := ⟨2, 0⟩) (meth := k2m0) (c := k2c0) (by decide +kernel) rfl rfl rfl (by decide +kernel)
set_option maxRecDepth 65536 in
theorem w_c2 : (Jvm.Cond.code ({ cls := "com/example/covenantry/covenantry/Figure", name := "<init>", desc := "(Ljava/lang/String;Ljava/lang/String;ILjava/lang/String;Ljava/lang/String;)V" } : Jvm.MethodName) prog_29_method_2_code (6 : Nat) (Option.none : Option Jvm.ClassFile.FieldType)).before args0 about1 = true := code_word (m := ⟨2, 1⟩) (meth := k2m1) (c := k2c1) (by decide +kernel) rfl rfl rfl (by decide +kernel)
set_option maxRecDepth 65536 in
theorem w_c3 : (Jvm.Cond.code ({ cls := "java/lang/Object", name := "<init>", desc := "()V" } : Jvm.MethodName) object_method_1_code (1 : Nat) (Option.none : Option Jvm.ClassFile.FieldType)).before args0 about1 = true := code_word (m := ⟨0, 0⟩) (meth := k0m0) (c := k0c0) (by decide +kernel) rfl rfl rfl (by decide +kernel)
set_option maxRecDepth 65536 in
theorem w_c4 : (Jvm.Cond.code ({ cls := "com/example/covenantry/covenantry/FeeLevel", name := "<init>", desc := "(Lcom/example/covenantry/covenantry/Figure;Lcom/example/covenantry/covenantry/Figure;Lcom/example/covenantry/covenantry/Figure;)V" } : Jvm.MethodName) prog_27_method_1_code (4 : Nat) (Option.none : Option Jvm.ClassFile.FieldType)).before args0 about1 = true := code_word (m := ⟨9, 0⟩) (meth := k9m0) (c := k9c0) (by decide +kernel) rfl rfl rfl (by decide +kernel)
set_option maxRecDepth 65536 in
theorem w_c5 : (Jvm.Cond.code ({ cls := "com/example/covenantry/covenantry/FeeLevel", name := "<init>", desc := "(Lcom/example/covenantry/covenantry/Figure;Lcom/example/covenantry/covenantry/Figure;Lcom/example/covenantry/covenantry/Figure;Lcom/example/covenantry/covenantry/Unreadable;)V" } : Jvm.MethodName) prog_27_method_3_code (5 : Nat) (Option.none : Option Jvm.ClassFile.FieldType)).before args0 about1 = true := code_word (m := ⟨9, 1⟩) (meth := k9m1) (c := k9c1) (by decide +kernel) rfl rfl rfl (by decide +kernel)
set_option maxRecDepth 65536 in
theorem w_c6 : (Jvm.Cond.code ({ cls := "com/example/covenantry/covenantry/FeeLevel", name := "span", desc := "()Ljava/lang/String;" } : Jvm.MethodName) prog_27_method_5_code (2 : Nat) (Option.some (Jvm.ClassFile.FieldType.object "java/lang/String"))).before args0 about1 = true := code_word (m := ⟨9, 2⟩) (meth := k9m2) (c := k9c2) (by decide +kernel) rfl rfl rfl (by decide +kernel)
set_option maxRecDepth 65536 in
theorem w_c7 : (Jvm.Cond.code ({ cls := "java/lang/String", name := "equals", desc := "(Ljava/lang/Object;)Z" } : Jvm.MethodName) jdk_42_method_66_code (3 : Nat) (Option.some Jvm.ClassFile.FieldType.boolean)).before args0 about1 = true := code_word (m := ⟨8, 4⟩) (meth := k8m4) (c := k8c4) (by decide +kernel) rfl rfl rfl (by decide +kernel)
set_option maxRecDepth 65536 in
theorem w_c8 : (Jvm.Cond.code ({ cls := "java/lang/String", name := "<init>", desc := "([C)V" } : Jvm.MethodName) jdk_42_method_3_code (2 : Nat) (Option.none : Option Jvm.ClassFile.FieldType)).before args0 about1 = true := code_word (m := ⟨8, 1⟩) (meth := k8m1) (c := k8c1) (by decide +kernel) rfl rfl rfl (by decide +kernel)
set_option maxRecDepth 65536 in
theorem w_c9 : (Jvm.Cond.code ({ cls := "java/lang/String", name := "<init>", desc := "([CIILjava/lang/Void;)V" } : Jvm.MethodName) jdk_42_method_149_code (6 : Nat) (Option.none : Option Jvm.ClassFile.FieldType)).before args0 about1 = true := code_word (m := ⟨8, 6⟩) (meth := k8m6) (c := k8c6) (by decide +kernel) rfl rfl rfl (by decide +kernel)
set_option maxRecDepth 65536 in
theorem w_c10 : (Jvm.Cond.code ({ cls := "java/lang/StringUTF16", name := "compress", desc := "([CII)[B" } : Jvm.MethodName) jdk_52_method_16_code (6 : Nat) (Option.some (Jvm.ClassFile.FieldType.array Jvm.ClassFile.FieldType.byte))).before args0 about1 = true := code_word (m := ⟨10, 2⟩) (meth := k10m2) (c := k10c2) (by decide +kernel) rfl rfl rfl (by decide +kernel)
set_option maxRecDepth 65536 in
theorem w_c11 : (Jvm.Cond.code ({ cls := "java/lang/StringUTF16", name := "compress", desc := "([CI[BII)I" } : Jvm.MethodName) jdk_52_method_21_code (7 : Nat) (Option.some Jvm.ClassFile.FieldType.int)).before args0 about1 = true := code_word (m := ⟨10, 3⟩) (meth := k10m3) (c := k10c3) (by decide +kernel) rfl rfl rfl (by decide +kernel)
set_option maxRecDepth 65536 in
theorem w_c12 : (Jvm.Cond.code ({ cls := "java/lang/StringUTF16", name := "coderFromArrayLen", desc := "([BI)B" } : Jvm.MethodName) jdk_52_method_15_code (2 : Nat) (Option.some Jvm.ClassFile.FieldType.byte)).before args0 about1 = true := code_word (m := ⟨10, 1⟩) (meth := k10m1) (c := k10c1) (by decide +kernel) rfl rfl rfl (by decide +kernel)
set_option maxRecDepth 65536 in
theorem w_c13 : (Jvm.Cond.code ({ cls := "java/lang/StringBuilder", name := "<init>", desc := "()V" } : Jvm.MethodName) jdk_67_method_1_code (1 : Nat) (Option.none : Option Jvm.ClassFile.FieldType)).before args0 about1 = true := code_word (m := ⟨13, 0⟩) (meth := k13m0) (c := k13c0) (by decide +kernel) rfl rfl rfl (by decide +kernel)
set_option maxRecDepth 65536 in
theorem w_c14 : (Jvm.Cond.code ({ cls := "java/lang/AbstractStringBuilder", name := "<init>", desc := "(I)V" } : Jvm.MethodName) jdk_68_method_2_code (2 : Nat) (Option.none : Option Jvm.ClassFile.FieldType)).before args0 about1 = true := code_word (m := ⟨12, 1⟩) (meth := k12m1) (c := k12c1) (by decide +kernel) rfl rfl rfl (by decide +kernel)
set_option maxRecDepth 65536 in
theorem w_c15 : (Jvm.Cond.code ({ cls := "java/lang/StringBuilder", name := "append", desc := "(Ljava/lang/String;)Ljava/lang/StringBuilder;" } : Jvm.MethodName) jdk_67_method_7_code (2 : Nat) (Option.some (Jvm.ClassFile.FieldType.object "java/lang/StringBuilder"))).before args0 about1 = true := code_word (m := ⟨13, 1⟩) (meth := k13m1) (c := k13c1) (by decide +kernel) rfl rfl rfl (by decide +kernel)
set_option maxRecDepth 65536 in
theorem w_c16 : (Jvm.Cond.code ({ cls := "java/lang/AbstractStringBuilder", name := "append", desc := "(Ljava/lang/String;)Ljava/lang/AbstractStringBuilder;" } : Jvm.MethodName) jdk_68_method_22_code (3 : Nat) (Option.some (Jvm.ClassFile.FieldType.object "java/lang/AbstractStringBuilder"))).before args0 about1 = true := code_word (m := ⟨12, 5⟩) (meth := k12m5) (c := k12c5) (by decide +kernel) rfl rfl rfl (by decide +kernel)
set_option maxRecDepth 65536 in
theorem w_c17 : (Jvm.Cond.code ({ cls := "java/lang/String", name := "length", desc := "()I" } : Jvm.MethodName) jdk_42_method_54_code (1 : Nat) (Option.some Jvm.ClassFile.FieldType.int)).before args0 about1 = true := code_word (m := ⟨8, 3⟩) (meth := k8m3) (c := k8c3) (by decide +kernel) rfl rfl rfl (by decide +kernel)
set_option maxRecDepth 65536 in
theorem w_c18 : (Jvm.Cond.code ({ cls := "java/lang/String", name := "coder", desc := "()B" } : Jvm.MethodName) jdk_42_method_152_code (1 : Nat) (Option.some Jvm.ClassFile.FieldType.byte)).before args0 about1 = true := code_word (m := ⟨8, 8⟩) (meth := k8m8) (c := k8c8) (by decide +kernel) rfl rfl rfl (by decide +kernel)
set_option maxRecDepth 65536 in
theorem w_c19 : (Jvm.Cond.code ({ cls := "java/lang/AbstractStringBuilder", name := "ensureCapacityInternal", desc := "(I)V" } : Jvm.MethodName) jdk_68_method_9_code (3 : Nat) (Option.none : Option Jvm.ClassFile.FieldType)).before args0 about1 = true := code_word (m := ⟨12, 3⟩) (meth := k12m3) (c := k12c3) (by decide +kernel) rfl rfl rfl (by decide +kernel)
set_option maxRecDepth 65536 in
theorem w_c20 : (Jvm.Cond.code ({ cls := "java/lang/AbstractStringBuilder", name := "putStringAt", desc := "(ILjava/lang/String;)V" } : Jvm.MethodName) jdk_68_method_73_code (3 : Nat) (Option.none : Option Jvm.ClassFile.FieldType)).before args0 about1 = true := code_word (m := ⟨12, 9⟩) (meth := k12m9) (c := k12c9) (by decide +kernel) rfl rfl rfl (by decide +kernel)
set_option maxRecDepth 65536 in
theorem w_c21 : (Jvm.Cond.code ({ cls := "java/lang/AbstractStringBuilder", name := "inflateIfNeededFor", desc := "(Ljava/lang/String;)V" } : Jvm.MethodName) jdk_68_method_71_code (2 : Nat) (Option.none : Option Jvm.ClassFile.FieldType)).before args0 about1 = true := code_word (m := ⟨12, 8⟩) (meth := k12m8) (c := k12c8) (by decide +kernel) rfl rfl rfl (by decide +kernel)
set_option maxRecDepth 65536 in
theorem w_c22 : (Jvm.Cond.code ({ cls := "java/lang/String", name := "getBytes", desc := "([BIB)V" } : Jvm.MethodName) jdk_42_method_147_code (4 : Nat) (Option.none : Option Jvm.ClassFile.FieldType)).before args0 about1 = true := code_word (m := ⟨8, 5⟩) (meth := k8m5) (c := k8c5) (by decide +kernel) rfl rfl rfl (by decide +kernel)
set_option maxRecDepth 65536 in
theorem w_c23 : (Jvm.Cond.code ({ cls := "com/example/covenantry/covenantry/Figure", name := "value", desc := "()Ljava/lang/String;" } : Jvm.MethodName) prog_29_method_4_code (1 : Nat) (Option.some (Jvm.ClassFile.FieldType.object "java/lang/String"))).before args0 about1 = true := code_word (m := ⟨2, 2⟩) (meth := k2m2) (c := k2c2) (by decide +kernel) rfl rfl rfl (by decide +kernel)
set_option maxRecDepth 65536 in
theorem w_c24 : (Jvm.Cond.code ({ cls := "java/lang/StringBuilder", name := "toString", desc := "()Ljava/lang/String;" } : Jvm.MethodName) jdk_67_method_42_code (1 : Nat) (Option.some (Jvm.ClassFile.FieldType.object "java/lang/String"))).before args0 about1 = true := code_word (m := ⟨13, 2⟩) (meth := k13m2) (c := k13c2) (by decide +kernel) rfl rfl rfl (by decide +kernel)
set_option maxRecDepth 65536 in
theorem w_c25 : (Jvm.Cond.code ({ cls := "java/lang/String", name := "<init>", desc := "(Ljava/lang/StringBuilder;)V" } : Jvm.MethodName) jdk_42_method_53_code (2 : Nat) (Option.none : Option Jvm.ClassFile.FieldType)).before args0 about1 = true := code_word (m := ⟨8, 2⟩) (meth := k8m2) (c := k8c2) (by decide +kernel) rfl rfl rfl (by decide +kernel)
set_option maxRecDepth 65536 in
theorem w_c26 : (Jvm.Cond.code ({ cls := "java/lang/String", name := "<init>", desc := "(Ljava/lang/AbstractStringBuilder;Ljava/lang/Void;)V" } : Jvm.MethodName) jdk_42_method_150_code (5 : Nat) (Option.none : Option Jvm.ClassFile.FieldType)).before args0 about1 = true := code_word (m := ⟨8, 7⟩) (meth := k8m7) (c := k8c7) (by decide +kernel) rfl rfl rfl (by decide +kernel)
set_option maxRecDepth 65536 in
theorem w_c27 : (Jvm.Cond.code ({ cls := "java/lang/AbstractStringBuilder", name := "getValue", desc := "()[B" } : Jvm.MethodName) jdk_68_method_64_code (1 : Nat) (Option.some (Jvm.ClassFile.FieldType.array Jvm.ClassFile.FieldType.byte))).before args0 about1 = true := code_word (m := ⟨12, 6⟩) (meth := k12m6) (c := k12c6) (by decide +kernel) rfl rfl rfl (by decide +kernel)
set_option maxRecDepth 65536 in
theorem w_c28 : (Jvm.Cond.code ({ cls := "java/lang/StringBuilder", name := "length", desc := "()I" } : Jvm.MethodName) jdk_67_method_93_code (1 : Nat) (Option.some Jvm.ClassFile.FieldType.int)).before args0 about1 = true := code_word (m := ⟨13, 3⟩) (meth := k13m3) (c := k13c3) (by decide +kernel) rfl rfl rfl (by decide +kernel)
set_option maxRecDepth 65536 in
theorem w_c29 : (Jvm.Cond.code ({ cls := "java/lang/AbstractStringBuilder", name := "length", desc := "()I" } : Jvm.MethodName) jdk_68_method_6_code (1 : Nat) (Option.some Jvm.ClassFile.FieldType.int)).before args0 about1 = true := code_word (m := ⟨12, 2⟩) (meth := k12m2) (c := k12c2) (by decide +kernel) rfl rfl rfl (by decide +kernel)
set_option maxRecDepth 65536 in
theorem w_c30 : (Jvm.Cond.code ({ cls := "java/lang/AbstractStringBuilder", name := "isLatin1", desc := "()Z" } : Jvm.MethodName) jdk_68_method_68_code (1 : Nat) (Option.some Jvm.ClassFile.FieldType.boolean)).before args0 about1 = true := code_word (m := ⟨12, 7⟩) (meth := k12m7) (c := k12c7) (by decide +kernel) rfl rfl rfl (by decide +kernel)
set_option maxRecDepth 65536 in
theorem w_c31 : (Jvm.Cond.code ({ cls := "java/util/Arrays", name := "copyOfRange", desc := "([BII)[B" } : Jvm.MethodName) jdk_65_method_132_code (3 : Nat) (Option.some (Jvm.ClassFile.FieldType.array Jvm.ClassFile.FieldType.byte))).before args0 about1 = true := code_word (m := ⟨15, 3⟩) (meth := k15m3) (c := k15c3) (by decide +kernel) rfl rfl rfl (by decide +kernel)
set_option maxRecDepth 65536 in
theorem w_c32 : (Jvm.Cond.code ({ cls := "java/util/Arrays", name := "copyOfRangeByte", desc := "([BII)[B" } : Jvm.MethodName) jdk_65_method_133_code (5 : Nat) (Option.some (Jvm.ClassFile.FieldType.array Jvm.ClassFile.FieldType.byte))).before args0 about1 = true := code_word (m := ⟨15, 4⟩) (meth := k15m4) (c := k15c4) (by decide +kernel) rfl rfl rfl (by decide +kernel)
set_option maxRecDepth 65536 in
theorem w_c33 : (Jvm.Cond.code ({ cls := "java/util/Arrays", name := "checkLength", desc := "(II)V" } : Jvm.MethodName) jdk_65_method_131_code (2 : Nat) (Option.none : Option Jvm.ClassFile.FieldType)).before args0 about1 = true := code_word (m := ⟨15, 2⟩) (meth := k15m2) (c := k15c2) (by decide +kernel) rfl rfl rfl (by decide +kernel)
set_option maxRecDepth 65536 in
theorem w_c34 : (Jvm.Cond.code ({ cls := "java/lang/Math", name := "min", desc := "(II)I" } : Jvm.MethodName) jdk_29_method_69_code (2 : Nat) (Option.some Jvm.ClassFile.FieldType.int)).before args0 about1 = true := code_word (m := ⟨16, 2⟩) (meth := k16m2) (c := k16c2) (by decide +kernel) rfl rfl rfl (by decide +kernel)
set_option maxRecDepth 65536 in
theorem w_c35 : (Jvm.Cond.code ({ cls := "java/lang/StringLatin1", name := "equals", desc := "([B[B)Z" } : Jvm.MethodName) jdk_43_method_13_code (3 : Nat) (Option.some Jvm.ClassFile.FieldType.boolean)).before args0 about1 = true := code_word (m := ⟨17, 1⟩) (meth := k17m1) (c := k17c1) (by decide +kernel) rfl rfl rfl (by decide +kernel)
set_option maxRecDepth 65536 in
theorem w_c36 : (Jvm.Cond.code ({ cls := "java/lang/AbstractStringBuilder", name := "newCapacity", desc := "(I)I" } : Jvm.MethodName) jdk_68_method_10_code (6 : Nat) (Option.some Jvm.ClassFile.FieldType.int)).before args0 about1 = true := code_word (m := ⟨12, 4⟩) (meth := k12m4) (c := k12c4) (by decide +kernel) rfl rfl rfl (by decide +kernel)
set_option maxRecDepth 65536 in
theorem w_c37 : (Jvm.Cond.code ({ cls := "jdk/internal/util/ArraysSupport", name := "newLength", desc := "(III)I" } : Jvm.MethodName) jdk_48_method_27_code (4 : Nat) (Option.some Jvm.ClassFile.FieldType.int)).before args0 about1 = true := code_word (m := ⟨18, 1⟩) (meth := k18m1) (c := k18c1) (by decide +kernel) rfl rfl rfl (by decide +kernel)
set_option maxRecDepth 65536 in
theorem w_c38 : (Jvm.Cond.code ({ cls := "java/lang/Math", name := "max", desc := "(II)I" } : Jvm.MethodName) jdk_29_method_65_code (2 : Nat) (Option.some Jvm.ClassFile.FieldType.int)).before args0 about1 = true := code_word (m := ⟨16, 1⟩) (meth := k16m1) (c := k16c1) (by decide +kernel) rfl rfl rfl (by decide +kernel)
set_option maxRecDepth 65536 in
theorem w_c39 : (Jvm.Cond.code ({ cls := "java/util/Arrays", name := "copyOf", desc := "([BI)[B" } : Jvm.MethodName) jdk_65_method_121_code (3 : Nat) (Option.some (Jvm.ClassFile.FieldType.array Jvm.ClassFile.FieldType.byte))).before args0 about1 = true := code_word (m := ⟨15, 1⟩) (meth := k15m1) (c := k15c1) (by decide +kernel) rfl rfl rfl (by decide +kernel)
def codes1 : List Jvm.Cond := [Jvm.Cond.code x code maxLocals ret, Jvm.Cond.code ({ cls := "com/example/covenantry/covenantry/Figure", name := "<init>", desc := "(Ljava/lang/String;Ljava/lang/String;ILjava/lang/String;)V" } : Jvm.MethodName) prog_29_method_1_code (5 : Nat) (Option.none : Option Jvm.ClassFile.FieldType), Jvm.Cond.code ({ cls := "com/example/covenantry/covenantry/Figure", name := "<init>", desc := "(Ljava/lang/String;Ljava/lang/String;ILjava/lang/String;Ljava/lang/String;)V" } : Jvm.MethodName) prog_29_method_2_code (6 : Nat) (Option.none : Option Jvm.ClassFile.FieldType), Jvm.Cond.code ({ cls := "java/lang/Object", name := "<init>", desc := "()V" } : Jvm.MethodName) object_method_1_code (1 : Nat) (Option.none : Option Jvm.ClassFile.FieldType), Jvm.Cond.code ({ cls := "com/example/covenantry/covenantry/FeeLevel", name := "<init>", desc := "(Lcom/example/covenantry/covenantry/Figure;Lcom/example/covenantry/covenantry/Figure;Lcom/example/covenantry/covenantry/Figure;)V" } : Jvm.MethodName) prog_27_method_1_code (4 : Nat) (Option.none : Option Jvm.ClassFile.FieldType), Jvm.Cond.code ({ cls := "com/example/covenantry/covenantry/FeeLevel", name := "<init>", desc := "(Lcom/example/covenantry/covenantry/Figure;Lcom/example/covenantry/covenantry/Figure;Lcom/example/covenantry/covenantry/Figure;Lcom/example/covenantry/covenantry/Unreadable;)V" } : Jvm.MethodName) prog_27_method_3_code (5 : Nat) (Option.none : Option Jvm.ClassFile.FieldType), Jvm.Cond.code ({ cls := "com/example/covenantry/covenantry/FeeLevel", name := "span", desc := "()Ljava/lang/String;" } : Jvm.MethodName) prog_27_method_5_code (2 : Nat) (Option.some (Jvm.ClassFile.FieldType.object "java/lang/String")), Jvm.Cond.code ({ cls := "java/lang/String", name := "equals", desc := "(Ljava/lang/Object;)Z" } : Jvm.MethodName) jdk_42_method_66_code (3 : Nat) (Option.some Jvm.ClassFile.FieldType.boolean), Jvm.Cond.code ({ cls := "java/lang/String", name := "<init>", desc := "([C)V" } : Jvm.MethodName) jdk_42_method_3_code (2 : Nat) (Option.none : Option Jvm.ClassFile.FieldType), Jvm.Cond.code ({ cls := "java/lang/String", name := "<init>", desc := "([CIILjava/lang/Void;)V" } : Jvm.MethodName) jdk_42_method_149_code (6 : Nat) (Option.none : Option Jvm.ClassFile.FieldType), Jvm.Cond.code ({ cls := "java/lang/StringUTF16", name := "compress", desc := "([CII)[B" } : Jvm.MethodName) jdk_52_method_16_code (6 : Nat) (Option.some (Jvm.ClassFile.FieldType.array Jvm.ClassFile.FieldType.byte)), Jvm.Cond.code ({ cls := "java/lang/StringUTF16", name := "compress", desc := "([CI[BII)I" } : Jvm.MethodName) jdk_52_method_21_code (7 : Nat) (Option.some Jvm.ClassFile.FieldType.int), Jvm.Cond.code ({ cls := "java/lang/StringUTF16", name := "coderFromArrayLen", desc := "([BI)B" } : Jvm.MethodName) jdk_52_method_15_code (2 : Nat) (Option.some Jvm.ClassFile.FieldType.byte), Jvm.Cond.code ({ cls := "java/lang/StringBuilder", name := "<init>", desc := "()V" } : Jvm.MethodName) jdk_67_method_1_code (1 : Nat) (Option.none : Option Jvm.ClassFile.FieldType), Jvm.Cond.code ({ cls := "java/lang/AbstractStringBuilder", name := "<init>", desc := "(I)V" } : Jvm.MethodName) jdk_68_method_2_code (2 : Nat) (Option.none : Option Jvm.ClassFile.FieldType), Jvm.Cond.code ({ cls := "java/lang/StringBuilder", name := "append", desc := "(Ljava/lang/String;)Ljava/lang/StringBuilder;" } : Jvm.MethodName) jdk_67_method_7_code (2 : Nat) (Option.some (Jvm.ClassFile.FieldType.object "java/lang/StringBuilder")), Jvm.Cond.code ({ cls := "java/lang/AbstractStringBuilder", name := "append", desc := "(Ljava/lang/String;)Ljava/lang/AbstractStringBuilder;" } : Jvm.MethodName) jdk_68_method_22_code (3 : Nat) (Option.some (Jvm.ClassFile.FieldType.object "java/lang/AbstractStringBuilder")), Jvm.Cond.code ({ cls := "java/lang/String", name := "length", desc := "()I" } : Jvm.MethodName) jdk_42_method_54_code (1 : Nat) (Option.some Jvm.ClassFile.FieldType.int), Jvm.Cond.code ({ cls := "java/lang/String", name := "coder", desc := "()B" } : Jvm.MethodName) jdk_42_method_152_code (1 : Nat) (Option.some Jvm.ClassFile.FieldType.byte), Jvm.Cond.code ({ cls := "java/lang/AbstractStringBuilder", name := "ensureCapacityInternal", desc := "(I)V" } : Jvm.MethodName) jdk_68_method_9_code (3 : Nat) (Option.none : Option Jvm.ClassFile.FieldType), Jvm.Cond.code ({ cls := "java/lang/AbstractStringBuilder", name := "putStringAt", desc := "(ILjava/lang/String;)V" } : Jvm.MethodName) jdk_68_method_73_code (3 : Nat) (Option.none : Option Jvm.ClassFile.FieldType), Jvm.Cond.code ({ cls := "java/lang/AbstractStringBuilder", name := "inflateIfNeededFor", desc := "(Ljava/lang/String;)V" } : Jvm.MethodName) jdk_68_method_71_code (2 : Nat) (Option.none : Option Jvm.ClassFile.FieldType), Jvm.Cond.code ({ cls := "java/lang/String", name := "getBytes", desc := "([BIB)V" } : Jvm.MethodName) jdk_42_method_147_code (4 : Nat) (Option.none : Option Jvm.ClassFile.FieldType), Jvm.Cond.code ({ cls := "com/example/covenantry/covenantry/Figure", name := "value", desc := "()Ljava/lang/String;" } : Jvm.MethodName) prog_29_method_4_code (1 : Nat) (Option.some (Jvm.ClassFile.FieldType.object "java/lang/String")), Jvm.Cond.code ({ cls := "java/lang/StringBuilder", name := "toString", desc := "()Ljava/lang/String;" } : Jvm.MethodName) jdk_67_method_42_code (1 : Nat) (Option.some (Jvm.ClassFile.FieldType.object "java/lang/String")), Jvm.Cond.code ({ cls := "java/lang/String", name := "<init>", desc := "(Ljava/lang/StringBuilder;)V" } : Jvm.MethodName) jdk_42_method_53_code (2 : Nat) (Option.none : Option Jvm.ClassFile.FieldType), Jvm.Cond.code ({ cls := "java/lang/String", name := "<init>", desc := "(Ljava/lang/AbstractStringBuilder;Ljava/lang/Void;)V" } : Jvm.MethodName) jdk_42_method_150_code (5 : Nat) (Option.none : Option Jvm.ClassFile.FieldType), Jvm.Cond.code ({ cls := "java/lang/AbstractStringBuilder", name := "getValue", desc := "()[B" } : Jvm.MethodName) jdk_68_method_64_code (1 : Nat) (Option.some (Jvm.ClassFile.FieldType.array Jvm.ClassFile.FieldType.byte)), Jvm.Cond.code ({ cls := "java/lang/StringBuilder", name := "length", desc := "()I" } : Jvm.MethodName) jdk_67_method_93_code (1 : Nat) (Option.some Jvm.ClassFile.FieldType.int), Jvm.Cond.code ({ cls := "java/lang/AbstractStringBuilder", name := "length", desc := "()I" } : Jvm.MethodName) jdk_68_method_6_code (1 : Nat) (Option.some Jvm.ClassFile.FieldType.int), Jvm.Cond.code ({ cls := "java/lang/AbstractStringBuilder", name := "isLatin1", desc := "()Z" } : Jvm.MethodName) jdk_68_method_68_code (1 : Nat) (Option.some Jvm.ClassFile.FieldType.boolean), Jvm.Cond.code ({ cls := "java/util/Arrays", name := "copyOfRange", desc := "([BII)[B" } : Jvm.MethodName) jdk_65_method_132_code (3 : Nat) (Option.some (Jvm.ClassFile.FieldType.array Jvm.ClassFile.FieldType.byte)), Jvm.Cond.code ({ cls := "java/util/Arrays", name := "copyOfRangeByte", desc := "([BII)[B" } : Jvm.MethodName) jdk_65_method_133_code (5 : Nat) (Option.some (Jvm.ClassFile.FieldType.array Jvm.ClassFile.FieldType.byte)), Jvm.Cond.code ({ cls := "java/util/Arrays", name := "checkLength", desc := "(II)V" } : Jvm.MethodName) jdk_65_method_131_code (2 : Nat) (Option.none : Option Jvm.ClassFile.FieldType), Jvm.Cond.code ({ cls := "java/lang/Math", name := "min", desc := "(II)I" } : Jvm.MethodName) jdk_29_method_69_code (2 : Nat) (Option.some Jvm.ClassFile.FieldType.int), Jvm.Cond.code ({ cls := "java/lang/StringLatin1", name := "equals", desc := "([B[B)Z" } : Jvm.MethodName) jdk_43_method_13_code (3 : Nat) (Option.some Jvm.ClassFile.FieldType.boolean), Jvm.Cond.code ({ cls := "java/lang/AbstractStringBuilder", name := "newCapacity", desc := "(I)I" } : Jvm.MethodName) jdk_68_method_10_code (6 : Nat) (Option.some Jvm.ClassFile.FieldType.int), Jvm.Cond.code ({ cls := "jdk/internal/util/ArraysSupport", name := "newLength", desc := "(III)I" } : Jvm.MethodName) jdk_48_method_27_code (4 : Nat) (Option.some Jvm.ClassFile.FieldType.int), Jvm.Cond.code ({ cls := "java/lang/Math", name := "max", desc := "(II)I" } : Jvm.MethodName) jdk_29_method_65_code (2 : Nat) (Option.some Jvm.ClassFile.FieldType.int), Jvm.Cond.code ({ cls := "java/util/Arrays", name := "copyOf", desc := "([BI)[B" } : Jvm.MethodName) jdk_65_method_121_code (3 : Nat) (Option.some (Jvm.ClassFile.FieldType.array Jvm.ClassFile.FieldType.byte))]
set_option maxRecDepth 65536 in
theorem codes_eq : words1.filter isCode = codes1 := rfl
theorem w_codes : ∀ c ∈ words1.filter isCode, c.before args0 about1 = true := by
  rw [codes_eq]
  intro c hc
  simp only [codes1, List.mem_cons, List.not_mem_nil, or_false] at hc
  rcases hc with rfl | rfl | rfl | rfl | rfl | rfl | rfl | rfl | rfl | rfl | rfl | rfl | rfl | rfl | rfl | rfl | rfl | rfl | rfl | rfl | rfl | rfl | rfl | rfl | rfl | rfl | rfl | rfl | rfl | rfl | rfl | rfl | rfl | rfl | rfl | rfl | rfl | rfl | rfl | rfl
  · exact w_c0
  · exact w_c1
  · exact w_c2
  · exact w_c3
  · exact w_c4
  · exact w_c5
  · exact w_c6
  · exact w_c7
  · exact w_c8
  · exact w_c9
  · exact w_c10
  · exact w_c11
  · exact w_c12
  · exact w_c13
  · exact w_c14
  · exact w_c15
  · exact w_c16
  · exact w_c17
  · exact w_c18
  · exact w_c19
  · exact w_c20
  · exact w_c21
  · exact w_c22
  · exact w_c23
  · exact w_c24
  · exact w_c25
  · exact w_c26
  · exact w_c27
  · exact w_c28
  · exact w_c29
  · exact w_c30
  · exact w_c31
  · exact w_c32
  · exact w_c33
  · exact w_c34
  · exact w_c35
  · exact w_c36
  · exact w_c37
  · exact w_c38
  · exact w_c39
set_option maxRecDepth 65536 in
theorem w_t1 : (words1.take 24).all (fun c => isCode c || c.before args0 about1) = true := by decide +kernel
set_option maxRecDepth 65536 in
theorem w_t2 : ((words1.drop 24).take 24).all (fun c => isCode c || c.before args0 about1) = true := by decide +kernel
set_option maxRecDepth 65536 in
theorem w_t3 : (((words1.drop 24).drop 24).take 24).all (fun c => isCode c || c.before args0 about1) = true := by decide +kernel
set_option maxRecDepth 65536 in
theorem w_t4 : ((((words1.drop 24).drop 24).drop 24).take 24).all (fun c => isCode c || c.before args0 about1) = true := by decide +kernel
set_option maxRecDepth 65536 in
theorem w_t5 : (((((words1.drop 24).drop 24).drop 24).drop 24).take 24).all (fun c => isCode c || c.before args0 about1) = true := by decide +kernel
set_option maxRecDepth 65536 in
theorem w_t6 : ((((((words1.drop 24).drop 24).drop 24).drop 24).drop 24).take 24).all (fun c => isCode c || c.before args0 about1) = true := by decide +kernel
set_option maxRecDepth 65536 in
theorem w_t7 : (((((((words1.drop 24).drop 24).drop 24).drop 24).drop 24).drop 24).take 24).all (fun c => isCode c || c.before args0 about1) = true := by decide +kernel
set_option maxRecDepth 65536 in
theorem w_t8 : ((((((((words1.drop 24).drop 24).drop 24).drop 24).drop 24).drop 24).drop 24).take 24).all (fun c => isCode c || c.before args0 about1) = true := by decide +kernel
set_option maxRecDepth 65536 in
theorem w_t9 : (((((((((words1.drop 24).drop 24).drop 24).drop 24).drop 24).drop 24).drop 24).drop 24).take 24).all (fun c => isCode c || c.before args0 about1) = true := by decide +kernel
set_option maxRecDepth 65536 in
theorem w_t10 : (((((((((words1.drop 24).drop 24).drop 24).drop 24).drop 24).drop 24).drop 24).drop 24).drop 24).all (fun c => isCode c || c.before args0 about1) = true := by decide +kernel
theorem w_tables : (allAtoms (Jvm.Cond.code x code maxLocals ret :: tables_1)).before args0 about1 = true := by
  rw [allAtoms_all]
  show words1.all (fun c => c.before args0 about1) = true
  refine all_split ?_ w_codes
  rw [← List.take_append_drop 24 words1, List.all_append, w_t1, ← List.take_append_drop 24 (words1.drop 24), List.all_append, w_t2, ← List.take_append_drop 24 ((words1.drop 24).drop 24), List.all_append, w_t3, ← List.take_append_drop 24 (((words1.drop 24).drop 24).drop 24), List.all_append, w_t4, ← List.take_append_drop 24 ((((words1.drop 24).drop 24).drop 24).drop 24), List.all_append, w_t5, ← List.take_append_drop 24 (((((words1.drop 24).drop 24).drop 24).drop 24).drop 24), List.all_append, w_t6, ← List.take_append_drop 24 ((((((words1.drop 24).drop 24).drop 24).drop 24).drop 24).drop 24), List.all_append, w_t7, ← List.take_append_drop 24 (((((((words1.drop 24).drop 24).drop 24).drop 24).drop 24).drop 24).drop 24), List.all_append, w_t8, ← List.take_append_drop 24 ((((((((words1.drop 24).drop 24).drop 24).drop 24).drop 24).drop 24).drop 24).drop 24), List.all_append, w_t9, w_t10]
  rfl
set_option maxRecDepth 65536 in
theorem w_rest : rest_1_c.before args0 about1 = true := by decide +kernel
set_option maxRecDepth 65536 in
theorem w_case : (Jvm.Cond.and given_1 narrow_1).before args0 about1 = true := by decide +kernel
set_option maxRecDepth 65536 in
theorem w_consts : constsHeld consts_1 about1 := Jvm.Lit.constsHeldB_iff.mp (by decide +kernel)
theorem w_applies : (headSpec (Jvm.Cond.code x code maxLocals ret :: tables_1) room_1).applies x e0.platform about1 = true :=
  (Spec.applies_iff w_frames).mpr ⟨w_running, w_runnable, w_alone, w_named, w_hears, w_ripe, w_room, w_tables⟩
theorem atStart : AtStart classFile x code maxLocals ret World_1 tables_1 room_1 Calls_1 rest_1 Pre_1 launch0 p0 e0 about1 theMethod args0 below0 :=
  ⟨lists_1, trivial, launch0.admits_env _ _ _, launch0.least_env, fairChoices_fair.cas, fairChoices_fair.clock, w_frames, w_args, w_heap, w_applies, ⟨w_consts, trivial⟩, w_rest, w_case⟩
end start1
theorem witness_1 : WitnessClaimed_1 := ⟨start1.p0, start1.e0, start1.about1, start1.theMethod, start1.args0, start1.below0, start1.atStart⟩
end Jvm.Pilot.@@N@@
