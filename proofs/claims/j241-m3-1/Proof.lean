import JvmDerived
import JvmDerived.Pilot.@@N@@Statement
import JvmDerived.Pilot.@@N@@Code
set_option linter.unusedVariables false
set_option linter.unusedSimpArgs false
@@BLOCK:NumsL.lean.txt@@
/- laws to paste: Road.backV, Road.chN, Road.eqW, Road.codOf (cut by pick.py; bodies as the Statement names them) -/
namespace Jvm.Pilot.@@N@@
namespace StrChars
open Jvm Sem ClassFile Op Lib Jvm.Stand Jvm.Free.XT Jvm.Free.ALB Jvm.Free.JM Jvm.Free
open Jvm.Lib.Cold (StaticIs)
/-- a char array whose places are chars -/
def Ch (a : Addr) (A : Cell) (U : State) : Prop := Arr .char a A U ∧ Typed .char A
theorem Ch.mv {a : Addr} {A : Cell} {U U' : State} (h : Ch a A U) (hal : U.vm.Alike U'.vm) (hh : U'.heap = U.heap) : Ch a A U' := ⟨h.1.mv hal hh, h.2⟩
theorem Ch.keep {a : Addr} {A : Cell} {U U' : State} (h : Ch a A U) (hal : U.vm.Alike U'.vm) (hk : U'.heap[a]? = some A) : Ch a A U' := ⟨h.1.keep hal hk, h.2⟩
/-- what place i of a char[]'s cell holds -/
def cv (A : Cell) (i : Nat) : Int32 := match A.slots[i]? with | some (.int x) => x | _ => 0
theorem Ch.get {a : Addr} {A : Cell} {U : State} (h : Ch a A U) {i : Nat} (hi : i < A.slots.size) : A.slots[i]? = some (.int (cv A i)) := by
  have e := Array.getElem?_eq_getElem hi
  have f := h.2 i _ e
  unfold cv; rw [e]
  generalize A.slots[i] = v at f
  cases v <;> simp [fits] at f ⊢
/-- the byte that i2b leaves of a char -/
def lo8 (x : Int32) : Int32 := x.toInt8.toInt32
theorem fits_lo8 (y : Int32) : fits .byte (.int (lo8 y)) = true := by
  have h1 := y.toInt8.le_toInt
  have h2 := y.toInt8.toInt_lt
  simp only [lo8, fits, Bool.and_eq_true, decide_eq_true_eq, Int32.le_iff_toInt_le, Int8.toInt_toInt32, show (-128 : Int32).toInt = -128 from by decide, show (127 : Int32).toInt = 127 from by decide]
  omega
/-- A' is A but that each place j of lo .. hi - 1 holds f j -/
def Laid (A A' : Cell) (lo hi : Nat) (f : Nat → Value) : Prop := A'.cls = A.cls ∧ A'.vm = A.vm ∧ A'.slots.size = A.slots.size ∧ ∀ i, A'.slots[i]? = if lo ≤ i ∧ i < hi then some (f i) else A.slots[i]?
theorem Laid.zero (A : Cell) (lo : Nat) (f : Nat → Value) : Laid A A lo (lo + 0) f := ⟨rfl, rfl, rfl, fun i => by rw [if_neg (by omega)]⟩
theorem Laid.step {A Ak : Cell} {lo k : Nat} {f : Nat → Value} {v : Value} (h : Laid A Ak lo k f) (hlo : lo ≤ k) (hk : k < Ak.slots.size) (hv : v = f k) : Laid A (Ak.setSlot k v) lo (k + 1) f := by
  refine ⟨h.1, h.2.1, by simpa [Cell.setSlot] using h.2.2.1, fun i => ?_⟩
  by_cases e : k = i
  · subst e; rw [Cell.slots_setSlot_self v hk, if_pos (by omega), hv]
  · rw [Cell.slots_setSlot_ne v e, h.2.2.2 i]
    by_cases q : lo ≤ i ∧ i < k
    · rw [if_pos q, if_pos (by omega)]
    · rw [if_neg q, if_neg (by omega)]
def U16 : String := "java/lang/StringUTF16"
namespace Cmp5
def yN : MethodName := ⟨"java/lang/StringUTF16", "compress", "([CI[BII)I"⟩
abbrev yB : ByteArray := jdk_52_method_21_code
theorem d0 : decode yB 0 = .ok (.iconst 0, 1) := by decide +kernel
theorem d1 : decode yB 1 = .ok (.istore 5, 2) := by decide +kernel
theorem d3 : decode yB 3 = .ok (.iload 5, 2) := by decide +kernel
theorem d5 : decode yB 5 = .ok (.iload 4, 2) := by decide +kernel
theorem d7 : decode yB 7 = .ok (.if_icmp (.ge) 37, 3) := by decide +kernel
theorem d10 : decode yB 10 = .ok (.aload_n 0, 1) := by decide +kernel
theorem d11 : decode yB 11 = .ok (.iload_n 1, 1) := by decide +kernel
theorem d12 : decode yB 12 = .ok (.caload, 1) := by decide +kernel
theorem d13 : decode yB 13 = .ok (.istore 6, 2) := by decide +kernel
theorem d15 : decode yB 15 = .ok (.iload 6, 2) := by decide +kernel
theorem d17 : decode yB 17 = .ok (.sipush 255, 3) := by decide +kernel
theorem d20 : decode yB 20 = .ok (.if_icmp (.le) 6, 3) := by decide +kernel
theorem d26 : decode yB 26 = .ok (.aload_n 2, 1) := by decide +kernel
theorem d27 : decode yB 27 = .ok (.iload_n 3, 1) := by decide +kernel
theorem d28 : decode yB 28 = .ok (.iload 6, 2) := by decide +kernel
theorem d30 : decode yB 30 = .ok (.i2b, 1) := by decide +kernel
theorem d31 : decode yB 31 = .ok (.bastore, 1) := by decide +kernel
theorem d32 : decode yB 32 = .ok (.iinc 1 1, 3) := by decide +kernel
theorem d35 : decode yB 35 = .ok (.iinc 3 1, 3) := by decide +kernel
theorem d38 : decode yB 38 = .ok (.iinc 5 1, 3) := by decide +kernel
theorem d41 : decode yB 41 = .ok (.goto (-38), 3) := by decide +kernel
theorem d44 : decode yB 44 = .ok (.iload 4, 2) := by decide +kernel
theorem d46 : decode yB 46 = .ok (.ireturn, 1) := by decide +kernel
def site : List Cond := []
def tab : Cond := tabOf yN yB 7 (some .int) site
def P (b : Addr) (A : Cell) (d : Addr) (B : Cell) (o q len : Nat) (args : Array Value) (s : State) : Prop := args = #[.ref b, .int (Int32.ofNat o), .ref d, .int (Int32.ofNat q), .int (Int32.ofNat len)] ∧ Ch b A s ∧ Arr .byte d B s ∧ b ≠ d ∧ o + len ≤ A.slots.size ∧ q + len ≤ B.slots.size ∧ ∀ i, i < len → ¬ 255 < cv A (o + i)
def E (b : Addr) (A : Cell) (d : Addr) (B : Cell) (o q len : Nat) (r : Option Value) (s u : State) : Prop := r = some (.int (Int32.ofNat len)) ∧ ∃ B', Put d B' s u ∧ Laid B B' q (q + len) (fun j => Value.int (lo8 (cv A (o + (j - q)))))
/-- no char of the range above 255: len; the places written hold each char's low byte -/
theorem law (l : Launch) (b : Addr) (A : Cell) (d : Addr) (B : Cell) (o q len : Nat) : Law l yN 5 5 0 0 yB 7 (some .int) site (P b A d B o q len) (E b A d B o q len) (copyLocs d q len) 0 0 := by
  refine Law.of_walk (plainFor_of_name (by decide +kernel)) (by decide +kernel) (by decide +kernel) (by decide) (fun _ _ h => by rw [h.1]; rfl) (fun _ U U' hal hh h => ⟨h.1, h.2.1.mv hal hh, h.2.2.1.mv hal hh, h.2.2.2⟩) (fun r U U' V V' h1 hal h2 h => ⟨h.1, h.2.elim fun B' q => ⟨B', q.1.mv h1 h2, q.2⟩⟩) ?_
  intro p e s m args below meth c s₁ X0 hexec hbytes hml hret hlk hnm hown hh0 W hP
  obtain ⟨rfl, hA, hB, hne, l1, l2, hp⟩ := hP
  have c1 : Steps p.tables e below (s₁.setTop (entryFrame m #[.ref b, .int (Int32.ofNat o), .ref d, .int (Int32.ofNat q), .int (Int32.ofNat len)] 7)) (s₁.setTop (mkF m 0 #[.val (.ref b), .val (.int (Int32.ofNat o)), .val (.ref d), .val (.int (Int32.ofNat q)), .val (.int (Int32.ofNat len)), .unset, .unset] [])) := entry rfl
  have hA0 := hA.1.mv X0.warmed.alike hh0
  have hB0 := hB.mv X0.warmed.alike hh0
  have a31 := hA.1.2.2.2
  have c2 : Steps p.tables e below (s₁.setTop (entryFrame m #[.ref b, .int (Int32.ofNat o), .ref d, .int (Int32.ofNat q), .int (Int32.ofNat len)] 7)) (s₁.setTop (mkF m 3 #[.val (.ref b), .val (.int (Int32.ofNat o)), .val (.ref d), .val (.int (Int32.ofNat q)), .val (.int (Int32.ofNat len)), .val (.int 0), .unset] [])) := c1.trans (by
    refine iconstV X0.here hexec rfl 0 (hb hbytes d0) (by decide) ?_
    refine XS.istore X0.here hexec rfl (hb hbytes d1) rfl rfl ?_
    exact Steps.refl _)
  have loop : ∀ (r i : Nat), i + r = len → ∀ (z : Slot), (z = .unset ∨ ∃ w, z = .val w ∧ w.category = 1) → ∀ (Tl : State) (Bk : Cell), Stand p l e { frames := 0, locals := 0, cells := 0, slots := 0 } s m #[.ref b, .int (Int32.ofNat o), .ref d, .int (Int32.ofNat q), .int (Int32.ofNat len)] below meth c Tl ([] ++ copyLocs d q i) 0 0 → Put d Bk s₁ Tl → Laid B Bk q (q + i) (fun j => Value.int (lo8 (cv A (o + (j - q))))) →
      Steps p.tables e below (s₁.setTop (entryFrame m #[.ref b, .int (Int32.ofNat o), .ref d, .int (Int32.ofNat q), .int (Int32.ofNat len)] 7)) (Tl.setTop (mkF m 3 #[.val (.ref b), .val (.int (Int32.ofNat (o + i))), .val (.ref d), .val (.int (Int32.ofNat (q + i))), .val (.int (Int32.ofNat len)), .val (.int (Int32.ofNat i)), z] [])) → ∃ (T' : State) (B' : Cell) (z' : Slot), Stand p l e { frames := 0, locals := 0, cells := 0, slots := 0 } s m #[.ref b, .int (Int32.ofNat o), .ref d, .int (Int32.ofNat q), .int (Int32.ofNat len)] below meth c T' ([] ++ copyLocs d q len) 0 0 ∧ Put d B' s₁ T' ∧ Laid B B' q (q + len) (fun j => Value.int (lo8 (cv A (o + (j - q))))) ∧
      Steps p.tables e below (s₁.setTop (entryFrame m #[.ref b, .int (Int32.ofNat o), .ref d, .int (Int32.ofNat q), .int (Int32.ofNat len)] 7)) (T'.setTop (mkF m 3 #[.val (.ref b), .val (.int (Int32.ofNat (o + len))), .val (.ref d), .val (.int (Int32.ofNat (q + len))), .val (.int (Int32.ofNat len)), .val (.int (Int32.ofNat len)), z'] [])) := by
    intro r
    induction r with
    | zero =>
      intro i hi z hz Tl Bk Xl pl fl cl
      have hil : i = len := by omega
      rw [hil] at Xl fl cl
      exact ⟨Tl, Bk, z, Xl, pl, fl, cl⟩
    | succ r ih =>
      intro i hi z hz Tl Bk Xl pl fl cl
      have all := X0.warmed.alike.symm.trans Xl.warmed.alike
      have hAl := hA0.keep all (pl.other hne hA0.1)
      have hBk := hB0.like all pl.1 fl.1 fl.2.1 fl.2.2.1
      have hlt : q + i < Bk.slots.size := by rw [fl.2.2.1]; omega
      have c3 : Steps p.tables e below (s₁.setTop (entryFrame m #[.ref b, .int (Int32.ofNat o), .ref d, .int (Int32.ofNat q), .int (Int32.ofNat len)] 7)) (Tl.setTop (mkF m 12 #[.val (.ref b), .val (.int (Int32.ofNat (o + i))), .val (.ref d), .val (.int (Int32.ofNat (q + i))), .val (.int (Int32.ofNat len)), .val (.int (Int32.ofNat i)), z] [.int (Int32.ofNat (o + i)), .ref b])) := cl.trans (by
        refine XS.iload Xl.here hexec rfl (hb hbytes d3) rfl ?_
        refine XS.iload Xl.here hexec rfl (hb hbytes d5) rfl ?_
        refine XS.icmpNo Xl.here hexec rfl (hb hbytes d7) rfl (ii_ge_f (lt32 (by omega) (by omega))) ?_
        refine XS.aloadN Xl.here hexec rfl (hb hbytes d10) rfl rfl ?_
        refine XS.iloadN Xl.here hexec rfl (hb hbytes d11) rfl ?_
        exact Steps.refl _)
      have c4 : Steps p.tables e below (s₁.setTop (entryFrame m #[.ref b, .int (Int32.ofNat o), .ref d, .int (Int32.ofNat q), .int (Int32.ofNat len)] 7)) (Tl.setTop (mkF m 13 #[.val (.ref b), .val (.int (Int32.ofNat (o + i))), .val (.ref d), .val (.int (Int32.ofNat (q + i))), .val (.int (Int32.ofNat len)), .val (.int (Int32.ofNat i)), z] [.int (cv A (o + i))])) := c3.trans (by
        refine Xl.aget hexec hAl rfl (hA.get (i := o + i) (by omega)) rfl rfl (hb hbytes d12) ?_
        exact Steps.refl _)
      have c5 : Steps p.tables e below (s₁.setTop (entryFrame m #[.ref b, .int (Int32.ofNat o), .ref d, .int (Int32.ofNat q), .int (Int32.ofNat len)] 7)) (Tl.setTop (mkF m 15 #[.val (.ref b), .val (.int (Int32.ofNat (o + i))), .val (.ref d), .val (.int (Int32.ofNat (q + i))), .val (.int (Int32.ofNat len)), .val (.int (Int32.ofNat i)), .val (.int (cv A (o + i)))] [])) := c4.trans (by
        refine XS.istoreS Xl.here hexec rfl (hb hbytes d13) rfl rfl hz ?_
        exact Steps.refl _)
      have c6 : Steps p.tables e below (s₁.setTop (entryFrame m #[.ref b, .int (Int32.ofNat o), .ref d, .int (Int32.ofNat q), .int (Int32.ofNat len)] 7)) (Tl.setTop (mkF m 31 #[.val (.ref b), .val (.int (Int32.ofNat (o + i))), .val (.ref d), .val (.int (Int32.ofNat (q + i))), .val (.int (Int32.ofNat len)), .val (.int (Int32.ofNat i)), .val (.int (cv A (o + i)))] [.int (lo8 (cv A (o + i))), .int (Int32.ofNat (q + i)), .ref d])) := c5.trans (by
        refine XS.iload Xl.here hexec rfl (hb hbytes d15) rfl ?_
        refine sipushV Xl.here hexec rfl 255 (hb hbytes d17) (by decide) ?_
        refine XS.icmpYes Xl.here hexec rfl (pc0 := 20) rfl (hb hbytes d20) rfl (ii_le_t (hp i (by omega))) (by decide) rfl ?_
        refine XS.aloadN Xl.here hexec rfl (hb hbytes d26) rfl rfl ?_
        refine XS.iloadN Xl.here hexec rfl (hb hbytes d27) rfl ?_
        refine XS.iload Xl.here hexec rfl (hb hbytes d28) rfl ?_
        refine i2b Xl.here hexec rfl (hb hbytes d30) rfl ?_
        exact Steps.refl _)
      obtain ⟨T7, X7, p7, st7⟩ := Xl.aput hexec hBk rfl hlt rfl (fits_lo8 (cv A (o + i))) (g := (mkF m 31 #[.val (.ref b), .val (.int (Int32.ofNat (o + i))), .val (.ref d), .val (.int (Int32.ofNat (q + i))), .val (.int (Int32.ofNat len)), .val (.int (Int32.ofNat i)), .val (.int (cv A (o + i)))] [.int (lo8 (cv A (o + i))), .int (Int32.ofNat (q + i)), .ref d])) rfl (rest := []) rfl (hb hbytes d31)
      have c8 : Steps p.tables e below (s₁.setTop (entryFrame m #[.ref b, .int (Int32.ofNat o), .ref d, .int (Int32.ofNat q), .int (Int32.ofNat len)] 7)) (T7.setTop (mkF m 32 #[.val (.ref b), .val (.int (Int32.ofNat (o + i))), .val (.ref d), .val (.int (Int32.ofNat (q + i))), .val (.int (Int32.ofNat len)), .val (.int (Int32.ofNat i)), .val (.int (cv A (o + i)))] [])) := c6.trans (st7 _ (Steps.refl _))
      have c9 : Steps p.tables e below (s₁.setTop (entryFrame m #[.ref b, .int (Int32.ofNat o), .ref d, .int (Int32.ofNat q), .int (Int32.ofNat len)] 7)) (T7.setTop (mkF m 3 #[.val (.ref b), .val (.int (Int32.ofNat (o + i) + 1)), .val (.ref d), .val (.int (Int32.ofNat (q + i) + 1)), .val (.int (Int32.ofNat len)), .val (.int (Int32.ofNat i + 1)), .val (.int (cv A (o + i)))] [])) := c8.trans (by
        refine iincV X7.here hexec rfl 1 (hb hbytes d32) (by decide) rfl rfl ?_
        refine iincV X7.here hexec rfl 1 (hb hbytes d35) (by decide) rfl rfl ?_
        refine iincV X7.here hexec rfl 1 (hb hbytes d38) (by decide) rfl rfl ?_
        refine XS.goto X7.here hexec rfl (pc0 := 41) rfl (hb hbytes d41) (by decide) rfl ?_
        exact Steps.refl _)
      have c10 : Steps p.tables e below (s₁.setTop (entryFrame m #[.ref b, .int (Int32.ofNat o), .ref d, .int (Int32.ofNat q), .int (Int32.ofNat len)] 7)) (T7.setTop (mkF m 3 #[.val (.ref b), .val (.int (Int32.ofNat (o + (i + 1)))), .val (.ref d), .val (.int (Int32.ofNat (q + (i + 1)))), .val (.int (Int32.ofNat len)), .val (.int (Int32.ofNat (i + 1))), .val (.int (cv A (o + i)))] [])) := by
        have := c9
        rw [succ32, succ32, succ32] at this
        exact this
      exact ih (i + 1) (by omega) _ (Or.inr ⟨_, rfl, rfl⟩) T7 _ (by rw [copyLocs_step, ← List.append_assoc]; exact X7) (pl.trans p7) (fl.step (by omega) hlt (by simp)) c10
  obtain ⟨T9, B9, z9, X9, p9, f9, g9⟩ := loop len 0 (by omega) .unset (Or.inl rfl) s₁ B (by simpa [copyLocs] using X0) ⟨hB0.1, fun _ _ => rfl, rfl⟩ (Laid.zero _ _ _) c2
  have c11 : Steps p.tables e below (s₁.setTop (entryFrame m #[.ref b, .int (Int32.ofNat o), .ref d, .int (Int32.ofNat q), .int (Int32.ofNat len)] 7)) (T9.setTop (mkF m 46 #[.val (.ref b), .val (.int (Int32.ofNat (o + len))), .val (.ref d), .val (.int (Int32.ofNat (q + len))), .val (.int (Int32.ofNat len)), .val (.int (Int32.ofNat len)), z9] [.int (Int32.ofNat len)])) := g9.trans (by
    refine XS.iload X9.here hexec rfl (hb hbytes d3) rfl ?_
    refine XS.iload X9.here hexec rfl (hb hbytes d5) rfl ?_
    refine XS.icmpYes X9.here hexec rfl (pc0 := 7) rfl (hb hbytes d7) rfl (ii_ge_t (nlt32 (by omega) (Nat.le_refl _))) (by decide) rfl ?_
    refine XS.iload X9.here hexec rfl (hb hbytes d44) rfl ?_
    exact Steps.refl _)
  exact ⟨T9, some (.int (Int32.ofNat len)), _, _, _, X9, by simp, rfl, rfl, (fun h => by cases h), ⟨rfl, B9, p9.from hh0, f9⟩, fun fs hl => c11.trans (X9.ireturnOut hexec hret rfl (Or.inl rfl) (hb hbytes d46) hl)⟩
end Cmp5
namespace Cmp3
def yN : MethodName := ⟨"java/lang/StringUTF16", "compress", "([CII)[B"⟩
abbrev yB : ByteArray := jdk_52_method_16_code
theorem d0 : decode yB 0 = .ok (.iload_n 2, 1) := by decide +kernel
theorem d1 : decode yB 1 = .ok (.newarray .byte, 2) := by decide +kernel
theorem d3 : decode yB 3 = .ok (.astore_n 3, 1) := by decide +kernel
theorem d4 : decode yB 4 = .ok (.aload_n 0, 1) := by decide +kernel
theorem d5 : decode yB 5 = .ok (.iload_n 1, 1) := by decide +kernel
theorem d6 : decode yB 6 = .ok (.aload_n 3, 1) := by decide +kernel
theorem d7 : decode yB 7 = .ok (.iconst 0, 1) := by decide +kernel
theorem d8 : decode yB 8 = .ok (.iload_n 2, 1) := by decide +kernel
theorem d9 : decode yB 9 = .ok (.invokestatic 115, 3) := by decide +kernel
theorem d12 : decode yB 12 = .ok (.istore 4, 2) := by decide +kernel
theorem d14 : decode yB 14 = .ok (.iload 4, 2) := by decide +kernel
theorem d16 : decode yB 16 = .ok (.iload_n 2, 1) := by decide +kernel
theorem d17 : decode yB 17 = .ok (.if_icmp (.eq) 40, 3) := by decide +kernel
theorem d57 : decode yB 57 = .ok (.aload_n 3, 1) := by decide +kernel
theorem d58 : decode yB 58 = .ok (.areturn, 1) := by decide +kernel
def site : List Cond := [.arrayClass .byte, Cmp5.tab] ++ staticW U16 115 Cmp5.yN
def tab : Cond := tabOf yN yB 6 (some (.array .byte)) site
def P (b : Addr) (A : Cell) (o len : Nat) (args : Array Value) (s : State) : Prop := args = #[.ref b, .int (Int32.ofNat o), .int (Int32.ofNat len)] ∧ Ch b A s ∧ o + len ≤ A.slots.size ∧ len ≤ 536870912 ∧ ∀ i, i < len → ¬ 255 < cv A (o + i)
def E (b : Addr) (A : Cell) (o len : Nat) (r : Option Value) (s u : State) : Prop := NewArr .byte "[B" len (fun j => .int (lo8 (cv A (o + j)))) r s u ∧ u.heap.size = s.heap.size + 1
/-- no char of the range above 255: a new byte[] of their low bytes -/
theorem law (l : Launch) (b : Addr) (A : Cell) (o len : Nat) : Law l yN 3 3 1 18 yB 6 (some (.array .byte)) site (P b A o len) (E b A o len) [] 1 len := by
  refine Law.of_walk (plainFor_of_name (by decide +kernel)) (by decide +kernel) (by decide +kernel) (by decide) (fun _ _ h => by rw [h.1]; rfl) (fun _ U U' hal hh h => ⟨h.1, h.2.1.mv hal hh, h.2.2⟩) (fun r U U' V V' h1 hal h2 h => ⟨NewArr.mv r U U' V V' h1 hal h2 h.1, by rw [h1, h2]; exact h.2⟩) ?_
  intro p e s m args below meth c s₁ X0 hexec hbytes hml hret hlk hnm hown hh0 W hP
  obtain ⟨rfl, hA, l1, l2, hp⟩ := hP
  have a31 := hA.1.2.2.2
  have c1 : Steps p.tables e below (s₁.setTop (entryFrame m #[.ref b, .int (Int32.ofNat o), .int (Int32.ofNat len)] 6)) (s₁.setTop (mkF m 0 #[.val (.ref b), .val (.int (Int32.ofNat o)), .val (.int (Int32.ofNat len)), .unset, .unset, .unset] [])) := entry rfl
  have c2 : Steps p.tables e below (s₁.setTop (entryFrame m #[.ref b, .int (Int32.ofNat o), .int (Int32.ofNat len)] 6)) (s₁.setTop (mkF m 1 #[.val (.ref b), .val (.int (Int32.ofNat o)), .val (.int (Int32.ofNat len)), .unset, .unset, .unset] [.int (Int32.ofNat len)])) := c1.trans (by
    refine XS.iloadN X0.here hexec rfl (hb hbytes d0) rfl ?_
    exact Steps.refl _)
  obtain ⟨T3, B3, X3, ba3, bs3, bv3, bh3, bf3, st3⟩ := X0.anew hexec (atype := .byte) (wk W (.arrayClass .byte)) rfl (by show len * 1 ≤ _; omega) (by omega) (g := (mkF m 1 #[.val (.ref b), .val (.int (Int32.ofNat o)), .val (.int (Int32.ofNat len)), .unset, .unset, .unset] [.int (Int32.ofNat len)])) rfl (hb hbytes d1) (rest := []) rfl (Nat.le_refl _) (by show 0 + len ≤ len; omega)
  rw [hh0] at ba3 st3
  have kp3 : XT.Kept s T3 := (XT.Kept.of_eq hh0).push bh3
  have hA3 := hA.keep X3.warmed.alike (kp3 _ _ hA.1.1)
  have hne : b ≠ s.heap.size := hA.1.ne
  have c4 : Steps p.tables e below (s₁.setTop (entryFrame m #[.ref b, .int (Int32.ofNat o), .int (Int32.ofNat len)] 6)) (T3.setTop (mkF m 3 #[.val (.ref b), .val (.int (Int32.ofNat o)), .val (.int (Int32.ofNat len)), .unset, .unset, .unset] [.ref s.heap.size])) := c2.trans (st3 _ (Steps.refl _))
  have c5 : Steps p.tables e below (s₁.setTop (entryFrame m #[.ref b, .int (Int32.ofNat o), .int (Int32.ofNat len)] 6)) (T3.setTop (mkF m 9 #[.val (.ref b), .val (.int (Int32.ofNat o)), .val (.int (Int32.ofNat len)), .val (.ref s.heap.size), .unset, .unset] [.int (Int32.ofNat len), .int 0, .ref s.heap.size, .int (Int32.ofNat o), .ref b])) := c4.trans (by
    refine XS.astoreN X3.here hexec rfl (hb hbytes d3) rfl rfl rfl ?_
    refine XS.aloadN X3.here hexec rfl (hb hbytes d4) rfl rfl ?_
    refine XS.iloadN X3.here hexec rfl (hb hbytes d5) rfl ?_
    refine XS.aloadN X3.here hexec rfl (hb hbytes d6) rfl rfl ?_
    refine iconstV X3.here hexec rfl 0 (hb hbytes d7) (by decide) ?_
    refine XS.iloadN X3.here hexec rfl (hb hbytes d8) rfl ?_
    exact Steps.refl _)
  obtain ⟨v6, T6, X6, E6, g6⟩ := X3.callS hexec (Cmp5.law l b A s.heap.size B3 o 0 len) hown (wks W (staticW U16 115 Cmp5.yN)) (wk W Cmp5.tab) (W := 0) (Nat.le_of_ble_eq_true rfl) (Nat.le_of_ble_eq_true rfl) (Nat.le_refl _) (by show 0 + len + 0 ≤ len; omega) (g := (mkF m 9 #[.val (.ref b), .val (.int (Int32.ofNat o)), .val (.int (Int32.ofNat len)), .val (.ref s.heap.size), .unset, .unset] [.int (Int32.ofNat len), .int (Int32.ofNat 0), .ref s.heap.size, .int (Int32.ofNat o), .ref b])) rfl (by rw [hml]; rfl) c5 (argsL := [.ref b, .int (Int32.ofNat o), .ref s.heap.size, .int (Int32.ofNat 0), .int (Int32.ofNat len)]) (rest := []) rfl rfl (by show 2 * 0 + 0 ≤ _; decide) (hb hbytes d9) (⟨rfl, hA3, ba3, hne, l1, by rw [bs3]; simp, hp⟩)
  obtain ⟨rfl, B6, p6, f6⟩ := E6
  have c7 : Steps p.tables e below (s₁.setTop (entryFrame m #[.ref b, .int (Int32.ofNat o), .int (Int32.ofNat len)] 6)) (T6.setTop (mkF m 12 #[.val (.ref b), .val (.int (Int32.ofNat o)), .val (.int (Int32.ofNat len)), .val (.ref s.heap.size), .unset, .unset] [.int (Int32.ofNat len)])) := g6
  have c8 : Steps p.tables e below (s₁.setTop (entryFrame m #[.ref b, .int (Int32.ofNat o), .int (Int32.ofNat len)] 6)) (T6.setTop (mkF m 58 #[.val (.ref b), .val (.int (Int32.ofNat o)), .val (.int (Int32.ofNat len)), .val (.ref s.heap.size), .val (.int (Int32.ofNat len)), .unset] [.ref s.heap.size])) := c7.trans (by
    refine XS.istore X6.here hexec rfl (hb hbytes d12) rfl rfl ?_
    refine XS.iload X6.here hexec rfl (hb hbytes d14) rfl ?_
    refine XS.iloadN X6.here hexec rfl (hb hbytes d16) rfl ?_
    refine XS.icmpYes X6.here hexec rfl (pc0 := 17) rfl (hb hbytes d17) rfl (ii_eq_t rfl) (by decide) rfl ?_
    refine XS.aloadN X6.here hexec rfl (hb hbytes d57) rfl rfl ?_
    exact Steps.refl _)
  have X8 := X6.wide (L' := []) (cells' := 1) (slots' := len) (fun x hx hlt => by
    simp only [List.nil_append, copyLocs, List.mem_map, List.mem_range] at hx
    obtain ⟨i, -, rfl⟩ := hx
    exact absurd hlt (Nat.lt_irrefl _)) (Nat.le_refl _) (by omega)
  exact ⟨T6, some (.ref s.heap.size), _, _, _, X8, rfl, rfl, rfl, (fun h => by cases h), ⟨⟨rfl, B6, ba3.like (X3.warmed.alike.symm.trans X6.warmed.alike) p6.1 f6.1 f6.2.1 f6.2.2.1, f6.2.1.trans bv3, by rw [X6.warmed.alike.findClass, f6.1]; exact bf3, by rw [f6.2.2.1, bs3]; simp, fun j hj => by rw [f6.2.2.2 j, if_pos (by omega)]; rfl, kp3.put p6 (Nat.le_refl _)⟩, by rw [p6.2.2, bh3, hh0]; simp⟩, fun fs hl => c8.trans (X8.areturnOut hexec rfl hret rfl (hb hbytes d58) hl)⟩
end Cmp3
namespace CodL
def yN : MethodName := ⟨"java/lang/StringUTF16", "coderFromArrayLen", "([BI)B"⟩
abbrev yB : ByteArray := jdk_52_method_15_code
theorem d0 : decode yB 0 = .ok (.iload_n 1, 1) := by decide +kernel
theorem d1 : decode yB 1 = .ok (.aload_n 0, 1) := by decide +kernel
theorem d2 : decode yB 2 = .ok (.arraylength, 1) := by decide +kernel
theorem d3 : decode yB 3 = .ok (.isub, 1) := by decide +kernel
theorem d4 : decode yB 4 = .ok (.bipush 31, 2) := by decide +kernel
theorem d6 : decode yB 6 = .ok (.iushr, 1) := by decide +kernel
theorem d7 : decode yB 7 = .ok (.i2b, 1) := by decide +kernel
theorem d8 : decode yB 8 = .ok (.ireturn, 1) := by decide +kernel
def site : List Cond := []
def tab : Cond := tabOf yN yB 2 (some .byte) site
def P (d : Addr) (B : Cell) (args : Array Value) (s : State) : Prop := args = #[.ref d, .int (Int32.ofNat B.slots.size)] ∧ Arr .byte d B s
def E (r : Option Value) (s u : State) : Prop := XT.PureE (some (.int 0)) r s u
/-- an array as long as the number of chars: LATIN1 -/
theorem law (l : Launch) (d : Addr) (B : Cell) : Law l yN 2 2 0 0 yB 2 (some .byte) site (P d B) E [] 0 0 := by
  refine Law.of_walk (plainFor_of_name (by decide +kernel)) (by decide +kernel) (by decide +kernel) (by decide) (fun _ _ h => by rw [h.1]; rfl) (fun _ U U' hal hh h => ⟨h.1, h.2.mv hal hh⟩) (fun r U U' V V' h1 hal h2 h => XT.PureE.mv r U U' V V' h1 hal h2 h) ?_
  intro p e s m args below meth c s₁ X0 hexec hbytes hml hret hlk hnm hown hh0 W hP
  obtain ⟨rfl, hB⟩ := hP
  have hB0 := hB.mv X0.warmed.alike hh0
  have c1 : Steps p.tables e below (s₁.setTop (entryFrame m #[.ref d, .int (Int32.ofNat B.slots.size)] 2)) (s₁.setTop (mkF m 0 #[.val (.ref d), .val (.int (Int32.ofNat B.slots.size))] [])) := entry rfl
  have c2 : Steps p.tables e below (s₁.setTop (entryFrame m #[.ref d, .int (Int32.ofNat B.slots.size)] 2)) (s₁.setTop (mkF m 2 #[.val (.ref d), .val (.int (Int32.ofNat B.slots.size))] [.ref d, .int (Int32.ofNat B.slots.size)])) := c1.trans (by
    refine XS.iloadN X0.here hexec rfl (hb hbytes d0) rfl ?_
    refine XS.aloadN X0.here hexec rfl (hb hbytes d1) rfl rfl ?_
    exact Steps.refl _)
  have c3 : Steps p.tables e below (s₁.setTop (entryFrame m #[.ref d, .int (Int32.ofNat B.slots.size)] 2)) (s₁.setTop (mkF m 8 #[.val (.ref d), .val (.int (Int32.ofNat B.slots.size))] [.int (lo8 (ushr (Int32.ofNat B.slots.size - Int32.ofNat B.slots.size) 31))])) := c2.trans (by
    refine X0.alen hexec hB0 rfl rfl (hb hbytes d2) ?_
    refine XS.isub X0.here hexec rfl (hb hbytes d3) rfl ?_
    refine bipushV X0.here hexec rfl 31 (hb hbytes d4) (by decide) ?_
    refine iushr X0.here hexec rfl (hb hbytes d6) rfl ?_
    refine i2b X0.here hexec rfl (hb hbytes d7) rfl ?_
    exact Steps.refl _)
  have e0 : lo8 (ushr (Int32.ofNat B.slots.size - Int32.ofNat B.slots.size) 31) = 0 := by rw [Int32.sub_self]; decide
  rw [e0] at c3
  exact ⟨s₁, some (.int 0), _, _, _, X0, rfl, rfl, rfl, (fun h => by cases h), ⟨rfl, hh0⟩, fun fs hl => c3.trans (X0.ireturnOut hexec hret rfl (Or.inr (Or.inr (Or.inl rfl))) (hb hbytes d8) hl)⟩
end CodL
/-- the String at a is Latin-1 over a new byte[] (the heap's one new cell): the low bytes of the len chars of A from o on; every cell but a is kept -/
def Got (a : Addr) (D : Cell) (fV fC : Field) (A : Cell) (o len : Nat) (r : Option Value) (s u : State) : Prop := r = none ∧ ∃ D' V : Cell, Blank "java/lang/String" a D' u ∧ Same D D' [fV.slot, fC.slot] ∧ D'.slots[fV.slot]? = some (.ref s.heap.size) ∧ D'.slots[fC.slot]? = some (.int 0) ∧ Arr .byte s.heap.size V u ∧ V.vm = .none ∧ u.vm.findClass "[B" = some V.cls ∧ V.slots.size = len ∧ (∀ j, j < len → V.slots[j]? = some (.int (lo8 (cv A (o + j))))) ∧ (∀ (y : Addr) (c : Cell), y ≠ a → s.heap[y]? = some c → u.heap[y]? = some c) ∧ u.heap.size = s.heap.size + 1
theorem Got.mv {a : Addr} {D A : Cell} {fV fC : Field} {o len : Nat} : ∀ r (U U' V V' : State), U'.heap = U.heap → V.vm.Alike V'.vm → V'.heap = V.heap → Got a D fV fC A o len r U V → Got a D fV fC A o len r U' V' :=
  fun r U U' V V' h1 hal h2 ⟨e0, D', X, a1, a2, a3, a4, a5, a6, a7, a8, a9, a10, a11⟩ => ⟨e0, D', X, a1.mv hal h2, a2, by rw [h1]; exact a3, a4, by rw [h1]; exact a5.mv hal h2, a6, by rw [hal.findClass]; exact a7, a8, a9, by rw [h1, h2]; exact a10, by rw [h1, h2]; exact a11⟩
namespace New4
def yN : MethodName := ⟨"java/lang/String", "<init>", "([CIILjava/lang/Void;)V"⟩
abbrev yB : ByteArray := jdk_42_method_149_code
theorem d0 : decode yB 0 = .ok (.aload_n 0, 1) := by decide +kernel
theorem d1 : decode yB 1 = .ok (.invokespecial 1, 3) := by decide +kernel
theorem d4 : decode yB 4 = .ok (.iload_n 3, 1) := by decide +kernel
theorem d5 : decode yB 5 = .ok (.ifCond (.ne) 22, 3) := by decide +kernel
theorem d27 : decode yB 27 = .ok (.getstatic 38, 3) := by decide +kernel
theorem d30 : decode yB 30 = .ok (.ifCond (.eq) 28, 3) := by decide +kernel
theorem d33 : decode yB 33 = .ok (.aload_n 1, 1) := by decide +kernel
theorem d34 : decode yB 34 = .ok (.iload_n 2, 1) := by decide +kernel
theorem d35 : decode yB 35 = .ok (.iload_n 3, 1) := by decide +kernel
theorem d36 : decode yB 36 = .ok (.invokestatic 177, 3) := by decide +kernel
theorem d39 : decode yB 39 = .ok (.astore 5, 2) := by decide +kernel
theorem d41 : decode yB 41 = .ok (.aload_n 0, 1) := by decide +kernel
theorem d42 : decode yB 42 = .ok (.aload 5, 2) := by decide +kernel
theorem d44 : decode yB 44 = .ok (.iload_n 3, 1) := by decide +kernel
theorem d45 : decode yB 45 = .ok (.invokestatic 47, 3) := by decide +kernel
theorem d48 : decode yB 48 = .ok (.putfield 15, 3) := by decide +kernel
theorem d51 : decode yB 51 = .ok (.aload_n 0, 1) := by decide +kernel
theorem d52 : decode yB 52 = .ok (.aload 5, 2) := by decide +kernel
theorem d54 : decode yB 54 = .ok (.putfield 9, 3) := by decide +kernel
theorem d57 : decode yB 57 = .ok (.return_, 1) := by decide +kernel
def site : List Cond := [.fieldLink "java/lang/String" 38 "java/lang/String" "COMPACT_STRINGS" "Z", Cmp3.tab, CodL.tab, .laysFinal "java/lang/String" "java/lang/String" "value" "[B", .fieldLink "java/lang/String" 9 "java/lang/String" "value" "[B", .laysFinal "java/lang/String" "java/lang/String" "coder" "B", .fieldLink "java/lang/String" 15 "java/lang/String" "coder" "B"] ++ objW "java/lang/String" 1 ++ staticW "java/lang/String" 177 Cmp3.yN ++ staticW "java/lang/String" 47 CodL.yN
def tab : Cond := tabOf yN yB 6 none site
def P (a : Addr) (D : Cell) (fV fC : Field) (b : Addr) (A : Cell) (z : Int32) (o len : Nat) (args : Array Value) (s : State) : Prop := args = #[.ref a, .ref b, .int (Int32.ofNat o), .int (Int32.ofNat len), .null] ∧ Blank "java/lang/String" a D s ∧ Found "java/lang/String" "value" "[B" fV s ∧ Found "java/lang/String" "coder" "B" fC s ∧ Ch b A s ∧ StaticIs s "java/lang/String" "COMPACT_STRINGS" "Z" (.int z) ∧ ¬ z = 0 ∧ 0 < len ∧ o + len ≤ A.slots.size ∧ len ≤ 536870912 ∧ ∀ i, i < len → ¬ 255 < cv A (o + i)
def E (a : Addr) (D : Cell) (fV fC : Field) (A : Cell) (o len : Nat) (r : Option Value) (s u : State) : Prop := Got a D fV fC A o len r s u
/-- len > 0, no char of the range above 255: a Latin-1 String of their low bytes -/
theorem law (l : Launch) (a : Addr) (D : Cell) (fV fC : Field) (b : Addr) (A : Cell) (z : Int32) (o len : Nat) : Law l yN 5 4 2 35 yB 6 none site (P a D fV fC b A z o len) (E a D fV fC A o len) [⟨a, fC.slot⟩, ⟨a, fV.slot⟩] 1 len := by
  refine Law.of_walk (plainFor_of_name (by decide +kernel)) (by decide +kernel) (by decide +kernel) (by decide) (fun _ _ h => by rw [h.1]; rfl) (fun _ U U' hal hh h => ⟨h.1, h.2.1.mv hal hh, h.2.2.1.al hal, h.2.2.2.1.al hal, h.2.2.2.2.1.mv hal hh, h.2.2.2.2.2.1.there hal hh, h.2.2.2.2.2.2⟩) (fun r U U' V V' h1 hal h2 h => Got.mv r U U' V V' h1 hal h2 h) ?_
  intro p e s m args below meth c s₁ X0 hexec hbytes hml hret hlk hnm hown hh0 W hP
  obtain ⟨rfl, hB, f1, f2, hA, s1, hz, l0, l1, l2, hp⟩ := hP
  have a31 := hA.1.2.2.2
  have c1 : Steps p.tables e below (s₁.setTop (entryFrame m #[.ref a, .ref b, .int (Int32.ofNat o), .int (Int32.ofNat len), .null] 6)) (s₁.setTop (mkF m 0 #[.val (.ref a), .val (.ref b), .val (.int (Int32.ofNat o)), .val (.int (Int32.ofNat len)), .val .null, .unset] [])) := entry rfl
  have c2 : Steps p.tables e below (s₁.setTop (entryFrame m #[.ref a, .ref b, .int (Int32.ofNat o), .int (Int32.ofNat len), .null] 6)) (s₁.setTop (mkF m 1 #[.val (.ref a), .val (.ref b), .val (.int (Int32.ofNat o)), .val (.int (Int32.ofNat len)), .val .null, .unset] [.ref a])) := c1.trans (by
    refine XS.aloadN X0.here hexec rfl (hb hbytes d0) rfl rfl ?_
    exact Steps.refl _)
  obtain ⟨T3, X3, q3, st3⟩ := X0.oinit hexec hown (wks W (objW "java/lang/String" 1)) (g := (mkF m 1 #[.val (.ref a), .val (.ref b), .val (.int (Int32.ofNat o)), .val (.int (Int32.ofNat len)), .val .null, .unset] [.ref a])) rfl (by rw [hml]; rfl) (rest := []) rfl (hb hbytes d1) (W := 0) (by show 2 * 0 + 0 ≤ _; decide) (Nat.le_of_ble_eq_true rfl) (Nat.le_of_ble_eq_true rfl)
  have hh3 := q3.trans hh0
  have c4 : Steps p.tables e below (s₁.setTop (entryFrame m #[.ref a, .ref b, .int (Int32.ofNat o), .int (Int32.ofNat len), .null] 6)) (T3.setTop (mkF m 27 #[.val (.ref a), .val (.ref b), .val (.int (Int32.ofNat o)), .val (.int (Int32.ofNat len)), .val .null, .unset] [])) := (c2.trans (st3 _ (Steps.refl _))).trans (by
    refine XS.iloadN X3.here hexec rfl (hb hbytes d4) rfl ?_
    refine XS.ifYes X3.here hexec rfl (pc0 := 5) rfl (hb hbytes d5) rfl (i0_ne_t (nz32 (by omega) l0)) (by decide) rfl ?_
    exact Steps.refl _)
  obtain ⟨T5, X5, q5, st5⟩ := X3.sget hexec hown (wk W (.fieldLink "java/lang/String" 38 "java/lang/String" "COMPACT_STRINGS" "Z")) s1 (fun _ _ h => by rw [hh3]; exact h) (g := (mkF m 27 #[.val (.ref a), .val (.ref b), .val (.int (Int32.ofNat o)), .val (.int (Int32.ofNat len)), .val .null, .unset] [])) rfl (hb hbytes d27)
  have hh5 := q5.trans hh3
  have c6 : Steps p.tables e below (s₁.setTop (entryFrame m #[.ref a, .ref b, .int (Int32.ofNat o), .int (Int32.ofNat len), .null] 6)) (T5.setTop (mkF m 30 #[.val (.ref a), .val (.ref b), .val (.int (Int32.ofNat o)), .val (.int (Int32.ofNat len)), .val .null, .unset] [.int z])) := c4.trans (st5 _ (Steps.refl _))
  have c7 : Steps p.tables e below (s₁.setTop (entryFrame m #[.ref a, .ref b, .int (Int32.ofNat o), .int (Int32.ofNat len), .null] 6)) (T5.setTop (mkF m 36 #[.val (.ref a), .val (.ref b), .val (.int (Int32.ofNat o)), .val (.int (Int32.ofNat len)), .val .null, .unset] [.int (Int32.ofNat len), .int (Int32.ofNat o), .ref b])) := c6.trans (by
    refine XS.ifNo X5.here hexec rfl (hb hbytes d30) rfl (i0_eq_f hz) ?_
    refine XS.aloadN X5.here hexec rfl (hb hbytes d33) rfl rfl ?_
    refine XS.iloadN X5.here hexec rfl (hb hbytes d34) rfl ?_
    refine XS.iloadN X5.here hexec rfl (hb hbytes d35) rfl ?_
    exact Steps.refl _)
  obtain ⟨v8, T8, X8, E8, g8⟩ := X5.callS hexec (Cmp3.law l b A o len) hown (wks W (staticW "java/lang/String" 177 Cmp3.yN)) (wk W Cmp3.tab) (W := 0) (Nat.le_of_ble_eq_true rfl) (Nat.le_of_ble_eq_true rfl) (Nat.le_refl _) (by show 0 + len ≤ len; omega) (g := (mkF m 36 #[.val (.ref a), .val (.ref b), .val (.int (Int32.ofNat o)), .val (.int (Int32.ofNat len)), .val .null, .unset] [.int (Int32.ofNat len), .int (Int32.ofNat o), .ref b])) rfl (by rw [hml]; rfl) c7 (argsL := [.ref b, .int (Int32.ofNat o), .int (Int32.ofNat len)]) (rest := []) rfl rfl (by show 2 * 0 + 0 ≤ _; decide) (hb hbytes d36) (⟨rfl, hA.mv X5.warmed.alike hh5, l1, l2, hp⟩)
  obtain ⟨e8, z8⟩ := E8
  obtain ⟨rfl, N, n1, n2, n3, n4, n5, n6⟩ := NewArr.mv _ T5 s _ _ hh5.symm (Vm.Alike.refl _) rfl e8
  rw [hh5] at z8
  have hB1 := hB.keep X8.warmed.alike (n6 _ _ hB.1)
  have hne : s.heap.size ≠ a := (Nat.ne_of_lt (Array.getElem?_eq_some_iff.mp hB.1).1).symm
  have c9 : Steps p.tables e below (s₁.setTop (entryFrame m #[.ref a, .ref b, .int (Int32.ofNat o), .int (Int32.ofNat len), .null] 6)) (T8.setTop (mkF m 39 #[.val (.ref a), .val (.ref b), .val (.int (Int32.ofNat o)), .val (.int (Int32.ofNat len)), .val .null, .unset] [.ref s.heap.size])) := g8
  have c10 : Steps p.tables e below (s₁.setTop (entryFrame m #[.ref a, .ref b, .int (Int32.ofNat o), .int (Int32.ofNat len), .null] 6)) (T8.setTop (mkF m 45 #[.val (.ref a), .val (.ref b), .val (.int (Int32.ofNat o)), .val (.int (Int32.ofNat len)), .val .null, .val (.ref s.heap.size)] [.int (Int32.ofNat N.slots.size), .ref s.heap.size, .ref a])) := by
    have hc : Steps p.tables e below (s₁.setTop (entryFrame m #[.ref a, .ref b, .int (Int32.ofNat o), .int (Int32.ofNat len), .null] 6)) (T8.setTop (mkF m 45 #[.val (.ref a), .val (.ref b), .val (.int (Int32.ofNat o)), .val (.int (Int32.ofNat len)), .val .null, .val (.ref s.heap.size)] [.int (Int32.ofNat len), .ref s.heap.size, .ref a])) := c9.trans (by
      refine XS.astore X8.here hexec rfl (hb hbytes d39) rfl rfl rfl ?_
      refine XS.aloadN X8.here hexec rfl (hb hbytes d41) rfl rfl ?_
      refine XS.aload X8.here hexec rfl (hb hbytes d42) rfl rfl ?_
      refine XS.iloadN X8.here hexec rfl (hb hbytes d44) rfl ?_
      exact Steps.refl _)
    rw [n4]; exact hc
  obtain ⟨v11, T11, X11, E11, g11⟩ := X8.callS hexec (CodL.law l s.heap.size N) hown (wks W (staticW "java/lang/String" 47 CodL.yN)) (wk W CodL.tab) (W := 1) (Nat.le_of_ble_eq_true rfl) (Nat.le_of_ble_eq_true rfl) (Nat.le_refl _) (by show 0 + len + 0 ≤ len; omega) (g := (mkF m 45 #[.val (.ref a), .val (.ref b), .val (.int (Int32.ofNat o)), .val (.int (Int32.ofNat len)), .val .null, .val (.ref s.heap.size)] [.int (Int32.ofNat N.slots.size), .ref s.heap.size, .ref a])) rfl (by rw [hml]; rfl) c10 (argsL := [.ref s.heap.size, .int (Int32.ofNat N.slots.size)]) (rest := [.ref a]) rfl rfl (by show 2 * 0 + (1 + 0) ≤ _; decide) (hb hbytes d45) (⟨rfl, n1⟩)
  obtain ⟨rfl, q11⟩ := E11
  have hB11 := hB1.mv (X8.warmed.alike.symm.trans X11.warmed.alike) q11
  have c12 : Steps p.tables e below (s₁.setTop (entryFrame m #[.ref a, .ref b, .int (Int32.ofNat o), .int (Int32.ofNat len), .null] 6)) (T11.setTop (mkF m 48 #[.val (.ref a), .val (.ref b), .val (.int (Int32.ofNat o)), .val (.int (Int32.ofNat len)), .val .null, .val (.ref s.heap.size)] [.int 0, .ref a])) := g11
  obtain ⟨T13, X13, p13, bl13, sl13, st13⟩ := X11.finit hexec hown (wk W (.fieldLink "java/lang/String" 15 "java/lang/String" "coder" "B")) (Or.inr ⟨_, (wk W (.laysFinal "java/lang/String" "java/lang/String" "coder" "B"))⟩) (Or.inl ⟨rfl, hnm⟩) f2 (Or.inl rfl) hB11 (t := .byte) (by decide +kernel) rfl (g := (mkF m 48 #[.val (.ref a), .val (.ref b), .val (.int (Int32.ofNat o)), .val (.int (Int32.ofNat len)), .val .null, .val (.ref s.heap.size)] [.int 0, .ref a])) rfl (rest := []) rfl (hb hbytes d48)
  have c14 : Steps p.tables e below (s₁.setTop (entryFrame m #[.ref a, .ref b, .int (Int32.ofNat o), .int (Int32.ofNat len), .null] 6)) (T13.setTop (mkF m 54 #[.val (.ref a), .val (.ref b), .val (.int (Int32.ofNat o)), .val (.int (Int32.ofNat len)), .val .null, .val (.ref s.heap.size)] [.ref s.heap.size, .ref a])) := (c12.trans (st13 _ (Steps.refl _))).trans (by
    refine XS.aloadN X13.here hexec rfl (hb hbytes d51) rfl rfl ?_
    refine XS.aload X13.here hexec rfl (hb hbytes d52) rfl rfl ?_
    exact Steps.refl _)
  obtain ⟨T15, X15, p15, bl15, sl15, st15⟩ := X13.finit hexec hown (wk W (.fieldLink "java/lang/String" 9 "java/lang/String" "value" "[B")) (Or.inr ⟨_, (wk W (.laysFinal "java/lang/String" "java/lang/String" "value" "[B"))⟩) (Or.inl ⟨rfl, hnm⟩) f1 (Or.inl rfl) bl13 (t := (.array .byte)) (by decide +kernel) rfl (g := (mkF m 54 #[.val (.ref a), .val (.ref b), .val (.int (Int32.ofNat o)), .val (.int (Int32.ofNat len)), .val .null, .val (.ref s.heap.size)] [.ref s.heap.size, .ref a])) rfl (rest := []) rfl (hb hbytes d54)
  have c16 : Steps p.tables e below (s₁.setTop (entryFrame m #[.ref a, .ref b, .int (Int32.ofNat o), .int (Int32.ofNat len), .null] 6)) (T15.setTop (mkF m 57 #[.val (.ref a), .val (.ref b), .val (.int (Int32.ofNat o)), .val (.int (Int32.ofNat len)), .val .null, .val (.ref s.heap.size)] [])) := c14.trans (st15 _ (Steps.refl _))
  have ap := apart (Or.inr ⟨_, (wk W (.laysFinal "java/lang/String" "java/lang/String" "value" "[B"))⟩) (Or.inr ⟨_, (wk W (.laysFinal "java/lang/String" "java/lang/String" "coder" "B"))⟩) f1 f2 (t₁ := .array .byte) (t₂ := .byte) (by decide +kernel) (by decide +kernel) (by decide)
  have al := X8.warmed.alike.symm.trans X15.warmed.alike
  have n7 : T11.heap[s.heap.size]? = some N := by rw [q11]; exact n1.1
  exact ⟨T15, none, _, _, _, X15, by simp, rfl, by omega, (fun _ => rfl), ⟨rfl, _, N, bl15, ((Same.refl D _).set _ (by simp)).set _ (by simp), sl15, (Cell.slots_setSlot_ne _ ap).trans sl13, n1.keep al (p15.other hne (p13.other hne n7)), n2, by rw [al.findClass]; exact n3, n4, n5, fun y c h1 h2 => p15.other h1 (p13.other h1 (by rw [q11]; exact n6 y c h2)), by rw [p15.2.2, p13.2.2, q11]; exact z8⟩, fun fs hl => c16.trans (X15.returnOut hexec hret (hb hbytes d57) hl)⟩
end New4
namespace New1
def yN : MethodName := ⟨"java/lang/String", "<init>", "([C)V"⟩
abbrev yB : ByteArray := jdk_42_method_3_code
theorem d0 : decode yB 0 = .ok (.aload_n 0, 1) := by decide +kernel
theorem d1 : decode yB 1 = .ok (.aload_n 1, 1) := by decide +kernel
theorem d2 : decode yB 2 = .ok (.iconst 0, 1) := by decide +kernel
theorem d3 : decode yB 3 = .ok (.aload_n 1, 1) := by decide +kernel
theorem d4 : decode yB 4 = .ok (.arraylength, 1) := by decide +kernel
theorem d5 : decode yB 5 = .ok (.aconst_null, 1) := by decide +kernel
theorem d6 : decode yB 6 = .ok (.invokespecial 27, 3) := by decide +kernel
theorem d9 : decode yB 9 = .ok (.return_, 1) := by decide +kernel
def site : List Cond := [New4.tab] ++ initW "java/lang/String" 27 New4.yN
def tab : Cond := tabOf yN yB 2 none site
def P (a : Addr) (D : Cell) (fV fC : Field) (b : Addr) (A : Cell) (z : Int32) (args : Array Value) (s : State) : Prop := args = #[.ref a, .ref b] ∧ Blank "java/lang/String" a D s ∧ Found "java/lang/String" "value" "[B" fV s ∧ Found "java/lang/String" "coder" "B" fC s ∧ Ch b A s ∧ StaticIs s "java/lang/String" "COMPACT_STRINGS" "Z" (.int z) ∧ ¬ z = 0 ∧ 0 < A.slots.size ∧ A.slots.size ≤ 536870912 ∧ ∀ i, i < A.slots.size → ¬ 255 < cv A i
def E (a : Addr) (D : Cell) (fV fC : Field) (A : Cell) (r : Option Value) (s u : State) : Prop := Got a D fV fC A 0 A.slots.size r s u
/-- new String(chars), not empty, no char above 255: a Latin-1 String of their low bytes -/
theorem law (l : Launch) (a : Addr) (D : Cell) (fV fC : Field) (b : Addr) (A : Cell) (z : Int32) : Law l yN 2 1 3 52 yB 2 none site (P a D fV fC b A z) (E a D fV fC A) [⟨a, fC.slot⟩, ⟨a, fV.slot⟩] 1 A.slots.size := by
  refine Law.of_walk (plainFor_of_name (by decide +kernel)) (by decide +kernel) (by decide +kernel) (by decide) (fun _ _ h => by rw [h.1]; rfl) (fun _ U U' hal hh h => ⟨h.1, h.2.1.mv hal hh, h.2.2.1.al hal, h.2.2.2.1.al hal, h.2.2.2.2.1.mv hal hh, h.2.2.2.2.2.1.there hal hh, h.2.2.2.2.2.2⟩) (fun r U U' V V' h1 hal h2 h => Got.mv r U U' V V' h1 hal h2 h) ?_
  intro p e s m args below meth c s₁ X0 hexec hbytes hml hret hlk hnm hown hh0 W hP
  obtain ⟨rfl, hB, f1, f2, hA, s1, hz, l0, l2, hp⟩ := hP
  have c1 : Steps p.tables e below (s₁.setTop (entryFrame m #[.ref a, .ref b] 2)) (s₁.setTop (mkF m 0 #[.val (.ref a), .val (.ref b)] [])) := entry rfl
  have c2 : Steps p.tables e below (s₁.setTop (entryFrame m #[.ref a, .ref b] 2)) (s₁.setTop (mkF m 6 #[.val (.ref a), .val (.ref b)] [.null, .int (Int32.ofNat A.slots.size), .int 0, .ref b, .ref a])) := c1.trans (by
    refine XS.aloadN X0.here hexec rfl (hb hbytes d0) rfl rfl ?_
    refine XS.aloadN X0.here hexec rfl (hb hbytes d1) rfl rfl ?_
    refine iconstV X0.here hexec rfl 0 (hb hbytes d2) (by decide) ?_
    refine XS.aloadN X0.here hexec rfl (hb hbytes d3) rfl rfl ?_
    refine X0.alen hexec (hA.1.mv X0.warmed.alike hh0) rfl rfl (hb hbytes d4) ?_
    refine XS.aconstNull X0.here hexec rfl (hb hbytes d5) ?_
    exact Steps.refl _)
  obtain ⟨v3, T3, X3, E3, g3⟩ := X0.callN hexec (New4.law l a D fV fC b A z 0 A.slots.size) rfl hown (wks W (initW "java/lang/String" 27 New4.yN)) (W New4.tab (by simp only [site, List.mem_cons, List.mem_append, true_or, or_true])) (W := 0) (Nat.le_of_ble_eq_true rfl) (Nat.le_of_ble_eq_true rfl) (Nat.le_refl _) (by show 0 + A.slots.size ≤ A.slots.size; omega) (g := (mkF m 6 #[.val (.ref a), .val (.ref b)] [.null, .int (Int32.ofNat A.slots.size), .int (Int32.ofNat 0), .ref b, .ref a])) rfl (by rw [hml]; rfl) c2 (argsL := [.ref b, .int (Int32.ofNat 0), .int (Int32.ofNat A.slots.size), .null]) (rest := []) rfl rfl (by show 2 * 0 + 0 ≤ _; decide) (hb hbytes d6) (⟨rfl, hB.mv X0.warmed.alike hh0, f1.al X0.warmed.alike, f2.al X0.warmed.alike, hA.mv X0.warmed.alike hh0, s1.there X0.warmed.alike hh0, hz, l0, by omega, l2, fun i hi => by rw [Nat.zero_add]; exact hp i hi⟩)
  have e0 := Got.mv _ s₁ s _ _ hh0.symm (Vm.Alike.refl _) rfl E3
  obtain rfl := e0.1
  have c4 : Steps p.tables e below (s₁.setTop (entryFrame m #[.ref a, .ref b] 2)) (T3.setTop (mkF m 9 #[.val (.ref a), .val (.ref b)] [])) := g3
  exact ⟨T3, none, _, _, _, X3, by simp, rfl, by omega, (fun _ => rfl), e0, fun fs hl => c4.trans (X3.returnOut hexec hret (hb hbytes d9) hl)⟩
theorem pays {l : Launch} {R : Room} {p : Program} {e : Env} {below : List Frame} {s : State} {sargs : Array Value} {len W : Nat} (a : Addr) (D : Cell) (fV fC : Field) (b : Addr) (A : Cell) (z : Int32) (htab : tab.before sargs s = true) (hfr : 4 ≤ R.frames) (hlo : W + 65 ≤ R.locals) :
    Back l R p e below s sargs yN len W (fun A₁ a₁ => A₁.cells + 1 ≤ R.cells ∧ A₁.slots + A.slots.size ≤ R.slots ∧ P a D fV fC b A z a₁ A₁.U) (fun A₁ _ v₁ B₁ => E a D fV fC A v₁ A₁.U B₁.U ∧ B₁.locs = A₁.locs ++ [⟨a, fC.slot⟩, ⟨a, fV.slot⟩] ∧ B₁.cells = A₁.cells + 1 ∧ B₁.slots = A₁.slots + A.slots.size) :=
  (law l a D fV fC b A z).pays htab hfr (by omega)
end New1
/-- the byte, read back as charAt reads it, is the char -/
theorem lo8_mask {x : Int32} (h0 : ¬ x < 0) (h1 : ¬ 255 < x) : lo8 x &&& 255 = x := by
  have t : ∀ k : Fin 256, lo8 (Int32.ofNat k.val) &&& 255 = Int32.ofNat k.val := by decide +kernel
  rw [Int32.lt_iff_toInt_lt] at h0 h1
  have e0 : (0 : Int32).toInt = 0 := rfl
  have e1 : (255 : Int32).toInt = 255 := rfl
  obtain ⟨k, hk⟩ : ∃ k : Nat, x.toInt = k := ⟨x.toInt.toNat, by omega⟩
  have hx : x = Int32.ofNat k := Int32.toInt_inj.mp (by rw [hk, Int32.toInt_ofNat_small (by omega)])
  rw [hx]
  exact t ⟨k, by omega⟩
end StrChars
namespace StrChars.Road
open Jvm Sem ClassFile Op Lib Jvm.Stand Jvm.Free Jvm.Free.XT
open Jvm.Lib.Cold (StaticIs)
abbrev ST : String := "java/lang/String"
/-- every table word that New1's law asks, flat -/
abbrev words : List Jvm.Cond := [.code New1.yN New1.yB 2 none, .initialized ST, .methodLink ST 27 New4.yN, .instanceMethod New4.yN,
  .code New4.yN New4.yB 6 none, .fieldLink ST 38 ST "COMPACT_STRINGS" "Z", .laysFinal ST ST "value" "[B", .fieldLink ST 9 ST "value" "[B", .laysFinal ST ST "coder" "B", .fieldLink ST 15 ST "coder" "B",
  .methodLink ST 1 Lib.objectInit, .instanceMethod Lib.objectInit, .code Lib.objectInit ⟨#[0xb1]⟩ 1 none, .methodLink ST 177 Cmp3.yN, .static Cmp3.yN, .methodLink ST 47 CodL.yN, .static CodL.yN,
  .code Cmp3.yN Cmp3.yB 6 (some (.array .byte)), .initialized U16, .arrayClass .byte, .methodLink U16 115 Cmp5.yN, .static Cmp5.yN, .code Cmp5.yN Cmp5.yB 7 (some .int), .code CodL.yN CodL.yB 2 (some .byte)]
theorem tab_of {a : Array Value} {s : State} (h : ∀ w ∈ words, w.before a s = true) : New1.tab.before a s = true := by
  have h5 : Cmp5.tab.before a s = true := unparts (wk h (.code Cmp5.yN Cmp5.yB 7 (some .int))) (wks h (.initialized Cmp5.yN.cls :: Cmp5.site))
  have hc : CodL.tab.before a s = true := unparts (wk h (.code CodL.yN CodL.yB 2 (some .byte))) (wks h (.initialized CodL.yN.cls :: CodL.site))
  have q5 : ∀ w ∈ Cmp5.tab :: words, w.before a s = true := fun w hw => (List.mem_cons.mp hw).elim (fun e => e ▸ h5) (h w)
  have h3 : Cmp3.tab.before a s = true := unparts (wk q5 (.code Cmp3.yN Cmp3.yB 6 (some (.array .byte)))) (wks q5 (.initialized Cmp3.yN.cls :: Cmp3.site))
  have q3 : ∀ w ∈ Cmp3.tab :: CodL.tab :: words, w.before a s = true := fun w hw => (List.mem_cons.mp hw).elim (fun e => e ▸ h3) fun hw => (List.mem_cons.mp hw).elim (fun e => e ▸ hc) (h w)
  have h4 : New4.tab.before a s = true := unparts (wk q3 (.code New4.yN New4.yB 6 none)) (wks q3 (.initialized New4.yN.cls :: New4.site))
  have q4 : ∀ w ∈ New4.tab :: words, w.before a s = true := fun w hw => (List.mem_cons.mp hw).elim (fun e => e ▸ h4) (h w)
  exact unparts (wk q4 (.code New1.yN New1.yB 2 none)) (wks q4 (.initialized New1.yN.cls :: New1.site))
/-- the words ride from the start Z to the walk's own state -/
theorem moved {Z s : State} {a0 args : Array Value} (hZ : Z.Warmed39 s.vm) (hw : ∀ d ∈ words, d.before a0 Z = true) : ∀ d ∈ words, d.before args s = true := fun d hd => by
  have q := hw d hd
  have t : ∀ d ∈ words, d = .arrayClass .byte ∨ (d.onTables && d.keepsFace) = true := by decide +kernel
  rcases t d hd with rfl | t
  · exact RoadKit.mvA hZ q
  · exact RoadKit.mv hZ q t
/-- WHAT COMES BACK, over the tables of the start Z: h the heap at the call, h' behind it -/
def Q (Z : State) (x : Addr) (A : Cell) (h : Heap) (v : Option Value) (h' : Heap) (L : List Loc) : Prop := v = none ∧ (∀ y ∈ L, y.base = x) ∧ RoadKit.Keep h h' [x] ∧ h'.size = h.size + 1 ∧ RoadKit.Exa Z h' x ST ∧ RoadKit.Fld Z h' x ST "value" "[B" (.ref h.size) ∧ RoadKit.Fld Z h' x ST "coder" "B" (.int 0) ∧
  (∃ V : Cell, RoadKit.Arr Z h' h.size V .byte ∧ V.vm = .none ∧ Z.vm.findClass "[B" = some V.cls ∧ V.slots.size = A.slots.size ∧ ∀ j, j < A.slots.size → V.slots[j]? = some (.int (lo8 (cv A j)))) ∧
  ∀ (O n d : String) (w : Value), RoadKit.Fld Z h x O n d w → RoadKit.slotOf Z O n d ≠ RoadKit.slotOf Z ST "value" "[B" → RoadKit.slotOf Z O n d ≠ RoadKit.slotOf Z ST "coder" "B" → RoadKit.Fld Z h' x O n d w
/-- **new String(chars) AT A CALL, IN THE ROAD'S FORM**: for specialBack behind newO: x the fresh String, b the char[] with the cell A -/
theorem back {p : Program} {l : Launch} {e : Env} {R : Room} {s : State} {args : Array Value} {below : List Frame} {len W : Nat} {Z : State} {a0 : Array Value} {h : Heap} (hZ : Z.Warmed39 s.vm) (hw : ∀ d ∈ words, d.before a0 Z = true) {kI : Nat} (wi : (Jvm.Cond.instantiable ST kI).before a0 Z = true)
    {x b : Addr} {A : Cell} {z : Int32} {v0 c0 : Value} (E : RoadKit.Exa Z h x ST) (V : RoadKit.Fld Z h x ST "value" "[B" v0) (C : RoadKit.Fld Z h x ST "coder" "B" c0) (K : RoadKit.Arr Z h b A .char) (hty : Typed .char A) (S : RoadKit.Sta Z h ST "COMPACT_STRINGS" "Z" (.int z)) (hz : ¬ z = 0)
    (l0 : 0 < A.slots.size) (l2 : A.slots.size ≤ 536870912) (hp : ∀ i, i < A.slots.size → ¬ 255 < cv A i) (hfr : 4 ≤ R.frames) (hlo : W + 65 ≤ R.locals) :
    Back l R p e below s args New1.yN len W (fun P a => a = #[.ref x, .ref b] ∧ P.U.heap = h ∧ P.cells + 1 ≤ R.cells ∧ P.slots + A.slots.size ≤ R.slots)
      (fun P _ v B => ∃ L, Q Z x A h v B.U.heap L ∧ B.locs = P.locs ++ L ∧ B.cells = P.cells + 1 ∧ B.slots = P.slots + A.slots.size) := by
  intro m meth c P g ig mk a X hg hsize hdg hW hn hp'
  obtain ⟨rfl, rfl, r1, r2⟩ := hp'
  have al : Z.vm.Alike P.U.vm := hZ.alike.trans X.warmed.alike
  obtain ⟨D, cfV, kV, iV, fV, hD, gV, stV, knV, obV, asV, slV⟩ := id V
  obtain ⟨D', cfC, kC, iC, fC, hD', gC, stC, -, -, asC, slC⟩ := id C
  cases hD.symm.trans hD'
  obtain ⟨D2, kD, e1, e2, e3, e4, e5⟩ := id E
  cases hD.symm.trans e1
  obtain ⟨c2, k2, i1, i2, i3, -⟩ := Cond.instantiable_spec wi
  cases e2.symm.trans i1
  cases e3.symm.trans i2
  obtain ⟨kU, u1, u2⟩ := al.2.2 _ _ e3
  have hB : Blank ST x D P.U := ⟨hD, ⟨knV, fun q hq => by rw [hq] at obV; cases obV⟩, by rw [al.findClass]; exact e2, kU, u1, by rw [u2]; exact i3, by rw [u2]; exact e5 i3⟩
  have F1 : Found ST "value" "[B" fV P.U := ⟨SBG.found_only al ⟨cfV, kV, iV, gV⟩, stV⟩
  have F2 : Found ST "coder" "B" fC P.U := ⟨SBG.found_only al ⟨cfC, kC, iC, gC⟩, stC⟩
  have hA : Ch b A P.U := ⟨⟨K.1, State.isArrayOf_alike al K.2.1, K.2.2, by omega⟩, hty⟩
  have hS : StaticIs P.U ST "COMPACT_STRINGS" "Z" (.int z) := by
    obtain ⟨cfS, iS, kS, fS, st, cS, t1, t2, t3, t4, t5, t6, t7⟩ := S
    exact StaticIs.there (s := { Z with heap := P.U.heap }) ⟨cfS, iS, kS, fS, st, cS, t1, t2, t3, t4, t5, (fun q => by rw [q] at t6; cases t6), t7⟩ al rfl
  obtain ⟨v, B, X', ⟨⟨hv, E', V', q1, q2, q3, q4, q5, q6, q7, q8, q9, q10, q11⟩, hl, hc, hs⟩, st⟩ := New1.pays x D fV fC b A z (tab_of (moved hZ hw)) hfr hlo m meth c P g ig mk _ X hg hsize hdg hW hn ⟨r1, r2, rfl, hB, F1, F2, hA, hS, hz, l0, l2, hp⟩
  have al' : Z.vm.Alike B.U.vm := hZ.alike.trans X'.warmed.alike
  have hsz : E'.slots.size = D.slots.size := by
    obtain ⟨-, -, -, kB, w1, w2, w3⟩ := q1
    obtain ⟨kB', y1, y2⟩ := al'.2.2 _ _ e3
    rw [q2.2.1] at w1
    cases w1.symm.trans y1
    rw [w3, e5 i3, y2]
  refine ⟨v, B, X', ⟨_, ⟨hv, ?_, ⟨by omega, fun y cy hy hn' => q10 y cy (by simpa using hn') hy, fun y cy hy => ?_⟩, q11, ⟨E', _, q1.1, by rw [q2.2.1]; exact e2, by rw [q2.2.1]; exact e3, by rw [q2.1]; exact obV, fun _ => by rw [hsz]; exact e5 i3⟩,
    ⟨E', cfV, kV, iV, fV, q1.1, gV, stV, by rw [q2.1]; exact knV, by rw [q2.1]; exact obV, by rw [q2.2.1]; exact asV, q3⟩, ⟨E', cfC, kC, iC, fC, q1.1, gC, stC, by rw [q2.1]; exact knV, by rw [q2.1]; exact obV, by rw [q2.2.1]; exact asC, q4⟩,
    ⟨V', ⟨q5.1, State.isArrayOf_alike al'.symm q5.2.1, q5.2.2.1⟩, q6, by rw [← al'.findClass]; exact q7, q8, fun j hj => by have := q9 j hj; rwa [Nat.zero_add] at this⟩, fun O n d w F n1 n2 => ?_⟩, hl, hc, hs⟩, st⟩
  · intro y hy
    simp only [List.mem_cons, List.not_mem_nil, or_false] at hy
    rcases hy with rfl | rfl <;> rfl
  · by_cases q : y = x
    · subst q
      cases hD.symm.trans hy
      exact ⟨E', q1.1, q2.2.1, q2.1, hsz⟩
    · exact ⟨cy, q10 y cy q hy, rfl, rfl, rfl⟩
  · obtain ⟨D3, cf, k, i, f, g1, g2, g3, g4, g5, g6, g7⟩ := F
    cases hD.symm.trans g1
    simp only [RoadKit.slotOf, g2, gV, gC, Option.map_some, Option.getD_some] at n1 n2
    exact ⟨E', cf, k, i, f, q1.1, g2, g3, by rw [q2.1]; exact g4, by rw [q2.1]; exact g5, by rw [q2.2.1]; exact g6, by rw [q2.2.2 f.slot (by simp [n1, n2])]; exact g7⟩
end StrChars.Road
namespace StrChars.Road
open Jvm Sem ClassFile Op Lib Jvm.Stand Jvm.Free Jvm.Free.XT
/-- WHAT COMES BACK, the byte[] as a list of values -/
def QA (Z : State) (x : Addr) (zn : Int32) (cs : List Int32) (h : Heap) (v : Option Value) (h' : Heap) (L : List Loc) : Prop := v = none ∧ (∀ y ∈ L, y.base = x) ∧ RoadKit.Keep h h' [x] ∧ h'.size = h.size + 1 ∧ RoadKit.Exa Z h' x ST ∧ RoadKit.Fld Z h' x ST "value" "[B" (.ref h.size) ∧ RoadKit.Fld Z h' x ST "coder" "B" (.int 0) ∧
  (∃ kb, Z.vm.findClass "[B" = some kb ∧ RoadKit.Arv Z h' h.size kb .byte zn (cs.map fun c => .int (lo8 c)) (.int 0)) ∧
  ∀ (O n d : String) (w : Value), RoadKit.Fld Z h x O n d w → RoadKit.slotOf Z O n d ≠ RoadKit.slotOf Z ST "value" "[B" → RoadKit.slotOf Z O n d ≠ RoadKit.slotOf Z ST "coder" "B" → RoadKit.Fld Z h' x O n d w
/-- **new String(chars) AT A CALL, THE ARRAYS AS LISTS**: the char[] at b holds cs, not empty, no char above 255 -/
theorem backArv {p : Program} {l : Launch} {e : Env} {R : Room} {s : State} {args : Array Value} {below : List Frame} {len W : Nat} {Z : State} {a0 : Array Value} {h : Heap} (hZ : Z.Warmed39 s.vm) (hw : ∀ d ∈ words, d.before a0 Z = true) {kI : Nat} (wi : (Jvm.Cond.instantiable ST kI).before a0 Z = true)
    {x b : Addr} {k : ClassId} {zn z : Int32} {cs : List Int32} {dv v0 c0 : Value} (E : RoadKit.Exa Z h x ST) (V : RoadKit.Fld Z h x ST "value" "[B" v0) (C : RoadKit.Fld Z h x ST "coder" "B" c0) (K : RoadKit.Arv Z h b k .char zn (cs.map Value.int) dv) (S : RoadKit.Sta Z h ST "COMPACT_STRINGS" "Z" (.int z)) (hz : ¬ z = 0)
    (hlen : zn.toNatClampNeg = cs.length) (h0 : 0 < cs.length) (hbig : cs.length ≤ 536870912) (hall : ∀ c ∈ cs, ¬ 255 < c) (hfr : 4 ≤ R.frames) (hlo : W + 65 ≤ R.locals) :
    Back l R p e below s args New1.yN len W (fun P a => a = #[.ref x, .ref b] ∧ P.U.heap = h ∧ P.cells + 1 ≤ R.cells ∧ P.slots + cs.length ≤ R.slots)
      (fun P _ v B => ∃ L, QA Z x zn cs h v B.U.heap L ∧ B.locs = P.locs ++ L ∧ B.cells = P.cells + 1 ∧ B.slots = P.slots + cs.length) := by
  obtain ⟨A, K1, K2, K3, K4, K5, K6⟩ := K
  have e : A.slots.size = cs.length := K3.trans hlen
  have hat : ∀ (i : Nat) (hi : i < cs.length), A.slots[i]? = some (.int cs[i]) := fun i hi => by rw [K5 i (by omega)]; simp [List.getD_eq_getElem?_getD, hi]
  have hcv : ∀ (i : Nat) (hi : i < cs.length), cv A i = cs[i] := fun i hi => by unfold cv; rw [hat i hi]
  have hty : Typed .char A := fun i v hv => by
    have hi : i < A.slots.size := (Array.getElem?_eq_some_iff.mp hv).1
    have q := K5 i hi
    rw [hv] at q
    rw [Option.some.inj q]
    exact K6 i hi
  refine Back.mono (back hZ hw wi E V C K1 hty S hz (by omega) (by omega) (fun i hi => by rw [hcv i (by omega)]; exact hall _ (List.getElem_mem _)) hfr hlo) (fun P a hp => ⟨hp.1, hp.2.1, hp.2.2.1, by rw [e]; exact hp.2.2.2⟩) (fun P a v B hp hq => ?_)
  obtain ⟨L, ⟨q1, q2, q3, q4, q5, q6, q7, ⟨V', v1, v2, v3, v4, v5⟩, q9⟩, hl, hc, hs⟩ := hq
  refine ⟨L, ⟨q1, q2, q3, q4, q5, q6, q7, ⟨V'.cls, v3, V', v1, rfl, by rw [v4, e, hlen], K4, fun i hi => ?_, fun i hi => ?_⟩, q9⟩, hl, hc, by rw [hs, e]⟩
  · have hi' : i < cs.length := by omega
    rw [v5 i (by omega), hcv i hi']; simp [List.getD_eq_getElem?_getD, hi']
  · have hi' : i < cs.length := by omega
    simp only [List.getD_eq_getElem?_getD, List.getElem?_map, List.getElem?_eq_getElem hi', Option.map_some, Option.getD_some]
    exact fits_lo8 _
end StrChars.Road
namespace StrChars.Road
open Jvm Sem ClassFile Op Lib Jvm.Stand Jvm.Free Jvm.Free.XT
/-- WHAT COMES BACK, in the writer's own shape -/
def QV (Z : State) (x : Addr) (N : Int32) (bs : List Int32) (h : Heap) (n0 : Nat) (v : Option Value) (h' : Heap) (L : List Loc) : Prop := v = none ∧ RoadKit.Fr n0 L ∧ RoadKit.Keep h h' [x] ∧ RoadKit.Exa Z h' x ST ∧ RoadKit.Fld Z h' x ST "coder" "B" (.int 0) ∧
  ∃ (t : Addr) (kb : ClassId), n0 ≤ t ∧ h.size ≤ t ∧ ¬ t = x ∧ RoadKit.Fld Z h' x ST "value" "[B" (.ref t) ∧ RoadKit.Arv Z h' t kb .byte N (bs.map Value.int) (.int 0)
/-- **new String(chars) AT A CALL, FOR THE WRITER**: a char[] of n known ints, each 0 to 255 -/
theorem backV {p : Program} {l : Launch} {e : Env} {R : Room} {s : State} {args : Array Value} {below : List Frame} {len W : Nat} {Z : State} {a0 : Array Value} {h : Heap} (hZ : Z.Warmed39 s.vm) (hw : ∀ d ∈ words, d.before a0 Z = true) {kI : Nat} (wi : (Jvm.Cond.instantiable ST kI).before a0 Z = true)
    {x b : Addr} {kC : ClassId} {cs bs : List Int32} {d v0 c0 : Value} {z N : Int32} {n n0 : Nat} (hx0 : n0 ≤ x) (hh0 : n0 ≤ h.size) (E : RoadKit.Exa Z h x ST) (V : RoadKit.Fld Z h x ST "value" "[B" v0) (C : RoadKit.Fld Z h x ST "coder" "B" c0) (K : RoadKit.Arv Z h b kC .char N (cs.map Value.int) d) (S : RoadKit.Sta Z h ST "COMPACT_STRINGS" "Z" (.int z)) (hz : ¬ z = 0)
    (hn : cs.length = n) (hN : N = Int32.ofNat n) (l0 : 0 < n) (l2 : n ≤ 4000) (hp : ∀ c ∈ cs, ¬ c < 0 ∧ ¬ (255 : Int32) < c) (hb : bs = cs.map (fun c => c.toInt8.toInt32)) (hfr : 4 ≤ R.frames) (hlo : W + 65 ≤ R.locals) :
    Back l R p e below s args (⟨"java/lang/String", "<init>", "([C)V"⟩ : MethodName) len W (fun P a => a = #[.ref x, .ref b] ∧ P.U.heap = h ∧ P.cells + 1 ≤ R.cells ∧ P.slots + n ≤ R.slots)
      (fun P _ v B => ∃ L, QV Z x N bs h n0 v B.U.heap L ∧ B.locs = P.locs ++ L ∧ B.cells = P.cells + 1 ∧ B.slots = P.slots + n) := by
  subst hn hN hb
  refine Back.mono (backArv hZ hw wi E V C K S hz (n32 (by omega)) l0 (by omega) (fun c hc => (hp c hc).2) hfr hlo) (fun P a hp => hp) (fun P a v B hp hq => ?_)
  obtain ⟨L, ⟨q1, q2, q3, q4, q5, q6, q7, ⟨kb, v1, v2⟩, q9⟩, hl, hc, hs⟩ := hq
  exact ⟨L, ⟨q1, fun y hy => by rw [q2 y hy]; exact hx0, q3, q5, q7, h.size, kb, hh0, Nat.le_refl _, Nat.ne_of_gt E.lt, q6, by rw [List.map_map]; exact v2⟩, hl, hc, hs⟩
end StrChars.Road
namespace StrChars
open Jvm Sem ClassFile Op Lib Jvm.Stand Jvm.Free.XT Jvm.Free.ALB Jvm.Free.JM Jvm.Free
open Jvm.Lib.Cold (StaticIs)
def hi8 (x : Int32) : Int32 := lo8 (x >>> ((8 : Int32) &&& 31))
/-- what StringUTF16.getChar makes of two bytes -/
def pairCh (u v : Int32) : Int32 := (((u &&& 255) <<< ((0 : Int32) &&& 31)) ||| ((v &&& 255) <<< ((8 : Int32) &&& 31))).toUInt32.toUInt16.toUInt32.toInt32
theorem lo8_and (x : Int32) : (lo8 x &&& 255).toBitVec.toNat = x.toBitVec.toNat % 256 := by
  have h : (lo8 x).toBitVec = (x.toBitVec.signExtend 8).signExtend 32 := by rw [lo8, Int8.toBitVec_toInt32, Int32.toBitVec_toInt8]
  rw [Int32.toBitVec_and, BitVec.toNat_and, h]
  have e : ((x.toBitVec.signExtend 8).signExtend 32).toNat % 256 = x.toBitVec.toNat % 256 := by
    rw [BitVec.toNat_signExtend]
    have hlt := x.toBitVec.isLt
    simp only [BitVec.toNat_setWidth, BitVec.toNat_signExtend]
    split <;> split <;> omega
  rw [← e]
  exact Nat.and_two_pow_sub_one_eq_mod _ 8
theorem pair_says {c : Int32} (h0 : ¬ c < 0) (h1 : ¬ 65535 < c) : pairCh (lo8 c) (hi8 c) = c := by
  rw [Int32.lt_iff_toInt_lt] at h0 h1
  have e0 : (0 : Int32).toInt = 0 := rfl
  have e1 : (65535 : Int32).toInt = 65535 := rfl
  have hc : c.toInt = c.toBitVec.toNat := by
    have := c.toBitVec.isLt
    have e : c.toInt = c.toBitVec.toInt := rfl
    rw [e] at h0 h1
    rw [e]
    rw [BitVec.toInt_eq_toNat_cond] at h0 h1 ⊢
    split at h0 <;> split <;> omega
  have hn : c.toBitVec.toNat < 65536 := by omega
  have a1 := lo8_and c
  have a2 : (hi8 c &&& 255).toBitVec.toNat = c.toBitVec.toNat / 256 := by
    rw [hi8, lo8_and]
    have e : ((8 : Int32) &&& 31) = 8 := by decide
    rw [e, Int32.toBitVec_shiftRight]
    have e2 : ((8 : Int32).toBitVec.smod 32) = 8#32 := by decide
    rw [e2, BitVec.sshiftRight_eq', BitVec.toNat_sshiftRight_of_msb_false (by rw [BitVec.msb_eq_false_iff_two_mul_lt]; omega)]
    show c.toBitVec.toNat >>> 8 % 256 = _
    rw [Nat.shiftRight_eq_div_pow]
    omega
  unfold pairCh
  apply Int32.toBitVec_inj.mp
  apply BitVec.eq_of_toNat_eq
  have f0 : ((0 : Int32) &&& 31) = 0 := by decide
  have f8 : ((8 : Int32) &&& 31) = 8 := by decide
  rw [f0, f8]
  have g : (((lo8 c &&& 255) <<< (0 : Int32)) ||| ((hi8 c &&& 255) <<< (8 : Int32))).toBitVec.toNat = c.toBitVec.toNat := by
    rw [Int32.toBitVec_or, Int32.toBitVec_shiftLeft, Int32.toBitVec_shiftLeft]
    have s0 : ((0 : Int32).toBitVec.smod 32) = 0#32 := by decide
    have s8 : ((8 : Int32).toBitVec.smod 32) = 8#32 := by decide
    rw [s0, s8, BitVec.toNat_or]
    simp only [BitVec.shiftLeft_eq', BitVec.toNat_shiftLeft, a1, a2]
    show (c.toBitVec.toNat % 256) <<< 0 % 2 ^ 32 ||| (c.toBitVec.toNat / 256) <<< 8 % 2 ^ 32 = _
    rw [Nat.shiftLeft_zero, Nat.mod_eq_of_lt (show c.toBitVec.toNat % 256 < 2 ^ 32 by omega), Nat.mod_eq_of_lt (show (c.toBitVec.toNat / 256) <<< 8 < 2 ^ 32 by rw [Nat.shiftLeft_eq]; omega), Nat.or_comm, ← Nat.shiftLeft_add_eq_or_of_lt (by omega), Nat.shiftLeft_eq]
    omega
  show BitVec.toNat (((((lo8 c &&& 255) <<< (0 : Int32)) ||| ((hi8 c &&& 255) <<< (8 : Int32))).toBitVec.setWidth 16).setWidth 32) = _
  rw [BitVec.toNat_setWidth, BitVec.toNat_setWidth, g]
  omega
end StrChars
namespace StrChars
open Jvm Sem ClassFile Op Lib Jvm.Stand Jvm.Free.XT Jvm.Free.ALB Jvm.Free.JM Jvm.Free
open Jvm.Lib.Cold (StaticIs)
/-- charAt's cast of a byte read back -/
def chr8 (u : Int32) : Int32 := (u &&& 255).toUInt32.toUInt16.toUInt32.toInt32
theorem chr8_lo8 {c : Int32} (h0 : ¬ c < 0) (h1 : ¬ 255 < c) : chr8 (lo8 c) = c := by
  have t : ∀ k : Fin 256, (Int32.ofNat k.val).toUInt32.toUInt16.toUInt32.toInt32 = Int32.ofNat k.val := by decide +kernel
  unfold chr8
  rw [lo8_mask h0 h1]
  rw [Int32.lt_iff_toInt_lt] at h0 h1
  have e0 : (0 : Int32).toInt = 0 := rfl
  have e1 : (255 : Int32).toInt = 255 := rfl
  obtain ⟨k, hk⟩ : ∃ k : Nat, c.toInt = k := ⟨c.toInt.toNat, by omega⟩
  have hx : c = Int32.ofNat k := Int32.toInt_inj.mp (by rw [hk, Int32.toInt_ofNat_small (by omega)])
  rw [hx]
  exact t ⟨k, by omega⟩
theorem narrow_ch {c : Int32} (h0 : ¬ c < 0) (h1 : ¬ 65535 < c) : narrow .char (.int c) = .int c := by
  have q : narrow .char (.int (pairCh (lo8 c) (hi8 c))) = .int (pairCh (lo8 c) (hi8 c)) := narrow_c _
  rwa [pair_says h0 h1] at q
/-- the array's cell V codes the n chars f 0 .. f (n - 1) by the coder cd, as the JDK does: coder 1 just where some char is above 255 -/
def Cod (cd : Int32) (n : Nat) (f : Nat → Int32) (V : Cell) : Prop := (cd = 0 ∧ V.slots.size = n ∧ ∀ j, j < n → V.slots[j]? = some (.int (lo8 (f j))) ∧ ¬ 255 < f j) ∨ (cd = 1 ∧ V.slots.size = 2 * n ∧ (∀ j, j < n → V.slots[2 * j]? = some (.int (lo8 (f j))) ∧ V.slots[2 * j + 1]? = some (.int (hi8 (f j)))) ∧ ∃ j, j < n ∧ 255 < f j)
theorem Cod.cd {cd : Int32} {n : Nat} {f : Nat → Int32} {V : Cell} (h : Cod cd n f V) : cd = 0 ∨ cd = 1 := h.imp (fun q => q.1) fun q => q.1
/-- **x is a String of the n chars f 0 .. f (n - 1)**, Latin-1 or UTF-16; its array at t has the cell V -/
def Txt (x t : Addr) (V : Cell) (cd : Int32) (n : Nat) (f : Nat → Int32) (U : State) : Prop := Exact "java/lang/String" x U ∧ Has x "java/lang/String" "value" "[B" (.ref t) U ∧ Has x "java/lang/String" "coder" "B" (.int cd) U ∧ XT.Arr .byte t V U ∧ Cod cd n f V ∧ ∀ j, j < n → ¬ f j < 0 ∧ ¬ 65535 < f j
theorem Txt.mv {x t : Addr} {V : Cell} {cd : Int32} {n : Nat} {f : Nat → Int32} {U U' : State} (h : Txt x t V cd n f U) (hal : U.vm.Alike U'.vm) (hh : U'.heap = U.heap) : Txt x t V cd n f U' := ⟨h.1.mv hal hh, h.2.1.mv hal hh, h.2.2.1.mv hal hh, h.2.2.2.1.mv hal hh, h.2.2.2.2⟩
namespace IsL
def yN : MethodName := ⟨"java/lang/String", "isLatin1", "()Z"⟩
abbrev yB : ByteArray := jdk_42_method_154_code
theorem d0 : decode yB 0 = .ok (.getstatic 38, 3) := by decide +kernel
theorem d3 : decode yB 3 = .ok (.ifCond (.eq) 14, 3) := by decide +kernel
theorem d6 : decode yB 6 = .ok (.aload_n 0, 1) := by decide +kernel
theorem d7 : decode yB 7 = .ok (.getfield 15, 3) := by decide +kernel
theorem d10 : decode yB 10 = .ok (.ifCond (.ne) 7, 3) := by decide +kernel
theorem d13 : decode yB 13 = .ok (.iconst 1, 1) := by decide +kernel
theorem d14 : decode yB 14 = .ok (.goto 4, 3) := by decide +kernel
theorem d17 : decode yB 17 = .ok (.iconst 0, 1) := by decide +kernel
theorem d18 : decode yB 18 = .ok (.ireturn, 1) := by decide +kernel
def site : List Cond := [.fieldLink "java/lang/String" 38 "java/lang/String" "COMPACT_STRINGS" "Z", .fieldLink "java/lang/String" 15 "java/lang/String" "coder" "B"]
def tab : Cond := tabOf yN yB 1 (some .boolean) site
def P (x : Addr) (cd z : Int32) (args : Array Value) (s : State) : Prop := args = #[.ref x] ∧ Has x "java/lang/String" "coder" "B" (.int cd) s ∧ (cd = 0 ∨ cd = 1) ∧ StaticIs s "java/lang/String" "COMPACT_STRINGS" "Z" (.int z) ∧ ¬ z = 0
def E (cd : Int32) (r : Option Value) (s u : State) : Prop := XT.PureE (some (.int (1 - cd))) r s u
theorem law (l : Launch) (x : Addr) (cd z : Int32) : Law l yN 1 0 0 0 yB 1 (some .boolean) site (P x cd z) (E cd) [] 0 0 := by
  refine Law.of_walk (plainFor_of_name (by decide +kernel)) (by decide +kernel) (by decide +kernel) (by decide) (fun _ _ h => by rw [h.1]; rfl) (fun _ U U' hal hh h => ⟨h.1, h.2.1.mv hal hh, h.2.2.1, h.2.2.2.1.there hal hh, h.2.2.2.2⟩) (fun r U U' V V' h1 hal h2 h => XT.PureE.mv r U U' V V' h1 hal h2 h) ?_
  intro p e s m args below meth c s₁ X0 hexec hbytes hml hret hlk hnm hown hh0 W hP
  obtain ⟨rfl, hx, hc, s1, hz⟩ := hP
  have c1 : Steps p.tables e below (s₁.setTop (entryFrame m #[.ref x] 1)) (s₁.setTop (mkF m 0 #[.val (.ref x)] [])) := entry rfl
  obtain ⟨T2, X2, q2, st2⟩ := X0.sget hexec hown (wk W (.fieldLink "java/lang/String" 38 "java/lang/String" "COMPACT_STRINGS" "Z")) s1 (fun _ _ h => by rw [hh0]; exact h) (g := (mkF m 0 #[.val (.ref x)] [])) rfl (hb hbytes d0)
  have hh2 := q2.trans hh0
  have c3 : Steps p.tables e below (s₁.setTop (entryFrame m #[.ref x] 1)) (T2.setTop (mkF m 7 #[.val (.ref x)] [.ref x])) := (c1.trans (st2 _ (Steps.refl _))).trans (by
    refine XS.ifNo X2.here hexec rfl (hb hbytes d3) rfl (i0_eq_f hz) ?_
    refine XS.aloadN X2.here hexec rfl (hb hbytes d6) rfl rfl ?_
    exact Steps.refl _)
  obtain ⟨T4, X4, q4, st4⟩ := X2.hget hexec hown (wk W (.fieldLink "java/lang/String" 15 "java/lang/String" "coder" "B")) (hx.mv X2.warmed.alike hh2) (g := (mkF m 7 #[.val (.ref x)] [.ref x])) rfl (rest := []) rfl (hb hbytes d7)
  have c5 : Steps p.tables e below (s₁.setTop (entryFrame m #[.ref x] 1)) (T4.setTop (mkF m 10 #[.val (.ref x)] [.int cd])) := c3.trans (st4 _ (Steps.refl _))
  have c6 : Steps p.tables e below (s₁.setTop (entryFrame m #[.ref x] 1)) (T4.setTop (mkF m 18 #[.val (.ref x)] [.int (1 - cd)])) := by
    rcases hc with rfl | rfl
    · exact c5.trans (by
        refine XS.ifNo X4.here hexec rfl (hb hbytes d10) rfl (i0_ne_f rfl) ?_
        refine iconstV X4.here hexec rfl 1 (hb hbytes d13) (by decide) ?_
        refine XS.goto X4.here hexec rfl (pc0 := 14) rfl (hb hbytes d14) (by decide) rfl ?_
        exact Steps.refl _)
    · exact c5.trans (by
        refine XS.ifYes X4.here hexec rfl (pc0 := 10) rfl (hb hbytes d10) rfl (i0_ne_t (by decide)) (by decide) rfl ?_
        refine iconstV X4.here hexec rfl 0 (hb hbytes d17) (by decide) ?_
        exact Steps.refl _)
  exact ⟨T4, some (.int (1 - cd)), _, _, _, X4, rfl, rfl, rfl, (fun h => by cases h), ⟨rfl, q4.trans hh2⟩, fun fs hl => c6.trans (X4.ireturnOut hexec hret (by rcases hc with rfl | rfl <;> rfl) (Or.inr (Or.inl rfl)) (hb hbytes d18) hl)⟩
end IsL
namespace LChA
def yN : MethodName := ⟨"java/lang/StringLatin1", "charAt", "([BI)C"⟩
abbrev yB : ByteArray := jdk_43_method_2_code
theorem d0 : decode yB 0 = .ok (.iload_n 1, 1) := by decide +kernel
theorem d1 : decode yB 1 = .ok (.aload_n 0, 1) := by decide +kernel
theorem d2 : decode yB 2 = .ok (.arraylength, 1) := by decide +kernel
theorem d3 : decode yB 3 = .ok (.invokestatic 9, 3) := by decide +kernel
theorem d6 : decode yB 6 = .ok (.aload_n 0, 1) := by decide +kernel
theorem d7 : decode yB 7 = .ok (.iload_n 1, 1) := by decide +kernel
theorem d8 : decode yB 8 = .ok (.baload, 1) := by decide +kernel
theorem d9 : decode yB 9 = .ok (.sipush 255, 3) := by decide +kernel
theorem d12 : decode yB 12 = .ok (.iand, 1) := by decide +kernel
theorem d13 : decode yB 13 = .ok (.i2c, 1) := by decide +kernel
theorem d14 : decode yB 14 = .ok (.ireturn, 1) := by decide +kernel
def site : List Cond := [JO.Str_checkIndex.tab] ++ staticW "java/lang/StringLatin1" 9 JO.Str_checkIndex.yN
def tab : Cond := tabOf yN yB 2 (some .char) site
def P (t : Addr) (V : Cell) (i : Nat) (u : Int32) (fm : Value) (args : Array Value) (s : State) : Prop := args = #[.ref t, .int (Int32.ofNat i)] ∧ XT.Arr .byte t V s ∧ V.slots[i]? = some (.int u) ∧ (StaticIs s "jdk/internal/util/Preconditions" "SIOOBE_FORMATTER" "Ljava/util/function/BiFunction;" fm ∧ fm.isRef = true)
def E (u : Int32) (r : Option Value) (s w : State) : Prop := XT.PureE (some (.int (chr8 u))) r s w
theorem law (l : Launch) (t : Addr) (V : Cell) (i : Nat) (u : Int32) (fm : Value) : Law l yN 2 2 2 27 yB 2 (some .char) site (P t V i u fm) (E u) [] 0 0 := by
  refine Law.of_walk (plainFor_of_name (by decide +kernel)) (by decide +kernel) (by decide +kernel) (by decide) (fun _ _ h => by rw [h.1]; rfl) (fun _ U U' hal hh h => ⟨h.1, h.2.1.mv hal hh, h.2.2.1, h.2.2.2.1.there hal hh, h.2.2.2.2⟩) (fun r U U' V V' h1 hal h2 h => XT.PureE.mv r U U' V V' h1 hal h2 h) ?_
  intro p e s m args below meth c s₁ X0 hexec hbytes hml hret hlk hnm hown hh0 W hP
  obtain ⟨rfl, hV, hu, s1, rf⟩ := hP
  have v31 := hV.2.2.2
  have hi : i < V.slots.size := (Array.getElem?_eq_some_iff.mp hu).1
  have c1 : Steps p.tables e below (s₁.setTop (entryFrame m #[.ref t, .int (Int32.ofNat i)] 2)) (s₁.setTop (mkF m 0 #[.val (.ref t), .val (.int (Int32.ofNat i))] [])) := entry rfl
  have c2 : Steps p.tables e below (s₁.setTop (entryFrame m #[.ref t, .int (Int32.ofNat i)] 2)) (s₁.setTop (mkF m 3 #[.val (.ref t), .val (.int (Int32.ofNat i))] [.int (Int32.ofNat V.slots.size), .int (Int32.ofNat i)])) := c1.trans (by
    refine XS.iloadN X0.here hexec rfl (hb hbytes d0) rfl ?_
    refine XS.aloadN X0.here hexec rfl (hb hbytes d1) rfl rfl ?_
    refine X0.alen hexec (hV.mv X0.warmed.alike hh0) rfl rfl (hb hbytes d2) ?_
    exact Steps.refl _)
  obtain ⟨v3, T3, X3, E3, g3⟩ := X0.callS hexec (JO.Str_checkIndex.law l (Int32.ofNat i) (Int32.ofNat V.slots.size) fm) hown (wks W (staticW "java/lang/StringLatin1" 9 JO.Str_checkIndex.yN)) (wk W JO.Str_checkIndex.tab) (W := 0) (Nat.le_of_ble_eq_true rfl) (Nat.le_of_ble_eq_true rfl) (Nat.le_refl _) (Nat.le_refl _) (g := (mkF m 3 #[.val (.ref t), .val (.int (Int32.ofNat i))] [.int (Int32.ofNat V.slots.size), .int (Int32.ofNat i)])) rfl (by rw [hml]; rfl) c2 (argsL := [.int (Int32.ofNat i), .int (Int32.ofNat V.slots.size)]) (rest := []) rfl rfl (by show 2 * 0 + 0 ≤ _; decide) (hb hbytes d3) (⟨rfl, rf, s1.there X0.warmed.alike hh0, Int32.ofNat_not_neg (by omega), lt32 v31 hi⟩)
  obtain ⟨rfl, q3⟩ := E3
  have hh3 := q3.trans hh0
  have c4 : Steps p.tables e below (s₁.setTop (entryFrame m #[.ref t, .int (Int32.ofNat i)] 2)) (T3.setTop (mkF m 14 #[.val (.ref t), .val (.int (Int32.ofNat i))] [.int (chr8 u)])) := Steps.trans g3 (by
    refine XS.aloadN X3.here hexec rfl (hb hbytes d6) rfl rfl ?_
    refine XS.iloadN X3.here hexec rfl (hb hbytes d7) rfl ?_
    refine X3.aget hexec (hV.mv X3.warmed.alike hh3) rfl hu rfl rfl (hb hbytes d8) ?_
    refine sipushV X3.here hexec rfl 255 (hb hbytes d9) (by decide) ?_
    refine XS.iand X3.here hexec rfl (hb hbytes d12) rfl ?_
    refine i2c X3.here hexec rfl (hb hbytes d13) rfl ?_
    exact Steps.refl _)
  exact ⟨T3, some (.int (chr8 u)), _, _, _, X3, rfl, rfl, rfl, (fun h => by cases h), ⟨rfl, hh3⟩, fun fs hl => c4.trans (X3.ireturnOut hexec hret (narrow_c _) (Or.inr (Or.inr (Or.inr (Or.inl rfl)))) (hb hbytes d14) hl)⟩
end LChA
end StrChars
namespace StrChars.Road
open Jvm Sem ClassFile Op Lib Jvm.Stand Jvm.Free Jvm.Free.XT
open Jvm.Lib.Cold (StaticIs)
theorem consq {a : Array Value} {s : State} {c : Jvm.Cond} {L : List Jvm.Cond} (h0 : c.before a s = true) (h : ∀ w ∈ L, w.before a s = true) : ∀ w ∈ c :: L, w.before a s = true := fun w hw => (List.mem_cons.mp hw).elim (fun e => e ▸ h0) (h w)
/-- the bytes of the chars cs, low before high -/
def wideBytes : List Int32 → List Value
  | [] => []
  | c :: cs => .int (lo8 c) :: .int (hi8 c) :: wideBytes cs
theorem wide_lo (d : Value) : ∀ (cs : List Int32) (j : Nat), j < cs.length → (wideBytes cs).getD (2 * j) d = .int (lo8 (cs.getD j 0))
  | [], j, h => absurd h (Nat.not_lt_zero j)
  | c :: cs, 0, _ => rfl
  | c :: cs, j + 1, h => by
    have q := wide_lo d cs j (by simpa using h)
    rw [show 2 * (j + 1) = 2 * j + 1 + 1 from by omega]
    simpa [wideBytes] using q
theorem wide_hi (d : Value) : ∀ (cs : List Int32) (j : Nat), j < cs.length → (wideBytes cs).getD (2 * j + 1) d = .int (hi8 (cs.getD j 0))
  | [], j, h => absurd h (Nat.not_lt_zero j)
  | c :: cs, 0, _ => rfl
  | c :: cs, j + 1, h => by
    have q := wide_hi d cs j (by simpa using h)
    rw [show 2 * (j + 1) + 1 = 2 * j + 1 + 1 + 1 from by omega]
    simpa [wideBytes] using q
theorem low_at (d : Value) (cs : List Int32) (j : Nat) (h : j < cs.length) : (cs.map fun c => Value.int (lo8 c)).getD j d = .int (lo8 (cs.getD j 0)) := by
  simp [List.getD_eq_getElem?_getD, h]
/-- an array of N2 bytes vs codes the chars cs by the coder cd -/
def CodA (cs : List Int32) (cd N2 : Int32) (vs : List Value) : Prop := (cd = 0 ∧ N2 = Int32.ofNat cs.length ∧ vs = (cs.map fun c => Value.int (lo8 c)) ∧ ∀ c ∈ cs, ¬ 255 < c) ∨ (cd = 1 ∧ N2 = Int32.ofNat (2 * cs.length) ∧ vs = wideBytes cs ∧ ∃ c ∈ cs, 255 < c)
theorem CodA.cod {cs : List Int32} {cd N2 : Int32} {vs : List Value} {V : Cell} (h : CodA cs cd N2 vs) (hn : 2 * cs.length < 2 ^ 31) (hs : V.slots.size = N2.toNatClampNeg) (hv : RoadKit.Has V vs (.int 0)) : Cod cd cs.length (fun j => cs.getD j 0) V := by
  rcases h with ⟨rfl, rfl, rfl, h⟩ | ⟨rfl, rfl, rfl, c, hc, hw⟩
  · rw [n32 (by omega)] at hs
    exact Or.inl ⟨rfl, hs, fun j hj => ⟨by rw [hv j (by omega), low_at _ _ _ hj], by
      have e : cs.getD j 0 = cs[j] := by simp [List.getD_eq_getElem?_getD, hj]
      show ¬ 255 < cs.getD j 0
      rw [e]; exact h _ (List.getElem_mem _)⟩⟩
  · rw [n32 (by omega)] at hs
    obtain ⟨j, hj, rfl⟩ := List.getElem_of_mem hc
    exact Or.inr ⟨rfl, hs, fun j hj => ⟨by rw [hv _ (by omega), wide_lo _ _ _ hj], by rw [hv _ (by omega), wide_hi _ _ _ hj]⟩, j, hj, by
      have e : cs.getD j 0 = cs[j] := by simp [List.getD_eq_getElem?_getD, hj]
      show 255 < cs.getD j 0
      rw [e]; exact hw⟩
/-- an object of exactly java/lang/String, its two fields found: as the laws ask it -/
theorem strObj {Z U : State} {a0 : Array Value} {kI : Nat} (wi : (Jvm.Cond.instantiable ST kI).before a0 Z = true) (al : Z.vm.Alike U.vm) {x : Addr} {v0 c0 : Value} (E : RoadKit.Exa Z U.heap x ST) (V : RoadKit.Fld Z U.heap x ST "value" "[B" v0) (C : RoadKit.Fld Z U.heap x ST "coder" "B" c0) :
    ∃ (D : Cell) (fV fC : Field), Blank ST x D U ∧ Found ST "value" "[B" fV U ∧ Found ST "coder" "B" fC U ∧ D.slots[fV.slot]? = some v0 ∧ D.slots[fC.slot]? = some c0 ∧ RoadKit.slotOf Z ST "value" "[B" = fV.slot ∧ RoadKit.slotOf Z ST "coder" "B" = fC.slot := by
  obtain ⟨D, cfV, kV, iV, fV, hD, gV, stV, knV, obV, asV, slV⟩ := V
  obtain ⟨D', cfC, kC, iC, fC, hD', gC, stC, -, -, asC, slC⟩ := C
  cases hD.symm.trans hD'
  obtain ⟨D2, kD, e1, e2, e3, e4, e5⟩ := E
  cases hD.symm.trans e1
  obtain ⟨c2, k2, i1, i2, i3, -⟩ := Cond.instantiable_spec wi
  cases e2.symm.trans i1
  cases e3.symm.trans i2
  obtain ⟨kU, u1, u2⟩ := al.2.2 _ _ e3
  exact ⟨D, fV, fC, ⟨hD, ⟨knV, fun q hq => by rw [hq] at obV; cases obV⟩, by rw [al.findClass]; exact e2, kU, u1, by rw [u2]; exact i3, by rw [u2]; exact e5 i3⟩, ⟨SBG.found_only al ⟨cfV, kV, iV, gV⟩, stV⟩, ⟨SBG.found_only al ⟨cfC, kC, iC, gC⟩, stC⟩, slV, slC, by simp [RoadKit.slotOf, gV], by simp [RoadKit.slotOf, gC]⟩
theorem sta_is {Z U : State} (al : Z.vm.Alike U.vm) {C n d : String} {v : Value} (S : RoadKit.Sta Z U.heap C n d v) : StaticIs U C n d v := by
  obtain ⟨cfS, iS, kS, fS, st, cS, t1, t2, t3, t4, t5, t6, t7⟩ := S
  exact StaticIs.there (s := { Z with heap := U.heap }) ⟨cfS, iS, kS, fS, st, cS, t1, t2, t3, t4, t5, (fun q => by rw [q] at t6; cases t6), t7⟩ al rfl
end StrChars.Road
namespace StrChars
open Jvm Sem ClassFile Op Lib Jvm.Stand Jvm.Free.XT Jvm.Free.ALB Jvm.Free.JM Jvm.Free
open Jvm.Lib.Cold (StaticIs)
/-- what place i of a byte[]'s cell holds -/
def yv (A : Cell) (i : Nat) : Int32 := match A.slots[i]? with | some (.int x) => x | _ => 0
theorem yv_get {a : Addr} {A : Cell} {U : State} (h : XT.Arr .byte a A U) (ht : Typed .byte A) {i : Nat} (hi : i < A.slots.size) : A.slots[i]? = some (.int (yv A i)) := by
  have e := Array.getElem?_eq_getElem hi
  have f := ht i _ e
  unfold yv; rw [e]
  generalize A.slots[i] = v at f
  cases v <;> simp [fits] at f ⊢
/-- the two arrays are equal, place for place -/
def EqC (A B : Cell) : Prop := A.slots.size = B.slots.size ∧ ∀ i, i < A.slots.size → yv A i = yv B i
/-- a boolean that says whether p -/
def Says01 (q : Prop) (r : Option Value) (s u : State) : Prop := ∃ v : Int32, r = some (.int v) ∧ u.heap = s.heap ∧ ((v = 1 ∧ q) ∨ (v = 0 ∧ ¬ q))
theorem Says01.mv {q : Prop} : ∀ r (U U' V V' : State), U'.heap = U.heap → V.vm.Alike V'.vm → V'.heap = V.heap → Says01 q r U V → Says01 q r U' V' :=
  fun r U U' V V' h1 _ h2 ⟨v, a, b, c⟩ => ⟨v, a, by rw [h1, h2]; exact b, c⟩
namespace LEq
def yN : MethodName := ⟨"java/lang/StringLatin1", "equals", "([B[B)Z"⟩
abbrev yB : ByteArray := jdk_43_method_13_code
theorem d0 : decode yB 0 = .ok (.aload_n 0, 1) := by decide +kernel
theorem d1 : decode yB 1 = .ok (.arraylength, 1) := by decide +kernel
theorem d2 : decode yB 2 = .ok (.aload_n 1, 1) := by decide +kernel
theorem d3 : decode yB 3 = .ok (.arraylength, 1) := by decide +kernel
theorem d4 : decode yB 4 = .ok (.if_icmp (.ne) 30, 3) := by decide +kernel
theorem d7 : decode yB 7 = .ok (.iconst 0, 1) := by decide +kernel
theorem d8 : decode yB 8 = .ok (.istore_n 2, 1) := by decide +kernel
theorem d9 : decode yB 9 = .ok (.iload_n 2, 1) := by decide +kernel
theorem d10 : decode yB 10 = .ok (.aload_n 0, 1) := by decide +kernel
theorem d11 : decode yB 11 = .ok (.arraylength, 1) := by decide +kernel
theorem d12 : decode yB 12 = .ok (.if_icmp (.ge) 20, 3) := by decide +kernel
theorem d15 : decode yB 15 = .ok (.aload_n 0, 1) := by decide +kernel
theorem d16 : decode yB 16 = .ok (.iload_n 2, 1) := by decide +kernel
theorem d17 : decode yB 17 = .ok (.baload, 1) := by decide +kernel
theorem d18 : decode yB 18 = .ok (.aload_n 1, 1) := by decide +kernel
theorem d19 : decode yB 19 = .ok (.iload_n 2, 1) := by decide +kernel
theorem d20 : decode yB 20 = .ok (.baload, 1) := by decide +kernel
theorem d21 : decode yB 21 = .ok (.if_icmp (.eq) 5, 3) := by decide +kernel
theorem d24 : decode yB 24 = .ok (.iconst 0, 1) := by decide +kernel
theorem d25 : decode yB 25 = .ok (.ireturn, 1) := by decide +kernel
theorem d26 : decode yB 26 = .ok (.iinc 2 1, 3) := by decide +kernel
theorem d29 : decode yB 29 = .ok (.goto (-20), 3) := by decide +kernel
theorem d32 : decode yB 32 = .ok (.iconst 1, 1) := by decide +kernel
theorem d33 : decode yB 33 = .ok (.ireturn, 1) := by decide +kernel
theorem d34 : decode yB 34 = .ok (.iconst 0, 1) := by decide +kernel
theorem d35 : decode yB 35 = .ok (.ireturn, 1) := by decide +kernel
def site : List Cond := []
def tab : Cond := tabOf yN yB 3 (some .boolean) site
def P (a : Addr) (A : Cell) (b : Addr) (B : Cell) (args : Array Value) (s : State) : Prop := args = #[.ref a, .ref b] ∧ XT.Arr .byte a A s ∧ Typed .byte A ∧ XT.Arr .byte b B s ∧ Typed .byte B
/-- whether two byte[] are equal, place for place -/
theorem law (l : Launch) (a : Addr) (A : Cell) (b : Addr) (B : Cell) : Law l yN 2 2 0 0 yB 3 (some .boolean) site (P a A b B) (Says01 (EqC A B)) [] 0 0 := by
  refine Law.of_walk (plainFor_of_name (by decide +kernel)) (by decide +kernel) (by decide +kernel) (by decide) (fun _ _ h => by rw [h.1]; rfl) (fun _ U U' hal hh h => ⟨h.1, h.2.1.mv hal hh, h.2.2.1, h.2.2.2.1.mv hal hh, h.2.2.2.2⟩) (fun r U U' V V' h1 hal h2 h => Says01.mv r U U' V V' h1 hal h2 h) ?_
  intro p e s m args below meth c s₁ X0 hexec hbytes hml hret hlk hnm hown hh0 W hP
  obtain ⟨rfl, hA, tA, hB, tB⟩ := hP
  have a31 := hA.2.2.2
  have b31 := hB.2.2.2
  have hA0 := hA.mv X0.warmed.alike hh0
  have hB0 := hB.mv X0.warmed.alike hh0
  have c1 : Steps p.tables e below (s₁.setTop (entryFrame m #[.ref a, .ref b] 3)) (s₁.setTop (mkF m 0 #[.val (.ref a), .val (.ref b), .unset] [])) := entry rfl
  have c2 : Steps p.tables e below (s₁.setTop (entryFrame m #[.ref a, .ref b] 3)) (s₁.setTop (mkF m 4 #[.val (.ref a), .val (.ref b), .unset] [.int (Int32.ofNat B.slots.size), .int (Int32.ofNat A.slots.size)])) := c1.trans (by
    refine XS.aloadN X0.here hexec rfl (hb hbytes d0) rfl rfl ?_
    refine X0.alen hexec hA0 rfl rfl (hb hbytes d1) ?_
    refine XS.aloadN X0.here hexec rfl (hb hbytes d2) rfl rfl ?_
    refine X0.alen hexec hB0 rfl rfl (hb hbytes d3) ?_
    exact Steps.refl _)
  by_cases hs : A.slots.size = B.slots.size
  · have c3 : Steps p.tables e below (s₁.setTop (entryFrame m #[.ref a, .ref b] 3)) (s₁.setTop (mkF m 9 #[.val (.ref a), .val (.ref b), .val (.int 0)] [])) := c2.trans (by
      refine XS.icmpNo X0.here hexec rfl (hb hbytes d4) rfl (ii_ne_f (by rw [hs])) ?_
      refine iconstV X0.here hexec rfl 0 (hb hbytes d7) (by decide) ?_
      refine XS.istoreN X0.here hexec rfl (hb hbytes d8) rfl rfl ?_
      exact Steps.refl _)
    have loop : ∀ (r i : Nat), i + r = A.slots.size → (∀ j, j < i → yv A j = yv B j) → Steps p.tables e below (s₁.setTop (entryFrame m #[.ref a, .ref b] 3)) (s₁.setTop (mkF m 9 #[.val (.ref a), .val (.ref b), .val (.int (Int32.ofNat i))] [])) → ∃ (pc : Nat) (Ls : Array Slot) (v : Int32), (pc = 25 ∨ pc = 33) ∧ ((v = 1 ∧ EqC A B) ∨ (v = 0 ∧ ¬ EqC A B)) ∧ Steps p.tables e below (s₁.setTop (entryFrame m #[.ref a, .ref b] 3)) (s₁.setTop (mkF m pc Ls [.int v])) := by
      intro r
      induction r with
      | zero =>
        intro i hi he cl
        exact ⟨33, _, 1, Or.inr rfl, Or.inl ⟨rfl, hs, fun j hj => he j (by omega)⟩, cl.trans (by
          refine XS.iloadN X0.here hexec rfl (hb hbytes d9) rfl ?_
          refine XS.aloadN X0.here hexec rfl (hb hbytes d10) rfl rfl ?_
          refine X0.alen hexec hA0 rfl rfl (hb hbytes d11) ?_
          refine XS.icmpYes X0.here hexec rfl (pc0 := 12) rfl (hb hbytes d12) rfl (ii_ge_t (nlt32 (by omega) (by omega))) (by decide) rfl ?_
          refine iconstV X0.here hexec rfl 1 (hb hbytes d32) (by decide) ?_
          exact Steps.refl _)⟩
      | succ r ih =>
        intro i hi he cl
        have c4 : Steps p.tables e below (s₁.setTop (entryFrame m #[.ref a, .ref b] 3)) (s₁.setTop (mkF m 21 #[.val (.ref a), .val (.ref b), .val (.int (Int32.ofNat i))] [.int (yv B i), .int (yv A i)])) := cl.trans (by
          refine XS.iloadN X0.here hexec rfl (hb hbytes d9) rfl ?_
          refine XS.aloadN X0.here hexec rfl (hb hbytes d10) rfl rfl ?_
          refine X0.alen hexec hA0 rfl rfl (hb hbytes d11) ?_
          refine XS.icmpNo X0.here hexec rfl (hb hbytes d12) rfl (ii_ge_f (lt32 (by omega) (by omega))) ?_
          refine XS.aloadN X0.here hexec rfl (hb hbytes d15) rfl rfl ?_
          refine XS.iloadN X0.here hexec rfl (hb hbytes d16) rfl ?_
          refine X0.aget hexec hA0 rfl (yv_get hA tA (i := i) (by omega)) rfl rfl (hb hbytes d17) ?_
          refine XS.aloadN X0.here hexec rfl (hb hbytes d18) rfl rfl ?_
          refine XS.iloadN X0.here hexec rfl (hb hbytes d19) rfl ?_
          refine X0.aget hexec hB0 rfl (yv_get hB tB (i := i) (by omega)) rfl rfl (hb hbytes d20) ?_
          exact Steps.refl _)
        by_cases hv : yv A i = yv B i
        · have c5 : Steps p.tables e below (s₁.setTop (entryFrame m #[.ref a, .ref b] 3)) (s₁.setTop (mkF m 9 #[.val (.ref a), .val (.ref b), .val (.int (Int32.ofNat i + 1))] [])) := c4.trans (by
            refine XS.icmpYes X0.here hexec rfl (pc0 := 21) rfl (hb hbytes d21) rfl (ii_eq_t hv) (by decide) rfl ?_
            refine iincV X0.here hexec rfl 1 (hb hbytes d26) (by decide) rfl rfl ?_
            refine XS.goto X0.here hexec rfl (pc0 := 29) rfl (hb hbytes d29) (by decide) rfl ?_
            exact Steps.refl _)
          rw [succ32] at c5
          exact ih (i + 1) (by omega) (fun j hj => by
            by_cases e : j = i
            · rw [e]; exact hv
            · exact he j (by omega)) c5
        · exact ⟨25, _, 0, Or.inl rfl, Or.inr ⟨rfl, fun q => hv (q.2 i (by omega))⟩, c4.trans (by
            refine XS.icmpNo X0.here hexec rfl (hb hbytes d21) rfl (ii_eq_f hv) ?_
            refine iconstV X0.here hexec rfl 0 (hb hbytes d24) (by decide) ?_
            exact Steps.refl _)⟩
    obtain ⟨pc, Ls, v, hpc, hv, cz⟩ := loop A.slots.size 0 (by omega) (fun j hj => absurd hj (Nat.not_lt_zero j)) c3
    have nv : narrow .boolean (.int v) = .int v := by rcases hv with ⟨rfl, -⟩ | ⟨rfl, -⟩ <;> rfl
    rcases hpc with rfl | rfl
    · exact ⟨s₁, some (.int v), _, _, _, X0, rfl, rfl, rfl, (fun h => by cases h), ⟨v, rfl, hh0, hv⟩, fun fs hl => cz.trans (X0.ireturnOut hexec hret nv (Or.inr (Or.inl rfl)) (hb hbytes d25) hl)⟩
    · exact ⟨s₁, some (.int v), _, _, _, X0, rfl, rfl, rfl, (fun h => by cases h), ⟨v, rfl, hh0, hv⟩, fun fs hl => cz.trans (X0.ireturnOut hexec hret nv (Or.inr (Or.inl rfl)) (hb hbytes d33) hl)⟩
  · have c3 : Steps p.tables e below (s₁.setTop (entryFrame m #[.ref a, .ref b] 3)) (s₁.setTop (mkF m 35 #[.val (.ref a), .val (.ref b), .unset] [.int 0])) := c2.trans (by
      refine XS.icmpYes X0.here hexec rfl (pc0 := 4) rfl (hb hbytes d4) rfl (ii_ne_t (ne32 a31 b31 hs)) (by decide) rfl ?_
      refine iconstV X0.here hexec rfl 0 (hb hbytes d34) (by decide) ?_
      exact Steps.refl _)
    exact ⟨s₁, some (.int 0), _, _, _, X0, rfl, rfl, rfl, (fun h => by cases h), ⟨0, rfl, hh0, Or.inr ⟨rfl, fun q => hs q.1⟩⟩, fun fs hl => c3.trans (X0.ireturnOut hexec hret rfl (Or.inr (Or.inl rfl)) (hb hbytes d35) hl)⟩
end LEq
theorem Cod.ty {cd : Int32} {n : Nat} {f : Nat → Int32} {V : Cell} (h : Cod cd n f V) : Typed .byte V := fun i v hv => by
  have hi : i < V.slots.size := (Array.getElem?_eq_some_iff.mp hv).1
  rcases h with ⟨-, k1, k2⟩ | ⟨-, k1, k2, -⟩
  · rw [(k2 i (by omega)).1] at hv; cases hv; exact fits_lo8 _
  · rcases Nat.mod_two_eq_zero_or_one i with e | e
    · obtain ⟨j, rfl⟩ : ∃ j, i = 2 * j := ⟨i / 2, by omega⟩
      rw [(k2 j (by omega)).1] at hv; cases hv; exact fits_lo8 _
    · obtain ⟨j, rfl⟩ : ∃ j, i = 2 * j + 1 := ⟨i / 2, by omega⟩
      rw [(k2 j (by omega)).2] at hv; cases hv; exact fits_lo8 _
/-- the same text -/
def SameT (n : Nat) (f : Nat → Int32) (k : Nat) (g : Nat → Int32) : Prop := n = k ∧ ∀ j, j < n → f j = g j
theorem lo8_inj {x y : Int32} (h0 : ¬ x < 0) (h1 : ¬ 255 < x) (k0 : ¬ y < 0) (k1 : ¬ 255 < y) (h : lo8 x = lo8 y) : x = y := by
  rw [← lo8_mask h0 h1, ← lo8_mask k0 k1, h]
/-- arrays coded by one coder are equal just where the texts are -/
theorem Cod.eqv {cd : Int32} {n k : Nat} {f g : Nat → Int32} {V V' : Cell} (h : Cod cd n f V) (h' : Cod cd k g V') (hf : ∀ j, j < n → ¬ f j < 0 ∧ ¬ 65535 < f j) (hg : ∀ j, j < k → ¬ g j < 0 ∧ ¬ 65535 < g j) : EqC V V' ↔ SameT n f k g := by
  have yvv : ∀ {W : Cell} {i : Nat} {x : Int32}, W.slots[i]? = some (.int x) → yv W i = x := fun q => by unfold yv; rw [q]
  rcases h with ⟨rfl, k1, k2⟩ | ⟨rfl, k1, k2, -⟩
  · rcases h' with ⟨-, m1, m2⟩ | ⟨e, -⟩
    · constructor
      · rintro ⟨e1, e2⟩
        refine ⟨by omega, fun j hj => ?_⟩
        have q := e2 j (by omega)
        rw [yvv (k2 j hj).1, yvv (m2 j (by omega)).1] at q
        exact lo8_inj (hf j hj).1 (k2 j hj).2 (hg j (by omega)).1 (m2 j (by omega)).2 q
      · rintro ⟨rfl, e2⟩
        refine ⟨by omega, fun j hj => ?_⟩
        rw [yvv (k2 j (by omega)).1, yvv (m2 j (by omega)).1, e2 j (by omega)]
    · exact absurd e (by decide)
  · rcases h' with ⟨e, -⟩ | ⟨-, m1, m2, -⟩
    · exact absurd e (by decide)
    · constructor
      · rintro ⟨e1, e2⟩
        refine ⟨by omega, fun j hj => ?_⟩
        have q1 := e2 (2 * j) (by omega)
        have q2 := e2 (2 * j + 1) (by omega)
        rw [yvv (k2 j hj).1, yvv (m2 j (by omega)).1] at q1
        rw [yvv (k2 j hj).2, yvv (m2 j (by omega)).2] at q2
        rw [← pair_says (hf j hj).1 (hf j hj).2, ← pair_says (hg j (by omega)).1 (hg j (by omega)).2, q1, q2]
      · rintro ⟨rfl, e2⟩
        refine ⟨by omega, fun i hi => ?_⟩
        rcases Nat.mod_two_eq_zero_or_one i with e | e
        · obtain ⟨j, rfl⟩ : ∃ j, i = 2 * j := ⟨i / 2, by omega⟩
          rw [yvv (k2 j (by omega)).1, yvv (m2 j (by omega)).1, e2 j (by omega)]
        · obtain ⟨j, rfl⟩ : ∃ j, i = 2 * j + 1 := ⟨i / 2, by omega⟩
          rw [yvv (k2 j (by omega)).2, yvv (m2 j (by omega)).2, e2 j (by omega)]
/-- two codings differ: so do the texts -/
theorem Cod.dif {cd cd' : Int32} {n k : Nat} {f g : Nat → Int32} {V V' : Cell} (h : Cod cd n f V) (h' : Cod cd' k g V') (hne : ¬ cd = cd') : ¬ SameT n f k g := by
  rintro ⟨rfl, e⟩
  rcases h with ⟨rfl, -, k2⟩ | ⟨rfl, -, -, j, hj, hw⟩
  · rcases h' with ⟨rfl, -⟩ | ⟨-, -, -, j, hj, hw⟩
    · exact hne rfl
    · exact (k2 j hj).2 (by rw [e j hj]; exact hw)
  · rcases h' with ⟨-, -, m2⟩ | ⟨rfl, -⟩
    · exact (m2 j hj).2 (by rw [← e j hj]; exact hw)
    · exact hne rfl
/-- an object of exactly C is an instance of C -/
theorem cinst {p : Program} {l : Launch} {e : Env} {R : Room} {s : State} {m : MethodId} {args : Array Value} {below : List Frame} {meth : Method} {c : Code} {T : State} {locs : List Loc} {cells slots : Nat} (X : Stand p l e R s m args below meth c T locs cells slots) (hexec : p.tables.exec = Jvm.exec) {own C : String} {index : Nat} (hown : s.vm.findClass own = some m.cls) (hlink : (Cond.classLink own index C).before args s = true) {a : Addr} (hE : Exact C a T)
    {g : JFrame} (hg : g.method = m) {rest : List Value} (hstack : g.stack = .ref a :: rest) (hdg : decode c.code g.pc = .ok (.instanceof index, 3)) :
    ∃ T', Stand p l e R s m args below meth c T' locs cells slots ∧ T'.heap = T.heap ∧ ∀ target, Steps p.tables e below (T'.setTop { g with pc := g.pc + 3, stack := .int 1 :: rest }) target → Steps p.tables e below (T.setTop g) target := by
  obtain ⟨cB, h1, D, h2, h3, h4⟩ := hE
  have h1' : s.vm.findClass C = some cB := by rw [← X.warmed.alike.findClass]; exact h1
  obtain ⟨vm', X', st⟩ := X.instanceofYes hexec hown hlink h2 h4 h1' (by rw [h3]; exact Jvm.Free.SB.assignable_self _ _) hg hstack hdg
  exact ⟨_, X', rfl, st⟩
theorem cself {p : Program} {l : Launch} {e : Env} {R : Room} {s : State} {m : MethodId} {args : Array Value} {below : List Frame} {meth : Method} {c : Code} {T : State} {locs : List Loc} {cells slots : Nat} (X : Stand p l e R s m args below meth c T locs cells slots) (hexec : p.tables.exec = Jvm.exec) {own C : String} {index : Nat} (hown : s.vm.findClass own = some m.cls) (hlink : (Cond.classLink own index C).before args s = true) {a : Addr} (hE : Exact C a T)
    {g : JFrame} (hg : g.method = m) {rest : List Value} (hstack : g.stack = .ref a :: rest) (hdg : decode c.code g.pc = .ok (.checkcast index, 3)) :
    ∃ T', Stand p l e R s m args below meth c T' locs cells slots ∧ T'.heap = T.heap ∧ ∀ target, Steps p.tables e below (T'.setTop { g with pc := g.pc + 3, stack := .ref a :: rest }) target → Steps p.tables e below (T.setTop g) target := by
  obtain ⟨cB, h1, D, h2, h3, h4⟩ := hE
  have h1' : s.vm.findClass C = some cB := by rw [← X.warmed.alike.findClass]; exact h1
  obtain ⟨vm', X', st⟩ := X.checkcastYes hexec hown hlink h2 h4 h1' (by rw [h3]; exact Jvm.Free.SB.assignable_self _ _) hg hstack hdg
  exact ⟨_, X', rfl, fun t h => st t (by rw [← hstack] at h; exact h)⟩
namespace SEq
def yN : MethodName := ⟨"java/lang/String", "equals", "(Ljava/lang/Object;)Z"⟩
abbrev yB : ByteArray := jdk_42_method_66_code
theorem d0 : decode yB 0 = .ok (.aload_n 0, 1) := by decide +kernel
theorem d1 : decode yB 1 = .ok (.aload_n 1, 1) := by decide +kernel
theorem d2 : decode yB 2 = .ok (.if_acmp (.ne) 5, 3) := by decide +kernel
theorem d5 : decode yB 5 = .ok (.iconst 1, 1) := by decide +kernel
theorem d6 : decode yB 6 = .ok (.ireturn, 1) := by decide +kernel
theorem d7 : decode yB 7 = .ok (.aload_n 1, 1) := by decide +kernel
theorem d8 : decode yB 8 = .ok (.instanceof 10, 3) := by decide +kernel
theorem d11 : decode yB 11 = .ok (.ifCond (.eq) 43, 3) := by decide +kernel
theorem d14 : decode yB 14 = .ok (.aload_n 1, 1) := by decide +kernel
theorem d15 : decode yB 15 = .ok (.checkcast 10, 3) := by decide +kernel
theorem d18 : decode yB 18 = .ok (.astore_n 2, 1) := by decide +kernel
theorem d19 : decode yB 19 = .ok (.getstatic 38, 3) := by decide +kernel
theorem d22 : decode yB 22 = .ok (.ifCond (.eq) 14, 3) := by decide +kernel
theorem d25 : decode yB 25 = .ok (.aload_n 0, 1) := by decide +kernel
theorem d26 : decode yB 26 = .ok (.getfield 15, 3) := by decide +kernel
theorem d29 : decode yB 29 = .ok (.aload_n 2, 1) := by decide +kernel
theorem d30 : decode yB 30 = .ok (.getfield 15, 3) := by decide +kernel
theorem d33 : decode yB 33 = .ok (.if_icmp (.ne) 21, 3) := by decide +kernel
theorem d36 : decode yB 36 = .ok (.aload_n 0, 1) := by decide +kernel
theorem d37 : decode yB 37 = .ok (.getfield 9, 3) := by decide +kernel
theorem d40 : decode yB 40 = .ok (.aload_n 2, 1) := by decide +kernel
theorem d41 : decode yB 41 = .ok (.getfield 9, 3) := by decide +kernel
theorem d44 : decode yB 44 = .ok (.invokestatic 541, 3) := by decide +kernel
theorem d47 : decode yB 47 = .ok (.ifCond (.eq) 7, 3) := by decide +kernel
theorem d50 : decode yB 50 = .ok (.iconst 1, 1) := by decide +kernel
theorem d51 : decode yB 51 = .ok (.goto 4, 3) := by decide +kernel
theorem d54 : decode yB 54 = .ok (.iconst 0, 1) := by decide +kernel
theorem d55 : decode yB 55 = .ok (.ireturn, 1) := by decide +kernel
def site : List Cond := [.classLink "java/lang/String" 10 "java/lang/String", .fieldLink "java/lang/String" 38 "java/lang/String" "COMPACT_STRINGS" "Z", .fieldLink "java/lang/String" 15 "java/lang/String" "coder" "B", .fieldLink "java/lang/String" 9 "java/lang/String" "value" "[B", LEq.tab] ++ staticW "java/lang/String" 541 LEq.yN
def tab : Cond := tabOf yN yB 3 (some .boolean) site
def P (x t : Addr) (V : Cell) (cd : Int32) (n : Nat) (f : Nat → Int32) (y t' : Addr) (V' : Cell) (cd' : Int32) (k : Nat) (g : Nat → Int32) (z : Int32) (args : Array Value) (s : State) : Prop := args = #[.ref x, .ref y] ∧ Txt x t V cd n f s ∧ Txt y t' V' cd' k g s ∧ StaticIs s "java/lang/String" "COMPACT_STRINGS" "Z" (.int z) ∧ ¬ z = 0
/-- equals(Object) of two Strings: whether the texts are the same -/
theorem law (l : Launch) (x t : Addr) (V : Cell) (cd : Int32) (n : Nat) (f : Nat → Int32) (y t' : Addr) (V' : Cell) (cd' : Int32) (k : Nat) (g : Nat → Int32) (z : Int32) : Law l yN 2 1 1 14 yB 3 (some .boolean) site (P x t V cd n f y t' V' cd' k g z) (Says01 (SameT n f k g)) [] 0 0 := by
  refine Law.of_walk (plainFor_of_name (by decide +kernel)) (by decide +kernel) (by decide +kernel) (by decide) (fun _ _ h => by rw [h.1]; rfl) (fun _ U U' hal hh h => ⟨h.1, h.2.1.mv hal hh, h.2.2.1.mv hal hh, h.2.2.2.1.there hal hh, h.2.2.2.2⟩) (fun r U U' V V' h1 hal h2 h => Says01.mv r U U' V V' h1 hal h2 h) ?_
  intro p e s m args below meth c s₁ X0 hexec hbytes hml hret hlk hnm hown hh0 W hP
  obtain ⟨rfl, hx, hy, s1, hz⟩ := hP
  have c1 : Steps p.tables e below (s₁.setTop (entryFrame m #[.ref x, .ref y] 3)) (s₁.setTop (mkF m 2 #[.val (.ref x), .val (.ref y), .unset] [.ref y, .ref x])) := Steps.trans (entry rfl) (by
    show Steps p.tables e below (s₁.setTop (mkF m 0 #[.val (.ref x), .val (.ref y), .unset] [])) _
    refine XS.aloadN X0.here hexec rfl (hb hbytes d0) rfl rfl ?_
    refine XS.aloadN X0.here hexec rfl (hb hbytes d1) rfl rfl ?_
    exact Steps.refl _)
  by_cases hxy : x = y
  · have c2 : Steps p.tables e below (s₁.setTop (entryFrame m #[.ref x, .ref y] 3)) (s₁.setTop (mkF m 6 #[.val (.ref x), .val (.ref y), .unset] [.int 1])) := c1.trans (by
      refine acmpNo X0.here hexec rfl (hb hbytes d2) rfl rfl rfl (by simp [acmp, hxy]) ?_
      refine iconstV X0.here hexec rfl 1 (hb hbytes d5) (by decide) ?_
      exact Steps.refl _)
    subst hxy
    have ec : cd = cd' := by
      obtain ⟨D, fd, a1, a2, a3⟩ := hx.2.2.1
      obtain ⟨D', fd', b1, b2, b3⟩ := hy.2.2.1
      cases a1.symm.trans b1
      obtain ⟨q1, q2, q3, q4⟩ := a2.1
      obtain ⟨r1, r2, r3, r4⟩ := b2.1
      cases q4.symm.trans r4
      cases a3.symm.trans b3; rfl
    have et : t = t' := by
      obtain ⟨D, fd, a1, a2, a3⟩ := hx.2.1
      obtain ⟨D', fd', b1, b2, b3⟩ := hy.2.1
      cases a1.symm.trans b1
      obtain ⟨q1, q2, q3, q4⟩ := a2.1
      obtain ⟨r1, r2, r3, r4⟩ := b2.1
      cases q4.symm.trans r4
      cases a3.symm.trans b3; rfl
    subst ec et
    have ev : V = V' := by cases hx.2.2.2.1.1.symm.trans hy.2.2.2.1.1; rfl
    subst ev
    have hs : SameT n f k g := (Cod.eqv hx.2.2.2.2.1 hy.2.2.2.2.1 hx.2.2.2.2.2 hy.2.2.2.2.2).mp ⟨rfl, fun _ _ => rfl⟩
    exact ⟨s₁, some (.int 1), _, _, _, X0, rfl, rfl, rfl, (fun h => by cases h), ⟨1, rfl, hh0, Or.inl ⟨rfl, hs⟩⟩, fun fs hl => c2.trans (X0.ireturnOut hexec hret rfl (Or.inr (Or.inl rfl)) (hb hbytes d6) hl)⟩
  · have c2 : Steps p.tables e below (s₁.setTop (entryFrame m #[.ref x, .ref y] 3)) (s₁.setTop (mkF m 8 #[.val (.ref x), .val (.ref y), .unset] [.ref y])) := c1.trans (by
      refine acmpYes X0.here hexec rfl (pc0 := 2) rfl (hb hbytes d2) rfl rfl rfl (by simp [acmp, hxy]) (by decide) rfl ?_
      refine XS.aloadN X0.here hexec rfl (hb hbytes d7) rfl rfl ?_
      exact Steps.refl _)
    obtain ⟨T3, X3, q3, st3⟩ := cinst X0 hexec hown (wk W (.classLink "java/lang/String" 10 "java/lang/String")) (hy.mv X0.warmed.alike hh0).1 (g := (mkF m 8 #[.val (.ref x), .val (.ref y), .unset] [.ref y])) rfl (rest := []) rfl (hb hbytes d8)
    have hh3 := q3.trans hh0
    have c4 : Steps p.tables e below (s₁.setTop (entryFrame m #[.ref x, .ref y] 3)) (T3.setTop (mkF m 15 #[.val (.ref x), .val (.ref y), .unset] [.ref y])) := (c2.trans (st3 _ (Steps.refl _))).trans (by
      refine XS.ifNo X3.here hexec rfl (hb hbytes d11) rfl (i0_eq_f (by decide)) ?_
      refine XS.aloadN X3.here hexec rfl (hb hbytes d14) rfl rfl ?_
      exact Steps.refl _)
    obtain ⟨T5, X5, q5, st5⟩ := cself X3 hexec hown (wk W (.classLink "java/lang/String" 10 "java/lang/String")) (hy.mv X3.warmed.alike hh3).1 (g := (mkF m 15 #[.val (.ref x), .val (.ref y), .unset] [.ref y])) rfl (rest := []) rfl (hb hbytes d15)
    have hh5 := q5.trans hh3
    have c6 : Steps p.tables e below (s₁.setTop (entryFrame m #[.ref x, .ref y] 3)) (T5.setTop (mkF m 19 #[.val (.ref x), .val (.ref y), .val (.ref y)] [])) := (c4.trans (st5 _ (Steps.refl _))).trans (by
      refine XS.astoreN X5.here hexec rfl (hb hbytes d18) rfl rfl rfl ?_
      exact Steps.refl _)
    obtain ⟨T7, X7, q7, st7⟩ := X5.sget hexec hown (wk W (.fieldLink "java/lang/String" 38 "java/lang/String" "COMPACT_STRINGS" "Z")) s1 (fun _ _ h => by rw [hh5]; exact h) (g := (mkF m 19 #[.val (.ref x), .val (.ref y), .val (.ref y)] [])) rfl (hb hbytes d19)
    have hh7 := q7.trans hh5
    have c8 : Steps p.tables e below (s₁.setTop (entryFrame m #[.ref x, .ref y] 3)) (T7.setTop (mkF m 26 #[.val (.ref x), .val (.ref y), .val (.ref y)] [.ref x])) := (c6.trans (st7 _ (Steps.refl _))).trans (by
      refine XS.ifNo X7.here hexec rfl (hb hbytes d22) rfl (i0_eq_f hz) ?_
      refine XS.aloadN X7.here hexec rfl (hb hbytes d25) rfl rfl ?_
      exact Steps.refl _)
    obtain ⟨T9, X9, q9, st9⟩ := X7.hget hexec hown (wk W (.fieldLink "java/lang/String" 15 "java/lang/String" "coder" "B")) (hx.mv X7.warmed.alike hh7).2.2.1 (g := (mkF m 26 #[.val (.ref x), .val (.ref y), .val (.ref y)] [.ref x])) rfl (rest := []) rfl (hb hbytes d26)
    have hh9 := q9.trans hh7
    have c10 : Steps p.tables e below (s₁.setTop (entryFrame m #[.ref x, .ref y] 3)) (T9.setTop (mkF m 30 #[.val (.ref x), .val (.ref y), .val (.ref y)] [.ref y, .int cd])) := (c8.trans (st9 _ (Steps.refl _))).trans (by
      refine XS.aloadN X9.here hexec rfl (hb hbytes d29) rfl rfl ?_
      exact Steps.refl _)
    obtain ⟨T11, X11, q11, st11⟩ := X9.hget hexec hown (wk W (.fieldLink "java/lang/String" 15 "java/lang/String" "coder" "B")) (hy.mv X9.warmed.alike hh9).2.2.1 (g := (mkF m 30 #[.val (.ref x), .val (.ref y), .val (.ref y)] [.ref y, .int cd])) rfl (rest := [.int cd]) rfl (hb hbytes d30)
    have hh11 := q11.trans hh9
    have c12 : Steps p.tables e below (s₁.setTop (entryFrame m #[.ref x, .ref y] 3)) (T11.setTop (mkF m 33 #[.val (.ref x), .val (.ref y), .val (.ref y)] [.int cd', .int cd])) := c10.trans (st11 _ (Steps.refl _))
    by_cases hcd : cd = cd'
    · subst hcd
      have c13 : Steps p.tables e below (s₁.setTop (entryFrame m #[.ref x, .ref y] 3)) (T11.setTop (mkF m 37 #[.val (.ref x), .val (.ref y), .val (.ref y)] [.ref x])) := c12.trans (by
        refine XS.icmpNo X11.here hexec rfl (hb hbytes d33) rfl (ii_ne_f rfl) ?_
        refine XS.aloadN X11.here hexec rfl (hb hbytes d36) rfl rfl ?_
        exact Steps.refl _)
      obtain ⟨T14, X14, q14, st14⟩ := X11.hget hexec hown (wk W (.fieldLink "java/lang/String" 9 "java/lang/String" "value" "[B")) (hx.mv X11.warmed.alike hh11).2.1 (g := (mkF m 37 #[.val (.ref x), .val (.ref y), .val (.ref y)] [.ref x])) rfl (rest := []) rfl (hb hbytes d37)
      have hh14 := q14.trans hh11
      have c15 : Steps p.tables e below (s₁.setTop (entryFrame m #[.ref x, .ref y] 3)) (T14.setTop (mkF m 41 #[.val (.ref x), .val (.ref y), .val (.ref y)] [.ref y, .ref t])) := (c13.trans (st14 _ (Steps.refl _))).trans (by
        refine XS.aloadN X14.here hexec rfl (hb hbytes d40) rfl rfl ?_
        exact Steps.refl _)
      obtain ⟨T16, X16, q16, st16⟩ := X14.hget hexec hown (wk W (.fieldLink "java/lang/String" 9 "java/lang/String" "value" "[B")) (hy.mv X14.warmed.alike hh14).2.1 (g := (mkF m 41 #[.val (.ref x), .val (.ref y), .val (.ref y)] [.ref y, .ref t])) rfl (rest := [.ref t]) rfl (hb hbytes d41)
      have hh16 := q16.trans hh14
      have c17 : Steps p.tables e below (s₁.setTop (entryFrame m #[.ref x, .ref y] 3)) (T16.setTop (mkF m 44 #[.val (.ref x), .val (.ref y), .val (.ref y)] [.ref t', .ref t])) := c15.trans (st16 _ (Steps.refl _))
      obtain ⟨v18, T18, X18, E18, g18⟩ := X16.callS hexec (LEq.law l t V t' V') hown (wks W (staticW "java/lang/String" 541 LEq.yN)) (wk W LEq.tab) (W := 0) (Nat.le_of_ble_eq_true rfl) (Nat.le_of_ble_eq_true rfl) (Nat.le_refl _) (Nat.le_refl _) (g := (mkF m 44 #[.val (.ref x), .val (.ref y), .val (.ref y)] [.ref t', .ref t])) rfl (by rw [hml]; rfl) c17 (argsL := [.ref t, .ref t']) (rest := []) rfl rfl (by show 2 * 0 + 0 ≤ _; decide) (hb hbytes d44) (⟨rfl, hx.2.2.2.1.mv X16.warmed.alike hh16, hx.2.2.2.2.1.ty, hy.2.2.2.1.mv X16.warmed.alike hh16, hy.2.2.2.2.1.ty⟩)
      obtain ⟨v, rfl, q18, hv⟩ := E18
      have iff := Cod.eqv hx.2.2.2.2.1 hy.2.2.2.2.1 hx.2.2.2.2.2 hy.2.2.2.2.2
      rcases hv with ⟨rfl, he⟩ | ⟨rfl, he⟩
      · have c19 : Steps p.tables e below (s₁.setTop (entryFrame m #[.ref x, .ref y] 3)) (T18.setTop (mkF m 55 #[.val (.ref x), .val (.ref y), .val (.ref y)] [.int 1])) := Steps.trans g18 (by
          refine XS.ifNo X18.here hexec rfl (hb hbytes d47) rfl (i0_eq_f (by decide)) ?_
          refine iconstV X18.here hexec rfl 1 (hb hbytes d50) (by decide) ?_
          refine XS.goto X18.here hexec rfl (pc0 := 51) rfl (hb hbytes d51) (by decide) rfl ?_
          exact Steps.refl _)
        exact ⟨T18, some (.int 1), _, _, _, X18, rfl, rfl, rfl, (fun h => by cases h), ⟨1, rfl, q18.trans hh16, Or.inl ⟨rfl, iff.mp he⟩⟩, fun fs hl => c19.trans (X18.ireturnOut hexec hret rfl (Or.inr (Or.inl rfl)) (hb hbytes d55) hl)⟩
      · have c19 : Steps p.tables e below (s₁.setTop (entryFrame m #[.ref x, .ref y] 3)) (T18.setTop (mkF m 55 #[.val (.ref x), .val (.ref y), .val (.ref y)] [.int 0])) := Steps.trans g18 (by
          refine XS.ifYes X18.here hexec rfl (pc0 := 47) rfl (hb hbytes d47) rfl (i0_eq_t rfl) (by decide) rfl ?_
          refine iconstV X18.here hexec rfl 0 (hb hbytes d54) (by decide) ?_
          exact Steps.refl _)
        exact ⟨T18, some (.int 0), _, _, _, X18, rfl, rfl, rfl, (fun h => by cases h), ⟨0, rfl, q18.trans hh16, Or.inr ⟨rfl, fun q => he (iff.mpr q)⟩⟩, fun fs hl => c19.trans (X18.ireturnOut hexec hret rfl (Or.inr (Or.inl rfl)) (hb hbytes d55) hl)⟩
    · have c13 : Steps p.tables e below (s₁.setTop (entryFrame m #[.ref x, .ref y] 3)) (T11.setTop (mkF m 55 #[.val (.ref x), .val (.ref y), .val (.ref y)] [.int 0])) := c12.trans (by
        refine XS.icmpYes X11.here hexec rfl (pc0 := 33) rfl (hb hbytes d33) rfl (ii_ne_t hcd) (by decide) rfl ?_
        refine iconstV X11.here hexec rfl 0 (hb hbytes d54) (by decide) ?_
        exact Steps.refl _)
      exact ⟨T11, some (.int 0), _, _, _, X11, rfl, rfl, rfl, (fun h => by cases h), ⟨0, rfl, hh11, Or.inr ⟨rfl, Cod.dif hx.2.2.2.2.1 hy.2.2.2.2.1 hcd⟩⟩, fun fs hl => c13.trans (X11.ireturnOut hexec hret rfl (Or.inr (Or.inl rfl)) (hb hbytes d55) hl)⟩
theorem pays {l : Launch} {R : Room} {p : Program} {e : Env} {below : List Frame} {s : State} {sargs : Array Value} {len W : Nat} (x t : Addr) (V : Cell) (cd : Int32) (n : Nat) (f : Nat → Int32) (y t' : Addr) (V' : Cell) (cd' : Int32) (k : Nat) (g : Nat → Int32) (z : Int32) (htab : tab.before sargs s = true) (hfr : 2 ≤ R.frames) (hlo : W + 28 ≤ R.locals) :
    Back l R p e below s sargs yN len W (fun A₁ a₁ => A₁.cells + 0 ≤ R.cells ∧ A₁.slots + 0 ≤ R.slots ∧ P x t V cd n f y t' V' cd' k g z a₁ A₁.U) (fun A₁ _ v₁ B₁ => Says01 (SameT n f k g) v₁ A₁.U B₁.U ∧ B₁.locs = A₁.locs ++ [] ∧ B₁.cells = A₁.cells + 0 ∧ B₁.slots = A₁.slots + 0) :=
  (law l x t V cd n f y t' V' cd' k g z).pays htab hfr (by omega)
end SEq
end StrChars
namespace StrChars.Road
open Jvm Sem ClassFile Op Lib Jvm.Stand Jvm.Free Jvm.Free.XT
open Jvm.Lib.Cold (StaticIs)
/-- the words of String.equals(Object) -/
abbrev wordsEq : List Jvm.Cond := [.code SEq.yN SEq.yB 3 (some .boolean), .initialized ST, .classLink ST 10 ST, .fieldLink ST 38 ST "COMPACT_STRINGS" "Z", .fieldLink ST 15 ST "coder" "B", .fieldLink ST 9 ST "value" "[B", .methodLink ST 541 LEq.yN, .static LEq.yN, .code LEq.yN LEq.yB 3 (some .boolean), .initialized "java/lang/StringLatin1"]
theorem tabEq_of {a : Array Value} {s : State} (h : ∀ w ∈ wordsEq, w.before a s = true) : SEq.tab.before a s = true := by
  have hl : LEq.tab.before a s = true := unparts (wk h (.code LEq.yN LEq.yB 3 (some .boolean))) (wks h (.initialized LEq.yN.cls :: LEq.site))
  have q := consq hl h
  exact unparts (wk q (.code SEq.yN SEq.yB 3 (some .boolean))) (wks q (.initialized SEq.yN.cls :: SEq.site))
theorem movedEq {Z s : State} {a0 args : Array Value} (hZ : Z.Warmed39 s.vm) (hw : ∀ d ∈ wordsEq, d.before a0 Z = true) : ∀ d ∈ wordsEq, d.before args s = true := fun d hd => by
  have t : ∀ d ∈ wordsEq, (d.onTables && d.keepsFace) = true := by decide +kernel
  exact RoadKit.mv hZ (hw d hd) (t d hd)
/-- the road's facts of a String, as the laws ask it -/
theorem txt_of {Z U : State} {a0 : Array Value} {kI : Nat} (wi : (Jvm.Cond.instantiable ST kI).before a0 Z = true) (al : Z.vm.Alike U.vm) {x t : Addr} {kb : ClassId} {cs : List Int32} {cd N2 : Int32} {vs : List Value} (E : RoadKit.Exa Z U.heap x ST) (V : RoadKit.Fld Z U.heap x ST "value" "[B" (.ref t)) (C : RoadKit.Fld Z U.heap x ST "coder" "B" (.int cd)) (K : RoadKit.Arv Z U.heap t kb .byte N2 vs (.int 0)) (hc : CodA cs cd N2 vs) (hb : ∀ c ∈ cs, ¬ c < 0 ∧ ¬ (65535 : Int32) < c) (l2 : cs.length ≤ 4000) :
    ∃ A, Txt x t A cd cs.length (fun j => cs.getD j 0) U := by
  obtain ⟨A, K1, K2, K3, K4, K5, K6⟩ := K
  have hcod := hc.cod (by omega) K3 K5
  obtain ⟨D, fV, fC, hB, F1, F2, g1, g2, -, -⟩ := strObj wi al E V C
  exact ⟨A, ⟨_, hB.2.2.1, D, hB.1, rfl, by cases q : D.vm <;> first | rfl | exact absurd q (hB.2.1.2 _)⟩, Has.of hB F1 g1, Has.of hB F2 g2, ⟨K1.1, State.isArrayOf_alike al K1.2.1, K1.2.2, by rcases hcod with ⟨-, q, -⟩ | ⟨-, q, -⟩ <;> omega⟩, hcod, fun j hj => by
    have e : cs.getD j 0 = cs[j] := by simp [List.getD_eq_getElem?_getD, hj]
    show ¬ cs.getD j 0 < 0 ∧ ¬ 65535 < cs.getD j 0
    rw [e]; exact hb _ (List.getElem_mem _)⟩
theorem same_list (cs ds : List Int32) : SameT cs.length (fun j => cs.getD j 0) ds.length (fun j => ds.getD j 0) ↔ cs = ds := by
  constructor
  · rintro ⟨e, q⟩
    refine List.ext_getElem e fun j h1 h2 => ?_
    have := q j h1
    simpa [List.getD_eq_getElem?_getD, h1, h2] using this
  · rintro rfl
    exact ⟨rfl, fun _ _ => rfl⟩
/-- **equals(Object) OF TWO SUCH STRINGS**: 1 just where the chars are the same -/
theorem eqW {p : Program} {l : Launch} {e : Env} {R : Room} {s : State} {args : Array Value} {below : List Frame} {len W : Nat} {Z : State} {a0 : Array Value} {h : Heap} (hZ : Z.Warmed39 s.vm) (hw : ∀ d ∈ wordsEq, d.before a0 Z = true) {kI : Nat} (wi : (Jvm.Cond.instantiable ST kI).before a0 Z = true)
    {x t : Addr} {kb : ClassId} {cs : List Int32} {cd N2 : Int32} {vs : List Value} (E : RoadKit.Exa Z h x ST) (V : RoadKit.Fld Z h x ST "value" "[B" (.ref t)) (C : RoadKit.Fld Z h x ST "coder" "B" (.int cd)) (K : RoadKit.Arv Z h t kb .byte N2 vs (.int 0)) (hc : CodA cs cd N2 vs) (hb : ∀ c ∈ cs, ¬ c < 0 ∧ ¬ (65535 : Int32) < c) (l2 : cs.length ≤ 4000)
    {y t' : Addr} {kb' : ClassId} {ds : List Int32} {cd' N2' : Int32} {vs' : List Value} (E' : RoadKit.Exa Z h y ST) (V' : RoadKit.Fld Z h y ST "value" "[B" (.ref t')) (C' : RoadKit.Fld Z h y ST "coder" "B" (.int cd')) (K' : RoadKit.Arv Z h t' kb' .byte N2' vs' (.int 0)) (hc' : CodA ds cd' N2' vs') (hb' : ∀ c ∈ ds, ¬ c < 0 ∧ ¬ (65535 : Int32) < c) (l2' : ds.length ≤ 4000)
    {z : Int32} (S : RoadKit.Sta Z h ST "COMPACT_STRINGS" "Z" (.int z)) (hz : ¬ z = 0) (hfr : 2 ≤ R.frames) (hlo : W + 28 ≤ R.locals) :
    Back l R p e below s args (⟨"java/lang/String", "equals", "(Ljava/lang/Object;)Z"⟩ : MethodName) len W (fun P a => a = #[.ref x, .ref y] ∧ P.U.heap = h ∧ P.cells + 0 ≤ R.cells ∧ P.slots + 0 ≤ R.slots)
      (fun P _ v B => ∃ L, (((v = some (.int 1) ∧ cs = ds) ∨ (v = some (.int 0) ∧ ¬ cs = ds)) ∧ L = [] ∧ B.U.heap = h) ∧ B.locs = P.locs ++ L ∧ B.cells = P.cells + 0 ∧ B.slots = P.slots + 0) := by
  intro m meth c P g ig mk a X hg hsize hdg hW hn hp'
  obtain ⟨rfl, rfl, r1, r2⟩ := hp'
  have al : Z.vm.Alike P.U.vm := hZ.alike.trans X.warmed.alike
  obtain ⟨A, hx⟩ := txt_of wi al E V C K hc hb l2
  obtain ⟨A', hy⟩ := txt_of wi al E' V' C' K' hc' hb' l2'
  obtain ⟨v, B, X', ⟨⟨w, hv, hh, hq⟩, hl, hk, hs⟩, st⟩ := SEq.pays x t A cd cs.length (fun j => cs.getD j 0) y t' A' cd' ds.length (fun j => ds.getD j 0) z (tabEq_of (movedEq hZ hw)) hfr hlo m meth c P g ig mk _ X hg hsize hdg hW hn ⟨r1, r2, rfl, hx, hy, sta_is al S, hz⟩
  refine ⟨v, B, X', ⟨[], ⟨?_, rfl, hh⟩, hl, hk, hs⟩, st⟩
  rcases hq with ⟨rfl, q⟩ | ⟨rfl, q⟩
  · exact Or.inl ⟨hv, (same_list cs ds).mp q⟩
  · exact Or.inr ⟨hv, fun e => q ((same_list cs ds).mpr e)⟩
end StrChars.Road
namespace StrChars
open Jvm Sem ClassFile Op Lib Jvm.Stand Jvm.Free.XT Jvm.Free.ALB Jvm.Free.JM Jvm.Free
open Jvm.Lib.Cold (StaticIs)
namespace ChN
def yN : MethodName := ⟨"java/lang/String", "charAt", "(I)C"⟩
abbrev yB : ByteArray := jdk_42_method_56_code
theorem d0 : decode yB 0 = .ok (.aload_n 0, 1) := by decide +kernel
theorem d1 : decode yB 1 = .ok (.invokevirtual 492, 3) := by decide +kernel
theorem d4 : decode yB 4 = .ok (.ifCond (.eq) 12, 3) := by decide +kernel
theorem d7 : decode yB 7 = .ok (.aload_n 0, 1) := by decide +kernel
theorem d8 : decode yB 8 = .ok (.getfield 9, 3) := by decide +kernel
theorem d11 : decode yB 11 = .ok (.iload_n 1, 1) := by decide +kernel
theorem d12 : decode yB 12 = .ok (.invokestatic 495, 3) := by decide +kernel
theorem d15 : decode yB 15 = .ok (.ireturn, 1) := by decide +kernel
def site : List Cond := [.fieldLink "java/lang/String" 9 "java/lang/String" "value" "[B", IsL.tab, LChA.tab] ++ virtW "java/lang/String" 492 "java/lang/String" IsL.yN IsL.yN ++ staticW "java/lang/String" 495 LChA.yN
def tab : Cond := tabOf yN yB 2 (some .char) site
def P (x t : Addr) (V : Cell) (n : Nat) (f : Nat → Int32) (z : Int32) (fm : Value) (i : Nat) (args : Array Value) (s : State) : Prop := args = #[.ref x, .int (Int32.ofNat i)] ∧ Txt x t V 0 n f s ∧ i < n ∧ StaticIs s "java/lang/String" "COMPACT_STRINGS" "Z" (.int z) ∧ ¬ z = 0 ∧ StaticIs s "jdk/internal/util/Preconditions" "SIOOBE_FORMATTER" "Ljava/util/function/BiFunction;" fm ∧ fm.isRef = true
def E (f : Nat → Int32) (i : Nat) (r : Option Value) (s u : State) : Prop := XT.PureE (some (.int (f i))) r s u
/-- charAt(i) of a Latin-1 String of n chars, i < n: f i -/
theorem law (l : Launch) (x t : Addr) (V : Cell) (n : Nat) (f : Nat → Int32) (z : Int32) (fm : Value) (i : Nat) : Law l yN 2 1 3 40 yB 2 (some .char) site (P x t V n f z fm i) (E f i) [] 0 0 := by
  refine Law.of_walk (plainFor_of_name (by decide +kernel)) (by decide +kernel) (by decide +kernel) (by decide) (fun _ _ h => by rw [h.1]; rfl) (fun _ U U' hal hh h => ⟨h.1, h.2.1.mv hal hh, h.2.2.1, h.2.2.2.1.there hal hh, h.2.2.2.2.1, h.2.2.2.2.2.1.there hal hh, h.2.2.2.2.2.2⟩) (fun r U U' V V' h1 hal h2 h => XT.PureE.mv r U U' V V' h1 hal h2 h) ?_
  intro p e s m args below meth c s₁ X0 hexec hbytes hml hret hlk hnm hown hh0 W hP
  obtain ⟨rfl, hx, hi, s1, hz, s3, rf⟩ := hP
  have v31 := hx.2.2.2.1.2.2.2
  have hr := hx.2.2.2.2.2 i hi
  have hx0 := hx.mv X0.warmed.alike hh0
  have c1 : Steps p.tables e below (s₁.setTop (entryFrame m #[.ref x, .int (Int32.ofNat i)] 2)) (s₁.setTop (mkF m 1 #[.val (.ref x), .val (.int (Int32.ofNat i))] [.ref x])) := Steps.trans (entry rfl) (by
    show Steps p.tables e below (s₁.setTop (mkF m 0 #[.val (.ref x), .val (.int (Int32.ofNat i))] [])) _
    refine XS.aloadN X0.here hexec rfl (hb hbytes d0) rfl rfl ?_
    exact Steps.refl _)
  obtain ⟨v2, T2, X2, E2, g2⟩ := X0.callV hexec (IsL.law l x 0 z) hown (wks W (virtW "java/lang/String" 492 "java/lang/String" IsL.yN IsL.yN)) rfl (by decide) (wk W IsL.tab) (W := 0) (Nat.le_of_ble_eq_true rfl) (Nat.le_of_ble_eq_true rfl) (Nat.le_refl _) (Nat.le_refl _) (hx0.1.fc X0.warmed.alike) hx0.1.is (g := (mkF m 1 #[.val (.ref x), .val (.int (Int32.ofNat i))] [.ref x])) rfl (by rw [hml]; rfl) c1 (argsL := []) (rest := []) rfl rfl (by show 2 * 0 + 0 ≤ _; decide) (hb hbytes d1) (⟨rfl, hx0.2.2.1, hx.2.2.2.2.1.cd, s1.there X0.warmed.alike hh0, hz⟩)
  obtain ⟨rfl, q2⟩ := E2
  have hh2 := q2.trans hh0
  have hx2 := hx.mv X2.warmed.alike hh2
  obtain ⟨-, k1, k2⟩ | ⟨k0, -⟩ := hx.2.2.2.2.1
  · have c3 : Steps p.tables e below (s₁.setTop (entryFrame m #[.ref x, .int (Int32.ofNat i)] 2)) (T2.setTop (mkF m 8 #[.val (.ref x), .val (.int (Int32.ofNat i))] [.ref x])) := Steps.trans g2 (by
      refine XS.ifNo X2.here hexec rfl (hb hbytes d4) rfl (i0_eq_f (by decide)) ?_
      refine XS.aloadN X2.here hexec rfl (hb hbytes d7) rfl rfl ?_
      exact Steps.refl _)
    obtain ⟨T4, X4, q4, st4⟩ := X2.hget hexec hown (wk W (.fieldLink "java/lang/String" 9 "java/lang/String" "value" "[B")) hx2.2.1 (g := (mkF m 8 #[.val (.ref x), .val (.int (Int32.ofNat i))] [.ref x])) rfl (rest := []) rfl (hb hbytes d8)
    have hh4 := q4.trans hh2
    have c5 : Steps p.tables e below (s₁.setTop (entryFrame m #[.ref x, .int (Int32.ofNat i)] 2)) (T4.setTop (mkF m 12 #[.val (.ref x), .val (.int (Int32.ofNat i))] [.int (Int32.ofNat i), .ref t])) := (c3.trans (st4 _ (Steps.refl _))).trans (by
      refine XS.iloadN X4.here hexec rfl (hb hbytes d11) rfl ?_
      exact Steps.refl _)
    obtain ⟨v6, T6, X6, E6, g6⟩ := X4.callS hexec (LChA.law l t V i (lo8 (f i)) fm) hown (wks W (staticW "java/lang/String" 495 LChA.yN)) (wk W LChA.tab) (W := 0) (Nat.le_of_ble_eq_true rfl) (Nat.le_of_ble_eq_true rfl) (Nat.le_refl _) (Nat.le_refl _) (g := (mkF m 12 #[.val (.ref x), .val (.int (Int32.ofNat i))] [.int (Int32.ofNat i), .ref t])) rfl (by rw [hml]; rfl) c5 (argsL := [.ref t, .int (Int32.ofNat i)]) (rest := []) rfl rfl (by show 2 * 0 + 0 ≤ _; decide) (hb hbytes d12) (⟨rfl, hx.2.2.2.1.mv X4.warmed.alike hh4, (k2 i hi).1, s3.there X4.warmed.alike hh4, rf⟩)
    obtain ⟨rfl, q6⟩ := E6
    rw [chr8_lo8 hr.1 (k2 i hi).2] at g6
    exact ⟨T6, some (.int (f i)), _, _, _, X6, rfl, rfl, rfl, (fun h => by cases h), ⟨rfl, q6.trans hh4⟩, fun fs hl => Steps.trans g6 (X6.ireturnOut hexec hret (narrow_ch hr.1 hr.2) (Or.inr (Or.inr (Or.inr (Or.inl rfl)))) (hb hbytes d15) hl)⟩
  · exact absurd k0 (by decide)
theorem pays {l : Launch} {R : Room} {p : Program} {e : Env} {below : List Frame} {s : State} {sargs : Array Value} {len W : Nat} (x t : Addr) (V : Cell) (n : Nat) (f : Nat → Int32) (z : Int32) (fm : Value) (i : Nat) (htab : tab.before sargs s = true) (hfr : 4 ≤ R.frames) (hlo : W + 53 ≤ R.locals) :
    Back l R p e below s sargs yN len W (fun A₁ a₁ => A₁.cells + 0 ≤ R.cells ∧ A₁.slots + 0 ≤ R.slots ∧ P x t V n f z fm i a₁ A₁.U) (fun A₁ _ v₁ B₁ => E f i v₁ A₁.U B₁.U ∧ B₁.locs = A₁.locs ++ [] ∧ B₁.cells = A₁.cells + 0 ∧ B₁.slots = A₁.slots + 0) :=
  (law l x t V n f z fm i).pays htab hfr (by omega)
end ChN
end StrChars
namespace StrChars.Road
open Jvm Sem ClassFile Op Lib Jvm.Stand Jvm.Free Jvm.Free.XT
open Jvm.Lib.Cold (StaticIs)
/-- the words of String.charAt(int), the Latin-1 road alone -/
abbrev wordsChN : List Jvm.Cond := [.code ChN.yN ChN.yB 2 (some .char), .initialized ST, .fieldLink ST 9 ST "value" "[B", .fieldLink ST 38 ST "COMPACT_STRINGS" "Z", .fieldLink ST 15 ST "coder" "B", .code IsL.yN IsL.yB 1 (some .boolean), .methodLink ST 492 IsL.yN, .declares IsL.yN, .selects ST IsL.yN IsL.yN, .instanceMethod IsL.yN,
  .methodLink ST 495 LChA.yN, .static LChA.yN, .code LChA.yN LChA.yB 2 (some .char), .initialized "java/lang/StringLatin1", .methodLink "java/lang/StringLatin1" 9 JO.Str_checkIndex.yN, .static JO.Str_checkIndex.yN, .code JO.Str_checkIndex.yN JO.Str_checkIndex.yB 2 none,
  .fieldLink ST 1053 "jdk/internal/util/Preconditions" "SIOOBE_FORMATTER" "Ljava/util/function/BiFunction;", .methodLink ST 1059 JC.PreCheck.yN, .static JC.PreCheck.yN, .code JC.PreCheck.yN JC.PreCheck.yB 3 (some .int), .initialized "jdk/internal/util/Preconditions"]
theorem tabChN_of {a : Array Value} {s : State} (h : ∀ w ∈ wordsChN, w.before a s = true) : ChN.tab.before a s = true := by
  have hp : JC.PreCheck.tab.before a s = true := unparts (wk h (.code JC.PreCheck.yN JC.PreCheck.yB 3 (some .int))) (wks h (.initialized JC.PreCheck.yN.cls :: JC.PreCheck.site))
  have qk := consq hp h
  have hk : JO.Str_checkIndex.tab.before a s = true := unparts (wk qk (.code JO.Str_checkIndex.yN JO.Str_checkIndex.yB 2 none)) (wks qk (.initialized JO.Str_checkIndex.yN.cls :: JO.Str_checkIndex.site))
  have ql := consq hk h
  have hl : LChA.tab.before a s = true := unparts (wk ql (.code LChA.yN LChA.yB 2 (some .char))) (wks ql (.initialized LChA.yN.cls :: LChA.site))
  have hi : IsL.tab.before a s = true := unparts (wk h (.code IsL.yN IsL.yB 1 (some .boolean))) (wks h (.initialized IsL.yN.cls :: IsL.site))
  have q := consq hi (consq hl h)
  exact unparts (wk q (.code ChN.yN ChN.yB 2 (some .char))) (wks q (.initialized ChN.yN.cls :: ChN.site))
theorem movedChN {Z s : State} {a0 args : Array Value} (hZ : Z.Warmed39 s.vm) (hw : ∀ d ∈ wordsChN, d.before a0 Z = true) : ∀ d ∈ wordsChN, d.before args s = true := fun d hd => by
  have t : ∀ d ∈ wordsChN, (d.onTables && d.keepsFace) = true := by decide +kernel
  exact RoadKit.mv hZ (hw d hd) (t d hd)
/-- **charAt(i) OF A LATIN-1 STRING**, i < n: the char -/
theorem chN {p : Program} {l : Launch} {e : Env} {R : Room} {s : State} {args : Array Value} {below : List Frame} {len W : Nat} {Z : State} {a0 : Array Value} {h : Heap} (hZ : Z.Warmed39 s.vm) (hw : ∀ d ∈ wordsChN, d.before a0 Z = true) {kI : Nat} (wi : (Jvm.Cond.instantiable ST kI).before a0 Z = true)
    {x t : Addr} {kb : ClassId} {cs : List Int32} {N2 z : Int32} {vs : List Value} {fm : Value} {i : Nat} {j : Int32} (E : RoadKit.Exa Z h x ST) (V : RoadKit.Fld Z h x ST "value" "[B" (.ref t)) (C : RoadKit.Fld Z h x ST "coder" "B" (.int 0)) (K : RoadKit.Arv Z h t kb .byte N2 vs (.int 0)) (hc : CodA cs 0 N2 vs) (hb : ∀ c ∈ cs, ¬ c < 0 ∧ ¬ (65535 : Int32) < c)
    (S : RoadKit.Sta Z h ST "COMPACT_STRINGS" "Z" (.int z)) (hz : ¬ z = 0) (F : RoadKit.Sta Z h "jdk/internal/util/Preconditions" "SIOOBE_FORMATTER" "Ljava/util/function/BiFunction;" fm) (rf : fm.isRef = true) (l2 : cs.length ≤ 4000) (hi : i < cs.length) (hj : j = Int32.ofNat i) (hfr : 4 ≤ R.frames) (hlo : W + 53 ≤ R.locals) :
    Back l R p e below s args (⟨"java/lang/String", "charAt", "(I)C"⟩ : MethodName) len W (fun P a => a = #[.ref x, .int j] ∧ P.U.heap = h ∧ P.cells + 0 ≤ R.cells ∧ P.slots + 0 ≤ R.slots)
      (fun P _ v B => ∃ L, (v = some (.int (cs.getD i 0)) ∧ L = [] ∧ B.U.heap = h) ∧ B.locs = P.locs ++ L ∧ B.cells = P.cells + 0 ∧ B.slots = P.slots + 0) := by
  subst hj
  intro m meth c P g ig mk a X hg hsize hdg hW hn hp'
  obtain ⟨rfl, rfl, r1, r2⟩ := hp'
  have al : Z.vm.Alike P.U.vm := hZ.alike.trans X.warmed.alike
  obtain ⟨A, hx⟩ := txt_of wi al E V C K hc hb l2
  obtain ⟨v, B, X', ⟨⟨hv, hh⟩, hl, hk, hs⟩, st⟩ := ChN.pays x t A cs.length (fun j => cs.getD j 0) z fm i (tabChN_of (movedChN hZ hw)) hfr hlo m meth c P g ig mk _ X hg hsize hdg hW hn ⟨r1, r2, rfl, hx, hi, sta_is al S, hz, sta_is al F, rf⟩
  exact ⟨v, B, X', ⟨[], ⟨hv, rfl, hh⟩, hl, hk, hs⟩, st⟩
/-- what backV says of its String, as the contracts of this text ask it: cs's low bytes, coder 0 -/
theorem codOf {cs : List Int32} {n : Nat} (hn : cs.length = n) (hb : ∀ c ∈ cs, ¬ 255 < c) : CodA cs 0 (Int32.ofNat n) ((cs.map lo8).map Value.int) := Or.inl ⟨rfl, by rw [hn], by simp [List.map_map, Function.comp_def], hb⟩
end StrChars.Road
end Jvm.Pilot.@@N@@
namespace Jvm.Pilot.@@N@@
open Jvm Jvm.ClassFile Sem Op Lib Jvm.Free Jvm.Stand Jvm.LawKit Jvm.RoadKit Bundle Jvm.Pilot.@@N@@.Jvm.D
def own_EL : List (String × Nat) := [("com/example/mediawarden/mediawarden/engine/LangOfPinLaw", 7), ("java/lang/String", 7)]
theorem own_backE {l : Launch} {p : Program} {e : Env} {R : Room} {s : State} {args : Array Value} {below : List Frame} {Z : State} {a0 : Array Value} {EL : List (String × Nat)} {h : Heap} {vm0 : Vm} {y : MethodName} {bytes : ByteArray} {maxL : Nat} {ret : Option FieldType} {rm : Room} {len W : Nat} {as' : Array Value} {Q : Option Value → Heap → List Loc → Prop}
    (hM : MetFree l y (head1 [Jvm.Cond.code y bytes maxL ret] rm) (fun a U => a = as' ∧ Z.Warmed39 U.vm ∧ U.heap = h ∧ CHv Z EL U.vm h) (fun _ _ _ _ _ => True) (fun _ U o U' => ∃ v L, o = .returned v ∧ Q v U'.heap L ∧ ReturnedEndW U o U' L rm.cells rm.slots))
    (hZ : Z.Warmed39 vm0) (wc : (Jvm.Cond.code y bytes maxL ret).before a0 Z = true) (wz : (Jvm.Cond.initialized y.cls).before a0 Z = true) (hf : rm.frames + 1 ≤ R.frames) (hl : W + (maxL + 11) + rm.locals ≤ R.locals) (hEL : EW Z a0 EL) (H : CHv Z EL vm0 h) :
    BackS l R p e below (s.setVm vm0) args y len W (fun A a => a = as' ∧ A.U.heap = h ∧ A.cells + rm.cells ≤ R.cells ∧ A.slots + rm.slots ≤ R.slots)
      (fun A _ v B => ∃ L, Q v B.U.heap L ∧ B.locs = A.locs ++ L ∧ B.cells = A.cells + rm.cells ∧ B.slots = A.slots + rm.slots) := by
  refine BackS.of_freeW (bytes := bytes) (maxL := maxL) (ret := ret) (E := fun _ _ o t L k n => k = rm.cells ∧ n = rm.slots ∧ ∃ v, o = .returned v ∧ Q v t.heap L) hM hf hl ?_ ?_ (fun _ _ _ _ _ _ _ _ _ => trivial) ?_ ?_
  · intro m meth c A a Y hp
    have hU : Z.Warmed39 A.U.vm := wtrans (s := s.setVm vm0) hZ Y.warmed
    refine ⟨?_, mv hU wc, mv hU wz, hp.2.2.1, hp.2.2.2⟩
    show (Jvm.Cond.and _ .tt).before a A.U = true
    rw [Cond.before_and, mv hU wc]; rfl
  · intro m meth c A a g mk Y hp
    exact ⟨hp.1, wtrans (s := s.setVm vm0) hZ Y.warmed, hp.2.1, (CHv.at Y hZ hEL H).1⟩
  · rintro _ _ _ _ ⟨v, L, h1, h2, h3⟩
    exact ⟨L, _, _, h3, rfl, rfl, v, h1, h2⟩
  · rintro m meth c A a g mk v t L k n Y hp _ _ ⟨e1, e2, v', e3, e4⟩
    cases e3; subst e1 e2
    exact ⟨L, e4, rfl, rfl, rfl⟩
def own_ch (w : Int32) : Int32 := (w &&& (255 : Int32)).toUInt32.toUInt16.toUInt32.toInt32
def own_ix (w : Int32) : Nat := (w &&& (3 : Int32)).toInt.toNat
def own_pk (s w : Int32) : Int32 := nar .char (if (s &&& (1 : Int32)) = (0 : Int32) then own_ch w else ([122, 104, 101, 110] : List Int32).getD (own_ix w) 0)
theorem own_ix_r (w : Int32) : own_ix w < 4 ∧ (w &&& (3 : Int32)) = Int32.ofNat (own_ix w) := by
  have e : (w &&& (3 : Int32)).toInt = w.toInt % 2 ^ 2 := Jvm.Kit.i32_mask w 3 (k := 2) (by decide) (by decide)
  unfold own_ix
  refine ⟨by omega, ?_⟩
  apply Int32.toInt_inj.mp
  rw [Int32.toInt_ofNat_small (by omega)]
  omega
theorem own_ch_ok (x : Int32) : ¬ nar .char (own_ch x) < 0 ∧ ¬ (255 : Int32) < nar .char (own_ch x) := by
  have t : ∀ k : Fin 256, ¬ nar .char ((Int32.ofNat k.val).toUInt32.toUInt16.toUInt32.toInt32) < 0 ∧ ¬ (255 : Int32) < nar .char ((Int32.ofNat k.val).toUInt32.toUInt16.toUInt32.toInt32) := by decide +kernel
  have h : (x &&& 255).toBitVec.toNat < 256 := by
    simp only [Int32.toBitVec_and, BitVec.toNat_and]
    exact Nat.lt_succ_of_le Nat.and_le_right
  have e : (x &&& 255) = Int32.ofNat (x &&& 255).toBitVec.toNat := by
    apply Int32.toBitVec_inj.mp
    show _ = BitVec.ofNat 32 _
    rw [BitVec.ofNat_toNat]; simp
  unfold own_ch
  rw [e]
  exact t ⟨_, h⟩
theorem own_nn (z : Int32) : nar .char (nar .char z) = nar .char z := by simp only [nar, UInt32.toUInt32_toInt32, UInt16.toUInt16_toUInt32]
theorem own_lit_ok : ∀ k : Fin 4, ¬ nar .char (([122, 104, 101, 110] : List Int32).getD k.val 0) < 0 ∧ ¬ (255 : Int32) < nar .char (([122, 104, 101, 110] : List Int32).getD k.val 0) := by decide +kernel
theorem own_pk_ok (s w : Int32) : ¬ nar .char (own_pk s w) < 0 ∧ ¬ (255 : Int32) < nar .char (own_pk s w) := by
  unfold own_pk
  rw [own_nn]
  split
  · exact own_ch_ok w
  · exact own_lit_ok ⟨own_ix w, (own_ix_r w).1⟩
theorem own_pk_n (s w : Int32) : nar .char (own_pk s w) = own_pk s w := by unfold own_pk; rw [own_nn]
theorem own_up (cs : List Int32) (h : ∀ c ∈ cs, ¬ c < 0 ∧ ¬ (255 : Int32) < c) : ∀ c ∈ cs, ¬ c < 0 ∧ ¬ (65535 : Int32) < c := fun c hc => ⟨(h c hc).1, fun q => (h c hc).2 (by rw [Int32.lt_iff_toInt_lt] at q ⊢; have e1 : (65535 : Int32).toInt = 65535 := rfl; have e2 : (255 : Int32).toInt = 255 := rfl; omega)⟩
theorem d1_0 : decode method_2_code 0 = .ok (.iload_n 0, 1) := by decide +kernel
theorem d1_1 : decode method_2_code 1 = .ok (.iconst 1, 1) := by decide +kernel
theorem d1_2 : decode method_2_code 2 = .ok (.iand, 1) := by decide +kernel
theorem d1_3 : decode method_2_code 3 = .ok (.ifCond .eq 12, 3) := by decide +kernel
theorem d1_6 : decode method_2_code 6 = .ok (.ldc 7, 2) := by decide +kernel
theorem d1_8 : decode method_2_code 8 = .ok (.iload_n 1, 1) := by decide +kernel
theorem d1_9 : decode method_2_code 9 = .ok (.iconst 3, 1) := by decide +kernel
theorem d1_10 : decode method_2_code 10 = .ok (.iand, 1) := by decide +kernel
theorem d1_11 : decode method_2_code 11 = .ok (.invokevirtual 9, 3) := by decide +kernel
theorem d1_14 : decode method_2_code 14 = .ok (.ireturn, 1) := by decide +kernel
theorem d1_15 : decode method_2_code 15 = .ok (.iload_n 1, 1) := by decide +kernel
theorem d1_16 : decode method_2_code 16 = .ok (.sipush 255, 3) := by decide +kernel
theorem d1_19 : decode method_2_code 19 = .ok (.iand, 1) := by decide +kernel
theorem d1_20 : decode method_2_code 20 = .ok (.i2c, 1) := by decide +kernel
theorem d1_21 : decode method_2_code 21 = .ok (.ireturn, 1) := by decide +kernel
theorem ef_1 (m : MethodId) (x0 : Int32) (x1 : Int32) : entryFrame m #[(.int x0), (.int x1)] 2 = mkF m 0 #[.val (.int x0), .val (.int x1)] [] := by first | (simp [entryFrame, mkF, argsToLocals, Value.category]; done) | rfl
theorem pn_0 : plainName "com/example/mediawarden/mediawarden/engine/LangOfPinLaw" = true := by first | (simp [plainName, overriddenIn]; done) | decide +kernel
theorem pd_0 : parseMethodDescriptor "(I)C" = some ⟨[.int], some .char⟩ := by decide +kernel
def Q1 (Z : State) (p0 : Int32) (p1 : Int32) (G1 : Int32) (G3 : Value) (h0 : Heap) (n0 : Nat) (v : Option Value) (h : Heap) (L : List Loc) : Prop := v = some (.int (own_pk p0 p1)) ∧ Fr n0 L ∧ Ext h0 h
set_option maxRecDepth 65536 in
set_option maxHeartbeats 40000000 in
theorem rm1 (l : Launch) (Z : State) (a0 : Array Value) (hw : ∀ d ∈ tables_1, d.before a0 Z = true) (ws : List Jvm.Cond) (p0 : Int32) (p1 : Int32) (G1 : Int32) (G3 : Value) (h0 : Heap) (n0 : Nat) (Z0 : n0 ≤ h0.size) (O2 : Sta Z Z.heap "java/lang/String" "COMPACT_STRINGS" "Z" (.int G1)) (P5 : ¬ (G1 = (0 : Int32))) (O4 : Sta Z Z.heap "jdk/internal/util/Preconditions" "SIOOBE_FORMATTER" "Ljava/util/function/BiFunction;" G3) (rG3 : G3.isRef = true) (X00 : Old Z n0 h0) :
    MetFree l (⟨"com/example/mediawarden/mediawarden/engine/LangOfPinLaw", "pick", "(II)C"⟩ : MethodName) (head1 (Jvm.Cond.code (⟨"com/example/mediawarden/mediawarden/engine/LangOfPinLaw", "pick", "(II)C"⟩ : MethodName) method_2_code 2 (some .char) :: ws) ({ frames := 4, cells := 2, slots := 20, locals := 65 } : Room)) (fun a U => a = #[(.int p0), (.int p1)] ∧ Z.Warmed39 U.vm ∧ U.heap = h0 ∧ CHv Z own_EL U.vm h0) (fun _ _ _ _ _ => True) (fun _ U o U' => ∃ v L, o = .returned v ∧ Q1 Z p0 p1 G1 G3 h0 n0 v U'.heap L ∧ CHr Z own_EL U.vm U.heap U'.vm U'.heap ∧ ReturnedEndW U o U' L ({ frames := 4, cells := 2, slots := 20, locals := 65 } : Room).cells ({ frames := 4, cells := 2, slots := 20, locals := 65 } : Room).slots) := by
  refine MetFree.of_bodySF (plainFor_of_name pn_0) hisR ?_
  intro p e s m args below meth c s₁ Bd hml0 hP hK
  obtain ⟨rfl, hZ, hh, hch⟩ := hP
  have hx := Bd.exec
  have hby := Bd.bytes
  have hml : c.maxLocals = 2 := hml0
  have hown : s.vm.findClass "com/example/mediawarden/mediawarden/engine/LangOfPinLaw" = some m.cls := findClass_of_methodNamed Bd.named
  have hnm := (name_of_methodNamed Bd.named Bd.method).1
  have X0 : Stand p l e ({ frames := 4, cells := 2, slots := 20, locals := 65 } : Room) s m #[(.int p0), (.int p1)] below meth c s₁ [] 0 0 := Stand.of_body Bd
  have e0 : s₁.heap = h0 := by rw [← hh, Bd.state]; rfl
  have N0 := Fr.nil n0
  have k0 : ∀ t, Steps p.tables e below (s₁.setTop (mkF m 0 #[.val (.int p0), .val (.int p1)] [])) t → Steps p.tables e below (s₁.setTop (entryFrame m #[(.int p0), (.int p1)] 2)) t := fun t k => castTop (ef_1 m p0 p1) k
  have hEL : EW Z a0 own_EL := EW.cons (text := "zhen") (hw _ (List.mem_of_getElem? (i := 72) rfl)) (by decide) (EW.cons (text := "") (hw _ (List.mem_of_getElem? (i := 18) rfl)) (by decide) EW.nil)
  have hsa : ∀ d ∈ Bundle.stringAtoms, d.before a0 Z = true := fun d hd => hw d ((by decide +kernel : ∀ d ∈ Bundle.stringAtoms, d ∈ tables_1) d hd)
  have hchw : ∀ d ∈ StrChars.Road.wordsChN, d.before a0 Z = true := fun d hd => hw d ((by decide +kernel : ∀ d ∈ StrChars.Road.wordsChN, d ∈ tables_1) d hd)
  have k1 : ∀ t, Steps p.tables e below (s₁.setTop (mkF m 3 #[.val (.int p0), .val (.int p1)] [(.int (p0 &&& (1 : Int32)))])) t → Steps p.tables e below (s₁.setTop (entryFrame m #[(.int p0), (.int p1)] 2)) t := fun t k => k0 t (by
      show Steps p.tables e below (s₁.setTop (mkF m 0 #[.val (.int p0), .val (.int p1)] [])) _
      refine XS.iloadN X0.here hx rfl (hb hby d1_0) rfl ?_
      show Steps p.tables e below (s₁.setTop (mkF m 1 #[.val (.int p0), .val (.int p1)] [(.int p0)])) _
      refine XS.iconst X0.here hx rfl (hb hby d1_1) ?_
      show Steps p.tables e below (s₁.setTop (mkF m 2 #[.val (.int p0), .val (.int p1)] [(.int (1 : Int32)), (.int p0)])) _
      refine XS.iand X0.here hx rfl (hb hby d1_2) rfl ?_
      exact k)
  by_cases hc3 : (p0 &&& (1 : Int32)) = (0 : Int32)
  · have k2 : ∀ t, Steps p.tables e below (s₁.setTop (mkF m 21 #[.val (.int p0), .val (.int p1)] [(.int (own_ch p1))])) t → Steps p.tables e below (s₁.setTop (entryFrame m #[(.int p0), (.int p1)] 2)) t := fun t k => k1 t (by
        show Steps p.tables e below (s₁.setTop (mkF m 3 #[.val (.int p0), .val (.int p1)] [(.int (p0 &&& (1 : Int32)))])) _
        refine XS.ifYes X0.here hx rfl (pc0 := 3) (pc' := 15) rfl (hb hby d1_3) rfl ((if0 _ _).trans (teq hc3).1) (by decide) (by decide) ?_
        show Steps p.tables e below (s₁.setTop (mkF m 15 #[.val (.int p0), .val (.int p1)] [])) _
        refine XS.iloadN X0.here hx rfl (hb hby d1_15) rfl ?_
        show Steps p.tables e below (s₁.setTop (mkF m 16 #[.val (.int p0), .val (.int p1)] [(.int p1)])) _
        refine XS.sipush X0.here hx rfl (hb hby d1_16) ?_
        show Steps p.tables e below (s₁.setTop (mkF m 19 #[.val (.int p0), .val (.int p1)] [(.int (255 : Int32)), (.int p1)])) _
        refine XS.iand X0.here hx rfl (hb hby d1_19) rfl ?_
        show Steps p.tables e below (s₁.setTop (mkF m 20 #[.val (.int p0), .val (.int p1)] [(.int (p1 &&& (255 : Int32)))])) _
        refine XS.i2c X0.here hx rfl (hb hby d1_20) rfl ?_
        exact k)
    have hcr : CHr Z own_EL s.vm s.heap s₁.vm s₁.heap := by rw [hh, e0]; exact (CHr.refl hch).trans (CHv.at (s := s) (vm0 := s.vm) X0 hZ hEL hch)
    obtain ⟨fs, hr, hrun, hended, w1, w2, w3, w4⟩ := X0.leaveW (s := s) (vm₁ := s.vm) ((State.WarmedH.refl s).since h0.size) (by rw [e0]; exact (Nat.le_refl h0.size)) (v := (some (.int (nar .char (own_ch p1))))) (fun h => by rw [Bd.returns] at h; cases h)
    refine ⟨_, _, k2 _ ?_, hrun, hended, _, _, rfl, ?_, hcr, w1, w2, w3, w4.mono (by decide) (by decide)⟩
    · exact retN X0 hx (t := .char) Bd.returns (by simp) (hb hby d1_21) hr
    · show Q1 Z p0 p1 G1 G3 h0 n0 _ s₁.heap _
      rw [e0]
      exact ⟨congrArg (fun z => some (Value.int z)) (by unfold own_pk; rw [if_pos hc3]), N0, ⟨Nat.le_refl _, fun _ _ q => q⟩⟩
  · have k3 : ∀ t, Steps p.tables e below (s₁.setTop (mkF m 6 #[.val (.int p0), .val (.int p1)] [])) t → Steps p.tables e below (s₁.setTop (entryFrame m #[(.int p0), (.int p1)] 2)) t := fun t k => k1 t (by
        show Steps p.tables e below (s₁.setTop (mkF m 3 #[.val (.int p0), .val (.int p1)] [(.int (p0 &&& (1 : Int32)))])) _
        refine XS.ifNo X0.here hx rfl (hb hby d1_3) rfl ((if0 _ _).trans (feq hc3).1) ?_
        exact k)
    obtain ⟨a4, T4, h4, j4, t4, kb4, X4, e4, E4, Sn4, jk4, hZ4, hown4, Ex4, Cx4, Vx4, Ax4, la4, lb4, cr4, Lt4, sf4, st4⟩ := ldcCH (s := s) (vm0 := s.vm) X0 hx hZ hown (hw _ (List.mem_of_getElem? (i := 72) rfl)) hsa e0 ((State.WarmedH.refl s).since h0.size) (Nat.le_refl h0.size) hEL (by simp [own_EL]) hch (vs := ((([122, 104, 101, 110] : List Int32).map (fun c => c.toInt8.toInt32)).map Value.int)) (z := (4 : Int32)) ⟨by decide, by decide +kernel⟩ (by decide) (by decide) (g := (mkF m 6 #[.val (.int p0), .val (.int p1)] [])) rfl (hb hby d1_6) (n := 16) (by decide) (by decide) (by decide) (by decide)
    have Zs4 : n0 ≤ h4.size := Nat.le_trans Z0 E4.1
    have k5 : ∀ t, Steps p.tables e below (T4.setTop (mkF m 8 #[.val (.int p0), .val (.int p1)] [(.ref a4)])) t → Steps p.tables e below (s₁.setTop (entryFrame m #[(.int p0), (.int p1)] 2)) t := fun t k => k3 t (st4 _ k)
    have hp : ∀ c ∈ ([122, 104, 101, 110] : List Int32), ¬ c < 0 ∧ ¬ (255 : Int32) < c := by decide
    have hcd : StrChars.Road.CodA ([122, 104, 101, 110] : List Int32) 0 (4 : Int32) ((([122, 104, 101, 110] : List Int32).map (fun c => c.toInt8.toInt32)).map Value.int) := StrChars.Road.codOf (n := 4) rfl (fun c hc => (hp c hc).2)
    have k6 : ∀ t, Steps p.tables e below (T4.setTop (mkF m 11 #[.val (.int p0), .val (.int p1)] [(.int (p1 &&& (3 : Int32))), (.ref a4)])) t → Steps p.tables e below (s₁.setTop (entryFrame m #[(.int p0), (.int p1)] 2)) t := fun t k => k5 t (by
        show Steps p.tables e below (T4.setTop (mkF m 8 #[.val (.int p0), .val (.int p1)] [(.ref a4)])) _
        refine XS.iloadN X4.here hx rfl (hb hby d1_8) rfl ?_
        show Steps p.tables e below (T4.setTop (mkF m 9 #[.val (.int p0), .val (.int p1)] [(.int p1), (.ref a4)])) _
        refine XS.iconst X4.here hx rfl (hb hby d1_9) ?_
        show Steps p.tables e below (T4.setTop (mkF m 10 #[.val (.int p0), .val (.int p1)] [(.int (3 : Int32)), (.int p1), (.ref a4)])) _
        refine XS.iand X4.here hx rfl (hb hby d1_10) rfl ?_
        exact k)
    obtain ⟨cq7, kcq7, q7a, q7b, q7c⟩ := isOf hZ4 e4 Ex4
    obtain ⟨_, _, ⟨T7, L7, kq7, n7⟩, -, X7, ⟨Lc7, hQ7, l7, y7, z7⟩, st7⟩ := X4.virtualBack hx (y := (⟨"java/lang/String", "charAt", "(I)C"⟩ : MethodName)) (z := (⟨"java/lang/String", "charAt", "(I)C"⟩ : MethodName)) hown4 (mvT hZ4 (hw _ (List.mem_of_getElem? (i := 73) rfl))) (mvT hZ4 (hw _ (List.mem_of_getElem? (i := 74) rfl))) (notFace_of_selects (args := #[]) (mvT hZ4 (hw _ (List.mem_of_getElem? (i := 76) rfl)))) (mvT hZ4 (hw _ (List.mem_of_getElem? (i := 76) rfl))) (mvT hZ4 (hw _ (List.mem_of_getElem? (i := 75) rfl))) (by decide) (StrChars.Road.chN (W := 0) hZ4 hchw (kI := 4) (hw _ (List.mem_of_getElem? (i := 5) rfl)) Ex4 Vx4 Cx4 Ax4 hcd (own_up _ hp) (O2.ext (X00.ext E4).2) P5 (O4.ext (X00.ext E4).2) rG3 (Nat.le_of_ble_eq_true rfl) (i := own_ix p1) (own_ix_r p1).1 (j := (p1 &&& (3 : Int32))) (own_ix_r p1).2 (by decide) (by decide)) q7a q7c (g := (mkF m 11 #[.val (.int p0), .val (.int p1)] [(.int (p1 &&& (3 : Int32))), (.ref a4)])) rfl (by rw [hml]; rfl) (Steps.refl _) (argsL := [(.int (p1 &&& (3 : Int32)))]) (rest := []) (lenOf pd_0 rfl) rfl (by show 2 * 0 + _ ≤ _; exact Nat.le_of_eq rfl) (hb hby d1_11) (fun _ _ => ⟨rfl, e4, (by decide : 2 + 0 ≤ _), (by decide : 20 + 0 ≤ _)⟩)
    dsimp only [Pt.U, Pt.locs, Pt.cells, Pt.slots] at X7 l7 y7 z7 st7 hQ7
    subst l7 y7 z7
    obtain ⟨rfl, rfl, e7⟩ := hQ7
    have N7 := Fr.app N0 (Fr.nil n0)
    have k8 : ∀ t, Steps p.tables e below (T7.setTop (mkF m 14 #[.val (.int p0), .val (.int p1)] [(.int (([122, 104, 101, 110] : List Int32).getD (own_ix p1) 0))])) t → Steps p.tables e below (s₁.setTop (entryFrame m #[(.int p0), (.int p1)] 2)) t := fun t k => k6 t (st7.trans k)
    have hcr : CHr Z own_EL s.vm s.heap T7.vm T7.heap := by rw [hh, e7]; exact ((CHr.refl hch).trans cr4).trans (CHv.at (s := s) (vm0 := T4.vm) X7 hZ4 hEL cr4.1)
    obtain ⟨fs, hr, hrun, hended, w1, w2, w3, w4⟩ := X7.leaveW (s := s) (vm₁ := T4.vm) Sn4 (by rw [e7]; exact jk4) (v := (some (.int (nar .char (([122, 104, 101, 110] : List Int32).getD (own_ix p1) 0))))) (fun h => by rw [Bd.returns] at h; cases h)
    refine ⟨_, _, k8 _ ?_, hrun, hended, _, _, rfl, ?_, hcr, w1, w2, w3, w4.mono (by decide) (by decide)⟩
    · exact retN X7 hx (t := .char) Bd.returns (by simp) (hb hby d1_14) hr
    · show Q1 Z p0 p1 G1 G3 h0 n0 _ T7.heap _
      rw [e7]
      exact ⟨congrArg (fun z => some (Value.int z)) (by unfold own_pk; rw [if_neg hc3]), N7, E4⟩
theorem d3_0 : decode jdk_42_method_149_code 0 = .ok (.aload_n 0, 1) := by decide +kernel
theorem d3_1 : decode jdk_42_method_149_code 1 = .ok (.invokespecial 1, 3) := by decide +kernel
theorem d3_4 : decode jdk_42_method_149_code 4 = .ok (.iload_n 3, 1) := by decide +kernel
theorem d3_5 : decode jdk_42_method_149_code 5 = .ok (.ifCond .ne 22, 3) := by decide +kernel
theorem d3_8 : decode jdk_42_method_149_code 8 = .ok (.aload_n 0, 1) := by decide +kernel
theorem d3_9 : decode jdk_42_method_149_code 9 = .ok (.ldc 7, 2) := by decide +kernel
theorem d3_11 : decode jdk_42_method_149_code 11 = .ok (.getfield 9, 3) := by decide +kernel
theorem d3_14 : decode jdk_42_method_149_code 14 = .ok (.putfield 9, 3) := by decide +kernel
theorem d3_17 : decode jdk_42_method_149_code 17 = .ok (.aload_n 0, 1) := by decide +kernel
theorem d3_18 : decode jdk_42_method_149_code 18 = .ok (.ldc 7, 2) := by decide +kernel
theorem d3_20 : decode jdk_42_method_149_code 20 = .ok (.getfield 15, 3) := by decide +kernel
theorem d3_23 : decode jdk_42_method_149_code 23 = .ok (.putfield 15, 3) := by decide +kernel
theorem d3_26 : decode jdk_42_method_149_code 26 = .ok (.return_, 1) := by decide +kernel
theorem d3_27 : decode jdk_42_method_149_code 27 = .ok (.getstatic 38, 3) := by decide +kernel
theorem d3_30 : decode jdk_42_method_149_code 30 = .ok (.ifCond .eq 28, 3) := by decide +kernel
theorem d3_33 : decode jdk_42_method_149_code 33 = .ok (.aload_n 1, 1) := by decide +kernel
theorem d3_34 : decode jdk_42_method_149_code 34 = .ok (.iload_n 2, 1) := by decide +kernel
theorem d3_35 : decode jdk_42_method_149_code 35 = .ok (.iload_n 3, 1) := by decide +kernel
theorem d3_36 : decode jdk_42_method_149_code 36 = .ok (.invokestatic 177, 3) := by decide +kernel
theorem d3_39 : decode jdk_42_method_149_code 39 = .ok (.astore 5, 2) := by decide +kernel
theorem d3_41 : decode jdk_42_method_149_code 41 = .ok (.aload_n 0, 1) := by decide +kernel
theorem d3_42 : decode jdk_42_method_149_code 42 = .ok (.aload 5, 2) := by decide +kernel
theorem d3_44 : decode jdk_42_method_149_code 44 = .ok (.iload_n 3, 1) := by decide +kernel
theorem d3_45 : decode jdk_42_method_149_code 45 = .ok (.invokestatic 47, 3) := by decide +kernel
theorem d3_48 : decode jdk_42_method_149_code 48 = .ok (.putfield 15, 3) := by decide +kernel
theorem d3_51 : decode jdk_42_method_149_code 51 = .ok (.aload_n 0, 1) := by decide +kernel
theorem d3_52 : decode jdk_42_method_149_code 52 = .ok (.aload 5, 2) := by decide +kernel
theorem d3_54 : decode jdk_42_method_149_code 54 = .ok (.putfield 9, 3) := by decide +kernel
theorem d3_57 : decode jdk_42_method_149_code 57 = .ok (.return_, 1) := by decide +kernel
theorem d3_58 : decode jdk_42_method_149_code 58 = .ok (.aload_n 0, 1) := by decide +kernel
theorem d3_59 : decode jdk_42_method_149_code 59 = .ok (.iconst 1, 1) := by decide +kernel
theorem d3_60 : decode jdk_42_method_149_code 60 = .ok (.putfield 15, 3) := by decide +kernel
theorem d3_63 : decode jdk_42_method_149_code 63 = .ok (.aload_n 0, 1) := by decide +kernel
theorem d3_64 : decode jdk_42_method_149_code 64 = .ok (.aload_n 1, 1) := by decide +kernel
theorem d3_65 : decode jdk_42_method_149_code 65 = .ok (.iload_n 2, 1) := by decide +kernel
theorem d3_66 : decode jdk_42_method_149_code 66 = .ok (.iload_n 3, 1) := by decide +kernel
theorem d3_67 : decode jdk_42_method_149_code 67 = .ok (.invokestatic 180, 3) := by decide +kernel
theorem d3_70 : decode jdk_42_method_149_code 70 = .ok (.putfield 9, 3) := by decide +kernel
theorem d3_73 : decode jdk_42_method_149_code 73 = .ok (.return_, 1) := by decide +kernel
theorem ef_3 (m : MethodId) (x0 : Addr) (x1 : Addr) (x2 : Int32) (x3 : Int32) : entryFrame m #[(.ref x0), (.ref x1), (.int x2), (.int x3), .null] 6 = mkF m 0 #[.val (.ref x0), .val (.ref x1), .val (.int x2), .val (.int x3), .val .null, .unset] [] := by first | (simp [entryFrame, mkF, argsToLocals, Value.category]; done) | rfl
theorem pn_1 : plainName "java/lang/String" = true := by first | (simp [plainName, overriddenIn]; done) | decide +kernel
def Q3 (Z : State) (r0 : Addr) (r1 : Addr) (h0 : Heap) (n0 : Nat) (v : Option Value) (h : Heap) (L : List Loc) : Prop := v = none ∧ Fr n0 L ∧ Keep h0 h [r0] ∧ Exa Z h r0 "java/lang/String" ∧ Fld Z h r0 "java/lang/String" "coder" "B" (.int (0 : Int32)) ∧ ∃ (t : Addr) (kb : ClassId), Fld Z h r0 "java/lang/String" "value" "[B" (.ref t) ∧ Arv Z h t kb .byte (0 : Int32) [] (.int (0 : Int32))
set_option maxRecDepth 65536 in
set_option maxHeartbeats 40000000 in
theorem rm3 (l : Launch) (Z : State) (a0 : Array Value) (hw : ∀ d ∈ tables_1, d.before a0 Z = true) (ws : List Jvm.Cond) (r0 : Addr) (r1 : Addr) (h0 : Heap) (n0 : Nat) (Z0 : n0 ≤ h0.size) (F_value_r0 : Fld Z h0 r0 "java/lang/String" "value" "[B" .null) (F_coder_r0 : Fld Z h0 r0 "java/lang/String" "coder" "B" (.int (0 : Int32))) (E_r0 : Exa Z h0 r0 "java/lang/String") (g_r0 : n0 ≤ r0) :
    MetFree l (⟨"java/lang/String", "<init>", "([CIILjava/lang/Void;)V"⟩ : MethodName) (head1 (Jvm.Cond.code (⟨"java/lang/String", "<init>", "([CIILjava/lang/Void;)V"⟩ : MethodName) jdk_42_method_149_code 6 none :: ws) ({ frames := 1, cells := 2, slots := 4, locals := 12 } : Room)) (fun a U => a = #[(.ref r0), (.ref r1), (.int (0 : Int32)), (.int (0 : Int32)), .null] ∧ Z.Warmed39 U.vm ∧ U.heap = h0 ∧ CHv Z own_EL U.vm h0) (fun _ _ _ _ _ => True) (fun _ U o U' => ∃ v L, o = .returned v ∧ Q3 Z r0 r1 h0 n0 v U'.heap L ∧ ReturnedEndW U o U' L ({ frames := 1, cells := 2, slots := 4, locals := 12 } : Room).cells ({ frames := 1, cells := 2, slots := 4, locals := 12 } : Room).slots) := by
  refine MetFree.of_bodySF (plainFor_of_name pn_1) hisR ?_
  intro p e s m args below meth c s₁ Bd hml0 hP hK
  obtain ⟨rfl, hZ, hh, hch⟩ := hP
  have hx := Bd.exec
  have hby := Bd.bytes
  have hml : c.maxLocals = 6 := hml0
  have hown : s.vm.findClass "java/lang/String" = some m.cls := findClass_of_methodNamed Bd.named
  have hnm := (name_of_methodNamed Bd.named Bd.method).1
  have X0 : Stand p l e ({ frames := 1, cells := 2, slots := 4, locals := 12 } : Room) s m #[(.ref r0), (.ref r1), (.int (0 : Int32)), (.int (0 : Int32)), .null] below meth c s₁ [] 0 0 := Stand.of_body Bd
  have e0 : s₁.heap = h0 := by rw [← hh, Bd.state]; rfl
  have N0 := Fr.nil n0
  have k0 : ∀ t, Steps p.tables e below (s₁.setTop (mkF m 0 #[.val (.ref r0), .val (.ref r1), .val (.int (0 : Int32)), .val (.int (0 : Int32)), .val .null, .unset] [])) t → Steps p.tables e below (s₁.setTop (entryFrame m #[(.ref r0), (.ref r1), (.int (0 : Int32)), (.int (0 : Int32)), .null] 6)) t := fun t k => castTop (ef_3 m r0 r1 (0 : Int32) (0 : Int32)) k
  have hEL : EW Z a0 own_EL := EW.cons (text := "zhen") (hw _ (List.mem_of_getElem? (i := 72) rfl)) (by decide) (EW.cons (text := "") (hw _ (List.mem_of_getElem? (i := 18) rfl)) (by decide) EW.nil)
  have hsa : ∀ d ∈ Bundle.stringAtoms, d.before a0 Z = true := fun d hd => hw d ((by decide +kernel : ∀ d ∈ Bundle.stringAtoms, d ∈ tables_1) d hd)
  have k1 : ∀ t, Steps p.tables e below (s₁.setTop (mkF m 1 #[.val (.ref r0), .val (.ref r1), .val (.int (0 : Int32)), .val (.int (0 : Int32)), .val .null, .unset] [(.ref r0)])) t → Steps p.tables e below (s₁.setTop (entryFrame m #[(.ref r0), (.ref r1), (.int (0 : Int32)), (.int (0 : Int32)), .null] 6)) t := fun t k => k0 t (by
      show Steps p.tables e below (s₁.setTop (mkF m 0 #[.val (.ref r0), .val (.ref r1), .val (.int (0 : Int32)), .val (.int (0 : Int32)), .val .null, .unset] [])) _
      refine XS.aloadN X0.here hx rfl (hb hby d3_0) rfl rfl ?_
      exact k)
  obtain ⟨T2, X2, e2, st2⟩ := initO X0 hx hZ hown (hw _ (List.mem_of_getElem? (i := 15) rfl)) (hw _ (List.mem_of_getElem? (i := 16) rfl)) (hw _ (List.mem_of_getElem? (i := 17) rfl)) e0 (g := (mkF m 1 #[.val (.ref r0), .val (.ref r1), .val (.int (0 : Int32)), .val (.int (0 : Int32)), .val .null, .unset] [(.ref r0)])) rfl (by rw [hml]; rfl) rfl (hb hby d3_1) (by decide) (W := 0) (by show 2 * 0 + _ ≤ _; exact Nat.le_of_eq rfl) (by decide)
  have k3 : ∀ t, Steps p.tables e below (T2.setTop (mkF m 4 #[.val (.ref r0), .val (.ref r1), .val (.int (0 : Int32)), .val (.int (0 : Int32)), .val .null, .unset] [])) t → Steps p.tables e below (s₁.setTop (entryFrame m #[(.ref r0), (.ref r1), (.int (0 : Int32)), (.int (0 : Int32)), .null] 6)) t := fun t k => k1 t (st2 _ k)
  have hc5 : (0 : Int32) = (0 : Int32) := by decide
  have k4 : ∀ t, Steps p.tables e below (T2.setTop (mkF m 9 #[.val (.ref r0), .val (.ref r1), .val (.int (0 : Int32)), .val (.int (0 : Int32)), .val .null, .unset] [(.ref r0)])) t → Steps p.tables e below (s₁.setTop (entryFrame m #[(.ref r0), (.ref r1), (.int (0 : Int32)), (.int (0 : Int32)), .null] 6)) t := fun t k => k3 t (by
      show Steps p.tables e below (T2.setTop (mkF m 4 #[.val (.ref r0), .val (.ref r1), .val (.int (0 : Int32)), .val (.int (0 : Int32)), .val .null, .unset] [])) _
      refine XS.iloadN X2.here hx rfl (hb hby d3_4) rfl ?_
      show Steps p.tables e below (T2.setTop (mkF m 5 #[.val (.ref r0), .val (.ref r1), .val (.int (0 : Int32)), .val (.int (0 : Int32)), .val .null, .unset] [(.int (0 : Int32))])) _
      refine XS.ifNo X2.here hx rfl (hb hby d3_5) rfl ((if0 _ _).trans (teq hc5).2) ?_
      show Steps p.tables e below (T2.setTop (mkF m 8 #[.val (.ref r0), .val (.ref r1), .val (.int (0 : Int32)), .val (.int (0 : Int32)), .val .null, .unset] [])) _
      refine XS.aloadN X2.here hx rfl (hb hby d3_8) rfl rfl ?_
      exact k)
  obtain ⟨a5, T5, h5, j5, t5, kb5, X5, e5, E5, Sn5, jk5, hZ5, hown5, Ex5, Cx5, Vx5, Ax5, la5, lb5, cr5, Lt5, sf5, st5⟩ := ldcCH (s := s) (vm0 := s.vm) X2 hx hZ hown (hw _ (List.mem_of_getElem? (i := 18) rfl)) hsa e2 ((State.WarmedH.refl s).since h0.size) (Nat.le_refl h0.size) hEL (by simp [own_EL]) hch (vs := ((([] : List Int32).map (fun c => c.toInt8.toInt32)).map Value.int)) (z := (0 : Int32)) ⟨by decide, by decide +kernel⟩ (by decide) (by decide) (g := (mkF m 9 #[.val (.ref r0), .val (.ref r1), .val (.int (0 : Int32)), .val (.int (0 : Int32)), .val .null, .unset] [(.ref r0)])) rfl (hb hby d3_9) (n := 0) (by decide) (by decide) (by decide) (by decide)
  have Zs5 : n0 ≤ h5.size := Nat.le_trans Z0 E5.1
  have k6 : ∀ t, Steps p.tables e below (T5.setTop (mkF m 11 #[.val (.ref r0), .val (.ref r1), .val (.int (0 : Int32)), .val (.int (0 : Int32)), .val .null, .unset] [(.ref a5), (.ref r0)])) t → Steps p.tables e below (s₁.setTop (entryFrame m #[(.ref r0), (.ref r1), (.int (0 : Int32)), (.int (0 : Int32)), .null] 6)) t := fun t k => k4 t (st5 _ k)
  have ne_r0_a5 : r0 ≠ a5 := Fld.ne (F_value_r0.ext E5) Vx5 (by simp)
  have ne_r0_t5 : r0 ≠ t5 := Exa.neArv (E_r0.ext E5) Ax5 (hw _ (List.mem_of_getElem? (i := 5) rfl))
  obtain ⟨T7, X7, e7, st7⟩ := getF X5 hx hZ5 hown5 (host := "") (Or.inl (hw _ (List.mem_of_getElem? (i := 24) rfl))) Via.refl e5 Vx5 (g := (mkF m 11 #[.val (.ref r0), .val (.ref r1), .val (.int (0 : Int32)), .val (.int (0 : Int32)), .val .null, .unset] [(.ref a5), (.ref r0)])) rfl rfl (hb hby d3_11)
  have k8 : ∀ t, Steps p.tables e below (T7.setTop (mkF m 14 #[.val (.ref r0), .val (.ref r1), .val (.int (0 : Int32)), .val (.int (0 : Int32)), .val .null, .unset] [(.ref t5), (.ref r0)])) t → Steps p.tables e below (s₁.setTop (entryFrame m #[(.ref r0), (.ref r1), (.int (0 : Int32)), (.int (0 : Int32)), .null] 6)) t := fun t k => k6 t (st7 _ k)
  obtain ⟨T9, h9, X9, e9, W9, st9⟩ := putF X7 hx hZ5 hown5 (host := "") (Or.inl (hw _ (List.mem_of_getElem? (i := 24) rfl))) Via.refl e7 (F_value_r0.ext E5) (E_r0.ext E5) (Or.inr ⟨(hw _ (List.mem_of_getElem? (i := 20) rfl)), rfl, hnm⟩) (hw _ (List.mem_of_getElem? (i := 5) rfl)) (ty := (.array .byte)) (by decide) rfl rfl (g := (mkF m 14 #[.val (.ref r0), .val (.ref r1), .val (.int (0 : Int32)), .val (.int (0 : Int32)), .val .null, .unset] [(.ref t5), (.ref r0)])) rfl rfl (hb hby d3_14)
  have fc10 := ((F_coder_r0.ext E5).other W9 (Or.inr (slot_ne (Or.inr (hw _ (List.mem_of_getElem? (i := 21) rfl))) (Or.inr (hw _ (List.mem_of_getElem? (i := 20) rfl))) (by decide) (t := .byte) (t' := (.array .byte)) (by decide) (by decide))))
  have N9 := Fr.snoc X9 N0 g_r0
  have Zs9 : n0 ≤ h9.size := Nat.le_trans Zs5 (Keep.of_wr W9).1
  have k11 : ∀ t, Steps p.tables e below (T9.setTop (mkF m 17 #[.val (.ref r0), .val (.ref r1), .val (.int (0 : Int32)), .val (.int (0 : Int32)), .val .null, .unset] [])) t → Steps p.tables e below (s₁.setTop (entryFrame m #[(.ref r0), (.ref r1), (.int (0 : Int32)), (.int (0 : Int32)), .null] 6)) t := fun t k => k8 t (st9 _ k)
  have k12 : ∀ t, Steps p.tables e below (T9.setTop (mkF m 18 #[.val (.ref r0), .val (.ref r1), .val (.int (0 : Int32)), .val (.int (0 : Int32)), .val .null, .unset] [(.ref r0)])) t → Steps p.tables e below (s₁.setTop (entryFrame m #[(.ref r0), (.ref r1), (.int (0 : Int32)), (.int (0 : Int32)), .null] 6)) t := fun t k => k11 t (by
      show Steps p.tables e below (T9.setTop (mkF m 17 #[.val (.ref r0), .val (.ref r1), .val (.int (0 : Int32)), .val (.int (0 : Int32)), .val .null, .unset] [])) _
      refine XS.aloadN X9.here hx rfl (hb hby d3_17) rfl rfl ?_
      exact k)
  have k13 : ∀ t, Steps p.tables e below (T9.setTop (mkF m 20 #[.val (.ref r0), .val (.ref r1), .val (.int (0 : Int32)), .val (.int (0 : Int32)), .val .null, .unset] [(.ref a5), (.ref r0)])) t → Steps p.tables e below (s₁.setTop (entryFrame m #[(.ref r0), (.ref r1), (.int (0 : Int32)), (.int (0 : Int32)), .null] 6)) t := fun t k => k12 t (by
      show Steps p.tables e below (T9.setTop (mkF m 18 #[.val (.ref r0), .val (.ref r1), .val (.int (0 : Int32)), .val (.int (0 : Int32)), .val .null, .unset] [(.ref r0)])) _
      refine ldcAgain (s := s) (vm0 := T5.vm) X9 hx hZ5 hown5 (hw _ (List.mem_of_getElem? (i := 18) rfl)) Lt5 (g := (mkF m 18 #[.val (.ref r0), .val (.ref r1), .val (.int (0 : Int32)), .val (.int (0 : Int32)), .val .null, .unset] [(.ref r0)])) rfl (hb hby d3_18) _ ?_
      exact k)
  obtain ⟨T14, X14, e14, st14⟩ := getF X9 hx hZ5 hown5 (host := "") (Or.inl (hw _ (List.mem_of_getElem? (i := 25) rfl))) Via.refl e9 (Cx5.other W9 (Or.inl ne_r0_a5.symm)) (g := (mkF m 20 #[.val (.ref r0), .val (.ref r1), .val (.int (0 : Int32)), .val (.int (0 : Int32)), .val .null, .unset] [(.ref a5), (.ref r0)])) rfl rfl (hb hby d3_20)
  have k15 : ∀ t, Steps p.tables e below (T14.setTop (mkF m 23 #[.val (.ref r0), .val (.ref r1), .val (.int (0 : Int32)), .val (.int (0 : Int32)), .val .null, .unset] [(.int (0 : Int32)), (.ref r0)])) t → Steps p.tables e below (s₁.setTop (entryFrame m #[(.ref r0), (.ref r1), (.int (0 : Int32)), (.int (0 : Int32)), .null] 6)) t := fun t k => k13 t (st14 _ k)
  obtain ⟨T16, h16, X16, e16, W16, st16⟩ := putFN X14 hx hZ5 hown5 (hw _ (List.mem_of_getElem? (i := 25) rfl)) Via.refl e14 fc10 ((E_r0.ext E5).wr W9) (Or.inr ⟨(hw _ (List.mem_of_getElem? (i := 21) rfl)), rfl, hnm⟩) (hw _ (List.mem_of_getElem? (i := 5) rfl)) (ty := .byte) (v' := (.int (0 : Int32))) (by decide) rfl rfl (g := (mkF m 23 #[.val (.ref r0), .val (.ref r1), .val (.int (0 : Int32)), .val (.int (0 : Int32)), .val .null, .unset] [(.int (0 : Int32)), (.ref r0)])) rfl rfl (hb hby d3_23)
  have fc17 := (((F_value_r0.ext E5).same W9).other W16 (Or.inr (slot_ne (Or.inr (hw _ (List.mem_of_getElem? (i := 20) rfl))) (Or.inr (hw _ (List.mem_of_getElem? (i := 21) rfl))) (by decide) (t := (.array .byte)) (t' := .byte) (by decide) (by decide))))
  have N16 := Fr.snoc X16 N9 g_r0
  have Zs16 : n0 ≤ h16.size := Nat.le_trans Zs9 (Keep.of_wr W16).1
  have k18 : ∀ t, Steps p.tables e below (T16.setTop (mkF m 26 #[.val (.ref r0), .val (.ref r1), .val (.int (0 : Int32)), .val (.int (0 : Int32)), .val .null, .unset] [])) t → Steps p.tables e below (s₁.setTop (entryFrame m #[(.ref r0), (.ref r1), (.int (0 : Int32)), (.int (0 : Int32)), .null] 6)) t := fun t k => k15 t (st16 _ k)
  obtain ⟨fs, hr, hrun, hended, w1, w2, w3, w4⟩ := X16.leaveW (s := s) (vm₁ := T5.vm) Sn5 (by rw [e16]; exact (Nat.le_trans (Nat.le_trans jk5 (Keep.of_wr W9).1) (Keep.of_wr W16).1)) (v := none) (fun _ => rfl)
  refine ⟨_, _, k18 _ ?_, hrun, hended, _, _, rfl, ?_, w1, w2, w3, w4.mono (by decide) (by decide)⟩
  · exact X16.returnOut hx Bd.returns (hb hby d3_26) hr
  · show Q3 Z r0 r1 h0 n0 _ T16.heap _
    rw [e16]
    exact ⟨rfl, N16, ((((Keep.refl h0 [r0]).ext E5).wr W9 (Or.inl (List.mem_of_getElem? (i := 0) rfl))).wr W16 (Or.inl (List.mem_of_getElem? (i := 0) rfl))), (((E_r0.ext E5).wr W9).wr W16), (fc10.same W16), t5, kb5, fc17, ((Ax5.other W9 ne_r0_t5.symm).other W16 ne_r0_t5.symm)⟩
theorem d2_0 : decode jdk_42_method_3_code 0 = .ok (.aload_n 0, 1) := by decide +kernel
theorem d2_1 : decode jdk_42_method_3_code 1 = .ok (.aload_n 1, 1) := by decide +kernel
theorem d2_2 : decode jdk_42_method_3_code 2 = .ok (.iconst 0, 1) := by decide +kernel
theorem d2_3 : decode jdk_42_method_3_code 3 = .ok (.aload_n 1, 1) := by decide +kernel
theorem d2_4 : decode jdk_42_method_3_code 4 = .ok (.arraylength, 1) := by decide +kernel
theorem d2_5 : decode jdk_42_method_3_code 5 = .ok (.aconst_null, 1) := by decide +kernel
theorem d2_6 : decode jdk_42_method_3_code 6 = .ok (.invokespecial 27, 3) := by decide +kernel
theorem d2_9 : decode jdk_42_method_3_code 9 = .ok (.return_, 1) := by decide +kernel
theorem ef_2 (m : MethodId) (x0 : Addr) (x1 : Addr) : entryFrame m #[(.ref x0), (.ref x1)] 2 = mkF m 0 #[.val (.ref x0), .val (.ref x1)] [] := by first | (simp [entryFrame, mkF, argsToLocals, Value.category]; done) | rfl
theorem pd_1 : parseMethodDescriptor "([CIILjava/lang/Void;)V" = some ⟨[(.array .char), .int, .int, (.object "java/lang/Void")], none⟩ := by decide +kernel
def Q2 (Z : State) (r0 : Addr) (r1 : Addr) (cl : Cell) (h0 : Heap) (n0 : Nat) (v : Option Value) (h : Heap) (L : List Loc) : Prop := v = none ∧ Fr n0 L ∧ Keep h0 h [r0] ∧ Exa Z h r0 "java/lang/String" ∧ Fld Z h r0 "java/lang/String" "coder" "B" (.int (0 : Int32)) ∧ ∃ (t : Addr) (kb : ClassId), Fld Z h r0 "java/lang/String" "value" "[B" (.ref t) ∧ Arv Z h t kb .byte (0 : Int32) [] (.int (0 : Int32))
set_option maxRecDepth 65536 in
set_option maxHeartbeats 40000000 in
theorem rm2 (l : Launch) (Z : State) (a0 : Array Value) (hw : ∀ d ∈ tables_1, d.before a0 Z = true) (ws : List Jvm.Cond) (r0 : Addr) (r1 : Addr) (cl : Cell) (h0 : Heap) (n0 : Nat) (Z0 : n0 ≤ h0.size) (F_value_r0 : Fld Z h0 r0 "java/lang/String" "value" "[B" .null) (F_coder_r0 : Fld Z h0 r0 "java/lang/String" "coder" "B" (.int (0 : Int32))) (E_r0 : Exa Z h0 r0 "java/lang/String") (g_r0 : n0 ≤ r0) (Ar_r1 : Arr Z h0 r1 cl .char) (hs0 : cl.slots.size = 0) :
    MetFree l (⟨"java/lang/String", "<init>", "([C)V"⟩ : MethodName) (head1 (Jvm.Cond.code (⟨"java/lang/String", "<init>", "([C)V"⟩ : MethodName) jdk_42_method_3_code 2 none :: ws) ({ frames := 2, cells := 2, slots := 4, locals := 29 } : Room)) (fun a U => a = #[(.ref r0), (.ref r1)] ∧ Z.Warmed39 U.vm ∧ U.heap = h0 ∧ CHv Z own_EL U.vm h0) (fun _ _ _ _ _ => True) (fun _ U o U' => ∃ v L, o = .returned v ∧ Q2 Z r0 r1 cl h0 n0 v U'.heap L ∧ ReturnedEndW U o U' L ({ frames := 2, cells := 2, slots := 4, locals := 29 } : Room).cells ({ frames := 2, cells := 2, slots := 4, locals := 29 } : Room).slots) := by
  refine MetFree.of_bodySF (plainFor_of_name pn_1) hisR ?_
  intro p e s m args below meth c s₁ Bd hml0 hP hK
  obtain ⟨rfl, hZ, hh, hch⟩ := hP
  have hx := Bd.exec
  have hby := Bd.bytes
  have hml : c.maxLocals = 2 := hml0
  have hown : s.vm.findClass "java/lang/String" = some m.cls := findClass_of_methodNamed Bd.named
  have hnm := (name_of_methodNamed Bd.named Bd.method).1
  have X0 : Stand p l e ({ frames := 2, cells := 2, slots := 4, locals := 29 } : Room) s m #[(.ref r0), (.ref r1)] below meth c s₁ [] 0 0 := Stand.of_body Bd
  have e0 : s₁.heap = h0 := by rw [← hh, Bd.state]; rfl
  have N0 := Fr.nil n0
  have k0 : ∀ t, Steps p.tables e below (s₁.setTop (mkF m 0 #[.val (.ref r0), .val (.ref r1)] [])) t → Steps p.tables e below (s₁.setTop (entryFrame m #[(.ref r0), (.ref r1)] 2)) t := fun t k => castTop (ef_2 m r0 r1) k
  have hEL : EW Z a0 own_EL := EW.cons (text := "zhen") (hw _ (List.mem_of_getElem? (i := 72) rfl)) (by decide) (EW.cons (text := "") (hw _ (List.mem_of_getElem? (i := 18) rfl)) (by decide) EW.nil)
  have hsa : ∀ d ∈ Bundle.stringAtoms, d.before a0 Z = true := fun d hd => hw d ((by decide +kernel : ∀ d ∈ Bundle.stringAtoms, d ∈ tables_1) d hd)
  have hlen0 : cl.slots.size.toInt32 = (0 : Int32) := by rw [hs0]; rfl
  have k1 : ∀ t, Steps p.tables e below (s₁.setTop (mkF m 6 #[.val (.ref r0), .val (.ref r1)] [.null, (.int (0 : Int32)), (.int (0 : Int32)), (.ref r1), (.ref r0)])) t → Steps p.tables e below (s₁.setTop (entryFrame m #[(.ref r0), (.ref r1)] 2)) t := fun t k => k0 t (by
      show Steps p.tables e below (s₁.setTop (mkF m 0 #[.val (.ref r0), .val (.ref r1)] [])) _
      refine XS.aloadN X0.here hx rfl (hb hby d2_0) rfl rfl ?_
      show Steps p.tables e below (s₁.setTop (mkF m 1 #[.val (.ref r0), .val (.ref r1)] [(.ref r0)])) _
      refine XS.aloadN X0.here hx rfl (hb hby d2_1) rfl rfl ?_
      show Steps p.tables e below (s₁.setTop (mkF m 2 #[.val (.ref r0), .val (.ref r1)] [(.ref r1), (.ref r0)])) _
      refine XS.iconst X0.here hx rfl (hb hby d2_2) ?_
      show Steps p.tables e below (s₁.setTop (mkF m 3 #[.val (.ref r0), .val (.ref r1)] [(.int (0 : Int32)), (.ref r1), (.ref r0)])) _
      refine XS.aloadN X0.here hx rfl (hb hby d2_3) rfl rfl ?_
      show Steps p.tables e below (s₁.setTop (mkF m 4 #[.val (.ref r0), .val (.ref r1)] [(.ref r1), (.int (0 : Int32)), (.ref r1), (.ref r0)])) _
      refine X0.arraylength hx (by rw [e0]; exact Ar_r1.1) (State.isArrayOf_alike hZ.alike Ar_r1.2.1) (g := (mkF m 4 #[.val (.ref r0), .val (.ref r1)] [(.ref r1), (.int (0 : Int32)), (.ref r1), (.ref r0)])) rfl rfl (hb hby d2_4) _ ?_
      rw [hlen0]
      show Steps p.tables e below (s₁.setTop (mkF m 5 #[.val (.ref r0), .val (.ref r1)] [(.int (0 : Int32)), (.int (0 : Int32)), (.ref r1), (.ref r0)])) _
      refine XS.aconstNull X0.here hx rfl (hb hby d2_5) ?_
      exact k)
  obtain ⟨_, _, ⟨T2, L2, kq2, n2⟩, -, X2, Sc2, gr2, ⟨Lc2, hQ2, l2, y2, z2⟩, st2⟩ := X0.specialBackS hx (y := (⟨"java/lang/String", "<init>", "([CIILjava/lang/Void;)V"⟩ : MethodName)) rfl hown (mvT hZ (hw _ (List.mem_of_getElem? (i := 11) rfl))) (mvT hZ (hw _ (List.mem_of_getElem? (i := 12) rfl))) (mvT hZ (hw _ (List.mem_of_getElem? (i := 14) rfl))) (by decide) (own_backE (s := s) (vm0 := s.vm) (W := 0) (rm3 l Z a0 hw [] r0 r1 h0 n0 Z0 F_value_r0 F_coder_r0 E_r0 g_r0) hZ (hw _ (List.mem_of_getElem? (i := 14) rfl)) (hw _ (List.mem_of_getElem? (i := 6) rfl)) (by decide) (by decide) hEL hch) (g := (mkF m 6 #[.val (.ref r0), .val (.ref r1)] [.null, (.int (0 : Int32)), (.int (0 : Int32)), (.ref r1), (.ref r0)])) rfl (by rw [hml]; rfl) (Steps.refl _) (a := r0) (argsL := [(.ref r1), (.int (0 : Int32)), (.int (0 : Int32)), .null]) (rest := []) (lenOf pd_1 rfl) rfl (by show 2 * 0 + _ ≤ _; exact Nat.le_of_eq rfl) (hb hby d2_6) (fun _ _ => ⟨rfl, e0, (by decide : 0 + 2 ≤ _), (by decide : 0 + 4 ≤ _)⟩)
  dsimp only [Pt.U, Pt.locs, Pt.cells, Pt.slots] at Sc2 gr2
  dsimp only [Pt.U, Pt.locs, Pt.cells, Pt.slots] at X2 l2 y2 z2 st2 hQ2
  subst l2 y2 z2
  obtain ⟨rfl, N2q, K2, Ex2, Cx2, t2, kb2, Vx2, Ax2⟩ := hQ2
  have N2 := Fr.app N0 N2q
  have Zs2 : n0 ≤ T2.heap.size := Nat.le_trans Z0 K2.1
  have hZ2 : Z.Warmed39 (s.setVm T2.vm).vm := State.Warmed39.trans (t := s.setVm s.vm) hZ Sc2.1
  have hown2 : (s.setVm T2.vm).vm.findClass "java/lang/String" = some m.cls := by rw [show (s.setVm T2.vm).vm = T2.vm from rfl, Sc2.1.alike.findClass]; exact hown
  have Sn2 : s.Since T2.vm T2.heap.size := foldS (vm0 := s.vm) ((State.WarmedH.refl s).since h0.size) (by rw [e0]; exact (Nat.le_refl h0.size)) Sc2 gr2
  have k3 : ∀ t, Steps p.tables e below (T2.setTop (mkF m 9 #[.val (.ref r0), .val (.ref r1)] [])) t → Steps p.tables e below (s₁.setTop (entryFrame m #[(.ref r0), (.ref r1)] 2)) t := fun t k => k1 t (st2.trans k)
  obtain ⟨fs, hr, hrun, hended, w1, w2, w3, w4⟩ := X2.leaveW (s := s) (vm₁ := T2.vm) Sn2 (Nat.le_refl _) (v := none) (fun _ => rfl)
  refine ⟨_, _, k3 _ ?_, hrun, hended, _, _, rfl, ?_, w1, w2, w3, w4.mono (by decide) (by decide)⟩
  · exact X2.returnOut hx Bd.returns (hb hby d2_9) hr
  · show Q2 Z r0 r1 cl h0 n0 _ T2.heap _
    exact ⟨rfl, N2, K2, Ex2, Cx2, t2, kb2, Vx2, Ax2⟩
theorem d7_0 : decode jdk_42_method_66_code 0 = .ok (.aload_n 0, 1) := by decide +kernel
theorem d7_1 : decode jdk_42_method_66_code 1 = .ok (.aload_n 1, 1) := by decide +kernel
theorem d7_2 : decode jdk_42_method_66_code 2 = .ok (.if_acmp .ne 5, 3) := by decide +kernel
theorem d7_5 : decode jdk_42_method_66_code 5 = .ok (.iconst 1, 1) := by decide +kernel
theorem d7_6 : decode jdk_42_method_66_code 6 = .ok (.ireturn, 1) := by decide +kernel
theorem d7_7 : decode jdk_42_method_66_code 7 = .ok (.aload_n 1, 1) := by decide +kernel
theorem d7_8 : decode jdk_42_method_66_code 8 = .ok (.instanceof 10, 3) := by decide +kernel
theorem d7_11 : decode jdk_42_method_66_code 11 = .ok (.ifCond .eq 43, 3) := by decide +kernel
theorem d7_14 : decode jdk_42_method_66_code 14 = .ok (.aload_n 1, 1) := by decide +kernel
theorem d7_15 : decode jdk_42_method_66_code 15 = .ok (.checkcast 10, 3) := by decide +kernel
theorem d7_18 : decode jdk_42_method_66_code 18 = .ok (.astore_n 2, 1) := by decide +kernel
theorem d7_19 : decode jdk_42_method_66_code 19 = .ok (.getstatic 38, 3) := by decide +kernel
theorem d7_22 : decode jdk_42_method_66_code 22 = .ok (.ifCond .eq 14, 3) := by decide +kernel
theorem d7_25 : decode jdk_42_method_66_code 25 = .ok (.aload_n 0, 1) := by decide +kernel
theorem d7_26 : decode jdk_42_method_66_code 26 = .ok (.getfield 15, 3) := by decide +kernel
theorem d7_29 : decode jdk_42_method_66_code 29 = .ok (.aload_n 2, 1) := by decide +kernel
theorem d7_30 : decode jdk_42_method_66_code 30 = .ok (.getfield 15, 3) := by decide +kernel
theorem d7_33 : decode jdk_42_method_66_code 33 = .ok (.if_icmp .ne 21, 3) := by decide +kernel
theorem d7_36 : decode jdk_42_method_66_code 36 = .ok (.aload_n 0, 1) := by decide +kernel
theorem d7_37 : decode jdk_42_method_66_code 37 = .ok (.getfield 9, 3) := by decide +kernel
theorem d7_40 : decode jdk_42_method_66_code 40 = .ok (.aload_n 2, 1) := by decide +kernel
theorem d7_41 : decode jdk_42_method_66_code 41 = .ok (.getfield 9, 3) := by decide +kernel
theorem d7_44 : decode jdk_42_method_66_code 44 = .ok (.invokestatic 541, 3) := by decide +kernel
theorem d7_47 : decode jdk_42_method_66_code 47 = .ok (.ifCond .eq 7, 3) := by decide +kernel
theorem d7_50 : decode jdk_42_method_66_code 50 = .ok (.iconst 1, 1) := by decide +kernel
theorem d7_51 : decode jdk_42_method_66_code 51 = .ok (.goto 4, 3) := by decide +kernel
theorem d7_54 : decode jdk_42_method_66_code 54 = .ok (.iconst 0, 1) := by decide +kernel
theorem d7_55 : decode jdk_42_method_66_code 55 = .ok (.ireturn, 1) := by decide +kernel
theorem ef_7 (m : MethodId) (x0 : Addr) : entryFrame m #[(.ref x0), .null] 3 = mkF m 0 #[.val (.ref x0), .val .null, .unset] [] := by first | (simp [entryFrame, mkF, argsToLocals, Value.category]; done) | rfl
def Q7 (Z : State) (r0 : Addr) (h0 : Heap) (n0 : Nat) (v : Option Value) (h : Heap) (L : List Loc) : Prop := v = some (.int (0 : Int32)) ∧ Fr n0 L ∧ h = h0
set_option maxRecDepth 65536 in
set_option maxHeartbeats 40000000 in
theorem rm7 (l : Launch) (Z : State) (a0 : Array Value) (hw : ∀ d ∈ tables_1, d.before a0 Z = true) (ws : List Jvm.Cond) (r0 : Addr) (h0 : Heap) (n0 : Nat) (Z0 : n0 ≤ h0.size) :
    MetFree l (⟨"java/lang/String", "equals", "(Ljava/lang/Object;)Z"⟩ : MethodName) (head1 (Jvm.Cond.code (⟨"java/lang/String", "equals", "(Ljava/lang/Object;)Z"⟩ : MethodName) jdk_42_method_66_code 3 (some .boolean) :: ws) ({ frames := 0, cells := 0, slots := 0, locals := 0 } : Room)) (fun a U => a = #[(.ref r0), .null] ∧ Z.Warmed39 U.vm ∧ U.heap = h0) (fun _ _ _ _ _ => True) (fun _ U o U' => ∃ v L, o = .returned v ∧ Q7 Z r0 h0 n0 v U'.heap L ∧ FrameEnd U o U' L ({ frames := 0, cells := 0, slots := 0, locals := 0 } : Room).cells ({ frames := 0, cells := 0, slots := 0, locals := 0 } : Room).slots) := by
  refine MetFree.of_bodySF (plainFor_of_name pn_1) hisR ?_
  intro p e s m args below meth c s₁ Bd hml0 hP hK
  obtain ⟨rfl, hZ, hh⟩ := hP
  have hx := Bd.exec
  have hby := Bd.bytes
  have hml : c.maxLocals = 3 := hml0
  have hown : s.vm.findClass "java/lang/String" = some m.cls := findClass_of_methodNamed Bd.named
  have hnm := (name_of_methodNamed Bd.named Bd.method).1
  have X0 : Stand p l e ({ frames := 0, cells := 0, slots := 0, locals := 0 } : Room) s m #[(.ref r0), .null] below meth c s₁ [] 0 0 := Stand.of_body Bd
  have e0 : s₁.heap = h0 := by rw [← hh, Bd.state]; rfl
  have N0 := Fr.nil n0
  have k0 : ∀ t, Steps p.tables e below (s₁.setTop (mkF m 0 #[.val (.ref r0), .val .null, .unset] [])) t → Steps p.tables e below (s₁.setTop (entryFrame m #[(.ref r0), .null] 3)) t := fun t k => castTop (ef_7 m r0) k
  have hc11 : (0 : Int32) = (0 : Int32) := by decide
  have k1 : ∀ t, Steps p.tables e below (s₁.setTop (mkF m 55 #[.val (.ref r0), .val .null, .unset] [(.int (0 : Int32))])) t → Steps p.tables e below (s₁.setTop (entryFrame m #[(.ref r0), .null] 3)) t := fun t k => k0 t (by
      show Steps p.tables e below (s₁.setTop (mkF m 0 #[.val (.ref r0), .val .null, .unset] [])) _
      refine XS.aloadN X0.here hx rfl (hb hby d7_0) rfl rfl ?_
      show Steps p.tables e below (s₁.setTop (mkF m 1 #[.val (.ref r0), .val .null, .unset] [(.ref r0)])) _
      refine XS.aloadN X0.here hx rfl (hb hby d7_1) rfl rfl ?_
      show Steps p.tables e below (s₁.setTop (mkF m 2 #[.val (.ref r0), .val .null, .unset] [.null, (.ref r0)])) _
      refine Jvm.RoadKit.acmp (g := (mkF m 2 #[.val (.ref r0), .val .null, .unset] [.null, (.ref r0)])) X0 hx rfl rfl rfl (pc0 := 2) (pc' := 7) (same := false) rfl (hb hby d7_2) rfl (decide_eq_false nofun) (by decide) (by decide) ?_
      show Steps p.tables e below (s₁.setTop (mkF m 7 #[.val (.ref r0), .val .null, .unset] [])) _
      refine XS.aloadN X0.here hx rfl (hb hby d7_7) rfl rfl ?_
      show Steps p.tables e below (s₁.setTop (mkF m 8 #[.val (.ref r0), .val .null, .unset] [.null])) _
      refine X0.instanceofNull hx (g := (mkF m 8 #[.val (.ref r0), .val .null, .unset] [.null])) rfl rfl (hb hby d7_8) _ ?_
      show Steps p.tables e below (s₁.setTop (mkF m 11 #[.val (.ref r0), .val .null, .unset] [(.int (0 : Int32))])) _
      refine XS.ifYes X0.here hx rfl (pc0 := 11) (pc' := 54) rfl (hb hby d7_11) rfl ((if0 _ _).trans (teq hc11).1) (by decide) (by decide) ?_
      show Steps p.tables e below (s₁.setTop (mkF m 54 #[.val (.ref r0), .val .null, .unset] [])) _
      refine XS.iconst X0.here hx rfl (hb hby d7_54) ?_
      exact k)
  obtain ⟨fs, hr, hrun, hended, hW, hsame⟩ := X0.leave (v := (some (.int (0 : Int32)))) (fun h => by rw [Bd.returns] at h; cases h)
  refine ⟨_, _, k1 _ ?_, hrun, hended, _, _, rfl, ?_, ⟨_, rfl⟩, hW, hsame.mono (by decide) (by decide)⟩
  · exact retN X0 hx (t := .boolean) Bd.returns (by simp) (hb hby d7_55) hr
  · show Q7 Z r0 h0 n0 _ s₁.heap _
    rw [e0]
    exact ⟨rfl, N0, rfl⟩
theorem d20_0 : decode jdk_31_method_10_code 0 = .ok (.aload_n 0, 1) := by decide +kernel
theorem d20_1 : decode jdk_31_method_10_code 1 = .ok (.ifnonnull 11, 3) := by decide +kernel
theorem d20_4 : decode jdk_31_method_10_code 4 = .ok (.new 84, 3) := by decide +kernel
theorem d20_7 : decode jdk_31_method_10_code 7 = .ok (.dup, 1) := by decide +kernel
theorem d20_8 : decode jdk_31_method_10_code 8 = .ok (.invokespecial 86, 3) := by decide +kernel
theorem d20_11 : decode jdk_31_method_10_code 11 = .ok (.athrow, 1) := by decide +kernel
theorem d20_12 : decode jdk_31_method_10_code 12 = .ok (.aload_n 0, 1) := by decide +kernel
theorem d20_13 : decode jdk_31_method_10_code 13 = .ok (.areturn, 1) := by decide +kernel
theorem ef_20 (m : MethodId) (x0 : Addr) : entryFrame m #[(.ref x0)] 1 = mkF m 0 #[.val (.ref x0)] [] := by first | (simp [entryFrame, mkF, argsToLocals, Value.category]; done) | rfl
theorem pn_2 : plainName "java/util/Objects" = true := by first | (simp [plainName, overriddenIn]; done) | decide +kernel
def Q20 (Z : State) (r0 : Addr) (h0 : Heap) (n0 : Nat) (v : Option Value) (h : Heap) (L : List Loc) : Prop := v = some (.ref r0) ∧ Fr n0 L ∧ h = h0
set_option maxRecDepth 65536 in
set_option maxHeartbeats 40000000 in
theorem rm20 (l : Launch) (Z : State) (a0 : Array Value) (hw : ∀ d ∈ tables_1, d.before a0 Z = true) (ws : List Jvm.Cond) (r0 : Addr) (h0 : Heap) (n0 : Nat) (Z0 : n0 ≤ h0.size) :
    MetFree l (⟨"java/util/Objects", "requireNonNull", "(Ljava/lang/Object;)Ljava/lang/Object;"⟩ : MethodName) (head1 (Jvm.Cond.code (⟨"java/util/Objects", "requireNonNull", "(Ljava/lang/Object;)Ljava/lang/Object;"⟩ : MethodName) jdk_31_method_10_code 1 (some (.object "java/lang/Object")) :: ws) ({ frames := 0, cells := 0, slots := 0, locals := 0 } : Room)) (fun a U => a = #[(.ref r0)] ∧ Z.Warmed39 U.vm ∧ U.heap = h0) (fun _ _ _ _ _ => True) (fun _ U o U' => ∃ v L, o = .returned v ∧ Q20 Z r0 h0 n0 v U'.heap L ∧ FrameEnd U o U' L ({ frames := 0, cells := 0, slots := 0, locals := 0 } : Room).cells ({ frames := 0, cells := 0, slots := 0, locals := 0 } : Room).slots) := by
  refine MetFree.of_bodySF (plainFor_of_name pn_2) hisR ?_
  intro p e s m args below meth c s₁ Bd hml0 hP hK
  obtain ⟨rfl, hZ, hh⟩ := hP
  have hx := Bd.exec
  have hby := Bd.bytes
  have hml : c.maxLocals = 1 := hml0
  have hown : s.vm.findClass "java/util/Objects" = some m.cls := findClass_of_methodNamed Bd.named
  have hnm := (name_of_methodNamed Bd.named Bd.method).1
  have X0 : Stand p l e ({ frames := 0, cells := 0, slots := 0, locals := 0 } : Room) s m #[(.ref r0)] below meth c s₁ [] 0 0 := Stand.of_body Bd
  have e0 : s₁.heap = h0 := by rw [← hh, Bd.state]; rfl
  have N0 := Fr.nil n0
  have k0 : ∀ t, Steps p.tables e below (s₁.setTop (mkF m 0 #[.val (.ref r0)] [])) t → Steps p.tables e below (s₁.setTop (entryFrame m #[(.ref r0)] 1)) t := fun t k => castTop (ef_20 m r0) k
  have k1 : ∀ t, Steps p.tables e below (s₁.setTop (mkF m 13 #[.val (.ref r0)] [(.ref r0)])) t → Steps p.tables e below (s₁.setTop (entryFrame m #[(.ref r0)] 1)) t := fun t k => k0 t (by
      show Steps p.tables e below (s₁.setTop (mkF m 0 #[.val (.ref r0)] [])) _
      refine XS.aloadN X0.here hx rfl (hb hby d20_0) rfl rfl ?_
      show Steps p.tables e below (s₁.setTop (mkF m 1 #[.val (.ref r0)] [(.ref r0)])) _
      refine XS.ifnonnullYes X0.here hx rfl (pc0 := 1) (pc' := 12) rfl (hb hby d20_1) rfl (by decide) (by decide) ?_
      show Steps p.tables e below (s₁.setTop (mkF m 12 #[.val (.ref r0)] [])) _
      refine XS.aloadN X0.here hx rfl (hb hby d20_12) rfl rfl ?_
      exact k)
  obtain ⟨fs, hr, hrun, hended, hW, hsame⟩ := X0.leave (v := (some (.ref r0))) (fun h => by rw [Bd.returns] at h; cases h)
  refine ⟨_, _, k1 _ ?_, hrun, hended, _, _, rfl, ?_, ⟨_, rfl⟩, hW, hsame.mono (by decide) (by decide)⟩
  · exact retOut X0 hx Bd.returns rfl (Or.inr (Or.inr (Or.inr (Or.inr ⟨rfl, rfl, rfl⟩)))) (hb hby d20_13) hr
  · show Q20 Z r0 h0 n0 _ s₁.heap _
    rw [e0]
    exact ⟨rfl, N0, rfl⟩
theorem d21_0 : decode jdk_32_method_2_code 0 = .ok (.aload_n 0, 1) := by decide +kernel
theorem d21_1 : decode jdk_32_method_2_code 1 = .ok (.invokespecial 7, 3) := by decide +kernel
theorem d21_4 : decode jdk_32_method_2_code 4 = .ok (.aload_n 0, 1) := by decide +kernel
theorem d21_5 : decode jdk_32_method_2_code 5 = .ok (.aload_n 1, 1) := by decide +kernel
theorem d21_6 : decode jdk_32_method_2_code 6 = .ok (.putfield 13, 3) := by decide +kernel
theorem d21_9 : decode jdk_32_method_2_code 9 = .ok (.return_, 1) := by decide +kernel
theorem ef_21 (m : MethodId) (x0 : Addr) (x1 : Addr) : entryFrame m #[(.ref x0), (.ref x1)] 2 = mkF m 0 #[.val (.ref x0), .val (.ref x1)] [] := by first | (simp [entryFrame, mkF, argsToLocals, Value.category]; done) | rfl
theorem pn_3 : plainName "java/util/Optional" = true := by first | (simp [plainName, overriddenIn]; done) | decide +kernel
def Q21 (Z : State) (r0 : Addr) (r1 : Addr) (h0 : Heap) (n0 : Nat) (v : Option Value) (h : Heap) (L : List Loc) : Prop := v = none ∧ Fr n0 L ∧ Keep h0 h [r0] ∧ Exa Z h r0 "java/util/Optional" ∧ Fld Z h r0 "java/util/Optional" "value" "Ljava/lang/Object;" (.ref r1)
set_option maxRecDepth 65536 in
set_option maxHeartbeats 40000000 in
theorem rm21 (l : Launch) (Z : State) (a0 : Array Value) (hw : ∀ d ∈ tables_1, d.before a0 Z = true) (ws : List Jvm.Cond) (r0 : Addr) (r1 : Addr) (h0 : Heap) (n0 : Nat) (Z0 : n0 ≤ h0.size) (F_value_r0 : Fld Z h0 r0 "java/util/Optional" "value" "Ljava/lang/Object;" .null) (E_r0 : Exa Z h0 r0 "java/util/Optional") (g_r0 : n0 ≤ r0) :
    MetFree l (⟨"java/util/Optional", "<init>", "(Ljava/lang/Object;)V"⟩ : MethodName) (head1 (Jvm.Cond.code (⟨"java/util/Optional", "<init>", "(Ljava/lang/Object;)V"⟩ : MethodName) jdk_32_method_2_code 2 none :: ws) ({ frames := 1, cells := 0, slots := 0, locals := 12 } : Room)) (fun a U => a = #[(.ref r0), (.ref r1)] ∧ Z.Warmed39 U.vm ∧ U.heap = h0) (fun _ _ _ _ _ => True) (fun _ U o U' => ∃ v L, o = .returned v ∧ Q21 Z r0 r1 h0 n0 v U'.heap L ∧ FrameEnd U o U' L ({ frames := 1, cells := 0, slots := 0, locals := 12 } : Room).cells ({ frames := 1, cells := 0, slots := 0, locals := 12 } : Room).slots) := by
  refine MetFree.of_bodySF (plainFor_of_name pn_3) hisR ?_
  intro p e s m args below meth c s₁ Bd hml0 hP hK
  obtain ⟨rfl, hZ, hh⟩ := hP
  have hx := Bd.exec
  have hby := Bd.bytes
  have hml : c.maxLocals = 2 := hml0
  have hown : s.vm.findClass "java/util/Optional" = some m.cls := findClass_of_methodNamed Bd.named
  have hnm := (name_of_methodNamed Bd.named Bd.method).1
  have X0 : Stand p l e ({ frames := 1, cells := 0, slots := 0, locals := 12 } : Room) s m #[(.ref r0), (.ref r1)] below meth c s₁ [] 0 0 := Stand.of_body Bd
  have e0 : s₁.heap = h0 := by rw [← hh, Bd.state]; rfl
  have N0 := Fr.nil n0
  have k0 : ∀ t, Steps p.tables e below (s₁.setTop (mkF m 0 #[.val (.ref r0), .val (.ref r1)] [])) t → Steps p.tables e below (s₁.setTop (entryFrame m #[(.ref r0), (.ref r1)] 2)) t := fun t k => castTop (ef_21 m r0 r1) k
  have k1 : ∀ t, Steps p.tables e below (s₁.setTop (mkF m 1 #[.val (.ref r0), .val (.ref r1)] [(.ref r0)])) t → Steps p.tables e below (s₁.setTop (entryFrame m #[(.ref r0), (.ref r1)] 2)) t := fun t k => k0 t (by
      show Steps p.tables e below (s₁.setTop (mkF m 0 #[.val (.ref r0), .val (.ref r1)] [])) _
      refine XS.aloadN X0.here hx rfl (hb hby d21_0) rfl rfl ?_
      exact k)
  obtain ⟨T2, X2, e2, st2⟩ := initO X0 hx hZ hown (hw _ (List.mem_of_getElem? (i := 117) rfl)) (hw _ (List.mem_of_getElem? (i := 16) rfl)) (hw _ (List.mem_of_getElem? (i := 17) rfl)) e0 (g := (mkF m 1 #[.val (.ref r0), .val (.ref r1)] [(.ref r0)])) rfl (by rw [hml]; rfl) rfl (hb hby d21_1) (by decide) (W := 0) (by show 2 * 0 + _ ≤ _; exact Nat.le_of_eq rfl) (by decide)
  have k3 : ∀ t, Steps p.tables e below (T2.setTop (mkF m 4 #[.val (.ref r0), .val (.ref r1)] [])) t → Steps p.tables e below (s₁.setTop (entryFrame m #[(.ref r0), (.ref r1)] 2)) t := fun t k => k1 t (st2 _ k)
  have k4 : ∀ t, Steps p.tables e below (T2.setTop (mkF m 6 #[.val (.ref r0), .val (.ref r1)] [(.ref r1), (.ref r0)])) t → Steps p.tables e below (s₁.setTop (entryFrame m #[(.ref r0), (.ref r1)] 2)) t := fun t k => k3 t (by
      show Steps p.tables e below (T2.setTop (mkF m 4 #[.val (.ref r0), .val (.ref r1)] [])) _
      refine XS.aloadN X2.here hx rfl (hb hby d21_4) rfl rfl ?_
      show Steps p.tables e below (T2.setTop (mkF m 5 #[.val (.ref r0), .val (.ref r1)] [(.ref r0)])) _
      refine XS.aloadN X2.here hx rfl (hb hby d21_5) rfl rfl ?_
      exact k)
  obtain ⟨T5, h5, X5, e5, W5, st5⟩ := putF X2 hx hZ hown (host := "") (Or.inl (hw _ (List.mem_of_getElem? (i := 70) rfl))) Via.refl e2 F_value_r0 E_r0 (Or.inr ⟨(hw _ (List.mem_of_getElem? (i := 71) rfl)), rfl, hnm⟩) (hw _ (List.mem_of_getElem? (i := 108) rfl)) (ty := (.object "java/lang/Object")) (by decide) rfl rfl (g := (mkF m 6 #[.val (.ref r0), .val (.ref r1)] [(.ref r1), (.ref r0)])) rfl rfl (hb hby d21_6)
  have N5 := Fr.snoc X5 N0 g_r0
  have Zs5 : n0 ≤ h5.size := Nat.le_trans Z0 (Keep.of_wr W5).1
  have k6 : ∀ t, Steps p.tables e below (T5.setTop (mkF m 9 #[.val (.ref r0), .val (.ref r1)] [])) t → Steps p.tables e below (s₁.setTop (entryFrame m #[(.ref r0), (.ref r1)] 2)) t := fun t k => k4 t (st5 _ k)
  obtain ⟨fs, hr, hrun, hended, hW, hsame⟩ := X5.leave (v := none) (fun _ => rfl)
  refine ⟨_, _, k6 _ ?_, hrun, hended, _, _, rfl, ?_, ⟨_, rfl⟩, hW, hsame.mono (by decide) (by decide)⟩
  · exact X5.returnOut hx Bd.returns (hb hby d21_9) hr
  · show Q21 Z r0 r1 h0 n0 _ T5.heap _
    rw [e5]
    exact ⟨rfl, N5, ((Keep.refl h0 [r0]).wr W5 (Or.inl (List.mem_of_getElem? (i := 0) rfl))), (E_r0.wr W5), (F_value_r0.same W5)⟩
theorem d19_0 : decode jdk_32_method_3_code 0 = .ok (.new 2, 3) := by decide +kernel
theorem d19_3 : decode jdk_32_method_3_code 3 = .ok (.dup, 1) := by decide +kernel
theorem d19_4 : decode jdk_32_method_3_code 4 = .ok (.aload_n 0, 1) := by decide +kernel
theorem d19_5 : decode jdk_32_method_3_code 5 = .ok (.invokestatic 17, 3) := by decide +kernel
theorem d19_8 : decode jdk_32_method_3_code 8 = .ok (.invokespecial 23, 3) := by decide +kernel
theorem d19_11 : decode jdk_32_method_3_code 11 = .ok (.areturn, 1) := by decide +kernel
theorem ef_19 (m : MethodId) (x0 : Addr) : entryFrame m #[(.ref x0)] 1 = mkF m 0 #[.val (.ref x0)] [] := by first | (simp [entryFrame, mkF, argsToLocals, Value.category]; done) | rfl
theorem pd_2 : parseMethodDescriptor "(Ljava/lang/Object;)Ljava/lang/Object;" = some ⟨[(.object "java/lang/Object")], some (.object "java/lang/Object")⟩ := by decide +kernel
theorem pd_3 : parseMethodDescriptor "(Ljava/lang/Object;)V" = some ⟨[(.object "java/lang/Object")], none⟩ := by decide +kernel
def Q19 (Z : State) (r0 : Addr) (h0 : Heap) (n0 : Nat) (v : Option Value) (h : Heap) (L : List Loc) : Prop := ∃ b, v = some (.ref b) ∧ Fr n0 L ∧ n0 ≤ b ∧ h0.size ≤ b ∧ Keep h0 h [] ∧ Exa Z h b "java/util/Optional" ∧ Fld Z h b "java/util/Optional" "value" "Ljava/lang/Object;" (.ref r0)
set_option maxRecDepth 65536 in
set_option maxHeartbeats 40000000 in
theorem rm19 (l : Launch) (Z : State) (a0 : Array Value) (hw : ∀ d ∈ tables_1, d.before a0 Z = true) (ws : List Jvm.Cond) (r0 : Addr) (h0 : Heap) (n0 : Nat) (Z0 : n0 ≤ h0.size) :
    MetFree l (⟨"java/util/Optional", "of", "(Ljava/lang/Object;)Ljava/util/Optional;"⟩ : MethodName) (head1 (Jvm.Cond.code (⟨"java/util/Optional", "of", "(Ljava/lang/Object;)Ljava/util/Optional;"⟩ : MethodName) jdk_32_method_3_code 1 (some (.object "java/util/Optional")) :: ws) ({ frames := 2, cells := 1, slots := 1, locals := 26 } : Room)) (fun a U => a = #[(.ref r0)] ∧ Z.Warmed39 U.vm ∧ U.heap = h0) (fun _ _ _ _ _ => True) (fun _ U o U' => ∃ v L, o = .returned v ∧ Q19 Z r0 h0 n0 v U'.heap L ∧ FrameEnd U o U' L ({ frames := 2, cells := 1, slots := 1, locals := 26 } : Room).cells ({ frames := 2, cells := 1, slots := 1, locals := 26 } : Room).slots) := by
  refine MetFree.of_bodySF (plainFor_of_name pn_3) hisR ?_
  intro p e s m args below meth c s₁ Bd hml0 hP hK
  obtain ⟨rfl, hZ, hh⟩ := hP
  have hx := Bd.exec
  have hby := Bd.bytes
  have hml : c.maxLocals = 1 := hml0
  have hown : s.vm.findClass "java/util/Optional" = some m.cls := findClass_of_methodNamed Bd.named
  have hnm := (name_of_methodNamed Bd.named Bd.method).1
  have X0 : Stand p l e ({ frames := 2, cells := 1, slots := 1, locals := 26 } : Room) s m #[(.ref r0)] below meth c s₁ [] 0 0 := Stand.of_body Bd
  have e0 : s₁.heap = h0 := by rw [← hh, Bd.state]; rfl
  have N0 := Fr.nil n0
  have k0 : ∀ t, Steps p.tables e below (s₁.setTop (mkF m 0 #[.val (.ref r0)] [])) t → Steps p.tables e below (s₁.setTop (entryFrame m #[(.ref r0)] 1)) t := fun t k => castTop (ef_19 m r0) k
  obtain ⟨T1, h1, X1, e1, E1, A1, D1, -, st1⟩ := newO X0 hx hZ hown (hw _ (List.mem_of_getElem? (i := 107) rfl)) (hw _ (List.mem_of_getElem? (i := 108) rfl)) (hw _ (List.mem_of_getElem? (i := 62) rfl)) e0 (g := (mkF m 0 #[.val (.ref r0)] [])) rfl (hb hby d19_0) (by decide) (by decide)
  obtain ⟨b1, g1⟩ : ∃ z, z = h0.size := ⟨_, rfl⟩
  rw [← g1] at A1 D1 st1
  have sz_b1 : h0.size ≤ b1 := Nat.le_trans (Keep.refl h0 []).1 (Nat.le_of_eq g1.symm)
  have F_value_b1 : Fld Z h1 b1 "java/util/Optional" "value" "Ljava/lang/Object;" .null := D1 (Or.inr (hw _ (List.mem_of_getElem? (i := 71) rfl))) (ty := (.object "java/lang/Object")) (by decide)
  have g_b1 : n0 ≤ b1 := Nat.le_trans Z0 (Nat.le_of_eq g1.symm)
  have Zs1 : n0 ≤ h1.size := Nat.le_trans Z0 E1.1
  have k2 : ∀ t, Steps p.tables e below (T1.setTop (mkF m 3 #[.val (.ref r0)] [(.ref b1)])) t → Steps p.tables e below (s₁.setTop (entryFrame m #[(.ref r0)] 1)) t := fun t k => k0 t (st1 _ k)
  have k3 : ∀ t, Steps p.tables e below (T1.setTop (mkF m 5 #[.val (.ref r0)] [(.ref r0), (.ref b1), (.ref b1)])) t → Steps p.tables e below (s₁.setTop (entryFrame m #[(.ref r0)] 1)) t := fun t k => k2 t (by
      show Steps p.tables e below (T1.setTop (mkF m 3 #[.val (.ref r0)] [(.ref b1)])) _
      refine XS.dup X1.here hx rfl (hb hby d19_3) rfl rfl ?_
      show Steps p.tables e below (T1.setTop (mkF m 4 #[.val (.ref r0)] [(.ref b1), (.ref b1)])) _
      refine XS.aloadN X1.here hx rfl (hb hby d19_4) rfl rfl ?_
      exact k)
  obtain ⟨_, _, ⟨T4, L4, kq4, n4⟩, -, X4, ⟨Lc4, hQ4, l4, y4, z4⟩, st4⟩ := Jvm.LawKit.callS X1 hx (y := (⟨"java/util/Objects", "requireNonNull", "(Ljava/lang/Object;)Ljava/lang/Object;"⟩ : MethodName)) hown (mvT hZ (hw _ (List.mem_of_getElem? (i := 109) rfl))) (mvT hZ (hw _ (List.mem_of_getElem? (i := 110) rfl))) (mvT hZ (hw _ (List.mem_of_getElem? (i := 111) rfl))) (mvT hZ (hw _ (List.mem_of_getElem? (i := 112) rfl))) (by decide) (backOf (W := 2) (rm20 l Z a0 hw [] r0 h1 n0 Zs1) hZ (hw _ (List.mem_of_getElem? (i := 112) rfl)) (hw _ (List.mem_of_getElem? (i := 111) rfl)) (by decide) (by decide)) (g := (mkF m 5 #[.val (.ref r0)] [(.ref r0), (.ref b1), (.ref b1)])) rfl (by rw [hml]; rfl) (argsL := [(.ref r0)]) (rest := [(.ref b1), (.ref b1)]) (lenOf pd_2 rfl) rfl (by show 2 * 0 + _ ≤ _; exact Nat.le_of_eq rfl) (hb hby d19_5) (fun _ _ => ⟨rfl, e1, (by decide : 1 + 0 ≤ _), (by decide : 1 + 0 ≤ _)⟩)
  dsimp only [Pt.U, Pt.locs, Pt.cells, Pt.slots] at X4 l4 y4 z4 st4 hQ4
  subst l4 y4 z4
  obtain ⟨rfl, N4q, e4⟩ := hQ4
  have N4 := Fr.app N0 N4q
  have k5 : ∀ t, Steps p.tables e below (T4.setTop (mkF m 8 #[.val (.ref r0)] [(.ref r0), (.ref b1), (.ref b1)])) t → Steps p.tables e below (s₁.setTop (entryFrame m #[(.ref r0)] 1)) t := fun t k => k3 t (st4 _ k)
  obtain ⟨_, _, ⟨T6, L6, kq6, n6⟩, -, X6, ⟨Lc6, hQ6, l6, y6, z6⟩, st6⟩ := X4.specialBack hx (y := (⟨"java/util/Optional", "<init>", "(Ljava/lang/Object;)V"⟩ : MethodName)) rfl hown (mvT hZ (hw _ (List.mem_of_getElem? (i := 113) rfl))) (mvT hZ (hw _ (List.mem_of_getElem? (i := 114) rfl))) (mvT hZ (hw _ (List.mem_of_getElem? (i := 116) rfl))) (by decide) (backOf (W := 1) (rm21 l Z a0 hw [] b1 r0 h1 n0 Zs1 F_value_b1 A1 g_b1) hZ (hw _ (List.mem_of_getElem? (i := 116) rfl)) (hw _ (List.mem_of_getElem? (i := 62) rfl)) (by decide) (by decide)) (g := (mkF m 8 #[.val (.ref r0)] [(.ref r0), (.ref b1), (.ref b1)])) rfl (by rw [hml]; rfl) (Steps.refl _) (a := b1) (argsL := [(.ref r0)]) (rest := [(.ref b1)]) (lenOf pd_3 rfl) rfl (by show 2 * 0 + _ ≤ _; exact Nat.le_of_eq rfl) (hb hby d19_8) (fun _ _ => ⟨rfl, e4, (by decide : 1 + 0 ≤ _), (by decide : 1 + 0 ≤ _)⟩)
  dsimp only [Pt.U, Pt.locs, Pt.cells, Pt.slots] at X6 l6 y6 z6 st6 hQ6
  subst l6 y6 z6
  obtain ⟨rfl, N6q, K6, Ex6, Fx6_0⟩ := hQ6
  have N6 := Fr.app N4 N6q
  have Zs6 : n0 ≤ T6.heap.size := Nat.le_trans Zs1 K6.1
  have k7 : ∀ t, Steps p.tables e below (T6.setTop (mkF m 11 #[.val (.ref r0)] [(.ref b1)])) t → Steps p.tables e below (s₁.setTop (entryFrame m #[(.ref r0)] 1)) t := fun t k => k5 t (st6.trans k)
  obtain ⟨fs, hr, hrun, hended, hW, hsame⟩ := X6.leave (v := (some (.ref b1))) (fun h => by rw [Bd.returns] at h; cases h)
  refine ⟨_, _, k7 _ ?_, hrun, hended, _, _, rfl, ?_, ⟨_, rfl⟩, hW, hsame.mono (by decide) (by decide)⟩
  · exact retOut X6 hx Bd.returns rfl (Or.inr (Or.inr (Or.inr (Or.inr ⟨rfl, rfl, rfl⟩)))) (hb hby d19_11) hr
  · show Q19 Z r0 h0 n0 _ T6.heap _
    exact ⟨b1, rfl, N6, g_b1, sz_b1, (((Keep.refl h0 []).ext E1).trans K6 (allS (Or.inr sz_b1) all0)), Ex6, Fx6_0⟩
theorem d9_0 : decode jdk_32_method_1_code 0 = .ok (.getstatic 1, 3) := by decide +kernel
theorem d9_3 : decode jdk_32_method_1_code 3 = .ok (.astore_n 0, 1) := by decide +kernel
theorem d9_4 : decode jdk_32_method_1_code 4 = .ok (.aload_n 0, 1) := by decide +kernel
theorem d9_5 : decode jdk_32_method_1_code 5 = .ok (.areturn, 1) := by decide +kernel
theorem ef_9 (m : MethodId)  : entryFrame m #[] 1 = mkF m 0 #[.unset] [] := by first | (simp [entryFrame, mkF, argsToLocals, Value.category]; done) | rfl
def Q9 (Z : State) (w_EMPTY : Addr) (h0 : Heap) (n0 : Nat) (v : Option Value) (h : Heap) (L : List Loc) : Prop := v = some (.ref w_EMPTY) ∧ Fr n0 L ∧ h = h0
set_option maxRecDepth 65536 in
set_option maxHeartbeats 40000000 in
theorem rm9 (l : Launch) (Z : State) (a0 : Array Value) (hw : ∀ d ∈ tables_1, d.before a0 Z = true) (ws : List Jvm.Cond) (w_EMPTY : Addr) (h0 : Heap) (n0 : Nat) (Z0 : n0 ≤ h0.size) (S_EMPTY : Sta Z h0 "java/util/Optional" "EMPTY" "Ljava/util/Optional;" (.ref w_EMPTY)) :
    MetFree l (⟨"java/util/Optional", "empty", "()Ljava/util/Optional;"⟩ : MethodName) (head1 (Jvm.Cond.code (⟨"java/util/Optional", "empty", "()Ljava/util/Optional;"⟩ : MethodName) jdk_32_method_1_code 1 (some (.object "java/util/Optional")) :: ws) ({ frames := 0, cells := 0, slots := 0, locals := 0 } : Room)) (fun a U => a = #[] ∧ Z.Warmed39 U.vm ∧ U.heap = h0) (fun _ _ _ _ _ => True) (fun _ U o U' => ∃ v L, o = .returned v ∧ Q9 Z w_EMPTY h0 n0 v U'.heap L ∧ FrameEnd U o U' L ({ frames := 0, cells := 0, slots := 0, locals := 0 } : Room).cells ({ frames := 0, cells := 0, slots := 0, locals := 0 } : Room).slots) := by
  refine MetFree.of_bodySF (plainFor_of_name pn_3) hisR ?_
  intro p e s m args below meth c s₁ Bd hml0 hP hK
  obtain ⟨rfl, hZ, hh⟩ := hP
  have hx := Bd.exec
  have hby := Bd.bytes
  have hml : c.maxLocals = 1 := hml0
  have hown : s.vm.findClass "java/util/Optional" = some m.cls := findClass_of_methodNamed Bd.named
  have hnm := (name_of_methodNamed Bd.named Bd.method).1
  have X0 : Stand p l e ({ frames := 0, cells := 0, slots := 0, locals := 0 } : Room) s m #[] below meth c s₁ [] 0 0 := Stand.of_body Bd
  have e0 : s₁.heap = h0 := by rw [← hh, Bd.state]; rfl
  have N0 := Fr.nil n0
  have k0 : ∀ t, Steps p.tables e below (s₁.setTop (mkF m 0 #[.unset] [])) t → Steps p.tables e below (s₁.setTop (entryFrame m #[] 1)) t := fun t k => castTop (ef_9 m ) k
  obtain ⟨T1, X1, e1, st1⟩ := getS2 X0 hx hZ hown (host := "") (Or.inl (hw _ (List.mem_of_getElem? (i := 64) rfl))) Via.refl e0 S_EMPTY (g := (mkF m 0 #[.unset] [])) rfl (hb hby d9_0)
  have k2 : ∀ t, Steps p.tables e below (T1.setTop (mkF m 3 #[.unset] [(.ref w_EMPTY)])) t → Steps p.tables e below (s₁.setTop (entryFrame m #[] 1)) t := fun t k => k0 t (st1 _ k)
  have k3 : ∀ t, Steps p.tables e below (T1.setTop (mkF m 5 #[.val (.ref w_EMPTY)] [(.ref w_EMPTY)])) t → Steps p.tables e below (s₁.setTop (entryFrame m #[] 1)) t := fun t k => k2 t (by
      show Steps p.tables e below (T1.setTop (mkF m 3 #[.unset] [(.ref w_EMPTY)])) _
      refine XS.astoreN X1.here hx rfl (hb hby d9_3) rfl rfl (l' := #[.val (.ref w_EMPTY)]) rfl ?_
      show Steps p.tables e below (T1.setTop (mkF m 4 #[.val (.ref w_EMPTY)] [])) _
      refine XS.aloadN X1.here hx rfl (hb hby d9_4) rfl rfl ?_
      exact k)
  obtain ⟨fs, hr, hrun, hended, hW, hsame⟩ := X1.leave (v := (some (.ref w_EMPTY))) (fun h => by rw [Bd.returns] at h; cases h)
  refine ⟨_, _, k3 _ ?_, hrun, hended, _, _, rfl, ?_, ⟨_, rfl⟩, hW, hsame.mono (by decide) (by decide)⟩
  · exact retOut X1 hx Bd.returns rfl (Or.inr (Or.inr (Or.inr (Or.inr ⟨rfl, rfl, rfl⟩)))) (hb hby d9_5) hr
  · show Q9 Z w_EMPTY h0 n0 _ T1.heap _
    rw [e1]
    exact ⟨rfl, N0, rfl⟩
theorem d10_0 : decode jdk_32_method_6_code 0 = .ok (.aload_n 0, 1) := by decide +kernel
theorem d10_1 : decode jdk_32_method_6_code 1 = .ok (.getfield 13, 3) := by decide +kernel
theorem d10_4 : decode jdk_32_method_6_code 4 = .ok (.ifnull 7, 3) := by decide +kernel
theorem d10_7 : decode jdk_32_method_6_code 7 = .ok (.iconst 1, 1) := by decide +kernel
theorem d10_8 : decode jdk_32_method_6_code 8 = .ok (.goto 4, 3) := by decide +kernel
theorem d10_11 : decode jdk_32_method_6_code 11 = .ok (.iconst 0, 1) := by decide +kernel
theorem d10_12 : decode jdk_32_method_6_code 12 = .ok (.ireturn, 1) := by decide +kernel
theorem ef_10n (m : MethodId) (x0 : Addr) : entryFrame m #[(.ref x0)] 1 = mkF m 0 #[.val (.ref x0)] [] := by first | (simp [entryFrame, mkF, argsToLocals, Value.category]; done) | rfl
def Q10n (Z : State) (r0 : Addr) (h0 : Heap) (n0 : Nat) (v : Option Value) (h : Heap) (L : List Loc) : Prop := v = some (.int (0 : Int32)) ∧ Fr n0 L ∧ h = h0
set_option maxRecDepth 65536 in
set_option maxHeartbeats 40000000 in
theorem rm10n (l : Launch) (Z : State) (a0 : Array Value) (hw : ∀ d ∈ tables_1, d.before a0 Z = true) (ws : List Jvm.Cond) (r0 : Addr) (h0 : Heap) (n0 : Nat) (Z0 : n0 ≤ h0.size) (F_value_r0 : Fld Z h0 r0 "java/util/Optional" "value" "Ljava/lang/Object;" .null) :
    MetFree l (⟨"java/util/Optional", "isPresent", "()Z"⟩ : MethodName) (head1 (Jvm.Cond.code (⟨"java/util/Optional", "isPresent", "()Z"⟩ : MethodName) jdk_32_method_6_code 1 (some .boolean) :: ws) ({ frames := 0, cells := 0, slots := 0, locals := 0 } : Room)) (fun a U => a = #[(.ref r0)] ∧ Z.Warmed39 U.vm ∧ U.heap = h0) (fun _ _ _ _ _ => True) (fun _ U o U' => ∃ v L, o = .returned v ∧ Q10n Z r0 h0 n0 v U'.heap L ∧ FrameEnd U o U' L ({ frames := 0, cells := 0, slots := 0, locals := 0 } : Room).cells ({ frames := 0, cells := 0, slots := 0, locals := 0 } : Room).slots) := by
  refine MetFree.of_bodySF (plainFor_of_name pn_3) hisR ?_
  intro p e s m args below meth c s₁ Bd hml0 hP hK
  obtain ⟨rfl, hZ, hh⟩ := hP
  have hx := Bd.exec
  have hby := Bd.bytes
  have hml : c.maxLocals = 1 := hml0
  have hown : s.vm.findClass "java/util/Optional" = some m.cls := findClass_of_methodNamed Bd.named
  have hnm := (name_of_methodNamed Bd.named Bd.method).1
  have X0 : Stand p l e ({ frames := 0, cells := 0, slots := 0, locals := 0 } : Room) s m #[(.ref r0)] below meth c s₁ [] 0 0 := Stand.of_body Bd
  have e0 : s₁.heap = h0 := by rw [← hh, Bd.state]; rfl
  have N0 := Fr.nil n0
  have k0 : ∀ t, Steps p.tables e below (s₁.setTop (mkF m 0 #[.val (.ref r0)] [])) t → Steps p.tables e below (s₁.setTop (entryFrame m #[(.ref r0)] 1)) t := fun t k => castTop (ef_10n m r0) k
  have k1 : ∀ t, Steps p.tables e below (s₁.setTop (mkF m 1 #[.val (.ref r0)] [(.ref r0)])) t → Steps p.tables e below (s₁.setTop (entryFrame m #[(.ref r0)] 1)) t := fun t k => k0 t (by
      show Steps p.tables e below (s₁.setTop (mkF m 0 #[.val (.ref r0)] [])) _
      refine XS.aloadN X0.here hx rfl (hb hby d10_0) rfl rfl ?_
      exact k)
  obtain ⟨T2, X2, e2, st2⟩ := getF X0 hx hZ hown (host := "") (Or.inl (hw _ (List.mem_of_getElem? (i := 70) rfl))) Via.refl e0 F_value_r0 (g := (mkF m 1 #[.val (.ref r0)] [(.ref r0)])) rfl rfl (hb hby d10_1)
  have k3 : ∀ t, Steps p.tables e below (T2.setTop (mkF m 4 #[.val (.ref r0)] [.null])) t → Steps p.tables e below (s₁.setTop (entryFrame m #[(.ref r0)] 1)) t := fun t k => k1 t (st2 _ k)
  have k4 : ∀ t, Steps p.tables e below (T2.setTop (mkF m 12 #[.val (.ref r0)] [(.int (0 : Int32))])) t → Steps p.tables e below (s₁.setTop (entryFrame m #[(.ref r0)] 1)) t := fun t k => k3 t (by
      show Steps p.tables e below (T2.setTop (mkF m 4 #[.val (.ref r0)] [.null])) _
      refine XS.ifnullYes X2.here hx rfl (pc0 := 4) (pc' := 11) rfl (hb hby d10_4) rfl (by decide) (by decide) ?_
      show Steps p.tables e below (T2.setTop (mkF m 11 #[.val (.ref r0)] [])) _
      refine XS.iconst X2.here hx rfl (hb hby d10_11) ?_
      exact k)
  obtain ⟨fs, hr, hrun, hended, hW, hsame⟩ := X2.leave (v := (some (.int (0 : Int32)))) (fun h => by rw [Bd.returns] at h; cases h)
  refine ⟨_, _, k4 _ ?_, hrun, hended, _, _, rfl, ?_, ⟨_, rfl⟩, hW, hsame.mono (by decide) (by decide)⟩
  · exact retN X2 hx (t := .boolean) Bd.returns (by simp) (hb hby d10_12) hr
  · show Q10n Z r0 h0 n0 _ T2.heap _
    rw [e2]
    exact ⟨rfl, N0, rfl⟩
theorem ef_10r (m : MethodId) (x0 : Addr) : entryFrame m #[(.ref x0)] 1 = mkF m 0 #[.val (.ref x0)] [] := by first | (simp [entryFrame, mkF, argsToLocals, Value.category]; done) | rfl
def Q10r (Z : State) (r0 : Addr) (q : Addr) (h0 : Heap) (n0 : Nat) (v : Option Value) (h : Heap) (L : List Loc) : Prop := v = some (.int (1 : Int32)) ∧ Fr n0 L ∧ h = h0
set_option maxRecDepth 65536 in
set_option maxHeartbeats 40000000 in
theorem rm10r (l : Launch) (Z : State) (a0 : Array Value) (hw : ∀ d ∈ tables_1, d.before a0 Z = true) (ws : List Jvm.Cond) (r0 : Addr) (q : Addr) (h0 : Heap) (n0 : Nat) (Z0 : n0 ≤ h0.size) (F_value_r0 : Fld Z h0 r0 "java/util/Optional" "value" "Ljava/lang/Object;" (.ref q)) :
    MetFree l (⟨"java/util/Optional", "isPresent", "()Z"⟩ : MethodName) (head1 (Jvm.Cond.code (⟨"java/util/Optional", "isPresent", "()Z"⟩ : MethodName) jdk_32_method_6_code 1 (some .boolean) :: ws) ({ frames := 0, cells := 0, slots := 0, locals := 0 } : Room)) (fun a U => a = #[(.ref r0)] ∧ Z.Warmed39 U.vm ∧ U.heap = h0) (fun _ _ _ _ _ => True) (fun _ U o U' => ∃ v L, o = .returned v ∧ Q10r Z r0 q h0 n0 v U'.heap L ∧ FrameEnd U o U' L ({ frames := 0, cells := 0, slots := 0, locals := 0 } : Room).cells ({ frames := 0, cells := 0, slots := 0, locals := 0 } : Room).slots) := by
  refine MetFree.of_bodySF (plainFor_of_name pn_3) hisR ?_
  intro p e s m args below meth c s₁ Bd hml0 hP hK
  obtain ⟨rfl, hZ, hh⟩ := hP
  have hx := Bd.exec
  have hby := Bd.bytes
  have hml : c.maxLocals = 1 := hml0
  have hown : s.vm.findClass "java/util/Optional" = some m.cls := findClass_of_methodNamed Bd.named
  have hnm := (name_of_methodNamed Bd.named Bd.method).1
  have X0 : Stand p l e ({ frames := 0, cells := 0, slots := 0, locals := 0 } : Room) s m #[(.ref r0)] below meth c s₁ [] 0 0 := Stand.of_body Bd
  have e0 : s₁.heap = h0 := by rw [← hh, Bd.state]; rfl
  have N0 := Fr.nil n0
  have k0 : ∀ t, Steps p.tables e below (s₁.setTop (mkF m 0 #[.val (.ref r0)] [])) t → Steps p.tables e below (s₁.setTop (entryFrame m #[(.ref r0)] 1)) t := fun t k => castTop (ef_10r m r0) k
  have k1 : ∀ t, Steps p.tables e below (s₁.setTop (mkF m 1 #[.val (.ref r0)] [(.ref r0)])) t → Steps p.tables e below (s₁.setTop (entryFrame m #[(.ref r0)] 1)) t := fun t k => k0 t (by
      show Steps p.tables e below (s₁.setTop (mkF m 0 #[.val (.ref r0)] [])) _
      refine XS.aloadN X0.here hx rfl (hb hby d10_0) rfl rfl ?_
      exact k)
  obtain ⟨T2, X2, e2, st2⟩ := getF X0 hx hZ hown (host := "") (Or.inl (hw _ (List.mem_of_getElem? (i := 70) rfl))) Via.refl e0 F_value_r0 (g := (mkF m 1 #[.val (.ref r0)] [(.ref r0)])) rfl rfl (hb hby d10_1)
  have k3 : ∀ t, Steps p.tables e below (T2.setTop (mkF m 4 #[.val (.ref r0)] [(.ref q)])) t → Steps p.tables e below (s₁.setTop (entryFrame m #[(.ref r0)] 1)) t := fun t k => k1 t (st2 _ k)
  have k4 : ∀ t, Steps p.tables e below (T2.setTop (mkF m 12 #[.val (.ref r0)] [(.int (1 : Int32))])) t → Steps p.tables e below (s₁.setTop (entryFrame m #[(.ref r0)] 1)) t := fun t k => k3 t (by
      show Steps p.tables e below (T2.setTop (mkF m 4 #[.val (.ref r0)] [(.ref q)])) _
      refine XS.ifnullNo X2.here hx rfl (hb hby d10_4) rfl ?_
      show Steps p.tables e below (T2.setTop (mkF m 7 #[.val (.ref r0)] [])) _
      refine XS.iconst X2.here hx rfl (hb hby d10_7) ?_
      show Steps p.tables e below (T2.setTop (mkF m 8 #[.val (.ref r0)] [(.int (1 : Int32))])) _
      refine XS.goto X2.here hx rfl (pc0 := 8) (pc' := 12) rfl (hb hby d10_8) (by decide) (by decide) ?_
      exact k)
  obtain ⟨fs, hr, hrun, hended, hW, hsame⟩ := X2.leave (v := (some (.int (1 : Int32)))) (fun h => by rw [Bd.returns] at h; cases h)
  refine ⟨_, _, k4 _ ?_, hrun, hended, _, _, rfl, ?_, ⟨_, rfl⟩, hW, hsame.mono (by decide) (by decide)⟩
  · exact retN X2 hx (t := .boolean) Bd.returns (by simp) (hb hby d10_12) hr
  · show Q10r Z r0 q h0 n0 _ T2.heap _
    rw [e2]
    exact ⟨rfl, N0, rfl⟩
theorem d22_0 : decode jdk_32_method_5_code 0 = .ok (.aload_n 0, 1) := by decide +kernel
theorem d22_1 : decode jdk_32_method_5_code 1 = .ok (.getfield 13, 3) := by decide +kernel
theorem d22_4 : decode jdk_32_method_5_code 4 = .ok (.ifnonnull 13, 3) := by decide +kernel
theorem d22_7 : decode jdk_32_method_5_code 7 = .ok (.new 26, 3) := by decide +kernel
theorem d22_10 : decode jdk_32_method_5_code 10 = .ok (.dup, 1) := by decide +kernel
theorem d22_11 : decode jdk_32_method_5_code 11 = .ok (.ldc 28, 2) := by decide +kernel
theorem d22_13 : decode jdk_32_method_5_code 13 = .ok (.invokespecial 30, 3) := by decide +kernel
theorem d22_16 : decode jdk_32_method_5_code 16 = .ok (.athrow, 1) := by decide +kernel
theorem d22_17 : decode jdk_32_method_5_code 17 = .ok (.aload_n 0, 1) := by decide +kernel
theorem d22_18 : decode jdk_32_method_5_code 18 = .ok (.getfield 13, 3) := by decide +kernel
theorem d22_21 : decode jdk_32_method_5_code 21 = .ok (.areturn, 1) := by decide +kernel
theorem ef_22 (m : MethodId) (x0 : Addr) : entryFrame m #[(.ref x0)] 1 = mkF m 0 #[.val (.ref x0)] [] := by first | (simp [entryFrame, mkF, argsToLocals, Value.category]; done) | rfl
def Q22 (Z : State) (r0 : Addr) (q : Addr) (h0 : Heap) (n0 : Nat) (v : Option Value) (h : Heap) (L : List Loc) : Prop := v = some (.ref q) ∧ Fr n0 L ∧ h = h0
set_option maxRecDepth 65536 in
set_option maxHeartbeats 40000000 in
theorem rm22 (l : Launch) (Z : State) (a0 : Array Value) (hw : ∀ d ∈ tables_1, d.before a0 Z = true) (ws : List Jvm.Cond) (r0 : Addr) (q : Addr) (h0 : Heap) (n0 : Nat) (Z0 : n0 ≤ h0.size) (F_value_r0 : Fld Z h0 r0 "java/util/Optional" "value" "Ljava/lang/Object;" (.ref q)) :
    MetFree l (⟨"java/util/Optional", "get", "()Ljava/lang/Object;"⟩ : MethodName) (head1 (Jvm.Cond.code (⟨"java/util/Optional", "get", "()Ljava/lang/Object;"⟩ : MethodName) jdk_32_method_5_code 1 (some (.object "java/lang/Object")) :: ws) ({ frames := 0, cells := 0, slots := 0, locals := 0 } : Room)) (fun a U => a = #[(.ref r0)] ∧ Z.Warmed39 U.vm ∧ U.heap = h0) (fun _ _ _ _ _ => True) (fun _ U o U' => ∃ v L, o = .returned v ∧ Q22 Z r0 q h0 n0 v U'.heap L ∧ FrameEnd U o U' L ({ frames := 0, cells := 0, slots := 0, locals := 0 } : Room).cells ({ frames := 0, cells := 0, slots := 0, locals := 0 } : Room).slots) := by
  refine MetFree.of_bodySF (plainFor_of_name pn_3) hisR ?_
  intro p e s m args below meth c s₁ Bd hml0 hP hK
  obtain ⟨rfl, hZ, hh⟩ := hP
  have hx := Bd.exec
  have hby := Bd.bytes
  have hml : c.maxLocals = 1 := hml0
  have hown : s.vm.findClass "java/util/Optional" = some m.cls := findClass_of_methodNamed Bd.named
  have hnm := (name_of_methodNamed Bd.named Bd.method).1
  have X0 : Stand p l e ({ frames := 0, cells := 0, slots := 0, locals := 0 } : Room) s m #[(.ref r0)] below meth c s₁ [] 0 0 := Stand.of_body Bd
  have e0 : s₁.heap = h0 := by rw [← hh, Bd.state]; rfl
  have N0 := Fr.nil n0
  have k0 : ∀ t, Steps p.tables e below (s₁.setTop (mkF m 0 #[.val (.ref r0)] [])) t → Steps p.tables e below (s₁.setTop (entryFrame m #[(.ref r0)] 1)) t := fun t k => castTop (ef_22 m r0) k
  have k1 : ∀ t, Steps p.tables e below (s₁.setTop (mkF m 1 #[.val (.ref r0)] [(.ref r0)])) t → Steps p.tables e below (s₁.setTop (entryFrame m #[(.ref r0)] 1)) t := fun t k => k0 t (by
      show Steps p.tables e below (s₁.setTop (mkF m 0 #[.val (.ref r0)] [])) _
      refine XS.aloadN X0.here hx rfl (hb hby d22_0) rfl rfl ?_
      exact k)
  obtain ⟨T2, X2, e2, st2⟩ := getF X0 hx hZ hown (host := "") (Or.inl (hw _ (List.mem_of_getElem? (i := 70) rfl))) Via.refl e0 F_value_r0 (g := (mkF m 1 #[.val (.ref r0)] [(.ref r0)])) rfl rfl (hb hby d22_1)
  have k3 : ∀ t, Steps p.tables e below (T2.setTop (mkF m 4 #[.val (.ref r0)] [(.ref q)])) t → Steps p.tables e below (s₁.setTop (entryFrame m #[(.ref r0)] 1)) t := fun t k => k1 t (st2 _ k)
  have k4 : ∀ t, Steps p.tables e below (T2.setTop (mkF m 18 #[.val (.ref r0)] [(.ref r0)])) t → Steps p.tables e below (s₁.setTop (entryFrame m #[(.ref r0)] 1)) t := fun t k => k3 t (by
      show Steps p.tables e below (T2.setTop (mkF m 4 #[.val (.ref r0)] [(.ref q)])) _
      refine XS.ifnonnullYes X2.here hx rfl (pc0 := 4) (pc' := 17) rfl (hb hby d22_4) rfl (by decide) (by decide) ?_
      show Steps p.tables e below (T2.setTop (mkF m 17 #[.val (.ref r0)] [])) _
      refine XS.aloadN X2.here hx rfl (hb hby d22_17) rfl rfl ?_
      exact k)
  obtain ⟨T5, X5, e5, st5⟩ := getF X2 hx hZ hown (host := "") (Or.inl (hw _ (List.mem_of_getElem? (i := 70) rfl))) Via.refl e2 F_value_r0 (g := (mkF m 18 #[.val (.ref r0)] [(.ref r0)])) rfl rfl (hb hby d22_18)
  have k6 : ∀ t, Steps p.tables e below (T5.setTop (mkF m 21 #[.val (.ref r0)] [(.ref q)])) t → Steps p.tables e below (s₁.setTop (entryFrame m #[(.ref r0)] 1)) t := fun t k => k4 t (st5 _ k)
  obtain ⟨fs, hr, hrun, hended, hW, hsame⟩ := X5.leave (v := (some (.ref q))) (fun h => by rw [Bd.returns] at h; cases h)
  refine ⟨_, _, k6 _ ?_, hrun, hended, _, _, rfl, ?_, ⟨_, rfl⟩, hW, hsame.mono (by decide) (by decide)⟩
  · exact retOut X5 hx Bd.returns rfl (Or.inr (Or.inr (Or.inr (Or.inr ⟨rfl, rfl, rfl⟩)))) (hb hby d22_21) hr
  · show Q22 Z r0 q h0 n0 _ T5.heap _
    rw [e5]
    exact ⟨rfl, N0, rfl⟩
theorem d6_0 : decode prog_28_method_1_code 0 = .ok (.getstatic 10, 3) := by decide +kernel
theorem d6_3 : decode prog_28_method_1_code 3 = .ok (.invokevirtual 14, 3) := by decide +kernel
theorem d6_6 : decode prog_28_method_1_code 6 = .ok (.checkcast 15, 3) := by decide +kernel
theorem d6_9 : decode prog_28_method_1_code 9 = .ok (.areturn, 1) := by decide +kernel
theorem own_elems {P : Value → Prop} {cl : Cell} {v0 v1 : Value} (hs : cl.slots.size = 2) (h0 : cl.slots[0]? = some v0) (h1 : cl.slots[1]? = some v1) (p0 : P v0) (p1 : P v1) : ∀ (i : Nat) (v : Value), cl.slots[i]? = some v → P v := by
  intro i v hv
  have hi : i < 2 := hs ▸ (Array.getElem?_eq_some_iff.mp hv).1
  have c : i = 0 ∨ i = 1 := by omega
  rcases c with rfl | rfl
  · cases h0.symm.trans hv; exact p0
  · cases h1.symm.trans hv; exact p1
theorem own_push (h : Heap) (c : Cell) : Ext h (h.push c) := ⟨by simp, fun a c' q => by
  obtain ⟨ha, e⟩ := Array.getElem?_eq_some_iff.mp q
  rw [Array.getElem?_push_lt ha, e]⟩
theorem pn_4 : plainName "com/example/mediawarden/mediawarden/engine/Lang" = true := by first | (simp [plainName, overriddenIn]; done) | decide +kernel
def QV (Z : State) (cl : Cell) (h0 : Heap) (n0 : Nat) (v : Option Value) (h : Heap) (L : List Loc) : Prop := v = some (.ref h0.size) ∧ Fr n0 L ∧ Ext h0 h ∧ h[h0.size]? = some { cls := cl.cls, slots := cl.slots }
set_option maxRecDepth 65536 in
set_option maxHeartbeats 40000000 in
theorem rmV (l : Launch) (Z : State) (a0 : Array Value) (hw : ∀ d ∈ tables_1, d.before a0 Z = true) (ws : List Jvm.Cond) (wv : Addr) (cl : Cell) (w_ZH w_EN : Addr) (h0 : Heap) (n0 : Nat) (Z0 : n0 ≤ h0.size) (S_V : Sta Z h0 "com/example/mediawarden/mediawarden/engine/Lang" "$VALUES" "[Lcom/example/mediawarden/mediawarden/engine/Lang;" (.ref wv)) (Arv_ : Arr Z h0 wv cl (.object "com/example/mediawarden/mediawarden/engine/Lang")) (E_V : Exa Z h0 wv "[Lcom/example/mediawarden/mediawarden/engine/Lang;") (hsz : cl.slots.size = 2) (hat0 : cl.slots[0]? = some (.ref w_ZH)) (hat1 : cl.slots[1]? = some (.ref w_EN)) :
    MetFree l (⟨"com/example/mediawarden/mediawarden/engine/Lang", "values", "()[Lcom/example/mediawarden/mediawarden/engine/Lang;"⟩ : MethodName) (head1 (Jvm.Cond.code (⟨"com/example/mediawarden/mediawarden/engine/Lang", "values", "()[Lcom/example/mediawarden/mediawarden/engine/Lang;"⟩ : MethodName) prog_28_method_1_code 0 (some (.array (.object "com/example/mediawarden/mediawarden/engine/Lang"))) :: ws) ({ frames := 1, cells := 1, slots := 2, locals := 14 } : Room)) (fun a U => a = #[] ∧ Z.Warmed39 U.vm ∧ U.heap = h0) (fun _ _ _ _ _ => True) (fun _ U o U' => ∃ v L, o = .returned v ∧ QV Z cl h0 n0 v U'.heap L ∧ FrameEnd U o U' L ({ frames := 1, cells := 1, slots := 2, locals := 14 } : Room).cells ({ frames := 1, cells := 1, slots := 2, locals := 14 } : Room).slots) := by
  refine MetFree.of_bodySF (plainFor_of_name pn_4) hisR ?_
  intro p e s m args below meth c s₁ Bd hml0 hP hK
  obtain ⟨rfl, hZ, hh⟩ := hP
  have hx := Bd.exec
  have hby := Bd.bytes
  have hml : c.maxLocals = 0 := hml0
  have hown : s.vm.findClass "com/example/mediawarden/mediawarden/engine/Lang" = some m.cls := findClass_of_methodNamed Bd.named
  have X0 : Stand p l e ({ frames := 1, cells := 1, slots := 2, locals := 14 } : Room) s m #[] below meth c s₁ [] 0 0 := Stand.of_body Bd
  have e0 : s₁.heap = h0 := by rw [← hh, Bd.state]; rfl
  have N0 := Fr.nil n0
  have k0 : ∀ t, Steps p.tables e below (s₁.setTop (mkF m 0 #[] [])) t → Steps p.tables e below (s₁.setTop (entryFrame m #[] 0)) t := fun t k => castTop (by first | rfl | simp [entryFrame, mkF, argsToLocals]) k
  obtain ⟨T1, X1, e1, st1⟩ := getS2 X0 hx hZ hown (host := "") (Or.inl (hw _ (List.mem_of_getElem? (i := 33) rfl))) Via.refl e0 S_V (g := (mkF m 0 #[] [])) rfl (hb hby d6_0)
  obtain ⟨cV, kV, v1, v2, v3, v4, -⟩ := E_V
  cases Arv_.1.symm.trans v1
  obtain ⟨c1, c2, g1, g2, g3⟩ := Cond.castable_spec (hw _ (List.mem_of_getElem? (i := 41) rfl))
  cases v2.symm.trans g1
  obtain ⟨hst, kA, hkA, comp, hkind⟩ := Arv_.2.1
  obtain ⟨kT, hkT, ekT⟩ := (hZ.alike.trans X1.warmed.alike).2.2 _ _ hkA
  have hkindT : kT.kind = .array comp (.object "com/example/mediawarden/mediawarden/engine/Lang") := by rw [ekT]; exact hkind
  obtain ⟨kS, hkS, ekS⟩ := hZ.alike.2.2 _ _ hkA
  have hkindS : kS.kind = .array comp (.object "com/example/mediawarden/mediawarden/engine/Lang") := by rw [ekS]; exact hkind
  have hfit : ∀ i v, cl.slots[i]? = some v → T1.fitsSlot cl.cls .none i v = true := fun i v hv => by
    obtain ⟨w, rfl⟩ := own_elems (P := fun v => ∃ w, v = Value.ref w) hsz hat0 hat1 ⟨_, rfl⟩ ⟨_, rfl⟩ i v hv
    simp [State.fitsSlot, State.slotType?, hkT, hkindT, fits]
  obtain ⟨vm2, X2, st2⟩ := X1.cloneArray hx (own := "com/example/mediawarden/mediawarden/engine/Lang") (ad := "[Lcom/example/mediawarden/mediawarden/engine/Lang;") (index := 14) hown (mvT hZ (hw _ (List.mem_of_getElem? (i := 35) rfl))) (mvT hZ (hw _ (List.mem_of_getElem? (i := 36) rfl))) (mvT hZ (hw _ (List.mem_of_getElem? (i := 40) rfl))) (mvT hZ (hw _ (List.mem_of_getElem? (i := 38) rfl))) (mvT hZ (hw _ (List.mem_of_getElem? (i := 39) rfl))) (a := wv) (cell := cl) (cC := c2) (by rw [e1]; exact Arv_.1) hst Arv_.2.2 (by rw [hZ.alike.findClass]; exact v2) (by rw [hZ.alike.findClass]; exact g2) (by rw [hZ.alike.assignable]; exact g3) hfit (g := (mkF m 3 #[] [(.ref wv)])) rfl (by rw [hml]; rfl) (rest := []) rfl (hb hby d6_3) (by decide) (by show 2 * 0 + 0 + 14 ≤ 14; decide) (by decide) (by show 0 + cl.slots.size ≤ 2; omega) (Vm.clonesLoader_of_array hkS hkindS)
  have e2 : ((T1.setVm vm2).pushCell { cls := cl.cls, slots := cl.slots }).heap = h0.push { cls := cl.cls, slots := cl.slots } := by show T1.heap.push _ = _; rw [e1]
  generalize hT2 : (T1.setVm vm2).pushCell { cls := cl.cls, slots := cl.slots } = T2 at X2 st2 e2
  rw [e1] at st2
  have F2 : Ins Z (h0.push { cls := cl.cls, slots := cl.slots }) h0.size "[Lcom/example/mediawarden/mediawarden/engine/Lang;" true := ⟨{ cls := cl.cls, slots := cl.slots }, cl.cls, by simp, v2, by simp [Vm.assignable_self, VmData.isStatics]⟩
  obtain ⟨T3, X3, e3, st3⟩ := castY X2 hx hZ hown (hw _ (List.mem_of_getElem? (i := 45) rfl)) e2 F2 (g := (mkF m 6 #[] [(.ref h0.size)])) rfl rfl (hb hby d6_6)
  rw [hsz] at X3
  obtain ⟨fs, hr, hrun, hended, hW, hsame⟩ := X3.leave (v := (some (.ref h0.size))) (fun h => by rw [Bd.returns] at h; cases h)
  refine ⟨_, _, k0 _ (st1 _ (st2 _ (st3 _ ?_))), hrun, hended, _, _, rfl, ?_, ⟨_, rfl⟩, hW, hsame.mono (by decide) (by decide)⟩
  · exact retOut X3 hx Bd.returns rfl (Or.inr (Or.inr (Or.inr (Or.inr ⟨rfl, rfl, rfl⟩)))) (hb hby d6_9) hr
  · show QV Z cl h0 n0 _ T3.heap _
    rw [e3]
    exact ⟨rfl, N0, own_push _ _, by simp⟩
theorem d5_0 : decode prog_28_method_4_code 0 = .ok (.invokestatic 33, 3) := by decide +kernel
theorem d5_3 : decode prog_28_method_4_code 3 = .ok (.astore_n 1, 1) := by decide +kernel
theorem d5_4 : decode prog_28_method_4_code 4 = .ok (.aload_n 1, 1) := by decide +kernel
theorem d5_5 : decode prog_28_method_4_code 5 = .ok (.arraylength, 1) := by decide +kernel
theorem d5_6 : decode prog_28_method_4_code 6 = .ok (.istore_n 2, 1) := by decide +kernel
theorem d5_7 : decode prog_28_method_4_code 7 = .ok (.iconst 0, 1) := by decide +kernel
theorem d5_8 : decode prog_28_method_4_code 8 = .ok (.istore_n 3, 1) := by decide +kernel
theorem d5_9 : decode prog_28_method_4_code 9 = .ok (.iload_n 3, 1) := by decide +kernel
theorem d5_10 : decode prog_28_method_4_code 10 = .ok (.iload_n 2, 1) := by decide +kernel
theorem d5_11 : decode prog_28_method_4_code 11 = .ok (.if_icmp .ge 32, 3) := by decide +kernel
theorem d5_14 : decode prog_28_method_4_code 14 = .ok (.aload_n 1, 1) := by decide +kernel
theorem d5_15 : decode prog_28_method_4_code 15 = .ok (.iload_n 3, 1) := by decide +kernel
theorem d5_16 : decode prog_28_method_4_code 16 = .ok (.aaload, 1) := by decide +kernel
theorem d5_17 : decode prog_28_method_4_code 17 = .ok (.astore 4, 2) := by decide +kernel
theorem d5_19 : decode prog_28_method_4_code 19 = .ok (.aload 4, 2) := by decide +kernel
theorem d5_21 : decode prog_28_method_4_code 21 = .ok (.getfield 29, 3) := by decide +kernel
theorem d5_24 : decode prog_28_method_4_code 24 = .ok (.aload_n 0, 1) := by decide +kernel
theorem d5_25 : decode prog_28_method_4_code 25 = .ok (.invokevirtual 37, 3) := by decide +kernel
theorem d5_28 : decode prog_28_method_4_code 28 = .ok (.ifCond .eq 9, 3) := by decide +kernel
theorem d5_31 : decode prog_28_method_4_code 31 = .ok (.aload 4, 2) := by decide +kernel
theorem d5_33 : decode prog_28_method_4_code 33 = .ok (.invokestatic 43, 3) := by decide +kernel
theorem d5_36 : decode prog_28_method_4_code 36 = .ok (.areturn, 1) := by decide +kernel
theorem d5_37 : decode prog_28_method_4_code 37 = .ok (.iinc 3 1, 3) := by decide +kernel
theorem d5_40 : decode prog_28_method_4_code 40 = .ok (.goto (-31), 3) := by decide +kernel
theorem d5_43 : decode prog_28_method_4_code 43 = .ok (.invokestatic 49, 3) := by decide +kernel
theorem d5_46 : decode prog_28_method_4_code 46 = .ok (.areturn, 1) := by decide +kernel
theorem ef_5n (m : MethodId)  : entryFrame m #[.null] 5 = mkF m 0 #[.val .null, .unset, .unset, .unset, .unset] [] := by first | (simp [entryFrame, mkF, argsToLocals, Value.category]; done) | rfl
theorem pd_4 : parseMethodDescriptor "()[Lcom/example/mediawarden/mediawarden/engine/Lang;" = some ⟨[], some (.array (.object "com/example/mediawarden/mediawarden/engine/Lang"))⟩ := by decide +kernel
theorem pd_5 : parseMethodDescriptor "(Ljava/lang/Object;)Z" = some ⟨[(.object "java/lang/Object")], some .boolean⟩ := by decide +kernel
theorem pd_6 : parseMethodDescriptor "()Ljava/util/Optional;" = some ⟨[], some (.object "java/util/Optional")⟩ := by decide +kernel
def Q5n (Z : State) (wv : Addr) (cl : Cell) (w_ZH : Addr) (w_EN : Addr) (c_ZH : Addr) (t_ZH : Addr) (c_EN : Addr) (t_EN : Addr) (k_ZH : ClassId) (k_EN : ClassId) (w_EMPTY : Addr) (G1 : Int32) (h0 : Heap) (n0 : Nat) (v : Option Value) (h : Heap) (L : List Loc) : Prop := ∃ (b : Addr) (val : Value), v = some (.ref b) ∧ Fr n0 L ∧ Keep h0 h [] ∧ Exa Z h b "java/util/Optional" ∧ Fld Z h b "java/util/Optional" "value" "Ljava/lang/Object;" val ∧ val = .null
set_option maxRecDepth 65536 in
set_option maxHeartbeats 40000000 in
theorem rm5n (l : Launch) (Z : State) (a0 : Array Value) (hw : ∀ d ∈ tables_1, d.before a0 Z = true) (ws : List Jvm.Cond) (wv : Addr) (cl : Cell) (w_ZH : Addr) (w_EN : Addr) (c_ZH : Addr) (t_ZH : Addr) (c_EN : Addr) (t_EN : Addr) (k_ZH : ClassId) (k_EN : ClassId) (w_EMPTY : Addr) (G1 : Int32) (h0 : Heap) (n0 : Nat) (Z0 : n0 ≤ h0.size) (S_V : Sta Z h0 "com/example/mediawarden/mediawarden/engine/Lang" "$VALUES" "[Lcom/example/mediawarden/mediawarden/engine/Lang;" (.ref wv)) (Arv_ : Arr Z h0 wv cl (.object "com/example/mediawarden/mediawarden/engine/Lang")) (E_V : Exa Z h0 wv "[Lcom/example/mediawarden/mediawarden/engine/Lang;") (hsz : cl.slots.size = 2) (hat0 : cl.slots[0]? = some (.ref w_ZH)) (hat1 : cl.slots[1]? = some (.ref w_EN)) (F_code_w_ZH : Fld Z h0 w_ZH "com/example/mediawarden/mediawarden/engine/Lang" "code" "Ljava/lang/String;" (.ref c_ZH)) (E_c_ZH : Exa Z h0 c_ZH "java/lang/String") (F_value_c_ZH : Fld Z h0 c_ZH "java/lang/String" "value" "[B" (.ref t_ZH)) (F_coder_c_ZH : Fld Z h0 c_ZH "java/lang/String" "coder" "B" (.int (0 : Int32))) (V_t_ZH : Arv Z h0 t_ZH k_ZH .byte (2 : Int32) ((([122, 104] : List Int32).map (fun c => c.toInt8.toInt32)).map Value.int) (.int (0 : Int32))) (F_code_w_EN : Fld Z h0 w_EN "com/example/mediawarden/mediawarden/engine/Lang" "code" "Ljava/lang/String;" (.ref c_EN)) (E_c_EN : Exa Z h0 c_EN "java/lang/String") (F_value_c_EN : Fld Z h0 c_EN "java/lang/String" "value" "[B" (.ref t_EN)) (F_coder_c_EN : Fld Z h0 c_EN "java/lang/String" "coder" "B" (.int (0 : Int32))) (V_t_EN : Arv Z h0 t_EN k_EN .byte (2 : Int32) ((([101, 110] : List Int32).map (fun c => c.toInt8.toInt32)).map Value.int) (.int (0 : Int32))) (S_EMPTY : Sta Z Z.heap "java/util/Optional" "EMPTY" "Ljava/util/Optional;" (.ref w_EMPTY)) (E_w_EMPTY : Exa Z Z.heap w_EMPTY "java/util/Optional") (F_value_w_EMPTY : Fld Z Z.heap w_EMPTY "java/util/Optional" "value" "Ljava/lang/Object;" .null) (X00 : Old Z n0 h0) :
    MetFree l (⟨"com/example/mediawarden/mediawarden/engine/Lang", "of", "(Ljava/lang/String;)Ljava/util/Optional;"⟩ : MethodName) (head1 (Jvm.Cond.code (⟨"com/example/mediawarden/mediawarden/engine/Lang", "of", "(Ljava/lang/String;)Ljava/util/Optional;"⟩ : MethodName) prog_28_method_4_code 5 (some (.object "java/util/Optional")) :: ws) ({ frames := 2, cells := 1, slots := 2, locals := 25 } : Room)) (fun a U => a = #[.null] ∧ Z.Warmed39 U.vm ∧ U.heap = h0) (fun _ _ _ _ _ => True) (fun _ U o U' => ∃ v L, o = .returned v ∧ Q5n Z wv cl w_ZH w_EN c_ZH t_ZH c_EN t_EN k_ZH k_EN w_EMPTY G1 h0 n0 v U'.heap L ∧ FrameEnd U o U' L ({ frames := 2, cells := 1, slots := 2, locals := 25 } : Room).cells ({ frames := 2, cells := 1, slots := 2, locals := 25 } : Room).slots) := by
  refine MetFree.of_bodySF (plainFor_of_name pn_4) hisR ?_
  intro p e s m args below meth c s₁ Bd hml0 hP hK
  obtain ⟨rfl, hZ, hh⟩ := hP
  have hx := Bd.exec
  have hby := Bd.bytes
  have hml : c.maxLocals = 5 := hml0
  have hown : s.vm.findClass "com/example/mediawarden/mediawarden/engine/Lang" = some m.cls := findClass_of_methodNamed Bd.named
  have hnm := (name_of_methodNamed Bd.named Bd.method).1
  have X0 : Stand p l e ({ frames := 2, cells := 1, slots := 2, locals := 25 } : Room) s m #[.null] below meth c s₁ [] 0 0 := Stand.of_body Bd
  have e0 : s₁.heap = h0 := by rw [← hh, Bd.state]; rfl
  have N0 := Fr.nil n0
  have k0 : ∀ t, Steps p.tables e below (s₁.setTop (mkF m 0 #[.val .null, .unset, .unset, .unset, .unset] [])) t → Steps p.tables e below (s₁.setTop (entryFrame m #[.null] 5)) t := fun t k => castTop (ef_5n m ) k
  obtain ⟨_, _, ⟨T1, L1, kq1, n1⟩, -, X1, ⟨Lc1, hQ1, l1, y1, z1⟩, st1⟩ := Jvm.LawKit.callS X0 hx (y := (⟨"com/example/mediawarden/mediawarden/engine/Lang", "values", "()[Lcom/example/mediawarden/mediawarden/engine/Lang;"⟩ : MethodName)) hown (mvT hZ (hw _ (List.mem_of_getElem? (i := 30) rfl))) (mvT hZ (hw _ (List.mem_of_getElem? (i := 31) rfl))) (mvT hZ (hw _ (List.mem_of_getElem? (i := 28) rfl))) (mvT hZ (hw _ (List.mem_of_getElem? (i := 32) rfl))) (by decide) (backOf (W := 0) (rmV l Z a0 hw [] wv cl w_ZH w_EN h0 n0 Z0 S_V Arv_ E_V hsz hat0 hat1) hZ (hw _ (List.mem_of_getElem? (i := 32) rfl)) (hw _ (List.mem_of_getElem? (i := 28) rfl)) (by decide) (by decide)) (g := (mkF m 0 #[.val .null, .unset, .unset, .unset, .unset] [])) rfl (by rw [hml]; rfl) (argsL := []) (rest := []) (lenOf pd_4 rfl) rfl (by show 2 * 0 + _ ≤ _; exact Nat.le_of_eq rfl) (hb hby d5_0) (fun _ _ => ⟨rfl, e0, (by decide : 0 + 1 ≤ _), (by decide : 0 + 2 ≤ _)⟩)
  dsimp only [Pt.U, Pt.locs, Pt.cells, Pt.slots] at X1 l1 y1 z1 st1 hQ1
  subst l1 y1 z1
  obtain ⟨rfl, N1q, Ex1, hcell1⟩ := hQ1
  have N1 := Fr.app N0 N1q
  have Zs1 : n0 ≤ T1.heap.size := Nat.le_trans Z0 Ex1.1
  have Arn : Arr Z T1.heap h0.size { cls := cl.cls, slots := cl.slots } (.object "com/example/mediawarden/mediawarden/engine/Lang") := ⟨hcell1, ⟨(fun k q => by cases q), Arv_.2.1.2⟩, (fun q => by cases q)⟩
  have hlen : (cl.slots.size).toInt32 = (2 : Int32) := by rw [hsz]; rfl
  have k2 : ∀ t, Steps p.tables e below (T1.setTop (mkF m 3 #[.val .null, .unset, .unset, .unset, .unset] [(.ref h0.size)])) t → Steps p.tables e below (s₁.setTop (entryFrame m #[.null] 5)) t := fun t k => k0 t (st1 _ k)
  have hc11 : (0 : Int32) < (2 : Int32) := by decide
  have k3 : ∀ t, Steps p.tables e below (T1.setTop (mkF m 21 #[.val .null, .val (.ref h0.size), .val (.int (2 : Int32)), .val (.int (0 : Int32)), .val (.ref w_ZH)] [(.ref w_ZH)])) t → Steps p.tables e below (s₁.setTop (entryFrame m #[.null] 5)) t := fun t k => k2 t (by
      show Steps p.tables e below (T1.setTop (mkF m 3 #[.val .null, .unset, .unset, .unset, .unset] [(.ref h0.size)])) _
      refine XS.astoreN X1.here hx rfl (hb hby d5_3) rfl rfl (l' := #[.val .null, .val (.ref h0.size), .unset, .unset, .unset]) rfl ?_
      show Steps p.tables e below (T1.setTop (mkF m 4 #[.val .null, .val (.ref h0.size), .unset, .unset, .unset] [])) _
      refine XS.aloadN X1.here hx rfl (hb hby d5_4) rfl rfl ?_
      show Steps p.tables e below (T1.setTop (mkF m 5 #[.val .null, .val (.ref h0.size), .unset, .unset, .unset] [(.ref h0.size)])) _
      refine X1.arraylength hx Arn.1 (State.isArrayOf_alike hZ.alike Arn.2.1) (g := (mkF m 5 #[.val .null, .val (.ref h0.size), .unset, .unset, .unset] [(.ref h0.size)])) rfl rfl (hb hby d5_5) _ ?_
      rw [hlen]
      show Steps p.tables e below (T1.setTop (mkF m 6 #[.val .null, .val (.ref h0.size), .unset, .unset, .unset] [(.int (2 : Int32))])) _
      refine XS.istoreN X1.here hx rfl (hb hby d5_6) rfl (l' := #[.val .null, .val (.ref h0.size), .val (.int (2 : Int32)), .unset, .unset]) rfl ?_
      show Steps p.tables e below (T1.setTop (mkF m 7 #[.val .null, .val (.ref h0.size), .val (.int (2 : Int32)), .unset, .unset] [])) _
      refine XS.iconst X1.here hx rfl (hb hby d5_7) ?_
      show Steps p.tables e below (T1.setTop (mkF m 8 #[.val .null, .val (.ref h0.size), .val (.int (2 : Int32)), .unset, .unset] [(.int (0 : Int32))])) _
      refine XS.istoreN X1.here hx rfl (hb hby d5_8) rfl (l' := #[.val .null, .val (.ref h0.size), .val (.int (2 : Int32)), .val (.int (0 : Int32)), .unset]) rfl ?_
      show Steps p.tables e below (T1.setTop (mkF m 9 #[.val .null, .val (.ref h0.size), .val (.int (2 : Int32)), .val (.int (0 : Int32)), .unset] [])) _
      refine XS.iloadN X1.here hx rfl (hb hby d5_9) rfl ?_
      show Steps p.tables e below (T1.setTop (mkF m 10 #[.val .null, .val (.ref h0.size), .val (.int (2 : Int32)), .val (.int (0 : Int32)), .unset] [(.int (0 : Int32))])) _
      refine XS.iloadN X1.here hx rfl (hb hby d5_10) rfl ?_
      show Steps p.tables e below (T1.setTop (mkF m 11 #[.val .null, .val (.ref h0.size), .val (.int (2 : Int32)), .val (.int (0 : Int32)), .unset] [(.int (2 : Int32)), (.int (0 : Int32))])) _
      refine XS.icmpNo X1.here hx rfl (hb hby d5_11) rfl (tlt hc11).2.1 ?_
      show Steps p.tables e below (T1.setTop (mkF m 14 #[.val .null, .val (.ref h0.size), .val (.int (2 : Int32)), .val (.int (0 : Int32)), .unset] [])) _
      refine XS.aloadN X1.here hx rfl (hb hby d5_14) rfl rfl ?_
      show Steps p.tables e below (T1.setTop (mkF m 15 #[.val .null, .val (.ref h0.size), .val (.int (2 : Int32)), .val (.int (0 : Int32)), .unset] [(.ref h0.size)])) _
      refine XS.iloadN X1.here hx rfl (hb hby d5_15) rfl ?_
      show Steps p.tables e below (T1.setTop (mkF m 16 #[.val .null, .val (.ref h0.size), .val (.int (2 : Int32)), .val (.int (0 : Int32)), .unset] [(.int (0 : Int32)), (.ref h0.size)])) _
      refine X1.aaload hx (j := (0 : Int32)) (v := .ref w_ZH) Arn.1 (State.isArrayOf_alike hZ.alike Arn.2.1) rfl Arn.2.2 (fun q => q.elim (by decide) (fun q => by have q' : cl.slots.size ≤ 0 := q; omega)) hat0 (g := (mkF m 16 #[.val .null, .val (.ref h0.size), .val (.int (2 : Int32)), .val (.int (0 : Int32)), .unset] [(.int (0 : Int32)), (.ref h0.size)])) rfl rfl (hb hby d5_16) _ ?_
      show Steps p.tables e below (T1.setTop (mkF m 17 #[.val .null, .val (.ref h0.size), .val (.int (2 : Int32)), .val (.int (0 : Int32)), .unset] [(.ref w_ZH)])) _
      refine XS.astore X1.here hx rfl (hb hby d5_17) rfl rfl (l' := #[.val .null, .val (.ref h0.size), .val (.int (2 : Int32)), .val (.int (0 : Int32)), .val (.ref w_ZH)]) rfl ?_
      show Steps p.tables e below (T1.setTop (mkF m 19 #[.val .null, .val (.ref h0.size), .val (.int (2 : Int32)), .val (.int (0 : Int32)), .val (.ref w_ZH)] [])) _
      refine XS.aload X1.here hx rfl (hb hby d5_19) rfl rfl ?_
      exact k)
  obtain ⟨T4, X4, e4, st4⟩ := getF X1 hx hZ hown (host := "") (Or.inl (hw _ (List.mem_of_getElem? (i := 47) rfl))) Via.refl rfl (F_code_w_ZH.ext Ex1) (g := (mkF m 21 #[.val .null, .val (.ref h0.size), .val (.int (2 : Int32)), .val (.int (0 : Int32)), .val (.ref w_ZH)] [(.ref w_ZH)])) rfl rfl (hb hby d5_21)
  have k5 : ∀ t, Steps p.tables e below (T4.setTop (mkF m 24 #[.val .null, .val (.ref h0.size), .val (.int (2 : Int32)), .val (.int (0 : Int32)), .val (.ref w_ZH)] [(.ref c_ZH)])) t → Steps p.tables e below (s₁.setTop (entryFrame m #[.null] 5)) t := fun t k => k3 t (st4 _ k)
  have k6 : ∀ t, Steps p.tables e below (T4.setTop (mkF m 25 #[.val .null, .val (.ref h0.size), .val (.int (2 : Int32)), .val (.int (0 : Int32)), .val (.ref w_ZH)] [.null, (.ref c_ZH)])) t → Steps p.tables e below (s₁.setTop (entryFrame m #[.null] 5)) t := fun t k => k5 t (by
      show Steps p.tables e below (T4.setTop (mkF m 24 #[.val .null, .val (.ref h0.size), .val (.int (2 : Int32)), .val (.int (0 : Int32)), .val (.ref w_ZH)] [(.ref c_ZH)])) _
      refine XS.aloadN X4.here hx rfl (hb hby d5_24) rfl rfl ?_
      exact k)
  obtain ⟨cq7, kcq7, q7a, q7b, q7c⟩ := isOf hZ e4 (E_c_ZH.ext Ex1)
  obtain ⟨_, _, ⟨T7, L7, kq7, n7⟩, -, X7, ⟨Lc7, hQ7, l7, y7, z7⟩, st7⟩ := X4.virtualBack hx (y := (⟨"java/lang/String", "equals", "(Ljava/lang/Object;)Z"⟩ : MethodName)) (z := (⟨"java/lang/String", "equals", "(Ljava/lang/Object;)Z"⟩ : MethodName)) hown (mvT hZ (hw _ (List.mem_of_getElem? (i := 49) rfl))) (mvT hZ (hw _ (List.mem_of_getElem? (i := 50) rfl))) (notFace_of_selects (args := #[]) (mvT hZ (hw _ (List.mem_of_getElem? (i := 52) rfl)))) (mvT hZ (hw _ (List.mem_of_getElem? (i := 52) rfl))) (mvT hZ (hw _ (List.mem_of_getElem? (i := 51) rfl))) (by decide) (backOf (W := 0) (rm7 l Z a0 hw [] c_ZH T1.heap n0 Zs1) hZ (hw _ (List.mem_of_getElem? (i := 53) rfl)) (hw _ (List.mem_of_getElem? (i := 6) rfl)) (by decide) (by decide)) q7a q7c (g := (mkF m 25 #[.val .null, .val (.ref h0.size), .val (.int (2 : Int32)), .val (.int (0 : Int32)), .val (.ref w_ZH)] [.null, (.ref c_ZH)])) rfl (by rw [hml]; rfl) (Steps.refl _) (argsL := [.null]) (rest := []) (lenOf pd_5 rfl) rfl (by show 2 * 0 + _ ≤ _; exact Nat.le_of_eq rfl) (hb hby d5_25) (fun _ _ => ⟨rfl, e4, (by decide : 1 + 0 ≤ _), (by decide : 2 + 0 ≤ _)⟩)
  dsimp only [Pt.U, Pt.locs, Pt.cells, Pt.slots] at X7 l7 y7 z7 st7 hQ7
  subst l7 y7 z7
  obtain ⟨rfl, N7q, e7⟩ := hQ7
  have N7 := Fr.app N1 N7q
  have k8 : ∀ t, Steps p.tables e below (T7.setTop (mkF m 28 #[.val .null, .val (.ref h0.size), .val (.int (2 : Int32)), .val (.int (0 : Int32)), .val (.ref w_ZH)] [(.int (0 : Int32))])) t → Steps p.tables e below (s₁.setTop (entryFrame m #[.null] 5)) t := fun t k => k6 t (st7.trans k)
  have hc28 : (0 : Int32) = (0 : Int32) := by decide
  have hc11_9 : (1 : Int32) < (2 : Int32) := by decide
  have k10 : ∀ t, Steps p.tables e below (T7.setTop (mkF m 21 #[.val .null, .val (.ref h0.size), .val (.int (2 : Int32)), .val (.int (1 : Int32)), .val (.ref w_EN)] [(.ref w_EN)])) t → Steps p.tables e below (s₁.setTop (entryFrame m #[.null] 5)) t := fun t k => k8 t (by
      show Steps p.tables e below (T7.setTop (mkF m 28 #[.val .null, .val (.ref h0.size), .val (.int (2 : Int32)), .val (.int (0 : Int32)), .val (.ref w_ZH)] [(.int (0 : Int32))])) _
      refine XS.ifYes X7.here hx rfl (pc0 := 28) (pc' := 37) rfl (hb hby d5_28) rfl ((if0 _ _).trans (teq hc28).1) (by decide) (by decide) ?_
      show Steps p.tables e below (T7.setTop (mkF m 37 #[.val .null, .val (.ref h0.size), .val (.int (2 : Int32)), .val (.int (0 : Int32)), .val (.ref w_ZH)] [])) _
      refine XS.iinc X7.here hx rfl (hb hby d5_37) rfl (l' := #[.val .null, .val (.ref h0.size), .val (.int (2 : Int32)), .val (.int (1 : Int32)), .val (.ref w_ZH)]) rfl ?_
      show Steps p.tables e below (T7.setTop (mkF m 40 #[.val .null, .val (.ref h0.size), .val (.int (2 : Int32)), .val (.int (1 : Int32)), .val (.ref w_ZH)] [])) _
      refine XS.goto X7.here hx rfl (pc0 := 40) (pc' := 9) rfl (hb hby d5_40) (by decide) (by decide) ?_
      show Steps p.tables e below (T7.setTop (mkF m 9 #[.val .null, .val (.ref h0.size), .val (.int (2 : Int32)), .val (.int (1 : Int32)), .val (.ref w_ZH)] [])) _
      refine XS.iloadN X7.here hx rfl (hb hby d5_9) rfl ?_
      show Steps p.tables e below (T7.setTop (mkF m 10 #[.val .null, .val (.ref h0.size), .val (.int (2 : Int32)), .val (.int (1 : Int32)), .val (.ref w_ZH)] [(.int (1 : Int32))])) _
      refine XS.iloadN X7.here hx rfl (hb hby d5_10) rfl ?_
      show Steps p.tables e below (T7.setTop (mkF m 11 #[.val .null, .val (.ref h0.size), .val (.int (2 : Int32)), .val (.int (1 : Int32)), .val (.ref w_ZH)] [(.int (2 : Int32)), (.int (1 : Int32))])) _
      refine XS.icmpNo X7.here hx rfl (hb hby d5_11) rfl (tlt hc11_9).2.1 ?_
      show Steps p.tables e below (T7.setTop (mkF m 14 #[.val .null, .val (.ref h0.size), .val (.int (2 : Int32)), .val (.int (1 : Int32)), .val (.ref w_ZH)] [])) _
      refine XS.aloadN X7.here hx rfl (hb hby d5_14) rfl rfl ?_
      show Steps p.tables e below (T7.setTop (mkF m 15 #[.val .null, .val (.ref h0.size), .val (.int (2 : Int32)), .val (.int (1 : Int32)), .val (.ref w_ZH)] [(.ref h0.size)])) _
      refine XS.iloadN X7.here hx rfl (hb hby d5_15) rfl ?_
      show Steps p.tables e below (T7.setTop (mkF m 16 #[.val .null, .val (.ref h0.size), .val (.int (2 : Int32)), .val (.int (1 : Int32)), .val (.ref w_ZH)] [(.int (1 : Int32)), (.ref h0.size)])) _
      refine X7.aaload hx (j := (1 : Int32)) (v := .ref w_EN) (by rw [e7]; exact Arn.1) (State.isArrayOf_alike hZ.alike Arn.2.1) rfl Arn.2.2 (fun q => q.elim (by decide) (fun q => by have q' : cl.slots.size ≤ 1 := q; omega)) hat1 (g := (mkF m 16 #[.val .null, .val (.ref h0.size), .val (.int (2 : Int32)), .val (.int (1 : Int32)), .val (.ref w_ZH)] [(.int (1 : Int32)), (.ref h0.size)])) rfl rfl (hb hby d5_16) _ ?_
      show Steps p.tables e below (T7.setTop (mkF m 17 #[.val .null, .val (.ref h0.size), .val (.int (2 : Int32)), .val (.int (1 : Int32)), .val (.ref w_ZH)] [(.ref w_EN)])) _
      refine XS.astore X7.here hx rfl (hb hby d5_17) rfl rfl (l' := #[.val .null, .val (.ref h0.size), .val (.int (2 : Int32)), .val (.int (1 : Int32)), .val (.ref w_EN)]) rfl ?_
      show Steps p.tables e below (T7.setTop (mkF m 19 #[.val .null, .val (.ref h0.size), .val (.int (2 : Int32)), .val (.int (1 : Int32)), .val (.ref w_EN)] [])) _
      refine XS.aload X7.here hx rfl (hb hby d5_19) rfl rfl ?_
      exact k)
  obtain ⟨T11, X11, e11, st11⟩ := getF X7 hx hZ hown (host := "") (Or.inl (hw _ (List.mem_of_getElem? (i := 47) rfl))) Via.refl e7 (F_code_w_EN.ext Ex1) (g := (mkF m 21 #[.val .null, .val (.ref h0.size), .val (.int (2 : Int32)), .val (.int (1 : Int32)), .val (.ref w_EN)] [(.ref w_EN)])) rfl rfl (hb hby d5_21)
  have k12 : ∀ t, Steps p.tables e below (T11.setTop (mkF m 24 #[.val .null, .val (.ref h0.size), .val (.int (2 : Int32)), .val (.int (1 : Int32)), .val (.ref w_EN)] [(.ref c_EN)])) t → Steps p.tables e below (s₁.setTop (entryFrame m #[.null] 5)) t := fun t k => k10 t (st11 _ k)
  have k13 : ∀ t, Steps p.tables e below (T11.setTop (mkF m 25 #[.val .null, .val (.ref h0.size), .val (.int (2 : Int32)), .val (.int (1 : Int32)), .val (.ref w_EN)] [.null, (.ref c_EN)])) t → Steps p.tables e below (s₁.setTop (entryFrame m #[.null] 5)) t := fun t k => k12 t (by
      show Steps p.tables e below (T11.setTop (mkF m 24 #[.val .null, .val (.ref h0.size), .val (.int (2 : Int32)), .val (.int (1 : Int32)), .val (.ref w_EN)] [(.ref c_EN)])) _
      refine XS.aloadN X11.here hx rfl (hb hby d5_24) rfl rfl ?_
      exact k)
  obtain ⟨cq14, kcq14, q14a, q14b, q14c⟩ := isOf hZ e11 (E_c_EN.ext Ex1)
  obtain ⟨_, _, ⟨T14, L14, kq14, n14⟩, -, X14, ⟨Lc14, hQ14, l14, y14, z14⟩, st14⟩ := X11.virtualBack hx (y := (⟨"java/lang/String", "equals", "(Ljava/lang/Object;)Z"⟩ : MethodName)) (z := (⟨"java/lang/String", "equals", "(Ljava/lang/Object;)Z"⟩ : MethodName)) hown (mvT hZ (hw _ (List.mem_of_getElem? (i := 49) rfl))) (mvT hZ (hw _ (List.mem_of_getElem? (i := 50) rfl))) (notFace_of_selects (args := #[]) (mvT hZ (hw _ (List.mem_of_getElem? (i := 52) rfl)))) (mvT hZ (hw _ (List.mem_of_getElem? (i := 52) rfl))) (mvT hZ (hw _ (List.mem_of_getElem? (i := 51) rfl))) (by decide) (backOf (W := 0) (rm7 l Z a0 hw [] c_EN T1.heap n0 Zs1) hZ (hw _ (List.mem_of_getElem? (i := 53) rfl)) (hw _ (List.mem_of_getElem? (i := 6) rfl)) (by decide) (by decide)) q14a q14c (g := (mkF m 25 #[.val .null, .val (.ref h0.size), .val (.int (2 : Int32)), .val (.int (1 : Int32)), .val (.ref w_EN)] [.null, (.ref c_EN)])) rfl (by rw [hml]; rfl) (Steps.refl _) (argsL := [.null]) (rest := []) (lenOf pd_5 rfl) rfl (by show 2 * 0 + _ ≤ _; exact Nat.le_of_eq rfl) (hb hby d5_25) (fun _ _ => ⟨rfl, e11, (by decide : 1 + 0 ≤ _), (by decide : 2 + 0 ≤ _)⟩)
  dsimp only [Pt.U, Pt.locs, Pt.cells, Pt.slots] at X14 l14 y14 z14 st14 hQ14
  subst l14 y14 z14
  obtain ⟨rfl, N14q, e14⟩ := hQ14
  have N14 := Fr.app N7 N14q
  have k15 : ∀ t, Steps p.tables e below (T14.setTop (mkF m 28 #[.val .null, .val (.ref h0.size), .val (.int (2 : Int32)), .val (.int (1 : Int32)), .val (.ref w_EN)] [(.int (0 : Int32))])) t → Steps p.tables e below (s₁.setTop (entryFrame m #[.null] 5)) t := fun t k => k13 t (st14.trans k)
  have hc28_16 : (0 : Int32) = (0 : Int32) := by decide
  have hc11_17 : ¬ ((2 : Int32) < (2 : Int32)) := by decide
  have k18 : ∀ t, Steps p.tables e below (T14.setTop (mkF m 43 #[.val .null, .val (.ref h0.size), .val (.int (2 : Int32)), .val (.int (2 : Int32)), .val (.ref w_EN)] [])) t → Steps p.tables e below (s₁.setTop (entryFrame m #[.null] 5)) t := fun t k => k15 t (by
      show Steps p.tables e below (T14.setTop (mkF m 28 #[.val .null, .val (.ref h0.size), .val (.int (2 : Int32)), .val (.int (1 : Int32)), .val (.ref w_EN)] [(.int (0 : Int32))])) _
      refine XS.ifYes X14.here hx rfl (pc0 := 28) (pc' := 37) rfl (hb hby d5_28) rfl ((if0 _ _).trans (teq hc28_16).1) (by decide) (by decide) ?_
      show Steps p.tables e below (T14.setTop (mkF m 37 #[.val .null, .val (.ref h0.size), .val (.int (2 : Int32)), .val (.int (1 : Int32)), .val (.ref w_EN)] [])) _
      refine XS.iinc X14.here hx rfl (hb hby d5_37) rfl (l' := #[.val .null, .val (.ref h0.size), .val (.int (2 : Int32)), .val (.int (2 : Int32)), .val (.ref w_EN)]) rfl ?_
      show Steps p.tables e below (T14.setTop (mkF m 40 #[.val .null, .val (.ref h0.size), .val (.int (2 : Int32)), .val (.int (2 : Int32)), .val (.ref w_EN)] [])) _
      refine XS.goto X14.here hx rfl (pc0 := 40) (pc' := 9) rfl (hb hby d5_40) (by decide) (by decide) ?_
      show Steps p.tables e below (T14.setTop (mkF m 9 #[.val .null, .val (.ref h0.size), .val (.int (2 : Int32)), .val (.int (2 : Int32)), .val (.ref w_EN)] [])) _
      refine XS.iloadN X14.here hx rfl (hb hby d5_9) rfl ?_
      show Steps p.tables e below (T14.setTop (mkF m 10 #[.val .null, .val (.ref h0.size), .val (.int (2 : Int32)), .val (.int (2 : Int32)), .val (.ref w_EN)] [(.int (2 : Int32))])) _
      refine XS.iloadN X14.here hx rfl (hb hby d5_10) rfl ?_
      show Steps p.tables e below (T14.setTop (mkF m 11 #[.val .null, .val (.ref h0.size), .val (.int (2 : Int32)), .val (.int (2 : Int32)), .val (.ref w_EN)] [(.int (2 : Int32)), (.int (2 : Int32))])) _
      refine XS.icmpYes X14.here hx rfl (pc0 := 11) (pc' := 43) rfl (hb hby d5_11) rfl (flt hc11_17).2.1 (by decide) (by decide) ?_
      exact k)
  obtain ⟨_, _, ⟨T19, L19, kq19, n19⟩, -, X19, ⟨Lc19, hQ19, l19, y19, z19⟩, st19⟩ := Jvm.LawKit.callS X14 hx (y := (⟨"java/util/Optional", "empty", "()Ljava/util/Optional;"⟩ : MethodName)) hown (mvT hZ (hw _ (List.mem_of_getElem? (i := 60) rfl))) (mvT hZ (hw _ (List.mem_of_getElem? (i := 61) rfl))) (mvT hZ (hw _ (List.mem_of_getElem? (i := 62) rfl))) (mvT hZ (hw _ (List.mem_of_getElem? (i := 63) rfl))) (by decide) (backOf (W := 0) (rm9 l Z a0 hw [] w_EMPTY T1.heap n0 Zs1 (S_EMPTY.ext (X00.ext Ex1).2)) hZ (hw _ (List.mem_of_getElem? (i := 63) rfl)) (hw _ (List.mem_of_getElem? (i := 62) rfl)) (by decide) (by decide)) (g := (mkF m 43 #[.val .null, .val (.ref h0.size), .val (.int (2 : Int32)), .val (.int (2 : Int32)), .val (.ref w_EN)] [])) rfl (by rw [hml]; rfl) (argsL := []) (rest := []) (lenOf pd_6 rfl) rfl (by show 2 * 0 + _ ≤ _; exact Nat.le_of_eq rfl) (hb hby d5_43) (fun _ _ => ⟨rfl, e14, (by decide : 1 + 0 ≤ _), (by decide : 2 + 0 ≤ _)⟩)
  dsimp only [Pt.U, Pt.locs, Pt.cells, Pt.slots] at X19 l19 y19 z19 st19 hQ19
  subst l19 y19 z19
  obtain ⟨rfl, N19q, e19⟩ := hQ19
  have N19 := Fr.app N14 N19q
  have k20 : ∀ t, Steps p.tables e below (T19.setTop (mkF m 46 #[.val .null, .val (.ref h0.size), .val (.int (2 : Int32)), .val (.int (2 : Int32)), .val (.ref w_EN)] [(.ref w_EMPTY)])) t → Steps p.tables e below (s₁.setTop (entryFrame m #[.null] 5)) t := fun t k => k18 t (st19 _ k)
  obtain ⟨fs, hr, hrun, hended, hW, hsame⟩ := X19.leave (v := (some (.ref w_EMPTY))) (fun h => by rw [Bd.returns] at h; cases h)
  refine ⟨_, _, k20 _ ?_, hrun, hended, _, _, rfl, ?_, ⟨_, rfl⟩, hW, hsame.mono (by decide) (by decide)⟩
  · exact retOut X19 hx Bd.returns rfl (Or.inr (Or.inr (Or.inr (Or.inr ⟨rfl, rfl, rfl⟩)))) (hb hby d5_46) hr
  · show Q5n Z wv cl w_ZH w_EN c_ZH t_ZH c_EN t_EN k_ZH k_EN w_EMPTY G1 h0 n0 _ T19.heap _
    rw [e19]
    exact ⟨w_EMPTY, _, rfl, N19, ((Keep.refl h0 []).ext Ex1), (E_w_EMPTY.ext (X00.ext Ex1).2), (F_value_w_EMPTY.ext (X00.ext Ex1).2), rfl⟩
theorem ef_5s (m : MethodId) (x0 : Addr) : entryFrame m #[(.ref x0)] 5 = mkF m 0 #[.val (.ref x0), .unset, .unset, .unset, .unset] [] := by first | (simp [entryFrame, mkF, argsToLocals, Value.category]; done) | rfl
theorem pd_7 : parseMethodDescriptor "(Ljava/lang/Object;)Ljava/util/Optional;" = some ⟨[(.object "java/lang/Object")], some (.object "java/util/Optional")⟩ := by decide +kernel
def Q5s (Z : State) (r0 : Addr) (wv : Addr) (cl : Cell) (w_ZH : Addr) (w_EN : Addr) (c_ZH : Addr) (t_ZH : Addr) (c_EN : Addr) (t_EN : Addr) (k_ZH : ClassId) (k_EN : ClassId) (w_EMPTY : Addr) (G1 : Int32) (tr : Addr) (kr : ClassId) (cs : List Int32) (Nr : Int32) (h0 : Heap) (n0 : Nat) (v : Option Value) (h : Heap) (L : List Loc) : Prop := ∃ (b : Addr) (val : Value), v = some (.ref b) ∧ Fr n0 L ∧ Keep h0 h [] ∧ Exa Z h b "java/util/Optional" ∧ Fld Z h b "java/util/Optional" "value" "Ljava/lang/Object;" val ∧ ((([122, 104] : List Int32) = cs ∧ val = .ref w_ZH) ∨ (¬ ([122, 104] : List Int32) = cs ∧ ([101, 110] : List Int32) = cs ∧ val = .ref w_EN) ∨ (¬ ([122, 104] : List Int32) = cs ∧ ¬ ([101, 110] : List Int32) = cs ∧ val = .null))
set_option maxRecDepth 65536 in
set_option maxHeartbeats 40000000 in
theorem rm5s (l : Launch) (Z : State) (a0 : Array Value) (hw : ∀ d ∈ tables_1, d.before a0 Z = true) (ws : List Jvm.Cond) (r0 : Addr) (wv : Addr) (cl : Cell) (w_ZH : Addr) (w_EN : Addr) (c_ZH : Addr) (t_ZH : Addr) (c_EN : Addr) (t_EN : Addr) (k_ZH : ClassId) (k_EN : ClassId) (w_EMPTY : Addr) (G1 : Int32) (tr : Addr) (kr : ClassId) (cs : List Int32) (Nr : Int32) (h0 : Heap) (n0 : Nat) (Z0 : n0 ≤ h0.size) (S_V : Sta Z h0 "com/example/mediawarden/mediawarden/engine/Lang" "$VALUES" "[Lcom/example/mediawarden/mediawarden/engine/Lang;" (.ref wv)) (Arv_ : Arr Z h0 wv cl (.object "com/example/mediawarden/mediawarden/engine/Lang")) (E_V : Exa Z h0 wv "[Lcom/example/mediawarden/mediawarden/engine/Lang;") (hsz : cl.slots.size = 2) (hat0 : cl.slots[0]? = some (.ref w_ZH)) (hat1 : cl.slots[1]? = some (.ref w_EN)) (F_code_w_ZH : Fld Z h0 w_ZH "com/example/mediawarden/mediawarden/engine/Lang" "code" "Ljava/lang/String;" (.ref c_ZH)) (E_c_ZH : Exa Z h0 c_ZH "java/lang/String") (F_value_c_ZH : Fld Z h0 c_ZH "java/lang/String" "value" "[B" (.ref t_ZH)) (F_coder_c_ZH : Fld Z h0 c_ZH "java/lang/String" "coder" "B" (.int (0 : Int32))) (V_t_ZH : Arv Z h0 t_ZH k_ZH .byte (2 : Int32) ((([122, 104] : List Int32).map (fun c => c.toInt8.toInt32)).map Value.int) (.int (0 : Int32))) (F_code_w_EN : Fld Z h0 w_EN "com/example/mediawarden/mediawarden/engine/Lang" "code" "Ljava/lang/String;" (.ref c_EN)) (E_c_EN : Exa Z h0 c_EN "java/lang/String") (F_value_c_EN : Fld Z h0 c_EN "java/lang/String" "value" "[B" (.ref t_EN)) (F_coder_c_EN : Fld Z h0 c_EN "java/lang/String" "coder" "B" (.int (0 : Int32))) (V_t_EN : Arv Z h0 t_EN k_EN .byte (2 : Int32) ((([101, 110] : List Int32).map (fun c => c.toInt8.toInt32)).map Value.int) (.int (0 : Int32))) (E_r0 : Exa Z h0 r0 "java/lang/String") (F_value_r0 : Fld Z h0 r0 "java/lang/String" "value" "[B" (.ref tr)) (F_coder_r0 : Fld Z h0 r0 "java/lang/String" "coder" "B" (.int (0 : Int32))) (V_tr : Arv Z h0 tr kr .byte Nr ((cs.map (fun c => c.toInt8.toInt32)).map Value.int) (.int (0 : Int32))) (S_EMPTY : Sta Z Z.heap "java/util/Optional" "EMPTY" "Ljava/util/Optional;" (.ref w_EMPTY)) (E_w_EMPTY : Exa Z Z.heap w_EMPTY "java/util/Optional") (F_value_w_EMPTY : Fld Z Z.heap w_EMPTY "java/util/Optional" "value" "Ljava/lang/Object;" .null) (O2 : Sta Z Z.heap "java/lang/String" "COMPACT_STRINGS" "Z" (.int G1)) (P5 : ¬ (G1 = (0 : Int32))) (X00 : Old Z n0 h0) (hcdr : StrChars.Road.CodA cs 0 Nr ((cs.map (fun c => c.toInt8.toInt32)).map Value.int)) (hbdr : ∀ c ∈ cs, ¬ c < 0 ∧ ¬ (65535 : Int32) < c) (hlnr : cs.length ≤ 4000) :
    MetFree l (⟨"com/example/mediawarden/mediawarden/engine/Lang", "of", "(Ljava/lang/String;)Ljava/util/Optional;"⟩ : MethodName) (head1 (Jvm.Cond.code (⟨"com/example/mediawarden/mediawarden/engine/Lang", "of", "(Ljava/lang/String;)Ljava/util/Optional;"⟩ : MethodName) prog_28_method_4_code 5 (some (.object "java/util/Optional")) :: ws) ({ frames := 3, cells := 2, slots := 3, locals := 90 } : Room)) (fun a U => a = #[(.ref r0)] ∧ Z.Warmed39 U.vm ∧ U.heap = h0) (fun _ _ _ _ _ => True) (fun _ U o U' => ∃ v L, o = .returned v ∧ Q5s Z r0 wv cl w_ZH w_EN c_ZH t_ZH c_EN t_EN k_ZH k_EN w_EMPTY G1 tr kr cs Nr h0 n0 v U'.heap L ∧ FrameEnd U o U' L ({ frames := 3, cells := 2, slots := 3, locals := 90 } : Room).cells ({ frames := 3, cells := 2, slots := 3, locals := 90 } : Room).slots) := by
  refine MetFree.of_bodySF (plainFor_of_name pn_4) hisR ?_
  intro p e s m args below meth c s₁ Bd hml0 hP hK
  obtain ⟨rfl, hZ, hh⟩ := hP
  have hx := Bd.exec
  have hby := Bd.bytes
  have hml : c.maxLocals = 5 := hml0
  have hown : s.vm.findClass "com/example/mediawarden/mediawarden/engine/Lang" = some m.cls := findClass_of_methodNamed Bd.named
  have hnm := (name_of_methodNamed Bd.named Bd.method).1
  have X0 : Stand p l e ({ frames := 3, cells := 2, slots := 3, locals := 90 } : Room) s m #[(.ref r0)] below meth c s₁ [] 0 0 := Stand.of_body Bd
  have e0 : s₁.heap = h0 := by rw [← hh, Bd.state]; rfl
  have N0 := Fr.nil n0
  have k0 : ∀ t, Steps p.tables e below (s₁.setTop (mkF m 0 #[.val (.ref r0), .unset, .unset, .unset, .unset] [])) t → Steps p.tables e below (s₁.setTop (entryFrame m #[(.ref r0)] 5)) t := fun t k => castTop (ef_5s m r0) k
  have heqw : ∀ d ∈ StrChars.Road.wordsEq, d.before a0 Z = true := fun d hd => hw d ((by decide +kernel : ∀ d ∈ StrChars.Road.wordsEq, d ∈ tables_1) d hd)
  have hp_ZH : ∀ c ∈ ([122, 104] : List Int32), ¬ c < 0 ∧ ¬ (255 : Int32) < c := by decide
  have hp_EN : ∀ c ∈ ([101, 110] : List Int32), ¬ c < 0 ∧ ¬ (255 : Int32) < c := by decide
  have hcd_ZH : StrChars.Road.CodA ([122, 104] : List Int32) 0 (2 : Int32) ((([122, 104] : List Int32).map (fun c => c.toInt8.toInt32)).map Value.int) := StrChars.Road.codOf (n := 2) rfl (fun c hc => (hp_ZH c hc).2)
  have hcd_EN : StrChars.Road.CodA ([101, 110] : List Int32) 0 (2 : Int32) ((([101, 110] : List Int32).map (fun c => c.toInt8.toInt32)).map Value.int) := StrChars.Road.codOf (n := 2) rfl (fun c hc => (hp_EN c hc).2)
  obtain ⟨_, _, ⟨T1, L1, kq1, n1⟩, -, X1, ⟨Lc1, hQ1, l1, y1, z1⟩, st1⟩ := Jvm.LawKit.callS X0 hx (y := (⟨"com/example/mediawarden/mediawarden/engine/Lang", "values", "()[Lcom/example/mediawarden/mediawarden/engine/Lang;"⟩ : MethodName)) hown (mvT hZ (hw _ (List.mem_of_getElem? (i := 30) rfl))) (mvT hZ (hw _ (List.mem_of_getElem? (i := 31) rfl))) (mvT hZ (hw _ (List.mem_of_getElem? (i := 28) rfl))) (mvT hZ (hw _ (List.mem_of_getElem? (i := 32) rfl))) (by decide) (backOf (W := 0) (rmV l Z a0 hw [] wv cl w_ZH w_EN h0 n0 Z0 S_V Arv_ E_V hsz hat0 hat1) hZ (hw _ (List.mem_of_getElem? (i := 32) rfl)) (hw _ (List.mem_of_getElem? (i := 28) rfl)) (by decide) (by decide)) (g := (mkF m 0 #[.val (.ref r0), .unset, .unset, .unset, .unset] [])) rfl (by rw [hml]; rfl) (argsL := []) (rest := []) (lenOf pd_4 rfl) rfl (by show 2 * 0 + _ ≤ _; exact Nat.le_of_eq rfl) (hb hby d5_0) (fun _ _ => ⟨rfl, e0, (by decide : 0 + 1 ≤ _), (by decide : 0 + 2 ≤ _)⟩)
  dsimp only [Pt.U, Pt.locs, Pt.cells, Pt.slots] at X1 l1 y1 z1 st1 hQ1
  subst l1 y1 z1
  obtain ⟨rfl, N1q, Ex1, hcell1⟩ := hQ1
  have N1 := Fr.app N0 N1q
  have Zs1 : n0 ≤ T1.heap.size := Nat.le_trans Z0 Ex1.1
  have Arn : Arr Z T1.heap h0.size { cls := cl.cls, slots := cl.slots } (.object "com/example/mediawarden/mediawarden/engine/Lang") := ⟨hcell1, ⟨(fun k q => by cases q), Arv_.2.1.2⟩, (fun q => by cases q)⟩
  have hlen : (cl.slots.size).toInt32 = (2 : Int32) := by rw [hsz]; rfl
  have k2 : ∀ t, Steps p.tables e below (T1.setTop (mkF m 3 #[.val (.ref r0), .unset, .unset, .unset, .unset] [(.ref h0.size)])) t → Steps p.tables e below (s₁.setTop (entryFrame m #[(.ref r0)] 5)) t := fun t k => k0 t (st1 _ k)
  have hc11 : (0 : Int32) < (2 : Int32) := by decide
  have k3 : ∀ t, Steps p.tables e below (T1.setTop (mkF m 21 #[.val (.ref r0), .val (.ref h0.size), .val (.int (2 : Int32)), .val (.int (0 : Int32)), .val (.ref w_ZH)] [(.ref w_ZH)])) t → Steps p.tables e below (s₁.setTop (entryFrame m #[(.ref r0)] 5)) t := fun t k => k2 t (by
      show Steps p.tables e below (T1.setTop (mkF m 3 #[.val (.ref r0), .unset, .unset, .unset, .unset] [(.ref h0.size)])) _
      refine XS.astoreN X1.here hx rfl (hb hby d5_3) rfl rfl (l' := #[.val (.ref r0), .val (.ref h0.size), .unset, .unset, .unset]) rfl ?_
      show Steps p.tables e below (T1.setTop (mkF m 4 #[.val (.ref r0), .val (.ref h0.size), .unset, .unset, .unset] [])) _
      refine XS.aloadN X1.here hx rfl (hb hby d5_4) rfl rfl ?_
      show Steps p.tables e below (T1.setTop (mkF m 5 #[.val (.ref r0), .val (.ref h0.size), .unset, .unset, .unset] [(.ref h0.size)])) _
      refine X1.arraylength hx Arn.1 (State.isArrayOf_alike hZ.alike Arn.2.1) (g := (mkF m 5 #[.val (.ref r0), .val (.ref h0.size), .unset, .unset, .unset] [(.ref h0.size)])) rfl rfl (hb hby d5_5) _ ?_
      rw [hlen]
      show Steps p.tables e below (T1.setTop (mkF m 6 #[.val (.ref r0), .val (.ref h0.size), .unset, .unset, .unset] [(.int (2 : Int32))])) _
      refine XS.istoreN X1.here hx rfl (hb hby d5_6) rfl (l' := #[.val (.ref r0), .val (.ref h0.size), .val (.int (2 : Int32)), .unset, .unset]) rfl ?_
      show Steps p.tables e below (T1.setTop (mkF m 7 #[.val (.ref r0), .val (.ref h0.size), .val (.int (2 : Int32)), .unset, .unset] [])) _
      refine XS.iconst X1.here hx rfl (hb hby d5_7) ?_
      show Steps p.tables e below (T1.setTop (mkF m 8 #[.val (.ref r0), .val (.ref h0.size), .val (.int (2 : Int32)), .unset, .unset] [(.int (0 : Int32))])) _
      refine XS.istoreN X1.here hx rfl (hb hby d5_8) rfl (l' := #[.val (.ref r0), .val (.ref h0.size), .val (.int (2 : Int32)), .val (.int (0 : Int32)), .unset]) rfl ?_
      show Steps p.tables e below (T1.setTop (mkF m 9 #[.val (.ref r0), .val (.ref h0.size), .val (.int (2 : Int32)), .val (.int (0 : Int32)), .unset] [])) _
      refine XS.iloadN X1.here hx rfl (hb hby d5_9) rfl ?_
      show Steps p.tables e below (T1.setTop (mkF m 10 #[.val (.ref r0), .val (.ref h0.size), .val (.int (2 : Int32)), .val (.int (0 : Int32)), .unset] [(.int (0 : Int32))])) _
      refine XS.iloadN X1.here hx rfl (hb hby d5_10) rfl ?_
      show Steps p.tables e below (T1.setTop (mkF m 11 #[.val (.ref r0), .val (.ref h0.size), .val (.int (2 : Int32)), .val (.int (0 : Int32)), .unset] [(.int (2 : Int32)), (.int (0 : Int32))])) _
      refine XS.icmpNo X1.here hx rfl (hb hby d5_11) rfl (tlt hc11).2.1 ?_
      show Steps p.tables e below (T1.setTop (mkF m 14 #[.val (.ref r0), .val (.ref h0.size), .val (.int (2 : Int32)), .val (.int (0 : Int32)), .unset] [])) _
      refine XS.aloadN X1.here hx rfl (hb hby d5_14) rfl rfl ?_
      show Steps p.tables e below (T1.setTop (mkF m 15 #[.val (.ref r0), .val (.ref h0.size), .val (.int (2 : Int32)), .val (.int (0 : Int32)), .unset] [(.ref h0.size)])) _
      refine XS.iloadN X1.here hx rfl (hb hby d5_15) rfl ?_
      show Steps p.tables e below (T1.setTop (mkF m 16 #[.val (.ref r0), .val (.ref h0.size), .val (.int (2 : Int32)), .val (.int (0 : Int32)), .unset] [(.int (0 : Int32)), (.ref h0.size)])) _
      refine X1.aaload hx (j := (0 : Int32)) (v := .ref w_ZH) Arn.1 (State.isArrayOf_alike hZ.alike Arn.2.1) rfl Arn.2.2 (fun q => q.elim (by decide) (fun q => by have q' : cl.slots.size ≤ 0 := q; omega)) hat0 (g := (mkF m 16 #[.val (.ref r0), .val (.ref h0.size), .val (.int (2 : Int32)), .val (.int (0 : Int32)), .unset] [(.int (0 : Int32)), (.ref h0.size)])) rfl rfl (hb hby d5_16) _ ?_
      show Steps p.tables e below (T1.setTop (mkF m 17 #[.val (.ref r0), .val (.ref h0.size), .val (.int (2 : Int32)), .val (.int (0 : Int32)), .unset] [(.ref w_ZH)])) _
      refine XS.astore X1.here hx rfl (hb hby d5_17) rfl rfl (l' := #[.val (.ref r0), .val (.ref h0.size), .val (.int (2 : Int32)), .val (.int (0 : Int32)), .val (.ref w_ZH)]) rfl ?_
      show Steps p.tables e below (T1.setTop (mkF m 19 #[.val (.ref r0), .val (.ref h0.size), .val (.int (2 : Int32)), .val (.int (0 : Int32)), .val (.ref w_ZH)] [])) _
      refine XS.aload X1.here hx rfl (hb hby d5_19) rfl rfl ?_
      exact k)
  obtain ⟨T4, X4, e4, st4⟩ := getF X1 hx hZ hown (host := "") (Or.inl (hw _ (List.mem_of_getElem? (i := 47) rfl))) Via.refl rfl (F_code_w_ZH.ext Ex1) (g := (mkF m 21 #[.val (.ref r0), .val (.ref h0.size), .val (.int (2 : Int32)), .val (.int (0 : Int32)), .val (.ref w_ZH)] [(.ref w_ZH)])) rfl rfl (hb hby d5_21)
  have k5 : ∀ t, Steps p.tables e below (T4.setTop (mkF m 24 #[.val (.ref r0), .val (.ref h0.size), .val (.int (2 : Int32)), .val (.int (0 : Int32)), .val (.ref w_ZH)] [(.ref c_ZH)])) t → Steps p.tables e below (s₁.setTop (entryFrame m #[(.ref r0)] 5)) t := fun t k => k3 t (st4 _ k)
  have k6 : ∀ t, Steps p.tables e below (T4.setTop (mkF m 25 #[.val (.ref r0), .val (.ref h0.size), .val (.int (2 : Int32)), .val (.int (0 : Int32)), .val (.ref w_ZH)] [(.ref r0), (.ref c_ZH)])) t → Steps p.tables e below (s₁.setTop (entryFrame m #[(.ref r0)] 5)) t := fun t k => k5 t (by
      show Steps p.tables e below (T4.setTop (mkF m 24 #[.val (.ref r0), .val (.ref h0.size), .val (.int (2 : Int32)), .val (.int (0 : Int32)), .val (.ref w_ZH)] [(.ref c_ZH)])) _
      refine XS.aloadN X4.here hx rfl (hb hby d5_24) rfl rfl ?_
      exact k)
  obtain ⟨cq7, kcq7, q7a, q7b, q7c⟩ := isOf hZ e4 (E_c_ZH.ext Ex1)
  obtain ⟨_, _, ⟨T7, L7, kq7, n7⟩, -, X7, ⟨Lc7, hQ7, l7, y7, z7⟩, st7⟩ := X4.virtualBack hx (y := (⟨"java/lang/String", "equals", "(Ljava/lang/Object;)Z"⟩ : MethodName)) (z := (⟨"java/lang/String", "equals", "(Ljava/lang/Object;)Z"⟩ : MethodName)) hown (mvT hZ (hw _ (List.mem_of_getElem? (i := 49) rfl))) (mvT hZ (hw _ (List.mem_of_getElem? (i := 50) rfl))) (notFace_of_selects (args := #[]) (mvT hZ (hw _ (List.mem_of_getElem? (i := 52) rfl)))) (mvT hZ (hw _ (List.mem_of_getElem? (i := 52) rfl))) (mvT hZ (hw _ (List.mem_of_getElem? (i := 51) rfl))) (by decide) (StrChars.Road.eqW (W := 0) hZ heqw (kI := 4) (hw _ (List.mem_of_getElem? (i := 5) rfl)) (E_c_ZH.ext Ex1) (F_value_c_ZH.ext Ex1) (F_coder_c_ZH.ext Ex1) (V_t_ZH.ext Ex1) (hcd_ZH) (own_up _ (hp_ZH)) (Nat.le_of_ble_eq_true rfl) (E_r0.ext Ex1) (F_value_r0.ext Ex1) (F_coder_r0.ext Ex1) (V_tr.ext Ex1) hcdr hbdr hlnr (O2.ext (X00.ext Ex1).2) P5 (by decide) (by decide)) q7a q7c (g := (mkF m 25 #[.val (.ref r0), .val (.ref h0.size), .val (.int (2 : Int32)), .val (.int (0 : Int32)), .val (.ref w_ZH)] [(.ref r0), (.ref c_ZH)])) rfl (by rw [hml]; rfl) (Steps.refl _) (argsL := [(.ref r0)]) (rest := []) (lenOf pd_5 rfl) rfl (by show 2 * 0 + _ ≤ _; exact Nat.le_of_eq rfl) (hb hby d5_25) (fun _ _ => ⟨rfl, e4, (by decide : 1 + 0 ≤ _), (by decide : 2 + 0 ≤ _)⟩)
  dsimp only [Pt.U, Pt.locs, Pt.cells, Pt.slots] at X7 l7 y7 z7 st7 hQ7
  subst l7 y7 z7
  obtain ⟨hcase7, rfl, e7⟩ := hQ7
  have N7 := Fr.app N1 (Fr.nil n0)
  rcases hcase7 with ⟨rfl, hE_ZH⟩ | ⟨rfl, hE_ZH⟩
  · have k8 : ∀ t, Steps p.tables e below (T7.setTop (mkF m 28 #[.val (.ref r0), .val (.ref h0.size), .val (.int (2 : Int32)), .val (.int (0 : Int32)), .val (.ref w_ZH)] [(.int (1 : Int32))])) t → Steps p.tables e below (s₁.setTop (entryFrame m #[(.ref r0)] 5)) t := fun t k => k6 t (st7.trans k)
    have hc28 : ¬ ((1 : Int32) = (0 : Int32)) := by decide
    have k9 : ∀ t, Steps p.tables e below (T7.setTop (mkF m 33 #[.val (.ref r0), .val (.ref h0.size), .val (.int (2 : Int32)), .val (.int (0 : Int32)), .val (.ref w_ZH)] [(.ref w_ZH)])) t → Steps p.tables e below (s₁.setTop (entryFrame m #[(.ref r0)] 5)) t := fun t k => k8 t (by
        show Steps p.tables e below (T7.setTop (mkF m 28 #[.val (.ref r0), .val (.ref h0.size), .val (.int (2 : Int32)), .val (.int (0 : Int32)), .val (.ref w_ZH)] [(.int (1 : Int32))])) _
        refine XS.ifNo X7.here hx rfl (hb hby d5_28) rfl ((if0 _ _).trans (feq hc28).1) ?_
        show Steps p.tables e below (T7.setTop (mkF m 31 #[.val (.ref r0), .val (.ref h0.size), .val (.int (2 : Int32)), .val (.int (0 : Int32)), .val (.ref w_ZH)] [])) _
        refine XS.aload X7.here hx rfl (hb hby d5_31) rfl rfl ?_
        exact k)
    obtain ⟨_, _, ⟨T10, L10, kq10, n10⟩, -, X10, ⟨Lc10, hQ10, l10, y10, z10⟩, st10⟩ := Jvm.LawKit.callS X7 hx (y := (⟨"java/util/Optional", "of", "(Ljava/lang/Object;)Ljava/util/Optional;"⟩ : MethodName)) hown (mvT hZ (hw _ (List.mem_of_getElem? (i := 104) rfl))) (mvT hZ (hw _ (List.mem_of_getElem? (i := 105) rfl))) (mvT hZ (hw _ (List.mem_of_getElem? (i := 62) rfl))) (mvT hZ (hw _ (List.mem_of_getElem? (i := 106) rfl))) (by decide) (backOf (W := 0) (rm19 l Z a0 hw [] w_ZH T1.heap n0 Zs1) hZ (hw _ (List.mem_of_getElem? (i := 106) rfl)) (hw _ (List.mem_of_getElem? (i := 62) rfl)) (by decide) (by decide)) (g := (mkF m 33 #[.val (.ref r0), .val (.ref h0.size), .val (.int (2 : Int32)), .val (.int (0 : Int32)), .val (.ref w_ZH)] [(.ref w_ZH)])) rfl (by rw [hml]; rfl) (argsL := [(.ref w_ZH)]) (rest := []) (lenOf pd_7 rfl) rfl (by show 2 * 0 + _ ≤ _; exact Nat.le_of_eq rfl) (hb hby d5_33) (fun _ _ => ⟨rfl, e7, (by decide : 1 + 1 ≤ _), (by decide : 2 + 1 ≤ _)⟩)
    dsimp only [Pt.U, Pt.locs, Pt.cells, Pt.slots] at X10 l10 y10 z10 st10 hQ10
    subst l10 y10 z10
    obtain ⟨o10, rfl, N10q, g_o10, sq_o10, K10, Ex10, Fx10⟩ := hQ10
    have N10 := Fr.app N7 N10q
    have Zs10 : n0 ≤ T10.heap.size := Nat.le_trans Zs1 K10.1
    have k11 : ∀ t, Steps p.tables e below (T10.setTop (mkF m 36 #[.val (.ref r0), .val (.ref h0.size), .val (.int (2 : Int32)), .val (.int (0 : Int32)), .val (.ref w_ZH)] [(.ref o10)])) t → Steps p.tables e below (s₁.setTop (entryFrame m #[(.ref r0)] 5)) t := fun t k => k9 t (st10 _ k)
    obtain ⟨fs, hr, hrun, hended, hW, hsame⟩ := X10.leave (v := (some (.ref o10))) (fun h => by rw [Bd.returns] at h; cases h)
    refine ⟨_, _, k11 _ ?_, hrun, hended, _, _, rfl, ?_, ⟨_, rfl⟩, hW, hsame.mono (by decide) (by decide)⟩
    · exact retOut X10 hx Bd.returns rfl (Or.inr (Or.inr (Or.inr (Or.inr ⟨rfl, rfl, rfl⟩)))) (hb hby d5_36) hr
    · show Q5s Z r0 wv cl w_ZH w_EN c_ZH t_ZH c_EN t_EN k_ZH k_EN w_EMPTY G1 tr kr cs Nr h0 n0 _ T10.heap _
      exact ⟨o10, _, rfl, N10, (((Keep.refl h0 []).ext Ex1).trans K10 all0), Ex10, Fx10, Or.inl ⟨hE_ZH, rfl⟩⟩
  · have k12 : ∀ t, Steps p.tables e below (T7.setTop (mkF m 28 #[.val (.ref r0), .val (.ref h0.size), .val (.int (2 : Int32)), .val (.int (0 : Int32)), .val (.ref w_ZH)] [(.int (0 : Int32))])) t → Steps p.tables e below (s₁.setTop (entryFrame m #[(.ref r0)] 5)) t := fun t k => k6 t (st7.trans k)
    have hc28 : (0 : Int32) = (0 : Int32) := by decide
    have hc11_13 : (1 : Int32) < (2 : Int32) := by decide
    have k14 : ∀ t, Steps p.tables e below (T7.setTop (mkF m 21 #[.val (.ref r0), .val (.ref h0.size), .val (.int (2 : Int32)), .val (.int (1 : Int32)), .val (.ref w_EN)] [(.ref w_EN)])) t → Steps p.tables e below (s₁.setTop (entryFrame m #[(.ref r0)] 5)) t := fun t k => k12 t (by
        show Steps p.tables e below (T7.setTop (mkF m 28 #[.val (.ref r0), .val (.ref h0.size), .val (.int (2 : Int32)), .val (.int (0 : Int32)), .val (.ref w_ZH)] [(.int (0 : Int32))])) _
        refine XS.ifYes X7.here hx rfl (pc0 := 28) (pc' := 37) rfl (hb hby d5_28) rfl ((if0 _ _).trans (teq hc28).1) (by decide) (by decide) ?_
        show Steps p.tables e below (T7.setTop (mkF m 37 #[.val (.ref r0), .val (.ref h0.size), .val (.int (2 : Int32)), .val (.int (0 : Int32)), .val (.ref w_ZH)] [])) _
        refine XS.iinc X7.here hx rfl (hb hby d5_37) rfl (l' := #[.val (.ref r0), .val (.ref h0.size), .val (.int (2 : Int32)), .val (.int (1 : Int32)), .val (.ref w_ZH)]) rfl ?_
        show Steps p.tables e below (T7.setTop (mkF m 40 #[.val (.ref r0), .val (.ref h0.size), .val (.int (2 : Int32)), .val (.int (1 : Int32)), .val (.ref w_ZH)] [])) _
        refine XS.goto X7.here hx rfl (pc0 := 40) (pc' := 9) rfl (hb hby d5_40) (by decide) (by decide) ?_
        show Steps p.tables e below (T7.setTop (mkF m 9 #[.val (.ref r0), .val (.ref h0.size), .val (.int (2 : Int32)), .val (.int (1 : Int32)), .val (.ref w_ZH)] [])) _
        refine XS.iloadN X7.here hx rfl (hb hby d5_9) rfl ?_
        show Steps p.tables e below (T7.setTop (mkF m 10 #[.val (.ref r0), .val (.ref h0.size), .val (.int (2 : Int32)), .val (.int (1 : Int32)), .val (.ref w_ZH)] [(.int (1 : Int32))])) _
        refine XS.iloadN X7.here hx rfl (hb hby d5_10) rfl ?_
        show Steps p.tables e below (T7.setTop (mkF m 11 #[.val (.ref r0), .val (.ref h0.size), .val (.int (2 : Int32)), .val (.int (1 : Int32)), .val (.ref w_ZH)] [(.int (2 : Int32)), (.int (1 : Int32))])) _
        refine XS.icmpNo X7.here hx rfl (hb hby d5_11) rfl (tlt hc11_13).2.1 ?_
        show Steps p.tables e below (T7.setTop (mkF m 14 #[.val (.ref r0), .val (.ref h0.size), .val (.int (2 : Int32)), .val (.int (1 : Int32)), .val (.ref w_ZH)] [])) _
        refine XS.aloadN X7.here hx rfl (hb hby d5_14) rfl rfl ?_
        show Steps p.tables e below (T7.setTop (mkF m 15 #[.val (.ref r0), .val (.ref h0.size), .val (.int (2 : Int32)), .val (.int (1 : Int32)), .val (.ref w_ZH)] [(.ref h0.size)])) _
        refine XS.iloadN X7.here hx rfl (hb hby d5_15) rfl ?_
        show Steps p.tables e below (T7.setTop (mkF m 16 #[.val (.ref r0), .val (.ref h0.size), .val (.int (2 : Int32)), .val (.int (1 : Int32)), .val (.ref w_ZH)] [(.int (1 : Int32)), (.ref h0.size)])) _
        refine X7.aaload hx (j := (1 : Int32)) (v := .ref w_EN) (by rw [e7]; exact Arn.1) (State.isArrayOf_alike hZ.alike Arn.2.1) rfl Arn.2.2 (fun q => q.elim (by decide) (fun q => by have q' : cl.slots.size ≤ 1 := q; omega)) hat1 (g := (mkF m 16 #[.val (.ref r0), .val (.ref h0.size), .val (.int (2 : Int32)), .val (.int (1 : Int32)), .val (.ref w_ZH)] [(.int (1 : Int32)), (.ref h0.size)])) rfl rfl (hb hby d5_16) _ ?_
        show Steps p.tables e below (T7.setTop (mkF m 17 #[.val (.ref r0), .val (.ref h0.size), .val (.int (2 : Int32)), .val (.int (1 : Int32)), .val (.ref w_ZH)] [(.ref w_EN)])) _
        refine XS.astore X7.here hx rfl (hb hby d5_17) rfl rfl (l' := #[.val (.ref r0), .val (.ref h0.size), .val (.int (2 : Int32)), .val (.int (1 : Int32)), .val (.ref w_EN)]) rfl ?_
        show Steps p.tables e below (T7.setTop (mkF m 19 #[.val (.ref r0), .val (.ref h0.size), .val (.int (2 : Int32)), .val (.int (1 : Int32)), .val (.ref w_EN)] [])) _
        refine XS.aload X7.here hx rfl (hb hby d5_19) rfl rfl ?_
        exact k)
    obtain ⟨T15, X15, e15, st15⟩ := getF X7 hx hZ hown (host := "") (Or.inl (hw _ (List.mem_of_getElem? (i := 47) rfl))) Via.refl e7 (F_code_w_EN.ext Ex1) (g := (mkF m 21 #[.val (.ref r0), .val (.ref h0.size), .val (.int (2 : Int32)), .val (.int (1 : Int32)), .val (.ref w_EN)] [(.ref w_EN)])) rfl rfl (hb hby d5_21)
    have k16 : ∀ t, Steps p.tables e below (T15.setTop (mkF m 24 #[.val (.ref r0), .val (.ref h0.size), .val (.int (2 : Int32)), .val (.int (1 : Int32)), .val (.ref w_EN)] [(.ref c_EN)])) t → Steps p.tables e below (s₁.setTop (entryFrame m #[(.ref r0)] 5)) t := fun t k => k14 t (st15 _ k)
    have k17 : ∀ t, Steps p.tables e below (T15.setTop (mkF m 25 #[.val (.ref r0), .val (.ref h0.size), .val (.int (2 : Int32)), .val (.int (1 : Int32)), .val (.ref w_EN)] [(.ref r0), (.ref c_EN)])) t → Steps p.tables e below (s₁.setTop (entryFrame m #[(.ref r0)] 5)) t := fun t k => k16 t (by
        show Steps p.tables e below (T15.setTop (mkF m 24 #[.val (.ref r0), .val (.ref h0.size), .val (.int (2 : Int32)), .val (.int (1 : Int32)), .val (.ref w_EN)] [(.ref c_EN)])) _
        refine XS.aloadN X15.here hx rfl (hb hby d5_24) rfl rfl ?_
        exact k)
    obtain ⟨cq18, kcq18, q18a, q18b, q18c⟩ := isOf hZ e15 (E_c_EN.ext Ex1)
    obtain ⟨_, _, ⟨T18, L18, kq18, n18⟩, -, X18, ⟨Lc18, hQ18, l18, y18, z18⟩, st18⟩ := X15.virtualBack hx (y := (⟨"java/lang/String", "equals", "(Ljava/lang/Object;)Z"⟩ : MethodName)) (z := (⟨"java/lang/String", "equals", "(Ljava/lang/Object;)Z"⟩ : MethodName)) hown (mvT hZ (hw _ (List.mem_of_getElem? (i := 49) rfl))) (mvT hZ (hw _ (List.mem_of_getElem? (i := 50) rfl))) (notFace_of_selects (args := #[]) (mvT hZ (hw _ (List.mem_of_getElem? (i := 52) rfl)))) (mvT hZ (hw _ (List.mem_of_getElem? (i := 52) rfl))) (mvT hZ (hw _ (List.mem_of_getElem? (i := 51) rfl))) (by decide) (StrChars.Road.eqW (W := 0) hZ heqw (kI := 4) (hw _ (List.mem_of_getElem? (i := 5) rfl)) (E_c_EN.ext Ex1) (F_value_c_EN.ext Ex1) (F_coder_c_EN.ext Ex1) (V_t_EN.ext Ex1) (hcd_EN) (own_up _ (hp_EN)) (Nat.le_of_ble_eq_true rfl) (E_r0.ext Ex1) (F_value_r0.ext Ex1) (F_coder_r0.ext Ex1) (V_tr.ext Ex1) hcdr hbdr hlnr (O2.ext (X00.ext Ex1).2) P5 (by decide) (by decide)) q18a q18c (g := (mkF m 25 #[.val (.ref r0), .val (.ref h0.size), .val (.int (2 : Int32)), .val (.int (1 : Int32)), .val (.ref w_EN)] [(.ref r0), (.ref c_EN)])) rfl (by rw [hml]; rfl) (Steps.refl _) (argsL := [(.ref r0)]) (rest := []) (lenOf pd_5 rfl) rfl (by show 2 * 0 + _ ≤ _; exact Nat.le_of_eq rfl) (hb hby d5_25) (fun _ _ => ⟨rfl, e15, (by decide : 1 + 0 ≤ _), (by decide : 2 + 0 ≤ _)⟩)
    dsimp only [Pt.U, Pt.locs, Pt.cells, Pt.slots] at X18 l18 y18 z18 st18 hQ18
    subst l18 y18 z18
    obtain ⟨hcase18, rfl, e18⟩ := hQ18
    have N18 := Fr.app N7 (Fr.nil n0)
    rcases hcase18 with ⟨rfl, hE_EN⟩ | ⟨rfl, hE_EN⟩
    · have k19 : ∀ t, Steps p.tables e below (T18.setTop (mkF m 28 #[.val (.ref r0), .val (.ref h0.size), .val (.int (2 : Int32)), .val (.int (1 : Int32)), .val (.ref w_EN)] [(.int (1 : Int32))])) t → Steps p.tables e below (s₁.setTop (entryFrame m #[(.ref r0)] 5)) t := fun t k => k17 t (st18.trans k)
      have hc28_20 : ¬ ((1 : Int32) = (0 : Int32)) := by decide
      have k21 : ∀ t, Steps p.tables e below (T18.setTop (mkF m 33 #[.val (.ref r0), .val (.ref h0.size), .val (.int (2 : Int32)), .val (.int (1 : Int32)), .val (.ref w_EN)] [(.ref w_EN)])) t → Steps p.tables e below (s₁.setTop (entryFrame m #[(.ref r0)] 5)) t := fun t k => k19 t (by
          show Steps p.tables e below (T18.setTop (mkF m 28 #[.val (.ref r0), .val (.ref h0.size), .val (.int (2 : Int32)), .val (.int (1 : Int32)), .val (.ref w_EN)] [(.int (1 : Int32))])) _
          refine XS.ifNo X18.here hx rfl (hb hby d5_28) rfl ((if0 _ _).trans (feq hc28_20).1) ?_
          show Steps p.tables e below (T18.setTop (mkF m 31 #[.val (.ref r0), .val (.ref h0.size), .val (.int (2 : Int32)), .val (.int (1 : Int32)), .val (.ref w_EN)] [])) _
          refine XS.aload X18.here hx rfl (hb hby d5_31) rfl rfl ?_
          exact k)
      obtain ⟨_, _, ⟨T22, L22, kq22, n22⟩, -, X22, ⟨Lc22, hQ22, l22, y22, z22⟩, st22⟩ := Jvm.LawKit.callS X18 hx (y := (⟨"java/util/Optional", "of", "(Ljava/lang/Object;)Ljava/util/Optional;"⟩ : MethodName)) hown (mvT hZ (hw _ (List.mem_of_getElem? (i := 104) rfl))) (mvT hZ (hw _ (List.mem_of_getElem? (i := 105) rfl))) (mvT hZ (hw _ (List.mem_of_getElem? (i := 62) rfl))) (mvT hZ (hw _ (List.mem_of_getElem? (i := 106) rfl))) (by decide) (backOf (W := 0) (rm19 l Z a0 hw [] w_EN T1.heap n0 Zs1) hZ (hw _ (List.mem_of_getElem? (i := 106) rfl)) (hw _ (List.mem_of_getElem? (i := 62) rfl)) (by decide) (by decide)) (g := (mkF m 33 #[.val (.ref r0), .val (.ref h0.size), .val (.int (2 : Int32)), .val (.int (1 : Int32)), .val (.ref w_EN)] [(.ref w_EN)])) rfl (by rw [hml]; rfl) (argsL := [(.ref w_EN)]) (rest := []) (lenOf pd_7 rfl) rfl (by show 2 * 0 + _ ≤ _; exact Nat.le_of_eq rfl) (hb hby d5_33) (fun _ _ => ⟨rfl, e18, (by decide : 1 + 1 ≤ _), (by decide : 2 + 1 ≤ _)⟩)
      dsimp only [Pt.U, Pt.locs, Pt.cells, Pt.slots] at X22 l22 y22 z22 st22 hQ22
      subst l22 y22 z22
      obtain ⟨o22, rfl, N22q, g_o22, sq_o22, K22, Ex22, Fx22⟩ := hQ22
      have N22 := Fr.app N18 N22q
      have Zs22 : n0 ≤ T22.heap.size := Nat.le_trans Zs1 K22.1
      have k23 : ∀ t, Steps p.tables e below (T22.setTop (mkF m 36 #[.val (.ref r0), .val (.ref h0.size), .val (.int (2 : Int32)), .val (.int (1 : Int32)), .val (.ref w_EN)] [(.ref o22)])) t → Steps p.tables e below (s₁.setTop (entryFrame m #[(.ref r0)] 5)) t := fun t k => k21 t (st22 _ k)
      obtain ⟨fs, hr, hrun, hended, hW, hsame⟩ := X22.leave (v := (some (.ref o22))) (fun h => by rw [Bd.returns] at h; cases h)
      refine ⟨_, _, k23 _ ?_, hrun, hended, _, _, rfl, ?_, ⟨_, rfl⟩, hW, hsame.mono (by decide) (by decide)⟩
      · exact retOut X22 hx Bd.returns rfl (Or.inr (Or.inr (Or.inr (Or.inr ⟨rfl, rfl, rfl⟩)))) (hb hby d5_36) hr
      · show Q5s Z r0 wv cl w_ZH w_EN c_ZH t_ZH c_EN t_EN k_ZH k_EN w_EMPTY G1 tr kr cs Nr h0 n0 _ T22.heap _
        exact ⟨o22, _, rfl, N22, (((Keep.refl h0 []).ext Ex1).trans K22 all0), Ex22, Fx22, Or.inr (Or.inl ⟨hE_ZH, hE_EN, rfl⟩)⟩
    · have k24 : ∀ t, Steps p.tables e below (T18.setTop (mkF m 28 #[.val (.ref r0), .val (.ref h0.size), .val (.int (2 : Int32)), .val (.int (1 : Int32)), .val (.ref w_EN)] [(.int (0 : Int32))])) t → Steps p.tables e below (s₁.setTop (entryFrame m #[(.ref r0)] 5)) t := fun t k => k17 t (st18.trans k)
      have hc28_25 : (0 : Int32) = (0 : Int32) := by decide
      have hc11_26 : ¬ ((2 : Int32) < (2 : Int32)) := by decide
      have k27 : ∀ t, Steps p.tables e below (T18.setTop (mkF m 43 #[.val (.ref r0), .val (.ref h0.size), .val (.int (2 : Int32)), .val (.int (2 : Int32)), .val (.ref w_EN)] [])) t → Steps p.tables e below (s₁.setTop (entryFrame m #[(.ref r0)] 5)) t := fun t k => k24 t (by
          show Steps p.tables e below (T18.setTop (mkF m 28 #[.val (.ref r0), .val (.ref h0.size), .val (.int (2 : Int32)), .val (.int (1 : Int32)), .val (.ref w_EN)] [(.int (0 : Int32))])) _
          refine XS.ifYes X18.here hx rfl (pc0 := 28) (pc' := 37) rfl (hb hby d5_28) rfl ((if0 _ _).trans (teq hc28_25).1) (by decide) (by decide) ?_
          show Steps p.tables e below (T18.setTop (mkF m 37 #[.val (.ref r0), .val (.ref h0.size), .val (.int (2 : Int32)), .val (.int (1 : Int32)), .val (.ref w_EN)] [])) _
          refine XS.iinc X18.here hx rfl (hb hby d5_37) rfl (l' := #[.val (.ref r0), .val (.ref h0.size), .val (.int (2 : Int32)), .val (.int (2 : Int32)), .val (.ref w_EN)]) rfl ?_
          show Steps p.tables e below (T18.setTop (mkF m 40 #[.val (.ref r0), .val (.ref h0.size), .val (.int (2 : Int32)), .val (.int (2 : Int32)), .val (.ref w_EN)] [])) _
          refine XS.goto X18.here hx rfl (pc0 := 40) (pc' := 9) rfl (hb hby d5_40) (by decide) (by decide) ?_
          show Steps p.tables e below (T18.setTop (mkF m 9 #[.val (.ref r0), .val (.ref h0.size), .val (.int (2 : Int32)), .val (.int (2 : Int32)), .val (.ref w_EN)] [])) _
          refine XS.iloadN X18.here hx rfl (hb hby d5_9) rfl ?_
          show Steps p.tables e below (T18.setTop (mkF m 10 #[.val (.ref r0), .val (.ref h0.size), .val (.int (2 : Int32)), .val (.int (2 : Int32)), .val (.ref w_EN)] [(.int (2 : Int32))])) _
          refine XS.iloadN X18.here hx rfl (hb hby d5_10) rfl ?_
          show Steps p.tables e below (T18.setTop (mkF m 11 #[.val (.ref r0), .val (.ref h0.size), .val (.int (2 : Int32)), .val (.int (2 : Int32)), .val (.ref w_EN)] [(.int (2 : Int32)), (.int (2 : Int32))])) _
          refine XS.icmpYes X18.here hx rfl (pc0 := 11) (pc' := 43) rfl (hb hby d5_11) rfl (flt hc11_26).2.1 (by decide) (by decide) ?_
          exact k)
      obtain ⟨_, _, ⟨T28, L28, kq28, n28⟩, -, X28, ⟨Lc28, hQ28, l28, y28, z28⟩, st28⟩ := Jvm.LawKit.callS X18 hx (y := (⟨"java/util/Optional", "empty", "()Ljava/util/Optional;"⟩ : MethodName)) hown (mvT hZ (hw _ (List.mem_of_getElem? (i := 60) rfl))) (mvT hZ (hw _ (List.mem_of_getElem? (i := 61) rfl))) (mvT hZ (hw _ (List.mem_of_getElem? (i := 62) rfl))) (mvT hZ (hw _ (List.mem_of_getElem? (i := 63) rfl))) (by decide) (backOf (W := 0) (rm9 l Z a0 hw [] w_EMPTY T1.heap n0 Zs1 (S_EMPTY.ext (X00.ext Ex1).2)) hZ (hw _ (List.mem_of_getElem? (i := 63) rfl)) (hw _ (List.mem_of_getElem? (i := 62) rfl)) (by decide) (by decide)) (g := (mkF m 43 #[.val (.ref r0), .val (.ref h0.size), .val (.int (2 : Int32)), .val (.int (2 : Int32)), .val (.ref w_EN)] [])) rfl (by rw [hml]; rfl) (argsL := []) (rest := []) (lenOf pd_6 rfl) rfl (by show 2 * 0 + _ ≤ _; exact Nat.le_of_eq rfl) (hb hby d5_43) (fun _ _ => ⟨rfl, e18, (by decide : 1 + 0 ≤ _), (by decide : 2 + 0 ≤ _)⟩)
      dsimp only [Pt.U, Pt.locs, Pt.cells, Pt.slots] at X28 l28 y28 z28 st28 hQ28
      subst l28 y28 z28
      obtain ⟨rfl, N28q, e28⟩ := hQ28
      have N28 := Fr.app N18 N28q
      have k29 : ∀ t, Steps p.tables e below (T28.setTop (mkF m 46 #[.val (.ref r0), .val (.ref h0.size), .val (.int (2 : Int32)), .val (.int (2 : Int32)), .val (.ref w_EN)] [(.ref w_EMPTY)])) t → Steps p.tables e below (s₁.setTop (entryFrame m #[(.ref r0)] 5)) t := fun t k => k27 t (st28 _ k)
      obtain ⟨fs, hr, hrun, hended, hW, hsame⟩ := X28.leave (v := (some (.ref w_EMPTY))) (fun h => by rw [Bd.returns] at h; cases h)
      refine ⟨_, _, k29 _ ?_, hrun, hended, _, _, rfl, ?_, ⟨_, rfl⟩, hW, hsame.mono (by decide) (by decide)⟩
      · exact retOut X28 hx Bd.returns rfl (Or.inr (Or.inr (Or.inr (Or.inr ⟨rfl, rfl, rfl⟩)))) (hb hby d5_46) hr
      · show Q5s Z r0 wv cl w_ZH w_EN c_ZH t_ZH c_EN t_EN k_ZH k_EN w_EMPTY G1 tr kr cs Nr h0 n0 _ T28.heap _
        rw [e28]
        exact ⟨w_EMPTY, _, rfl, N28, ((Keep.refl h0 []).ext Ex1), (E_w_EMPTY.ext (X00.ext Ex1).2), (F_value_w_EMPTY.ext (X00.ext Ex1).2), Or.inr (Or.inr ⟨hE_ZH, hE_EN, rfl⟩)⟩
theorem ef_0 (m : MethodId) (x0 : Int32) (x1 : Int32) (x2 : Int32) (x3 : Int32) : entryFrame m #[(.int x0), (.int x1), (.int x2), (.int x3)] maxLocals = mkF m 0 #[.val (.int x0), .val (.int x1), .val (.int x2), .val (.int x3), .unset, .unset, .unset, .unset, .unset, .unset, .unset, .unset, .unset] [] := by first | (simp [entryFrame, mkF, argsToLocals, Value.category, maxLocals]; done) | rfl
theorem pd_8 : parseMethodDescriptor "(II)C" = some ⟨[.int, .int], some .char⟩ := by decide +kernel
theorem pd_9 : parseMethodDescriptor "(Ljava/lang/String;)Ljava/util/Optional;" = some ⟨[(.object "java/lang/String")], some (.object "java/util/Optional")⟩ := by decide +kernel
theorem pd_10 : parseMethodDescriptor "()Z" = some ⟨[], some .boolean⟩ := by decide +kernel
theorem pd_11 : parseMethodDescriptor "([C)V" = some ⟨[(.array .char)], none⟩ := by decide +kernel
theorem pd_12 : parseMethodDescriptor "()Ljava/lang/Object;" = some ⟨[], some (.object "java/lang/Object")⟩ := by decide +kernel
def Q0 (Z : State) (p0 : Int32) (p1 : Int32) (p2 : Int32) (p3 : Int32) (wv : Addr) (cl : Cell) (w_ZH : Addr) (w_EN : Addr) (c_ZH : Addr) (t_ZH : Addr) (c_EN : Addr) (t_EN : Addr) (k_ZH : ClassId) (k_EN : ClassId) (w_EMPTY : Addr) (G1 : Int32) (G3 : Value) (h0 : Heap) (n0 : Nat) (v : Option Value) (h : Heap) (L : List Loc) : Prop := v = some (.int (1 : Int32)) ∧ Fr n0 L
set_option maxRecDepth 65536 in
set_option maxHeartbeats 40000000 in
theorem rm0 (l : Launch) (Z : State) (a0 : Array Value) (hw : ∀ d ∈ tables_1, d.before a0 Z = true) (ws : List Jvm.Cond) (p0 : Int32) (p1 : Int32) (p2 : Int32) (p3 : Int32) (wv : Addr) (cl : Cell) (w_ZH : Addr) (w_EN : Addr) (c_ZH : Addr) (t_ZH : Addr) (c_EN : Addr) (t_EN : Addr) (k_ZH : ClassId) (k_EN : ClassId) (w_EMPTY : Addr) (G1 : Int32) (G3 : Value) (h0 : Heap) (n0 : Nat) (Z0 : n0 ≤ h0.size) (S_V : Sta Z Z.heap "com/example/mediawarden/mediawarden/engine/Lang" "$VALUES" "[Lcom/example/mediawarden/mediawarden/engine/Lang;" (.ref wv)) (Arv_ : Arr Z Z.heap wv cl (.object "com/example/mediawarden/mediawarden/engine/Lang")) (E_V : Exa Z Z.heap wv "[Lcom/example/mediawarden/mediawarden/engine/Lang;") (hsz : cl.slots.size = 2) (hat0 : cl.slots[0]? = some (.ref w_ZH)) (hat1 : cl.slots[1]? = some (.ref w_EN)) (F_code_w_ZH : Fld Z Z.heap w_ZH "com/example/mediawarden/mediawarden/engine/Lang" "code" "Ljava/lang/String;" (.ref c_ZH)) (E_c_ZH : Exa Z Z.heap c_ZH "java/lang/String") (F_value_c_ZH : Fld Z Z.heap c_ZH "java/lang/String" "value" "[B" (.ref t_ZH)) (F_coder_c_ZH : Fld Z Z.heap c_ZH "java/lang/String" "coder" "B" (.int (0 : Int32))) (V_t_ZH : Arv Z Z.heap t_ZH k_ZH .byte (2 : Int32) ((([122, 104] : List Int32).map (fun c => c.toInt8.toInt32)).map Value.int) (.int (0 : Int32))) (F_code_w_EN : Fld Z Z.heap w_EN "com/example/mediawarden/mediawarden/engine/Lang" "code" "Ljava/lang/String;" (.ref c_EN)) (E_c_EN : Exa Z Z.heap c_EN "java/lang/String") (F_value_c_EN : Fld Z Z.heap c_EN "java/lang/String" "value" "[B" (.ref t_EN)) (F_coder_c_EN : Fld Z Z.heap c_EN "java/lang/String" "coder" "B" (.int (0 : Int32))) (V_t_EN : Arv Z Z.heap t_EN k_EN .byte (2 : Int32) ((([101, 110] : List Int32).map (fun c => c.toInt8.toInt32)).map Value.int) (.int (0 : Int32))) (S_EMPTY : Sta Z Z.heap "java/util/Optional" "EMPTY" "Ljava/util/Optional;" (.ref w_EMPTY)) (E_w_EMPTY : Exa Z Z.heap w_EMPTY "java/util/Optional") (F_value_w_EMPTY : Fld Z Z.heap w_EMPTY "java/util/Optional" "value" "Ljava/lang/Object;" .null) (S_ZH : Sta Z Z.heap "com/example/mediawarden/mediawarden/engine/Lang" "ZH" "Lcom/example/mediawarden/mediawarden/engine/Lang;" (.ref w_ZH)) (S_EN : Sta Z Z.heap "com/example/mediawarden/mediawarden/engine/Lang" "EN" "Lcom/example/mediawarden/mediawarden/engine/Lang;" (.ref w_EN)) (E_w_ZH : Exa Z Z.heap w_ZH "com/example/mediawarden/mediawarden/engine/Lang") (E_w_EN : Exa Z Z.heap w_EN "com/example/mediawarden/mediawarden/engine/Lang") (O2 : Sta Z Z.heap "java/lang/String" "COMPACT_STRINGS" "Z" (.int G1)) (P5 : ¬ (G1 = (0 : Int32))) (O4 : Sta Z Z.heap "jdk/internal/util/Preconditions" "SIOOBE_FORMATTER" "Ljava/util/function/BiFunction;" G3) (rG3 : G3.isRef = true) (X00 : Old Z n0 h0) :
    MetFree l x (head1 (Jvm.Cond.code x code maxLocals ret :: ws) room_1) (fun a U => a = #[(.int p0), (.int p1), (.int p2), (.int p3)] ∧ Z.Warmed39 U.vm ∧ U.heap = h0 ∧ CHv Z own_EL U.vm h0) (fun _ _ _ _ _ => True) (fun _ U o U' => ∃ v L, o = .returned v ∧ Q0 Z p0 p1 p2 p3 wv cl w_ZH w_EN c_ZH t_ZH c_EN t_EN k_ZH k_EN w_EMPTY G1 G3 h0 n0 v U'.heap L ∧ ReturnedEndW U o U' L 12 73) := by
  refine MetFree.of_bodySF (plainFor_of_name pn_0) hisR ?_
  intro p e s m args below meth c s₁ Bd hml0 hP hK
  obtain ⟨rfl, hZ, hh, hch⟩ := hP
  have hx := Bd.exec
  have hby := Bd.bytes
  have hml : c.maxLocals = 13 := hml0
  have hown : s.vm.findClass "com/example/mediawarden/mediawarden/engine/LangOfPinLaw" = some m.cls := findClass_of_methodNamed Bd.named
  have hnm := (name_of_methodNamed Bd.named Bd.method).1
  have X0 : Stand p l e room_1 s m #[(.int p0), (.int p1), (.int p2), (.int p3)] below meth c s₁ [] 0 0 := Stand.of_body Bd
  have e0 : s₁.heap = h0 := by rw [← hh, Bd.state]; rfl
  have N0 := Fr.nil n0
  have k0 : ∀ t, Steps p.tables e below (s₁.setTop (mkF m 0 #[.val (.int p0), .val (.int p1), .val (.int p2), .val (.int p3), .unset, .unset, .unset, .unset, .unset, .unset, .unset, .unset, .unset] [])) t → Steps p.tables e below (s₁.setTop (entryFrame m #[(.int p0), (.int p1), (.int p2), (.int p3)] maxLocals)) t := fun t k => castTop (ef_0 m p0 p1 p2 p3) k
  have hEL : EW Z a0 own_EL := EW.cons (text := "zhen") (hw _ (List.mem_of_getElem? (i := 72) rfl)) (by decide) (EW.cons (text := "") (hw _ (List.mem_of_getElem? (i := 18) rfl)) (by decide) EW.nil)
  have hsa : ∀ d ∈ Bundle.stringAtoms, d.before a0 Z = true := fun d hd => hw d ((by decide +kernel : ∀ d ∈ Bundle.stringAtoms, d ∈ tables_1) d hd)
  have hws : ∀ d ∈ StrChars.Road.words, d.before a0 Z = true := fun d hd => hw d ((by decide +kernel : ∀ d ∈ StrChars.Road.words, d ∈ tables_1) d hd)
  have k1 : ∀ t, Steps p.tables e below (s₁.setTop (mkF m 10 #[.val (.int p0), .val (.int p1), .val (.int p2), .val (.int p3), .val (.int (p0 &&& (7 : Int32))), .unset, .unset, .unset, .unset, .unset, .unset, .unset, .unset] [(.int p1), (.int ((p0.toUInt32 >>> ((3 : Int32) &&& 31).toUInt32).toInt32))])) t → Steps p.tables e below (s₁.setTop (entryFrame m #[(.int p0), (.int p1), (.int p2), (.int p3)] maxLocals)) t := fun t k => k0 t (by
      show Steps p.tables e below (s₁.setTop (mkF m 0 #[.val (.int p0), .val (.int p1), .val (.int p2), .val (.int p3), .unset, .unset, .unset, .unset, .unset, .unset, .unset, .unset, .unset] [])) _
      refine XS.iloadN X0.here hx rfl (hb hby at_0) rfl ?_
      show Steps p.tables e below (s₁.setTop (mkF m 1 #[.val (.int p0), .val (.int p1), .val (.int p2), .val (.int p3), .unset, .unset, .unset, .unset, .unset, .unset, .unset, .unset, .unset] [(.int p0)])) _
      refine XS.bipush X0.here hx rfl (hb hby at_1) ?_
      show Steps p.tables e below (s₁.setTop (mkF m 3 #[.val (.int p0), .val (.int p1), .val (.int p2), .val (.int p3), .unset, .unset, .unset, .unset, .unset, .unset, .unset, .unset, .unset] [(.int (7 : Int32)), (.int p0)])) _
      refine XS.iand X0.here hx rfl (hb hby at_3) rfl ?_
      show Steps p.tables e below (s₁.setTop (mkF m 4 #[.val (.int p0), .val (.int p1), .val (.int p2), .val (.int p3), .unset, .unset, .unset, .unset, .unset, .unset, .unset, .unset, .unset] [(.int (p0 &&& (7 : Int32)))])) _
      refine XS.istore X0.here hx rfl (hb hby at_4) rfl (l' := #[.val (.int p0), .val (.int p1), .val (.int p2), .val (.int p3), .val (.int (p0 &&& (7 : Int32))), .unset, .unset, .unset, .unset, .unset, .unset, .unset, .unset]) rfl ?_
      show Steps p.tables e below (s₁.setTop (mkF m 6 #[.val (.int p0), .val (.int p1), .val (.int p2), .val (.int p3), .val (.int (p0 &&& (7 : Int32))), .unset, .unset, .unset, .unset, .unset, .unset, .unset, .unset] [])) _
      refine XS.iloadN X0.here hx rfl (hb hby at_6) rfl ?_
      show Steps p.tables e below (s₁.setTop (mkF m 7 #[.val (.int p0), .val (.int p1), .val (.int p2), .val (.int p3), .val (.int (p0 &&& (7 : Int32))), .unset, .unset, .unset, .unset, .unset, .unset, .unset, .unset] [(.int p0)])) _
      refine XS.iconst X0.here hx rfl (hb hby at_7) ?_
      show Steps p.tables e below (s₁.setTop (mkF m 8 #[.val (.int p0), .val (.int p1), .val (.int p2), .val (.int p3), .val (.int (p0 &&& (7 : Int32))), .unset, .unset, .unset, .unset, .unset, .unset, .unset, .unset] [(.int (3 : Int32)), (.int p0)])) _
      refine XS.iushr X0.here hx rfl (hb hby at_8) rfl ?_
      show Steps p.tables e below (s₁.setTop (mkF m 9 #[.val (.int p0), .val (.int p1), .val (.int p2), .val (.int p3), .val (.int (p0 &&& (7 : Int32))), .unset, .unset, .unset, .unset, .unset, .unset, .unset, .unset] [(.int ((p0.toUInt32 >>> ((3 : Int32) &&& 31).toUInt32).toInt32))])) _
      refine XS.iloadN X0.here hx rfl (hb hby at_9) rfl ?_
      exact k)
  obtain ⟨_, _, ⟨T2, L2, kq2, n2⟩, -, X2, Sc2, gr2, ⟨Lc2, hQ2, l2, y2, z2, cr2⟩, st2⟩ := callSS X0 hx (y := (⟨"com/example/mediawarden/mediawarden/engine/LangOfPinLaw", "pick", "(II)C"⟩ : MethodName)) hown (mvT hZ (hw _ (List.mem_of_getElem? (i := 0) rfl))) (mvT hZ (hw _ (List.mem_of_getElem? (i := 1) rfl))) (mvT hZ (hw _ (List.mem_of_getElem? (i := 2) rfl))) (mvT hZ (hw _ (List.mem_of_getElem? (i := 3) rfl))) (by decide) (backOfSH (s := s) (vm0 := s.vm) (W := 0) (rm1 l Z a0 hw [] ((p0.toUInt32 >>> ((3 : Int32) &&& 31).toUInt32).toInt32) p1 G1 G3 h0 n0 Z0 O2 P5 O4 rG3 X00) hZ (hw _ (List.mem_of_getElem? (i := 3) rfl)) (hw _ (List.mem_of_getElem? (i := 2) rfl)) (by decide) (by decide) hEL hch) (g := (mkF m 10 #[.val (.int p0), .val (.int p1), .val (.int p2), .val (.int p3), .val (.int (p0 &&& (7 : Int32))), .unset, .unset, .unset, .unset, .unset, .unset, .unset, .unset] [(.int p1), (.int ((p0.toUInt32 >>> ((3 : Int32) &&& 31).toUInt32).toInt32))])) rfl (by rw [hml]; rfl) (argsL := [(.int ((p0.toUInt32 >>> ((3 : Int32) &&& 31).toUInt32).toInt32)), (.int p1)]) (rest := []) (lenOf pd_8 rfl) rfl (by show 2 * 0 + _ ≤ _; exact Nat.le_of_eq rfl) (hb hby at_10) (fun _ _ => ⟨rfl, e0, (by decide : 0 + 2 ≤ _), (by decide : 0 + 20 ≤ _)⟩)
  dsimp only [Pt.U, Pt.locs, Pt.cells, Pt.slots] at Sc2 gr2 cr2
  dsimp only [Pt.U, Pt.locs, Pt.cells, Pt.slots] at X2 l2 y2 z2 st2 hQ2
  subst l2 y2 z2
  obtain ⟨rfl, N2q, Ex2⟩ := hQ2
  have N2 := Fr.app N0 N2q
  have Zs2 : n0 ≤ T2.heap.size := Nat.le_trans Z0 Ex2.1
  have hZ2 : Z.Warmed39 (s.setVm T2.vm).vm := State.Warmed39.trans (t := s.setVm s.vm) hZ Sc2.1
  have hown2 : (s.setVm T2.vm).vm.findClass "com/example/mediawarden/mediawarden/engine/LangOfPinLaw" = some m.cls := by rw [show (s.setVm T2.vm).vm = T2.vm from rfl, Sc2.1.alike.findClass]; exact hown
  have Sn2 : s.Since T2.vm T2.heap.size := foldS (vm0 := s.vm) ((State.WarmedH.refl s).since h0.size) (by rw [e0]; exact (Nat.le_refl h0.size)) Sc2 gr2
  have k3 : ∀ t, Steps p.tables e below (T2.setTop (mkF m 13 #[.val (.int p0), .val (.int p1), .val (.int p2), .val (.int p3), .val (.int (p0 &&& (7 : Int32))), .unset, .unset, .unset, .unset, .unset, .unset, .unset, .unset] [(.int (own_pk ((p0.toUInt32 >>> ((3 : Int32) &&& 31).toUInt32).toInt32) p1))])) t → Steps p.tables e below (s₁.setTop (entryFrame m #[(.int p0), (.int p1), (.int p2), (.int p3)] maxLocals)) t := fun t k => k1 t (st2.trans k)
  have k4 : ∀ t, Steps p.tables e below (T2.setTop (mkF m 19 #[.val (.int p0), .val (.int p1), .val (.int p2), .val (.int p3), .val (.int (p0 &&& (7 : Int32))), .val (.int (own_pk ((p0.toUInt32 >>> ((3 : Int32) &&& 31).toUInt32).toInt32) p1)), .unset, .unset, .unset, .unset, .unset, .unset, .unset] [(.int p2), (.int ((p0.toUInt32 >>> ((4 : Int32) &&& 31).toUInt32).toInt32))])) t → Steps p.tables e below (s₁.setTop (entryFrame m #[(.int p0), (.int p1), (.int p2), (.int p3)] maxLocals)) t := fun t k => k3 t (by
      show Steps p.tables e below (T2.setTop (mkF m 13 #[.val (.int p0), .val (.int p1), .val (.int p2), .val (.int p3), .val (.int (p0 &&& (7 : Int32))), .unset, .unset, .unset, .unset, .unset, .unset, .unset, .unset] [(.int (own_pk ((p0.toUInt32 >>> ((3 : Int32) &&& 31).toUInt32).toInt32) p1))])) _
      refine XS.istore X2.here hx rfl (hb hby at_13) rfl (l' := #[.val (.int p0), .val (.int p1), .val (.int p2), .val (.int p3), .val (.int (p0 &&& (7 : Int32))), .val (.int (own_pk ((p0.toUInt32 >>> ((3 : Int32) &&& 31).toUInt32).toInt32) p1)), .unset, .unset, .unset, .unset, .unset, .unset, .unset]) rfl ?_
      show Steps p.tables e below (T2.setTop (mkF m 15 #[.val (.int p0), .val (.int p1), .val (.int p2), .val (.int p3), .val (.int (p0 &&& (7 : Int32))), .val (.int (own_pk ((p0.toUInt32 >>> ((3 : Int32) &&& 31).toUInt32).toInt32) p1)), .unset, .unset, .unset, .unset, .unset, .unset, .unset] [])) _
      refine XS.iloadN X2.here hx rfl (hb hby at_15) rfl ?_
      show Steps p.tables e below (T2.setTop (mkF m 16 #[.val (.int p0), .val (.int p1), .val (.int p2), .val (.int p3), .val (.int (p0 &&& (7 : Int32))), .val (.int (own_pk ((p0.toUInt32 >>> ((3 : Int32) &&& 31).toUInt32).toInt32) p1)), .unset, .unset, .unset, .unset, .unset, .unset, .unset] [(.int p0)])) _
      refine XS.iconst X2.here hx rfl (hb hby at_16) ?_
      show Steps p.tables e below (T2.setTop (mkF m 17 #[.val (.int p0), .val (.int p1), .val (.int p2), .val (.int p3), .val (.int (p0 &&& (7 : Int32))), .val (.int (own_pk ((p0.toUInt32 >>> ((3 : Int32) &&& 31).toUInt32).toInt32) p1)), .unset, .unset, .unset, .unset, .unset, .unset, .unset] [(.int (4 : Int32)), (.int p0)])) _
      refine XS.iushr X2.here hx rfl (hb hby at_17) rfl ?_
      show Steps p.tables e below (T2.setTop (mkF m 18 #[.val (.int p0), .val (.int p1), .val (.int p2), .val (.int p3), .val (.int (p0 &&& (7 : Int32))), .val (.int (own_pk ((p0.toUInt32 >>> ((3 : Int32) &&& 31).toUInt32).toInt32) p1)), .unset, .unset, .unset, .unset, .unset, .unset, .unset] [(.int ((p0.toUInt32 >>> ((4 : Int32) &&& 31).toUInt32).toInt32))])) _
      refine XS.iloadN X2.here hx rfl (hb hby at_18) rfl ?_
      exact k)
  obtain ⟨_, _, ⟨T5, L5, kq5, n5⟩, -, X5, Sc5, gr5, ⟨Lc5, hQ5, l5, y5, z5, cr5⟩, st5⟩ := callSS X2 hx (y := (⟨"com/example/mediawarden/mediawarden/engine/LangOfPinLaw", "pick", "(II)C"⟩ : MethodName)) hown2 (mvT hZ2 (hw _ (List.mem_of_getElem? (i := 0) rfl))) (mvT hZ2 (hw _ (List.mem_of_getElem? (i := 1) rfl))) (mvT hZ2 (hw _ (List.mem_of_getElem? (i := 2) rfl))) (mvT hZ2 (hw _ (List.mem_of_getElem? (i := 3) rfl))) (by decide) (backOfSH (s := s) (vm0 := T2.vm) (W := 0) (rm1 l Z a0 hw [] ((p0.toUInt32 >>> ((4 : Int32) &&& 31).toUInt32).toInt32) p2 G1 G3 T2.heap n0 Zs2 O2 P5 O4 rG3 (X00.ext Ex2)) hZ2 (hw _ (List.mem_of_getElem? (i := 3) rfl)) (hw _ (List.mem_of_getElem? (i := 2) rfl)) (by decide) (by decide) hEL cr2.1) (g := (mkF m 19 #[.val (.int p0), .val (.int p1), .val (.int p2), .val (.int p3), .val (.int (p0 &&& (7 : Int32))), .val (.int (own_pk ((p0.toUInt32 >>> ((3 : Int32) &&& 31).toUInt32).toInt32) p1)), .unset, .unset, .unset, .unset, .unset, .unset, .unset] [(.int p2), (.int ((p0.toUInt32 >>> ((4 : Int32) &&& 31).toUInt32).toInt32))])) rfl (by rw [hml]; rfl) (argsL := [(.int ((p0.toUInt32 >>> ((4 : Int32) &&& 31).toUInt32).toInt32)), (.int p2)]) (rest := []) (lenOf pd_8 rfl) rfl (by show 2 * 0 + _ ≤ _; exact Nat.le_of_eq rfl) (hb hby at_19) (fun _ _ => ⟨rfl, rfl, (by decide : 2 + 2 ≤ _), (by decide : 20 + 20 ≤ _)⟩)
  dsimp only [Pt.U, Pt.locs, Pt.cells, Pt.slots] at Sc5 gr5 cr5
  dsimp only [Pt.U, Pt.locs, Pt.cells, Pt.slots] at X5 l5 y5 z5 st5 hQ5
  subst l5 y5 z5
  obtain ⟨rfl, N5q, Ex5⟩ := hQ5
  have N5 := Fr.app N2 N5q
  have Zs5 : n0 ≤ T5.heap.size := Nat.le_trans Zs2 Ex5.1
  have hZ5 : Z.Warmed39 (s.setVm T5.vm).vm := State.Warmed39.trans (t := s.setVm T2.vm) hZ2 Sc5.1
  have hown5 : (s.setVm T5.vm).vm.findClass "com/example/mediawarden/mediawarden/engine/LangOfPinLaw" = some m.cls := by rw [show (s.setVm T5.vm).vm = T5.vm from rfl, Sc5.1.alike.findClass]; exact hown2
  have Sn5 : s.Since T5.vm T5.heap.size := foldS (vm0 := T2.vm) Sn2 (Nat.le_refl _) Sc5 gr5
  have k6 : ∀ t, Steps p.tables e below (T5.setTop (mkF m 22 #[.val (.int p0), .val (.int p1), .val (.int p2), .val (.int p3), .val (.int (p0 &&& (7 : Int32))), .val (.int (own_pk ((p0.toUInt32 >>> ((3 : Int32) &&& 31).toUInt32).toInt32) p1)), .unset, .unset, .unset, .unset, .unset, .unset, .unset] [(.int (own_pk ((p0.toUInt32 >>> ((4 : Int32) &&& 31).toUInt32).toInt32) p2))])) t → Steps p.tables e below (s₁.setTop (entryFrame m #[(.int p0), (.int p1), (.int p2), (.int p3)] maxLocals)) t := fun t k => k4 t (st5.trans k)
  have k7 : ∀ t, Steps p.tables e below (T5.setTop (mkF m 28 #[.val (.int p0), .val (.int p1), .val (.int p2), .val (.int p3), .val (.int (p0 &&& (7 : Int32))), .val (.int (own_pk ((p0.toUInt32 >>> ((3 : Int32) &&& 31).toUInt32).toInt32) p1)), .val (.int (own_pk ((p0.toUInt32 >>> ((4 : Int32) &&& 31).toUInt32).toInt32) p2)), .unset, .unset, .unset, .unset, .unset, .unset] [(.int p3), (.int ((p0.toUInt32 >>> ((5 : Int32) &&& 31).toUInt32).toInt32))])) t → Steps p.tables e below (s₁.setTop (entryFrame m #[(.int p0), (.int p1), (.int p2), (.int p3)] maxLocals)) t := fun t k => k6 t (by
      show Steps p.tables e below (T5.setTop (mkF m 22 #[.val (.int p0), .val (.int p1), .val (.int p2), .val (.int p3), .val (.int (p0 &&& (7 : Int32))), .val (.int (own_pk ((p0.toUInt32 >>> ((3 : Int32) &&& 31).toUInt32).toInt32) p1)), .unset, .unset, .unset, .unset, .unset, .unset, .unset] [(.int (own_pk ((p0.toUInt32 >>> ((4 : Int32) &&& 31).toUInt32).toInt32) p2))])) _
      refine XS.istore X5.here hx rfl (hb hby at_22) rfl (l' := #[.val (.int p0), .val (.int p1), .val (.int p2), .val (.int p3), .val (.int (p0 &&& (7 : Int32))), .val (.int (own_pk ((p0.toUInt32 >>> ((3 : Int32) &&& 31).toUInt32).toInt32) p1)), .val (.int (own_pk ((p0.toUInt32 >>> ((4 : Int32) &&& 31).toUInt32).toInt32) p2)), .unset, .unset, .unset, .unset, .unset, .unset]) rfl ?_
      show Steps p.tables e below (T5.setTop (mkF m 24 #[.val (.int p0), .val (.int p1), .val (.int p2), .val (.int p3), .val (.int (p0 &&& (7 : Int32))), .val (.int (own_pk ((p0.toUInt32 >>> ((3 : Int32) &&& 31).toUInt32).toInt32) p1)), .val (.int (own_pk ((p0.toUInt32 >>> ((4 : Int32) &&& 31).toUInt32).toInt32) p2)), .unset, .unset, .unset, .unset, .unset, .unset] [])) _
      refine XS.iloadN X5.here hx rfl (hb hby at_24) rfl ?_
      show Steps p.tables e below (T5.setTop (mkF m 25 #[.val (.int p0), .val (.int p1), .val (.int p2), .val (.int p3), .val (.int (p0 &&& (7 : Int32))), .val (.int (own_pk ((p0.toUInt32 >>> ((3 : Int32) &&& 31).toUInt32).toInt32) p1)), .val (.int (own_pk ((p0.toUInt32 >>> ((4 : Int32) &&& 31).toUInt32).toInt32) p2)), .unset, .unset, .unset, .unset, .unset, .unset] [(.int p0)])) _
      refine XS.iconst X5.here hx rfl (hb hby at_25) ?_
      show Steps p.tables e below (T5.setTop (mkF m 26 #[.val (.int p0), .val (.int p1), .val (.int p2), .val (.int p3), .val (.int (p0 &&& (7 : Int32))), .val (.int (own_pk ((p0.toUInt32 >>> ((3 : Int32) &&& 31).toUInt32).toInt32) p1)), .val (.int (own_pk ((p0.toUInt32 >>> ((4 : Int32) &&& 31).toUInt32).toInt32) p2)), .unset, .unset, .unset, .unset, .unset, .unset] [(.int (5 : Int32)), (.int p0)])) _
      refine XS.iushr X5.here hx rfl (hb hby at_26) rfl ?_
      show Steps p.tables e below (T5.setTop (mkF m 27 #[.val (.int p0), .val (.int p1), .val (.int p2), .val (.int p3), .val (.int (p0 &&& (7 : Int32))), .val (.int (own_pk ((p0.toUInt32 >>> ((3 : Int32) &&& 31).toUInt32).toInt32) p1)), .val (.int (own_pk ((p0.toUInt32 >>> ((4 : Int32) &&& 31).toUInt32).toInt32) p2)), .unset, .unset, .unset, .unset, .unset, .unset] [(.int ((p0.toUInt32 >>> ((5 : Int32) &&& 31).toUInt32).toInt32))])) _
      refine XS.iloadN X5.here hx rfl (hb hby at_27) rfl ?_
      exact k)
  obtain ⟨_, _, ⟨T8, L8, kq8, n8⟩, -, X8, Sc8, gr8, ⟨Lc8, hQ8, l8, y8, z8, cr8⟩, st8⟩ := callSS X5 hx (y := (⟨"com/example/mediawarden/mediawarden/engine/LangOfPinLaw", "pick", "(II)C"⟩ : MethodName)) hown5 (mvT hZ5 (hw _ (List.mem_of_getElem? (i := 0) rfl))) (mvT hZ5 (hw _ (List.mem_of_getElem? (i := 1) rfl))) (mvT hZ5 (hw _ (List.mem_of_getElem? (i := 2) rfl))) (mvT hZ5 (hw _ (List.mem_of_getElem? (i := 3) rfl))) (by decide) (backOfSH (s := s) (vm0 := T5.vm) (W := 0) (rm1 l Z a0 hw [] ((p0.toUInt32 >>> ((5 : Int32) &&& 31).toUInt32).toInt32) p3 G1 G3 T5.heap n0 Zs5 O2 P5 O4 rG3 ((X00.ext Ex2).ext Ex5)) hZ5 (hw _ (List.mem_of_getElem? (i := 3) rfl)) (hw _ (List.mem_of_getElem? (i := 2) rfl)) (by decide) (by decide) hEL cr5.1) (g := (mkF m 28 #[.val (.int p0), .val (.int p1), .val (.int p2), .val (.int p3), .val (.int (p0 &&& (7 : Int32))), .val (.int (own_pk ((p0.toUInt32 >>> ((3 : Int32) &&& 31).toUInt32).toInt32) p1)), .val (.int (own_pk ((p0.toUInt32 >>> ((4 : Int32) &&& 31).toUInt32).toInt32) p2)), .unset, .unset, .unset, .unset, .unset, .unset] [(.int p3), (.int ((p0.toUInt32 >>> ((5 : Int32) &&& 31).toUInt32).toInt32))])) rfl (by rw [hml]; rfl) (argsL := [(.int ((p0.toUInt32 >>> ((5 : Int32) &&& 31).toUInt32).toInt32)), (.int p3)]) (rest := []) (lenOf pd_8 rfl) rfl (by show 2 * 0 + _ ≤ _; exact Nat.le_of_eq rfl) (hb hby at_28) (fun _ _ => ⟨rfl, rfl, (by decide : 4 + 2 ≤ _), (by decide : 40 + 20 ≤ _)⟩)
  dsimp only [Pt.U, Pt.locs, Pt.cells, Pt.slots] at Sc8 gr8 cr8
  dsimp only [Pt.U, Pt.locs, Pt.cells, Pt.slots] at X8 l8 y8 z8 st8 hQ8
  subst l8 y8 z8
  obtain ⟨rfl, N8q, Ex8⟩ := hQ8
  have N8 := Fr.app N5 N8q
  have Zs8 : n0 ≤ T8.heap.size := Nat.le_trans Zs5 Ex8.1
  have hZ8 : Z.Warmed39 (s.setVm T8.vm).vm := State.Warmed39.trans (t := s.setVm T5.vm) hZ5 Sc8.1
  have hown8 : (s.setVm T8.vm).vm.findClass "com/example/mediawarden/mediawarden/engine/LangOfPinLaw" = some m.cls := by rw [show (s.setVm T8.vm).vm = T8.vm from rfl, Sc8.1.alike.findClass]; exact hown5
  have Sn8 : s.Since T8.vm T8.heap.size := foldS (vm0 := T5.vm) Sn5 (Nat.le_refl _) Sc8 gr8
  have k9 : ∀ t, Steps p.tables e below (T8.setTop (mkF m 31 #[.val (.int p0), .val (.int p1), .val (.int p2), .val (.int p3), .val (.int (p0 &&& (7 : Int32))), .val (.int (own_pk ((p0.toUInt32 >>> ((3 : Int32) &&& 31).toUInt32).toInt32) p1)), .val (.int (own_pk ((p0.toUInt32 >>> ((4 : Int32) &&& 31).toUInt32).toInt32) p2)), .unset, .unset, .unset, .unset, .unset, .unset] [(.int (own_pk ((p0.toUInt32 >>> ((5 : Int32) &&& 31).toUInt32).toInt32) p3))])) t → Steps p.tables e below (s₁.setTop (entryFrame m #[(.int p0), (.int p1), (.int p2), (.int p3)] maxLocals)) t := fun t k => k7 t (st8.trans k)
  have k10 : ∀ t, Steps p.tables e below (T8.setTop (mkF m 36 #[.val (.int p0), .val (.int p1), .val (.int p2), .val (.int p3), .val (.int (p0 &&& (7 : Int32))), .val (.int (own_pk ((p0.toUInt32 >>> ((3 : Int32) &&& 31).toUInt32).toInt32) p1)), .val (.int (own_pk ((p0.toUInt32 >>> ((4 : Int32) &&& 31).toUInt32).toInt32) p2)), .val (.int (own_pk ((p0.toUInt32 >>> ((5 : Int32) &&& 31).toUInt32).toInt32) p3)), .unset, .unset, .unset, .unset, .unset] [(.int (4 : Int32)), (.int (p0 &&& (7 : Int32)))])) t → Steps p.tables e below (s₁.setTop (entryFrame m #[(.int p0), (.int p1), (.int p2), (.int p3)] maxLocals)) t := fun t k => k9 t (by
      show Steps p.tables e below (T8.setTop (mkF m 31 #[.val (.int p0), .val (.int p1), .val (.int p2), .val (.int p3), .val (.int (p0 &&& (7 : Int32))), .val (.int (own_pk ((p0.toUInt32 >>> ((3 : Int32) &&& 31).toUInt32).toInt32) p1)), .val (.int (own_pk ((p0.toUInt32 >>> ((4 : Int32) &&& 31).toUInt32).toInt32) p2)), .unset, .unset, .unset, .unset, .unset, .unset] [(.int (own_pk ((p0.toUInt32 >>> ((5 : Int32) &&& 31).toUInt32).toInt32) p3))])) _
      refine XS.istore X8.here hx rfl (hb hby at_31) rfl (l' := #[.val (.int p0), .val (.int p1), .val (.int p2), .val (.int p3), .val (.int (p0 &&& (7 : Int32))), .val (.int (own_pk ((p0.toUInt32 >>> ((3 : Int32) &&& 31).toUInt32).toInt32) p1)), .val (.int (own_pk ((p0.toUInt32 >>> ((4 : Int32) &&& 31).toUInt32).toInt32) p2)), .val (.int (own_pk ((p0.toUInt32 >>> ((5 : Int32) &&& 31).toUInt32).toInt32) p3)), .unset, .unset, .unset, .unset, .unset]) rfl ?_
      show Steps p.tables e below (T8.setTop (mkF m 33 #[.val (.int p0), .val (.int p1), .val (.int p2), .val (.int p3), .val (.int (p0 &&& (7 : Int32))), .val (.int (own_pk ((p0.toUInt32 >>> ((3 : Int32) &&& 31).toUInt32).toInt32) p1)), .val (.int (own_pk ((p0.toUInt32 >>> ((4 : Int32) &&& 31).toUInt32).toInt32) p2)), .val (.int (own_pk ((p0.toUInt32 >>> ((5 : Int32) &&& 31).toUInt32).toInt32) p3)), .unset, .unset, .unset, .unset, .unset] [])) _
      refine XS.iload X8.here hx rfl (hb hby at_33) rfl ?_
      show Steps p.tables e below (T8.setTop (mkF m 35 #[.val (.int p0), .val (.int p1), .val (.int p2), .val (.int p3), .val (.int (p0 &&& (7 : Int32))), .val (.int (own_pk ((p0.toUInt32 >>> ((3 : Int32) &&& 31).toUInt32).toInt32) p1)), .val (.int (own_pk ((p0.toUInt32 >>> ((4 : Int32) &&& 31).toUInt32).toInt32) p2)), .val (.int (own_pk ((p0.toUInt32 >>> ((5 : Int32) &&& 31).toUInt32).toInt32) p3)), .unset, .unset, .unset, .unset, .unset] [(.int (p0 &&& (7 : Int32)))])) _
      refine XS.iconst X8.here hx rfl (hb hby at_35) ?_
      exact k)
  by_cases hc36 : (p0 &&& (7 : Int32)) = (4 : Int32)
  · have k11 : ∀ t, Steps p.tables e below (T8.setTop (mkF m 168 #[.val (.int p0), .val (.int p1), .val (.int p2), .val (.int p3), .val (.int (p0 &&& (7 : Int32))), .val (.int (own_pk ((p0.toUInt32 >>> ((3 : Int32) &&& 31).toUInt32).toInt32) p1)), .val (.int (own_pk ((p0.toUInt32 >>> ((4 : Int32) &&& 31).toUInt32).toInt32) p2)), .val (.int (own_pk ((p0.toUInt32 >>> ((5 : Int32) &&& 31).toUInt32).toInt32) p3)), .val .null, .val (.int (-1 : Int32)), .unset, .unset, .unset] [.null])) t → Steps p.tables e below (s₁.setTop (entryFrame m #[(.int p0), (.int p1), (.int p2), (.int p3)] maxLocals)) t := fun t k => k10 t (by
        show Steps p.tables e below (T8.setTop (mkF m 36 #[.val (.int p0), .val (.int p1), .val (.int p2), .val (.int p3), .val (.int (p0 &&& (7 : Int32))), .val (.int (own_pk ((p0.toUInt32 >>> ((3 : Int32) &&& 31).toUInt32).toInt32) p1)), .val (.int (own_pk ((p0.toUInt32 >>> ((4 : Int32) &&& 31).toUInt32).toInt32) p2)), .val (.int (own_pk ((p0.toUInt32 >>> ((5 : Int32) &&& 31).toUInt32).toInt32) p3)), .unset, .unset, .unset, .unset, .unset] [(.int (4 : Int32)), (.int (p0 &&& (7 : Int32)))])) _
        refine XS.icmpNo X8.here hx rfl (hb hby at_36) rfl (teq hc36).2 ?_
        show Steps p.tables e below (T8.setTop (mkF m 39 #[.val (.int p0), .val (.int p1), .val (.int p2), .val (.int p3), .val (.int (p0 &&& (7 : Int32))), .val (.int (own_pk ((p0.toUInt32 >>> ((3 : Int32) &&& 31).toUInt32).toInt32) p1)), .val (.int (own_pk ((p0.toUInt32 >>> ((4 : Int32) &&& 31).toUInt32).toInt32) p2)), .val (.int (own_pk ((p0.toUInt32 >>> ((5 : Int32) &&& 31).toUInt32).toInt32) p3)), .unset, .unset, .unset, .unset, .unset] [])) _
        refine XS.aconstNull X8.here hx rfl (hb hby at_39) ?_
        show Steps p.tables e below (T8.setTop (mkF m 40 #[.val (.int p0), .val (.int p1), .val (.int p2), .val (.int p3), .val (.int (p0 &&& (7 : Int32))), .val (.int (own_pk ((p0.toUInt32 >>> ((3 : Int32) &&& 31).toUInt32).toInt32) p1)), .val (.int (own_pk ((p0.toUInt32 >>> ((4 : Int32) &&& 31).toUInt32).toInt32) p2)), .val (.int (own_pk ((p0.toUInt32 >>> ((5 : Int32) &&& 31).toUInt32).toInt32) p3)), .unset, .unset, .unset, .unset, .unset] [.null])) _
        refine XS.astore X8.here hx rfl (hb hby at_40) rfl rfl (l' := #[.val (.int p0), .val (.int p1), .val (.int p2), .val (.int p3), .val (.int (p0 &&& (7 : Int32))), .val (.int (own_pk ((p0.toUInt32 >>> ((3 : Int32) &&& 31).toUInt32).toInt32) p1)), .val (.int (own_pk ((p0.toUInt32 >>> ((4 : Int32) &&& 31).toUInt32).toInt32) p2)), .val (.int (own_pk ((p0.toUInt32 >>> ((5 : Int32) &&& 31).toUInt32).toInt32) p3)), .val .null, .unset, .unset, .unset, .unset]) rfl ?_
        show Steps p.tables e below (T8.setTop (mkF m 42 #[.val (.int p0), .val (.int p1), .val (.int p2), .val (.int p3), .val (.int (p0 &&& (7 : Int32))), .val (.int (own_pk ((p0.toUInt32 >>> ((3 : Int32) &&& 31).toUInt32).toInt32) p1)), .val (.int (own_pk ((p0.toUInt32 >>> ((4 : Int32) &&& 31).toUInt32).toInt32) p2)), .val (.int (own_pk ((p0.toUInt32 >>> ((5 : Int32) &&& 31).toUInt32).toInt32) p3)), .val .null, .unset, .unset, .unset, .unset] [])) _
        refine XS.iconst X8.here hx rfl (hb hby at_42) ?_
        show Steps p.tables e below (T8.setTop (mkF m 43 #[.val (.int p0), .val (.int p1), .val (.int p2), .val (.int p3), .val (.int (p0 &&& (7 : Int32))), .val (.int (own_pk ((p0.toUInt32 >>> ((3 : Int32) &&& 31).toUInt32).toInt32) p1)), .val (.int (own_pk ((p0.toUInt32 >>> ((4 : Int32) &&& 31).toUInt32).toInt32) p2)), .val (.int (own_pk ((p0.toUInt32 >>> ((5 : Int32) &&& 31).toUInt32).toInt32) p3)), .val .null, .unset, .unset, .unset, .unset] [(.int (-1 : Int32))])) _
        refine XS.istore X8.here hx rfl (hb hby at_43) rfl (l' := #[.val (.int p0), .val (.int p1), .val (.int p2), .val (.int p3), .val (.int (p0 &&& (7 : Int32))), .val (.int (own_pk ((p0.toUInt32 >>> ((3 : Int32) &&& 31).toUInt32).toInt32) p1)), .val (.int (own_pk ((p0.toUInt32 >>> ((4 : Int32) &&& 31).toUInt32).toInt32) p2)), .val (.int (own_pk ((p0.toUInt32 >>> ((5 : Int32) &&& 31).toUInt32).toInt32) p3)), .val .null, .val (.int (-1 : Int32)), .unset, .unset, .unset]) rfl ?_
        show Steps p.tables e below (T8.setTop (mkF m 45 #[.val (.int p0), .val (.int p1), .val (.int p2), .val (.int p3), .val (.int (p0 &&& (7 : Int32))), .val (.int (own_pk ((p0.toUInt32 >>> ((3 : Int32) &&& 31).toUInt32).toInt32) p1)), .val (.int (own_pk ((p0.toUInt32 >>> ((4 : Int32) &&& 31).toUInt32).toInt32) p2)), .val (.int (own_pk ((p0.toUInt32 >>> ((5 : Int32) &&& 31).toUInt32).toInt32) p3)), .val .null, .val (.int (-1 : Int32)), .unset, .unset, .unset] [])) _
        refine XS.goto X8.here hx rfl (pc0 := 45) (pc' := 166) rfl (hb hby at_45) (by decide) (by decide) ?_
        show Steps p.tables e below (T8.setTop (mkF m 166 #[.val (.int p0), .val (.int p1), .val (.int p2), .val (.int p3), .val (.int (p0 &&& (7 : Int32))), .val (.int (own_pk ((p0.toUInt32 >>> ((3 : Int32) &&& 31).toUInt32).toInt32) p1)), .val (.int (own_pk ((p0.toUInt32 >>> ((4 : Int32) &&& 31).toUInt32).toInt32) p2)), .val (.int (own_pk ((p0.toUInt32 >>> ((5 : Int32) &&& 31).toUInt32).toInt32) p3)), .val .null, .val (.int (-1 : Int32)), .unset, .unset, .unset] [])) _
        refine XS.aload X8.here hx rfl (hb hby at_166) rfl rfl ?_
        exact k)
    obtain ⟨_, _, ⟨T12, L12, kq12, n12⟩, -, X12, ⟨Lc12, hQ12, l12, y12, z12⟩, st12⟩ := Jvm.LawKit.callS X8 hx (y := (⟨"com/example/mediawarden/mediawarden/engine/Lang", "of", "(Ljava/lang/String;)Ljava/util/Optional;"⟩ : MethodName)) hown8 (mvT hZ8 (hw _ (List.mem_of_getElem? (i := 26) rfl))) (mvT hZ8 (hw _ (List.mem_of_getElem? (i := 27) rfl))) (mvT hZ8 (hw _ (List.mem_of_getElem? (i := 28) rfl))) (mvT hZ8 (hw _ (List.mem_of_getElem? (i := 29) rfl))) (by decide) (backOf (W := 0) (rm5n l Z a0 hw [] wv cl w_ZH w_EN c_ZH t_ZH c_EN t_EN k_ZH k_EN w_EMPTY G1 T8.heap n0 Zs8 (S_V.ext (((X00.ext Ex2).ext Ex5).ext Ex8).2) (Arv_.ext (((X00.ext Ex2).ext Ex5).ext Ex8).2) (E_V.ext (((X00.ext Ex2).ext Ex5).ext Ex8).2) hsz hat0 hat1 (F_code_w_ZH.ext (((X00.ext Ex2).ext Ex5).ext Ex8).2) (E_c_ZH.ext (((X00.ext Ex2).ext Ex5).ext Ex8).2) (F_value_c_ZH.ext (((X00.ext Ex2).ext Ex5).ext Ex8).2) (F_coder_c_ZH.ext (((X00.ext Ex2).ext Ex5).ext Ex8).2) (V_t_ZH.ext (((X00.ext Ex2).ext Ex5).ext Ex8).2) (F_code_w_EN.ext (((X00.ext Ex2).ext Ex5).ext Ex8).2) (E_c_EN.ext (((X00.ext Ex2).ext Ex5).ext Ex8).2) (F_value_c_EN.ext (((X00.ext Ex2).ext Ex5).ext Ex8).2) (F_coder_c_EN.ext (((X00.ext Ex2).ext Ex5).ext Ex8).2) (V_t_EN.ext (((X00.ext Ex2).ext Ex5).ext Ex8).2) S_EMPTY E_w_EMPTY F_value_w_EMPTY (((X00.ext Ex2).ext Ex5).ext Ex8)) hZ8 (hw _ (List.mem_of_getElem? (i := 29) rfl)) (hw _ (List.mem_of_getElem? (i := 28) rfl)) (by decide) (by decide)) (g := (mkF m 168 #[.val (.int p0), .val (.int p1), .val (.int p2), .val (.int p3), .val (.int (p0 &&& (7 : Int32))), .val (.int (own_pk ((p0.toUInt32 >>> ((3 : Int32) &&& 31).toUInt32).toInt32) p1)), .val (.int (own_pk ((p0.toUInt32 >>> ((4 : Int32) &&& 31).toUInt32).toInt32) p2)), .val (.int (own_pk ((p0.toUInt32 >>> ((5 : Int32) &&& 31).toUInt32).toInt32) p3)), .val .null, .val (.int (-1 : Int32)), .unset, .unset, .unset] [.null])) rfl (by rw [hml]; rfl) (argsL := [.null]) (rest := []) (lenOf pd_9 rfl) rfl (by show 2 * 0 + _ ≤ _; exact Nat.le_of_eq rfl) (hb hby at_168) (fun _ _ => ⟨rfl, rfl, (by decide : 6 + 1 ≤ _), (by decide : 60 + 2 ≤ _)⟩)
    dsimp only [Pt.U, Pt.locs, Pt.cells, Pt.slots] at X12 l12 y12 z12 st12 hQ12
    subst l12 y12 z12
    obtain ⟨o12, val, rfl, N12q, K12, Ex12, Fx12, hcs⟩ := hQ12
    have N12 := Fr.app N8 N12q
    have Zs12 : n0 ≤ T12.heap.size := Nat.le_trans Zs8 K12.1
    have k13 : ∀ t, Steps p.tables e below (T12.setTop (mkF m 171 #[.val (.int p0), .val (.int p1), .val (.int p2), .val (.int p3), .val (.int (p0 &&& (7 : Int32))), .val (.int (own_pk ((p0.toUInt32 >>> ((3 : Int32) &&& 31).toUInt32).toInt32) p1)), .val (.int (own_pk ((p0.toUInt32 >>> ((4 : Int32) &&& 31).toUInt32).toInt32) p2)), .val (.int (own_pk ((p0.toUInt32 >>> ((5 : Int32) &&& 31).toUInt32).toInt32) p3)), .val .null, .val (.int (-1 : Int32)), .unset, .unset, .unset] [(.ref o12)])) t → Steps p.tables e below (s₁.setTop (entryFrame m #[(.int p0), (.int p1), (.int p2), (.int p3)] maxLocals)) t := fun t k => k11 t (st12 _ k)
    subst hcs
    have k14 : ∀ t, Steps p.tables e below (T12.setTop (mkF m 182 #[.val (.int p0), .val (.int p1), .val (.int p2), .val (.int p3), .val (.int (p0 &&& (7 : Int32))), .val (.int (own_pk ((p0.toUInt32 >>> ((3 : Int32) &&& 31).toUInt32).toInt32) p1)), .val (.int (own_pk ((p0.toUInt32 >>> ((4 : Int32) &&& 31).toUInt32).toInt32) p2)), .val (.int (own_pk ((p0.toUInt32 >>> ((5 : Int32) &&& 31).toUInt32).toInt32) p3)), .val .null, .val (.int (-1 : Int32)), .val (.ref o12), .unset, .unset] [(.ref o12)])) t → Steps p.tables e below (s₁.setTop (entryFrame m #[(.int p0), (.int p1), (.int p2), (.int p3)] maxLocals)) t := fun t k => k13 t (by
        show Steps p.tables e below (T12.setTop (mkF m 171 #[.val (.int p0), .val (.int p1), .val (.int p2), .val (.int p3), .val (.int (p0 &&& (7 : Int32))), .val (.int (own_pk ((p0.toUInt32 >>> ((3 : Int32) &&& 31).toUInt32).toInt32) p1)), .val (.int (own_pk ((p0.toUInt32 >>> ((4 : Int32) &&& 31).toUInt32).toInt32) p2)), .val (.int (own_pk ((p0.toUInt32 >>> ((5 : Int32) &&& 31).toUInt32).toInt32) p3)), .val .null, .val (.int (-1 : Int32)), .unset, .unset, .unset] [(.ref o12)])) _
        refine XS.astore X12.here hx rfl (hb hby at_171) rfl rfl (l' := #[.val (.int p0), .val (.int p1), .val (.int p2), .val (.int p3), .val (.int (p0 &&& (7 : Int32))), .val (.int (own_pk ((p0.toUInt32 >>> ((3 : Int32) &&& 31).toUInt32).toInt32) p1)), .val (.int (own_pk ((p0.toUInt32 >>> ((4 : Int32) &&& 31).toUInt32).toInt32) p2)), .val (.int (own_pk ((p0.toUInt32 >>> ((5 : Int32) &&& 31).toUInt32).toInt32) p3)), .val .null, .val (.int (-1 : Int32)), .val (.ref o12), .unset, .unset]) rfl ?_
        show Steps p.tables e below (T12.setTop (mkF m 173 #[.val (.int p0), .val (.int p1), .val (.int p2), .val (.int p3), .val (.int (p0 &&& (7 : Int32))), .val (.int (own_pk ((p0.toUInt32 >>> ((3 : Int32) &&& 31).toUInt32).toInt32) p1)), .val (.int (own_pk ((p0.toUInt32 >>> ((4 : Int32) &&& 31).toUInt32).toInt32) p2)), .val (.int (own_pk ((p0.toUInt32 >>> ((5 : Int32) &&& 31).toUInt32).toInt32) p3)), .val .null, .val (.int (-1 : Int32)), .val (.ref o12), .unset, .unset] [])) _
        refine XS.aload X12.here hx rfl (hb hby at_173) rfl rfl ?_
        show Steps p.tables e below (T12.setTop (mkF m 175 #[.val (.int p0), .val (.int p1), .val (.int p2), .val (.int p3), .val (.int (p0 &&& (7 : Int32))), .val (.int (own_pk ((p0.toUInt32 >>> ((3 : Int32) &&& 31).toUInt32).toInt32) p1)), .val (.int (own_pk ((p0.toUInt32 >>> ((4 : Int32) &&& 31).toUInt32).toInt32) p2)), .val (.int (own_pk ((p0.toUInt32 >>> ((5 : Int32) &&& 31).toUInt32).toInt32) p3)), .val .null, .val (.int (-1 : Int32)), .val (.ref o12), .unset, .unset] [(.ref o12)])) _
        refine XS.ifnonnullYes X12.here hx rfl (pc0 := 175) (pc' := 180) rfl (hb hby at_175) rfl (by decide) (by decide) ?_
        show Steps p.tables e below (T12.setTop (mkF m 180 #[.val (.int p0), .val (.int p1), .val (.int p2), .val (.int p3), .val (.int (p0 &&& (7 : Int32))), .val (.int (own_pk ((p0.toUInt32 >>> ((3 : Int32) &&& 31).toUInt32).toInt32) p1)), .val (.int (own_pk ((p0.toUInt32 >>> ((4 : Int32) &&& 31).toUInt32).toInt32) p2)), .val (.int (own_pk ((p0.toUInt32 >>> ((5 : Int32) &&& 31).toUInt32).toInt32) p3)), .val .null, .val (.int (-1 : Int32)), .val (.ref o12), .unset, .unset] [])) _
        refine XS.aload X12.here hx rfl (hb hby at_180) rfl rfl ?_
        exact k)
    obtain ⟨cq15, kcq15, q15a, q15b, q15c⟩ := isOf hZ8 rfl Ex12
    obtain ⟨_, _, ⟨T15, L15, kq15, n15⟩, -, X15, ⟨Lc15, hQ15, l15, y15, z15⟩, st15⟩ := X12.virtualBack hx (y := (⟨"java/util/Optional", "isPresent", "()Z"⟩ : MethodName)) (z := (⟨"java/util/Optional", "isPresent", "()Z"⟩ : MethodName)) hown8 (mvT hZ8 (hw _ (List.mem_of_getElem? (i := 65) rfl))) (mvT hZ8 (hw _ (List.mem_of_getElem? (i := 66) rfl))) (notFace_of_selects (args := #[]) (mvT hZ8 (hw _ (List.mem_of_getElem? (i := 68) rfl)))) (mvT hZ8 (hw _ (List.mem_of_getElem? (i := 68) rfl))) (mvT hZ8 (hw _ (List.mem_of_getElem? (i := 67) rfl))) (by decide) (backOf (W := 0) (rm10n l Z a0 hw [] o12 T12.heap n0 Zs12 Fx12) hZ8 (hw _ (List.mem_of_getElem? (i := 69) rfl)) (hw _ (List.mem_of_getElem? (i := 62) rfl)) (by decide) (by decide)) q15a q15c (g := (mkF m 182 #[.val (.int p0), .val (.int p1), .val (.int p2), .val (.int p3), .val (.int (p0 &&& (7 : Int32))), .val (.int (own_pk ((p0.toUInt32 >>> ((3 : Int32) &&& 31).toUInt32).toInt32) p1)), .val (.int (own_pk ((p0.toUInt32 >>> ((4 : Int32) &&& 31).toUInt32).toInt32) p2)), .val (.int (own_pk ((p0.toUInt32 >>> ((5 : Int32) &&& 31).toUInt32).toInt32) p3)), .val .null, .val (.int (-1 : Int32)), .val (.ref o12), .unset, .unset] [(.ref o12)])) rfl (by rw [hml]; rfl) (Steps.refl _) (argsL := []) (rest := []) (lenOf pd_10 rfl) rfl (by show 2 * 0 + _ ≤ _; exact Nat.le_of_eq rfl) (hb hby at_182) (fun _ _ => ⟨rfl, rfl, (by decide : 7 + 0 ≤ _), (by decide : 62 + 0 ≤ _)⟩)
    dsimp only [Pt.U, Pt.locs, Pt.cells, Pt.slots] at X15 l15 y15 z15 st15 hQ15
    subst l15 y15 z15
    obtain ⟨rfl, N15q, e15⟩ := hQ15
    have N15 := Fr.app N12 N15q
    have k16 : ∀ t, Steps p.tables e below (T15.setTop (mkF m 185 #[.val (.int p0), .val (.int p1), .val (.int p2), .val (.int p3), .val (.int (p0 &&& (7 : Int32))), .val (.int (own_pk ((p0.toUInt32 >>> ((3 : Int32) &&& 31).toUInt32).toInt32) p1)), .val (.int (own_pk ((p0.toUInt32 >>> ((4 : Int32) &&& 31).toUInt32).toInt32) p2)), .val (.int (own_pk ((p0.toUInt32 >>> ((5 : Int32) &&& 31).toUInt32).toInt32) p3)), .val .null, .val (.int (-1 : Int32)), .val (.ref o12), .unset, .unset] [(.int (0 : Int32))])) t → Steps p.tables e below (s₁.setTop (entryFrame m #[(.int p0), (.int p1), (.int p2), (.int p3)] maxLocals)) t := fun t k => k14 t (st15.trans k)
    have hc185 : (0 : Int32) = (0 : Int32) := by decide
    have hc208 : ¬ ((-1 : Int32) = (2 : Int32)) := by decide
    have hc236 : ¬ ((-1 : Int32) = (2 : Int32)) := by decide
    have k17 : ∀ t, Steps p.tables e below (T15.setTop (mkF m 270 #[.val (.int p0), .val (.int p1), .val (.int p2), .val (.int p3), .val (.int (p0 &&& (7 : Int32))), .val (.int (own_pk ((p0.toUInt32 >>> ((3 : Int32) &&& 31).toUInt32).toInt32) p1)), .val (.int (own_pk ((p0.toUInt32 >>> ((4 : Int32) &&& 31).toUInt32).toInt32) p2)), .val (.int (own_pk ((p0.toUInt32 >>> ((5 : Int32) &&& 31).toUInt32).toInt32) p3)), .val .null, .val (.int (-1 : Int32)), .val (.ref o12), .val .null, .val .null] [(.int (1 : Int32))])) t → Steps p.tables e below (s₁.setTop (entryFrame m #[(.int p0), (.int p1), (.int p2), (.int p3)] maxLocals)) t := fun t k => k16 t (by
        show Steps p.tables e below (T15.setTop (mkF m 185 #[.val (.int p0), .val (.int p1), .val (.int p2), .val (.int p3), .val (.int (p0 &&& (7 : Int32))), .val (.int (own_pk ((p0.toUInt32 >>> ((3 : Int32) &&& 31).toUInt32).toInt32) p1)), .val (.int (own_pk ((p0.toUInt32 >>> ((4 : Int32) &&& 31).toUInt32).toInt32) p2)), .val (.int (own_pk ((p0.toUInt32 >>> ((5 : Int32) &&& 31).toUInt32).toInt32) p3)), .val .null, .val (.int (-1 : Int32)), .val (.ref o12), .unset, .unset] [(.int (0 : Int32))])) _
        refine XS.ifYes X15.here hx rfl (pc0 := 185) (pc' := 199) rfl (hb hby at_185) rfl ((if0 _ _).trans (teq hc185).1) (by decide) (by decide) ?_
        show Steps p.tables e below (T15.setTop (mkF m 199 #[.val (.int p0), .val (.int p1), .val (.int p2), .val (.int p3), .val (.int (p0 &&& (7 : Int32))), .val (.int (own_pk ((p0.toUInt32 >>> ((3 : Int32) &&& 31).toUInt32).toInt32) p1)), .val (.int (own_pk ((p0.toUInt32 >>> ((4 : Int32) &&& 31).toUInt32).toInt32) p2)), .val (.int (own_pk ((p0.toUInt32 >>> ((5 : Int32) &&& 31).toUInt32).toInt32) p3)), .val .null, .val (.int (-1 : Int32)), .val (.ref o12), .unset, .unset] [])) _
        refine XS.aconstNull X15.here hx rfl (hb hby at_199) ?_
        show Steps p.tables e below (T15.setTop (mkF m 200 #[.val (.int p0), .val (.int p1), .val (.int p2), .val (.int p3), .val (.int (p0 &&& (7 : Int32))), .val (.int (own_pk ((p0.toUInt32 >>> ((3 : Int32) &&& 31).toUInt32).toInt32) p1)), .val (.int (own_pk ((p0.toUInt32 >>> ((4 : Int32) &&& 31).toUInt32).toInt32) p2)), .val (.int (own_pk ((p0.toUInt32 >>> ((5 : Int32) &&& 31).toUInt32).toInt32) p3)), .val .null, .val (.int (-1 : Int32)), .val (.ref o12), .unset, .unset] [.null])) _
        refine XS.astore X15.here hx rfl (hb hby at_200) rfl rfl (l' := #[.val (.int p0), .val (.int p1), .val (.int p2), .val (.int p3), .val (.int (p0 &&& (7 : Int32))), .val (.int (own_pk ((p0.toUInt32 >>> ((3 : Int32) &&& 31).toUInt32).toInt32) p1)), .val (.int (own_pk ((p0.toUInt32 >>> ((4 : Int32) &&& 31).toUInt32).toInt32) p2)), .val (.int (own_pk ((p0.toUInt32 >>> ((5 : Int32) &&& 31).toUInt32).toInt32) p3)), .val .null, .val (.int (-1 : Int32)), .val (.ref o12), .val .null, .unset]) rfl ?_
        show Steps p.tables e below (T15.setTop (mkF m 202 #[.val (.int p0), .val (.int p1), .val (.int p2), .val (.int p3), .val (.int (p0 &&& (7 : Int32))), .val (.int (own_pk ((p0.toUInt32 >>> ((3 : Int32) &&& 31).toUInt32).toInt32) p1)), .val (.int (own_pk ((p0.toUInt32 >>> ((4 : Int32) &&& 31).toUInt32).toInt32) p2)), .val (.int (own_pk ((p0.toUInt32 >>> ((5 : Int32) &&& 31).toUInt32).toInt32) p3)), .val .null, .val (.int (-1 : Int32)), .val (.ref o12), .val .null, .unset] [])) _
        refine XS.aconstNull X15.here hx rfl (hb hby at_202) ?_
        show Steps p.tables e below (T15.setTop (mkF m 203 #[.val (.int p0), .val (.int p1), .val (.int p2), .val (.int p3), .val (.int (p0 &&& (7 : Int32))), .val (.int (own_pk ((p0.toUInt32 >>> ((3 : Int32) &&& 31).toUInt32).toInt32) p1)), .val (.int (own_pk ((p0.toUInt32 >>> ((4 : Int32) &&& 31).toUInt32).toInt32) p2)), .val (.int (own_pk ((p0.toUInt32 >>> ((5 : Int32) &&& 31).toUInt32).toInt32) p3)), .val .null, .val (.int (-1 : Int32)), .val (.ref o12), .val .null, .unset] [.null])) _
        refine XS.astore X15.here hx rfl (hb hby at_203) rfl rfl (l' := #[.val (.int p0), .val (.int p1), .val (.int p2), .val (.int p3), .val (.int (p0 &&& (7 : Int32))), .val (.int (own_pk ((p0.toUInt32 >>> ((3 : Int32) &&& 31).toUInt32).toInt32) p1)), .val (.int (own_pk ((p0.toUInt32 >>> ((4 : Int32) &&& 31).toUInt32).toInt32) p2)), .val (.int (own_pk ((p0.toUInt32 >>> ((5 : Int32) &&& 31).toUInt32).toInt32) p3)), .val .null, .val (.int (-1 : Int32)), .val (.ref o12), .val .null, .val .null]) rfl ?_
        show Steps p.tables e below (T15.setTop (mkF m 205 #[.val (.int p0), .val (.int p1), .val (.int p2), .val (.int p3), .val (.int (p0 &&& (7 : Int32))), .val (.int (own_pk ((p0.toUInt32 >>> ((3 : Int32) &&& 31).toUInt32).toInt32) p1)), .val (.int (own_pk ((p0.toUInt32 >>> ((4 : Int32) &&& 31).toUInt32).toInt32) p2)), .val (.int (own_pk ((p0.toUInt32 >>> ((5 : Int32) &&& 31).toUInt32).toInt32) p3)), .val .null, .val (.int (-1 : Int32)), .val (.ref o12), .val .null, .val .null] [])) _
        refine XS.iload X15.here hx rfl (hb hby at_205) rfl ?_
        show Steps p.tables e below (T15.setTop (mkF m 207 #[.val (.int p0), .val (.int p1), .val (.int p2), .val (.int p3), .val (.int (p0 &&& (7 : Int32))), .val (.int (own_pk ((p0.toUInt32 >>> ((3 : Int32) &&& 31).toUInt32).toInt32) p1)), .val (.int (own_pk ((p0.toUInt32 >>> ((4 : Int32) &&& 31).toUInt32).toInt32) p2)), .val (.int (own_pk ((p0.toUInt32 >>> ((5 : Int32) &&& 31).toUInt32).toInt32) p3)), .val .null, .val (.int (-1 : Int32)), .val (.ref o12), .val .null, .val .null] [(.int (-1 : Int32))])) _
        refine XS.iconst X15.here hx rfl (hb hby at_207) ?_
        show Steps p.tables e below (T15.setTop (mkF m 208 #[.val (.int p0), .val (.int p1), .val (.int p2), .val (.int p3), .val (.int (p0 &&& (7 : Int32))), .val (.int (own_pk ((p0.toUInt32 >>> ((3 : Int32) &&& 31).toUInt32).toInt32) p1)), .val (.int (own_pk ((p0.toUInt32 >>> ((4 : Int32) &&& 31).toUInt32).toInt32) p2)), .val (.int (own_pk ((p0.toUInt32 >>> ((5 : Int32) &&& 31).toUInt32).toInt32) p3)), .val .null, .val (.int (-1 : Int32)), .val (.ref o12), .val .null, .val .null] [(.int (2 : Int32)), (.int (-1 : Int32))])) _
        refine XS.icmpYes X15.here hx rfl (pc0 := 208) (pc' := 233) rfl (hb hby at_208) rfl (feq hc208).2 (by decide) (by decide) ?_
        show Steps p.tables e below (T15.setTop (mkF m 233 #[.val (.int p0), .val (.int p1), .val (.int p2), .val (.int p3), .val (.int (p0 &&& (7 : Int32))), .val (.int (own_pk ((p0.toUInt32 >>> ((3 : Int32) &&& 31).toUInt32).toInt32) p1)), .val (.int (own_pk ((p0.toUInt32 >>> ((4 : Int32) &&& 31).toUInt32).toInt32) p2)), .val (.int (own_pk ((p0.toUInt32 >>> ((5 : Int32) &&& 31).toUInt32).toInt32) p3)), .val .null, .val (.int (-1 : Int32)), .val (.ref o12), .val .null, .val .null] [])) _
        refine XS.iload X15.here hx rfl (hb hby at_233) rfl ?_
        show Steps p.tables e below (T15.setTop (mkF m 235 #[.val (.int p0), .val (.int p1), .val (.int p2), .val (.int p3), .val (.int (p0 &&& (7 : Int32))), .val (.int (own_pk ((p0.toUInt32 >>> ((3 : Int32) &&& 31).toUInt32).toInt32) p1)), .val (.int (own_pk ((p0.toUInt32 >>> ((4 : Int32) &&& 31).toUInt32).toInt32) p2)), .val (.int (own_pk ((p0.toUInt32 >>> ((5 : Int32) &&& 31).toUInt32).toInt32) p3)), .val .null, .val (.int (-1 : Int32)), .val (.ref o12), .val .null, .val .null] [(.int (-1 : Int32))])) _
        refine XS.iconst X15.here hx rfl (hb hby at_235) ?_
        show Steps p.tables e below (T15.setTop (mkF m 236 #[.val (.int p0), .val (.int p1), .val (.int p2), .val (.int p3), .val (.int (p0 &&& (7 : Int32))), .val (.int (own_pk ((p0.toUInt32 >>> ((3 : Int32) &&& 31).toUInt32).toInt32) p1)), .val (.int (own_pk ((p0.toUInt32 >>> ((4 : Int32) &&& 31).toUInt32).toInt32) p2)), .val (.int (own_pk ((p0.toUInt32 >>> ((5 : Int32) &&& 31).toUInt32).toInt32) p3)), .val .null, .val (.int (-1 : Int32)), .val (.ref o12), .val .null, .val .null] [(.int (2 : Int32)), (.int (-1 : Int32))])) _
        refine XS.icmpYes X15.here hx rfl (pc0 := 236) (pc' := 258) rfl (hb hby at_236) rfl (feq hc236).2 (by decide) (by decide) ?_
        show Steps p.tables e below (T15.setTop (mkF m 258 #[.val (.int p0), .val (.int p1), .val (.int p2), .val (.int p3), .val (.int (p0 &&& (7 : Int32))), .val (.int (own_pk ((p0.toUInt32 >>> ((3 : Int32) &&& 31).toUInt32).toInt32) p1)), .val (.int (own_pk ((p0.toUInt32 >>> ((4 : Int32) &&& 31).toUInt32).toInt32) p2)), .val (.int (own_pk ((p0.toUInt32 >>> ((5 : Int32) &&& 31).toUInt32).toInt32) p3)), .val .null, .val (.int (-1 : Int32)), .val (.ref o12), .val .null, .val .null] [])) _
        refine XS.aload X15.here hx rfl (hb hby at_258) rfl rfl ?_
        show Steps p.tables e below (T15.setTop (mkF m 260 #[.val (.int p0), .val (.int p1), .val (.int p2), .val (.int p3), .val (.int (p0 &&& (7 : Int32))), .val (.int (own_pk ((p0.toUInt32 >>> ((3 : Int32) &&& 31).toUInt32).toInt32) p1)), .val (.int (own_pk ((p0.toUInt32 >>> ((4 : Int32) &&& 31).toUInt32).toInt32) p2)), .val (.int (own_pk ((p0.toUInt32 >>> ((5 : Int32) &&& 31).toUInt32).toInt32) p3)), .val .null, .val (.int (-1 : Int32)), .val (.ref o12), .val .null, .val .null] [.null])) _
        refine XS.aload X15.here hx rfl (hb hby at_260) rfl rfl ?_
        show Steps p.tables e below (T15.setTop (mkF m 262 #[.val (.int p0), .val (.int p1), .val (.int p2), .val (.int p3), .val (.int (p0 &&& (7 : Int32))), .val (.int (own_pk ((p0.toUInt32 >>> ((3 : Int32) &&& 31).toUInt32).toInt32) p1)), .val (.int (own_pk ((p0.toUInt32 >>> ((4 : Int32) &&& 31).toUInt32).toInt32) p2)), .val (.int (own_pk ((p0.toUInt32 >>> ((5 : Int32) &&& 31).toUInt32).toInt32) p3)), .val .null, .val (.int (-1 : Int32)), .val (.ref o12), .val .null, .val .null] [.null, .null])) _
        refine Jvm.RoadKit.acmp (g := (mkF m 262 #[.val (.int p0), .val (.int p1), .val (.int p2), .val (.int p3), .val (.int (p0 &&& (7 : Int32))), .val (.int (own_pk ((p0.toUInt32 >>> ((3 : Int32) &&& 31).toUInt32).toInt32) p1)), .val (.int (own_pk ((p0.toUInt32 >>> ((4 : Int32) &&& 31).toUInt32).toInt32) p2)), .val (.int (own_pk ((p0.toUInt32 >>> ((5 : Int32) &&& 31).toUInt32).toInt32) p3)), .val .null, .val (.int (-1 : Int32)), .val (.ref o12), .val .null, .val .null] [.null, .null])) X15 hx rfl rfl rfl (pc0 := 262) (pc' := 265) (same := true) rfl (hb hby at_262) rfl (decide_eq_true rfl) (by decide) (by decide) ?_
        show Steps p.tables e below (T15.setTop (mkF m 265 #[.val (.int p0), .val (.int p1), .val (.int p2), .val (.int p3), .val (.int (p0 &&& (7 : Int32))), .val (.int (own_pk ((p0.toUInt32 >>> ((3 : Int32) &&& 31).toUInt32).toInt32) p1)), .val (.int (own_pk ((p0.toUInt32 >>> ((4 : Int32) &&& 31).toUInt32).toInt32) p2)), .val (.int (own_pk ((p0.toUInt32 >>> ((5 : Int32) &&& 31).toUInt32).toInt32) p3)), .val .null, .val (.int (-1 : Int32)), .val (.ref o12), .val .null, .val .null] [])) _
        refine XS.iconst X15.here hx rfl (hb hby at_265) ?_
        show Steps p.tables e below (T15.setTop (mkF m 266 #[.val (.int p0), .val (.int p1), .val (.int p2), .val (.int p3), .val (.int (p0 &&& (7 : Int32))), .val (.int (own_pk ((p0.toUInt32 >>> ((3 : Int32) &&& 31).toUInt32).toInt32) p1)), .val (.int (own_pk ((p0.toUInt32 >>> ((4 : Int32) &&& 31).toUInt32).toInt32) p2)), .val (.int (own_pk ((p0.toUInt32 >>> ((5 : Int32) &&& 31).toUInt32).toInt32) p3)), .val .null, .val (.int (-1 : Int32)), .val (.ref o12), .val .null, .val .null] [(.int (1 : Int32))])) _
        refine XS.goto X15.here hx rfl (pc0 := 266) (pc' := 270) rfl (hb hby at_266) (by decide) (by decide) ?_
        exact k)
    obtain ⟨fs, hr, hrun, hended, w1, w2, w3, w4⟩ := X15.leaveW (s := s) (vm₁ := T8.vm) Sn8 (by rw [e15]; exact (Nat.le_trans (Nat.le_refl _) K12.1)) (v := (some (.int (1 : Int32)))) (fun h => by rw [Bd.returns] at h; cases h)
    refine ⟨_, _, k17 _ ?_, hrun, hended, _, _, rfl, ?_, w1, w2, w3, w4.mono (by decide) (by decide)⟩
    · exact retN X15 hx (t := .boolean) Bd.returns (by simp) (hb hby at_270) hr
    · show Q0 Z p0 p1 p2 p3 wv cl w_ZH w_EN c_ZH t_ZH c_EN t_EN k_ZH k_EN w_EMPTY G1 G3 h0 n0 _ T15.heap _
      rw [e15]
      exact ⟨rfl, N15⟩
  · have k18 : ∀ t, Steps p.tables e below (T8.setTop (mkF m 51 #[.val (.int p0), .val (.int p1), .val (.int p2), .val (.int p3), .val (.int (p0 &&& (7 : Int32))), .val (.int (own_pk ((p0.toUInt32 >>> ((3 : Int32) &&& 31).toUInt32).toInt32) p1)), .val (.int (own_pk ((p0.toUInt32 >>> ((4 : Int32) &&& 31).toUInt32).toInt32) p2)), .val (.int (own_pk ((p0.toUInt32 >>> ((5 : Int32) &&& 31).toUInt32).toInt32) p3)), .unset, .unset, .unset, .unset, .unset] [(.int (3 : Int32)), (.int (p0 &&& (7 : Int32)))])) t → Steps p.tables e below (s₁.setTop (entryFrame m #[(.int p0), (.int p1), (.int p2), (.int p3)] maxLocals)) t := fun t k => k10 t (by
        show Steps p.tables e below (T8.setTop (mkF m 36 #[.val (.int p0), .val (.int p1), .val (.int p2), .val (.int p3), .val (.int (p0 &&& (7 : Int32))), .val (.int (own_pk ((p0.toUInt32 >>> ((3 : Int32) &&& 31).toUInt32).toInt32) p1)), .val (.int (own_pk ((p0.toUInt32 >>> ((4 : Int32) &&& 31).toUInt32).toInt32) p2)), .val (.int (own_pk ((p0.toUInt32 >>> ((5 : Int32) &&& 31).toUInt32).toInt32) p3)), .unset, .unset, .unset, .unset, .unset] [(.int (4 : Int32)), (.int (p0 &&& (7 : Int32)))])) _
        refine XS.icmpYes X8.here hx rfl (pc0 := 36) (pc' := 48) rfl (hb hby at_36) rfl (feq hc36).2 (by decide) (by decide) ?_
        show Steps p.tables e below (T8.setTop (mkF m 48 #[.val (.int p0), .val (.int p1), .val (.int p2), .val (.int p3), .val (.int (p0 &&& (7 : Int32))), .val (.int (own_pk ((p0.toUInt32 >>> ((3 : Int32) &&& 31).toUInt32).toInt32) p1)), .val (.int (own_pk ((p0.toUInt32 >>> ((4 : Int32) &&& 31).toUInt32).toInt32) p2)), .val (.int (own_pk ((p0.toUInt32 >>> ((5 : Int32) &&& 31).toUInt32).toInt32) p3)), .unset, .unset, .unset, .unset, .unset] [])) _
        refine XS.iload X8.here hx rfl (hb hby at_48) rfl ?_
        show Steps p.tables e below (T8.setTop (mkF m 50 #[.val (.int p0), .val (.int p1), .val (.int p2), .val (.int p3), .val (.int (p0 &&& (7 : Int32))), .val (.int (own_pk ((p0.toUInt32 >>> ((3 : Int32) &&& 31).toUInt32).toInt32) p1)), .val (.int (own_pk ((p0.toUInt32 >>> ((4 : Int32) &&& 31).toUInt32).toInt32) p2)), .val (.int (own_pk ((p0.toUInt32 >>> ((5 : Int32) &&& 31).toUInt32).toInt32) p3)), .unset, .unset, .unset, .unset, .unset] [(.int (p0 &&& (7 : Int32)))])) _
        refine XS.iconst X8.here hx rfl (hb hby at_50) ?_
        exact k)
    by_cases hc51 : (3 : Int32) < (p0 &&& (7 : Int32))
    · have hc64 : ¬ ((2 : Int32) = (0 : Int32)) := by decide
      have hc85 : ¬ ((2 : Int32) = (1 : Int32)) := by decide
      have hc111 : (2 : Int32) = (2 : Int32) := by decide
      have k19 : ∀ t, Steps p.tables e below (T8.setTop (mkF m 114 #[.val (.int p0), .val (.int p1), .val (.int p2), .val (.int p3), .val (.int (p0 &&& (7 : Int32))), .val (.int (own_pk ((p0.toUInt32 >>> ((3 : Int32) &&& 31).toUInt32).toInt32) p1)), .val (.int (own_pk ((p0.toUInt32 >>> ((4 : Int32) &&& 31).toUInt32).toInt32) p2)), .val (.int (own_pk ((p0.toUInt32 >>> ((5 : Int32) &&& 31).toUInt32).toInt32) p3)), .unset, .val (.int (2 : Int32)), .unset, .unset, .unset] [])) t → Steps p.tables e below (s₁.setTop (entryFrame m #[(.int p0), (.int p1), (.int p2), (.int p3)] maxLocals)) t := fun t k => k18 t (by
          show Steps p.tables e below (T8.setTop (mkF m 51 #[.val (.int p0), .val (.int p1), .val (.int p2), .val (.int p3), .val (.int (p0 &&& (7 : Int32))), .val (.int (own_pk ((p0.toUInt32 >>> ((3 : Int32) &&& 31).toUInt32).toInt32) p1)), .val (.int (own_pk ((p0.toUInt32 >>> ((4 : Int32) &&& 31).toUInt32).toInt32) p2)), .val (.int (own_pk ((p0.toUInt32 >>> ((5 : Int32) &&& 31).toUInt32).toInt32) p3)), .unset, .unset, .unset, .unset, .unset] [(.int (3 : Int32)), (.int (p0 &&& (7 : Int32)))])) _
          refine XS.icmpNo X8.here hx rfl (hb hby at_51) rfl (tlt hc51).2.2.2 ?_
          show Steps p.tables e below (T8.setTop (mkF m 54 #[.val (.int p0), .val (.int p1), .val (.int p2), .val (.int p3), .val (.int (p0 &&& (7 : Int32))), .val (.int (own_pk ((p0.toUInt32 >>> ((3 : Int32) &&& 31).toUInt32).toInt32) p1)), .val (.int (own_pk ((p0.toUInt32 >>> ((4 : Int32) &&& 31).toUInt32).toInt32) p2)), .val (.int (own_pk ((p0.toUInt32 >>> ((5 : Int32) &&& 31).toUInt32).toInt32) p3)), .unset, .unset, .unset, .unset, .unset] [])) _
          refine XS.iconst X8.here hx rfl (hb hby at_54) ?_
          show Steps p.tables e below (T8.setTop (mkF m 55 #[.val (.int p0), .val (.int p1), .val (.int p2), .val (.int p3), .val (.int (p0 &&& (7 : Int32))), .val (.int (own_pk ((p0.toUInt32 >>> ((3 : Int32) &&& 31).toUInt32).toInt32) p1)), .val (.int (own_pk ((p0.toUInt32 >>> ((4 : Int32) &&& 31).toUInt32).toInt32) p2)), .val (.int (own_pk ((p0.toUInt32 >>> ((5 : Int32) &&& 31).toUInt32).toInt32) p3)), .unset, .unset, .unset, .unset, .unset] [(.int (2 : Int32))])) _
          refine XS.goto X8.here hx rfl (pc0 := 55) (pc' := 60) rfl (hb hby at_55) (by decide) (by decide) ?_
          show Steps p.tables e below (T8.setTop (mkF m 60 #[.val (.int p0), .val (.int p1), .val (.int p2), .val (.int p3), .val (.int (p0 &&& (7 : Int32))), .val (.int (own_pk ((p0.toUInt32 >>> ((3 : Int32) &&& 31).toUInt32).toInt32) p1)), .val (.int (own_pk ((p0.toUInt32 >>> ((4 : Int32) &&& 31).toUInt32).toInt32) p2)), .val (.int (own_pk ((p0.toUInt32 >>> ((5 : Int32) &&& 31).toUInt32).toInt32) p3)), .unset, .unset, .unset, .unset, .unset] [(.int (2 : Int32))])) _
          refine XS.istore X8.here hx rfl (hb hby at_60) rfl (l' := #[.val (.int p0), .val (.int p1), .val (.int p2), .val (.int p3), .val (.int (p0 &&& (7 : Int32))), .val (.int (own_pk ((p0.toUInt32 >>> ((3 : Int32) &&& 31).toUInt32).toInt32) p1)), .val (.int (own_pk ((p0.toUInt32 >>> ((4 : Int32) &&& 31).toUInt32).toInt32) p2)), .val (.int (own_pk ((p0.toUInt32 >>> ((5 : Int32) &&& 31).toUInt32).toInt32) p3)), .unset, .val (.int (2 : Int32)), .unset, .unset, .unset]) rfl ?_
          show Steps p.tables e below (T8.setTop (mkF m 62 #[.val (.int p0), .val (.int p1), .val (.int p2), .val (.int p3), .val (.int (p0 &&& (7 : Int32))), .val (.int (own_pk ((p0.toUInt32 >>> ((3 : Int32) &&& 31).toUInt32).toInt32) p1)), .val (.int (own_pk ((p0.toUInt32 >>> ((4 : Int32) &&& 31).toUInt32).toInt32) p2)), .val (.int (own_pk ((p0.toUInt32 >>> ((5 : Int32) &&& 31).toUInt32).toInt32) p3)), .unset, .val (.int (2 : Int32)), .unset, .unset, .unset] [])) _
          refine XS.iload X8.here hx rfl (hb hby at_62) rfl ?_
          show Steps p.tables e below (T8.setTop (mkF m 64 #[.val (.int p0), .val (.int p1), .val (.int p2), .val (.int p3), .val (.int (p0 &&& (7 : Int32))), .val (.int (own_pk ((p0.toUInt32 >>> ((3 : Int32) &&& 31).toUInt32).toInt32) p1)), .val (.int (own_pk ((p0.toUInt32 >>> ((4 : Int32) &&& 31).toUInt32).toInt32) p2)), .val (.int (own_pk ((p0.toUInt32 >>> ((5 : Int32) &&& 31).toUInt32).toInt32) p3)), .unset, .val (.int (2 : Int32)), .unset, .unset, .unset] [(.int (2 : Int32))])) _
          refine XS.ifYes X8.here hx rfl (pc0 := 64) (pc' := 82) rfl (hb hby at_64) rfl ((if0 _ _).trans (feq hc64).2) (by decide) (by decide) ?_
          show Steps p.tables e below (T8.setTop (mkF m 82 #[.val (.int p0), .val (.int p1), .val (.int p2), .val (.int p3), .val (.int (p0 &&& (7 : Int32))), .val (.int (own_pk ((p0.toUInt32 >>> ((3 : Int32) &&& 31).toUInt32).toInt32) p1)), .val (.int (own_pk ((p0.toUInt32 >>> ((4 : Int32) &&& 31).toUInt32).toInt32) p2)), .val (.int (own_pk ((p0.toUInt32 >>> ((5 : Int32) &&& 31).toUInt32).toInt32) p3)), .unset, .val (.int (2 : Int32)), .unset, .unset, .unset] [])) _
          refine XS.iload X8.here hx rfl (hb hby at_82) rfl ?_
          show Steps p.tables e below (T8.setTop (mkF m 84 #[.val (.int p0), .val (.int p1), .val (.int p2), .val (.int p3), .val (.int (p0 &&& (7 : Int32))), .val (.int (own_pk ((p0.toUInt32 >>> ((3 : Int32) &&& 31).toUInt32).toInt32) p1)), .val (.int (own_pk ((p0.toUInt32 >>> ((4 : Int32) &&& 31).toUInt32).toInt32) p2)), .val (.int (own_pk ((p0.toUInt32 >>> ((5 : Int32) &&& 31).toUInt32).toInt32) p3)), .unset, .val (.int (2 : Int32)), .unset, .unset, .unset] [(.int (2 : Int32))])) _
          refine XS.iconst X8.here hx rfl (hb hby at_84) ?_
          show Steps p.tables e below (T8.setTop (mkF m 85 #[.val (.int p0), .val (.int p1), .val (.int p2), .val (.int p3), .val (.int (p0 &&& (7 : Int32))), .val (.int (own_pk ((p0.toUInt32 >>> ((3 : Int32) &&& 31).toUInt32).toInt32) p1)), .val (.int (own_pk ((p0.toUInt32 >>> ((4 : Int32) &&& 31).toUInt32).toInt32) p2)), .val (.int (own_pk ((p0.toUInt32 >>> ((5 : Int32) &&& 31).toUInt32).toInt32) p3)), .unset, .val (.int (2 : Int32)), .unset, .unset, .unset] [(.int (1 : Int32)), (.int (2 : Int32))])) _
          refine XS.icmpYes X8.here hx rfl (pc0 := 85) (pc' := 108) rfl (hb hby at_85) rfl (feq hc85).2 (by decide) (by decide) ?_
          show Steps p.tables e below (T8.setTop (mkF m 108 #[.val (.int p0), .val (.int p1), .val (.int p2), .val (.int p3), .val (.int (p0 &&& (7 : Int32))), .val (.int (own_pk ((p0.toUInt32 >>> ((3 : Int32) &&& 31).toUInt32).toInt32) p1)), .val (.int (own_pk ((p0.toUInt32 >>> ((4 : Int32) &&& 31).toUInt32).toInt32) p2)), .val (.int (own_pk ((p0.toUInt32 >>> ((5 : Int32) &&& 31).toUInt32).toInt32) p3)), .unset, .val (.int (2 : Int32)), .unset, .unset, .unset] [])) _
          refine XS.iload X8.here hx rfl (hb hby at_108) rfl ?_
          show Steps p.tables e below (T8.setTop (mkF m 110 #[.val (.int p0), .val (.int p1), .val (.int p2), .val (.int p3), .val (.int (p0 &&& (7 : Int32))), .val (.int (own_pk ((p0.toUInt32 >>> ((3 : Int32) &&& 31).toUInt32).toInt32) p1)), .val (.int (own_pk ((p0.toUInt32 >>> ((4 : Int32) &&& 31).toUInt32).toInt32) p2)), .val (.int (own_pk ((p0.toUInt32 >>> ((5 : Int32) &&& 31).toUInt32).toInt32) p3)), .unset, .val (.int (2 : Int32)), .unset, .unset, .unset] [(.int (2 : Int32))])) _
          refine XS.iconst X8.here hx rfl (hb hby at_110) ?_
          show Steps p.tables e below (T8.setTop (mkF m 111 #[.val (.int p0), .val (.int p1), .val (.int p2), .val (.int p3), .val (.int (p0 &&& (7 : Int32))), .val (.int (own_pk ((p0.toUInt32 >>> ((3 : Int32) &&& 31).toUInt32).toInt32) p1)), .val (.int (own_pk ((p0.toUInt32 >>> ((4 : Int32) &&& 31).toUInt32).toInt32) p2)), .val (.int (own_pk ((p0.toUInt32 >>> ((5 : Int32) &&& 31).toUInt32).toInt32) p3)), .unset, .val (.int (2 : Int32)), .unset, .unset, .unset] [(.int (2 : Int32)), (.int (2 : Int32))])) _
          refine XS.icmpNo X8.here hx rfl (hb hby at_111) rfl (teq hc111).2 ?_
          exact k)
      obtain ⟨T20, h20, X20, e20, E20, A20, D20, -, st20⟩ := newO X8 hx hZ8 hown8 (hw _ (List.mem_of_getElem? (i := 4) rfl)) (hw _ (List.mem_of_getElem? (i := 5) rfl)) (hw _ (List.mem_of_getElem? (i := 6) rfl)) rfl (g := (mkF m 114 #[.val (.int p0), .val (.int p1), .val (.int p2), .val (.int p3), .val (.int (p0 &&& (7 : Int32))), .val (.int (own_pk ((p0.toUInt32 >>> ((3 : Int32) &&& 31).toUInt32).toInt32) p1)), .val (.int (own_pk ((p0.toUInt32 >>> ((4 : Int32) &&& 31).toUInt32).toInt32) p2)), .val (.int (own_pk ((p0.toUInt32 >>> ((5 : Int32) &&& 31).toUInt32).toInt32) p3)), .unset, .val (.int (2 : Int32)), .unset, .unset, .unset] [])) rfl (hb hby at_114) (by decide) (by decide)
      obtain ⟨b20, g20⟩ : ∃ z, z = T8.heap.size := ⟨_, rfl⟩
      rw [← g20] at A20 D20 st20
      have sz_b20 : h0.size ≤ b20 := Nat.le_trans ((((Keep.refl h0 []).ext Ex2).ext Ex5).ext Ex8).1 (Nat.le_of_eq g20.symm)
      have F_value_b20 : Fld Z h20 b20 "java/lang/String" "value" "[B" .null := D20 (Or.inr (hw _ (List.mem_of_getElem? (i := 20) rfl))) (ty := (.array .byte)) (by decide)
      have F_coder_b20 : Fld Z h20 b20 "java/lang/String" "coder" "B" (.int (0 : Int32)) := D20 (Or.inr (hw _ (List.mem_of_getElem? (i := 21) rfl))) (ty := .byte) (by decide)
      have g_b20 : n0 ≤ b20 := Nat.le_trans Zs8 (Nat.le_of_eq g20.symm)
      have Zs20 : n0 ≤ h20.size := Nat.le_trans Zs8 E20.1
      have k21 : ∀ t, Steps p.tables e below (T20.setTop (mkF m 117 #[.val (.int p0), .val (.int p1), .val (.int p2), .val (.int p3), .val (.int (p0 &&& (7 : Int32))), .val (.int (own_pk ((p0.toUInt32 >>> ((3 : Int32) &&& 31).toUInt32).toInt32) p1)), .val (.int (own_pk ((p0.toUInt32 >>> ((4 : Int32) &&& 31).toUInt32).toInt32) p2)), .val (.int (own_pk ((p0.toUInt32 >>> ((5 : Int32) &&& 31).toUInt32).toInt32) p3)), .unset, .val (.int (2 : Int32)), .unset, .unset, .unset] [(.ref b20)])) t → Steps p.tables e below (s₁.setTop (entryFrame m #[(.int p0), (.int p1), (.int p2), (.int p3)] maxLocals)) t := fun t k => k19 t (st20 _ k)
      have k22 : ∀ t, Steps p.tables e below (T20.setTop (mkF m 119 #[.val (.int p0), .val (.int p1), .val (.int p2), .val (.int p3), .val (.int (p0 &&& (7 : Int32))), .val (.int (own_pk ((p0.toUInt32 >>> ((3 : Int32) &&& 31).toUInt32).toInt32) p1)), .val (.int (own_pk ((p0.toUInt32 >>> ((4 : Int32) &&& 31).toUInt32).toInt32) p2)), .val (.int (own_pk ((p0.toUInt32 >>> ((5 : Int32) &&& 31).toUInt32).toInt32) p3)), .unset, .val (.int (2 : Int32)), .unset, .unset, .unset] [(.int (2 : Int32)), (.ref b20), (.ref b20)])) t → Steps p.tables e below (s₁.setTop (entryFrame m #[(.int p0), (.int p1), (.int p2), (.int p3)] maxLocals)) t := fun t k => k21 t (by
          show Steps p.tables e below (T20.setTop (mkF m 117 #[.val (.int p0), .val (.int p1), .val (.int p2), .val (.int p3), .val (.int (p0 &&& (7 : Int32))), .val (.int (own_pk ((p0.toUInt32 >>> ((3 : Int32) &&& 31).toUInt32).toInt32) p1)), .val (.int (own_pk ((p0.toUInt32 >>> ((4 : Int32) &&& 31).toUInt32).toInt32) p2)), .val (.int (own_pk ((p0.toUInt32 >>> ((5 : Int32) &&& 31).toUInt32).toInt32) p3)), .unset, .val (.int (2 : Int32)), .unset, .unset, .unset] [(.ref b20)])) _
          refine XS.dup X20.here hx rfl (hb hby at_117) rfl rfl ?_
          show Steps p.tables e below (T20.setTop (mkF m 118 #[.val (.int p0), .val (.int p1), .val (.int p2), .val (.int p3), .val (.int (p0 &&& (7 : Int32))), .val (.int (own_pk ((p0.toUInt32 >>> ((3 : Int32) &&& 31).toUInt32).toInt32) p1)), .val (.int (own_pk ((p0.toUInt32 >>> ((4 : Int32) &&& 31).toUInt32).toInt32) p2)), .val (.int (own_pk ((p0.toUInt32 >>> ((5 : Int32) &&& 31).toUInt32).toInt32) p3)), .unset, .val (.int (2 : Int32)), .unset, .unset, .unset] [(.ref b20), (.ref b20)])) _
          refine XS.iconst X20.here hx rfl (hb hby at_118) ?_
          exact k)
      obtain ⟨T23, h23, ka23, X23, e23, E23, A23, st23⟩ := newP X20 hx hZ8 (hw _ (List.mem_of_getElem? (i := 7) rfl)) e20 (g := (mkF m 119 #[.val (.int p0), .val (.int p1), .val (.int p2), .val (.int p3), .val (.int (p0 &&& (7 : Int32))), .val (.int (own_pk ((p0.toUInt32 >>> ((3 : Int32) &&& 31).toUInt32).toInt32) p1)), .val (.int (own_pk ((p0.toUInt32 >>> ((4 : Int32) &&& 31).toUInt32).toInt32) p2)), .val (.int (own_pk ((p0.toUInt32 >>> ((5 : Int32) &&& 31).toUInt32).toInt32) p3)), .unset, .val (.int (2 : Int32)), .unset, .unset, .unset] [(.int (2 : Int32)), (.ref b20), (.ref b20)])) rfl (hb hby at_119) rfl (by decide) (cap := 2) (by decide) (by decide) (by decide) (by decide)
      obtain ⟨b23, g23⟩ : ∃ z, z = h20.size := ⟨_, rfl⟩
      rw [← g23] at A23 st23
      have ne_b20_b23 : b20 ≠ b23 := Nat.ne_of_lt (Nat.lt_of_lt_of_le F_value_b20.lt (Nat.le_of_eq g23.symm))
      have V_b23 : Arv Z h23 b23 ka23 .char (2 : Int32) [(.int (0 : Int32)), (.int (0 : Int32))] (.int (0 : Int32)) := (Arv.new A23 (by decide)).pad (pad_rep [] (.int (0 : Int32)) 2)
      have g_b23 : n0 ≤ b23 := Nat.le_trans Zs20 (Nat.le_of_eq g23.symm)
      have sz_b23 : h0.size ≤ b23 := Nat.le_trans (((((Keep.refl h0 []).ext Ex2).ext Ex5).ext Ex8).ext E20).1 (Nat.le_of_eq g23.symm)
      have Zs23 : n0 ≤ h23.size := Nat.le_trans Zs20 E23.1
      have k24 : ∀ t, Steps p.tables e below (T23.setTop (mkF m 121 #[.val (.int p0), .val (.int p1), .val (.int p2), .val (.int p3), .val (.int (p0 &&& (7 : Int32))), .val (.int (own_pk ((p0.toUInt32 >>> ((3 : Int32) &&& 31).toUInt32).toInt32) p1)), .val (.int (own_pk ((p0.toUInt32 >>> ((4 : Int32) &&& 31).toUInt32).toInt32) p2)), .val (.int (own_pk ((p0.toUInt32 >>> ((5 : Int32) &&& 31).toUInt32).toInt32) p3)), .unset, .val (.int (2 : Int32)), .unset, .unset, .unset] [(.ref b23), (.ref b20), (.ref b20)])) t → Steps p.tables e below (s₁.setTop (entryFrame m #[(.int p0), (.int p1), (.int p2), (.int p3)] maxLocals)) t := fun t k => k22 t (st23 _ k)
      have k25 : ∀ t, Steps p.tables e below (T23.setTop (mkF m 125 #[.val (.int p0), .val (.int p1), .val (.int p2), .val (.int p3), .val (.int (p0 &&& (7 : Int32))), .val (.int (own_pk ((p0.toUInt32 >>> ((3 : Int32) &&& 31).toUInt32).toInt32) p1)), .val (.int (own_pk ((p0.toUInt32 >>> ((4 : Int32) &&& 31).toUInt32).toInt32) p2)), .val (.int (own_pk ((p0.toUInt32 >>> ((5 : Int32) &&& 31).toUInt32).toInt32) p3)), .unset, .val (.int (2 : Int32)), .unset, .unset, .unset] [(.int (own_pk ((p0.toUInt32 >>> ((3 : Int32) &&& 31).toUInt32).toInt32) p1)), (.int (0 : Int32)), (.ref b23), (.ref b23), (.ref b20), (.ref b20)])) t → Steps p.tables e below (s₁.setTop (entryFrame m #[(.int p0), (.int p1), (.int p2), (.int p3)] maxLocals)) t := fun t k => k24 t (by
          show Steps p.tables e below (T23.setTop (mkF m 121 #[.val (.int p0), .val (.int p1), .val (.int p2), .val (.int p3), .val (.int (p0 &&& (7 : Int32))), .val (.int (own_pk ((p0.toUInt32 >>> ((3 : Int32) &&& 31).toUInt32).toInt32) p1)), .val (.int (own_pk ((p0.toUInt32 >>> ((4 : Int32) &&& 31).toUInt32).toInt32) p2)), .val (.int (own_pk ((p0.toUInt32 >>> ((5 : Int32) &&& 31).toUInt32).toInt32) p3)), .unset, .val (.int (2 : Int32)), .unset, .unset, .unset] [(.ref b23), (.ref b20), (.ref b20)])) _
          refine XS.dup X23.here hx rfl (hb hby at_121) rfl rfl ?_
          show Steps p.tables e below (T23.setTop (mkF m 122 #[.val (.int p0), .val (.int p1), .val (.int p2), .val (.int p3), .val (.int (p0 &&& (7 : Int32))), .val (.int (own_pk ((p0.toUInt32 >>> ((3 : Int32) &&& 31).toUInt32).toInt32) p1)), .val (.int (own_pk ((p0.toUInt32 >>> ((4 : Int32) &&& 31).toUInt32).toInt32) p2)), .val (.int (own_pk ((p0.toUInt32 >>> ((5 : Int32) &&& 31).toUInt32).toInt32) p3)), .unset, .val (.int (2 : Int32)), .unset, .unset, .unset] [(.ref b23), (.ref b23), (.ref b20), (.ref b20)])) _
          refine XS.iconst X23.here hx rfl (hb hby at_122) ?_
          show Steps p.tables e below (T23.setTop (mkF m 123 #[.val (.int p0), .val (.int p1), .val (.int p2), .val (.int p3), .val (.int (p0 &&& (7 : Int32))), .val (.int (own_pk ((p0.toUInt32 >>> ((3 : Int32) &&& 31).toUInt32).toInt32) p1)), .val (.int (own_pk ((p0.toUInt32 >>> ((4 : Int32) &&& 31).toUInt32).toInt32) p2)), .val (.int (own_pk ((p0.toUInt32 >>> ((5 : Int32) &&& 31).toUInt32).toInt32) p3)), .unset, .val (.int (2 : Int32)), .unset, .unset, .unset] [(.int (0 : Int32)), (.ref b23), (.ref b23), (.ref b20), (.ref b20)])) _
          refine XS.iload X23.here hx rfl (hb hby at_123) rfl ?_
          exact k)
      obtain ⟨cl_b23_125, Ar_b23_125, q_b23_125, S_b23_125, N_b23_125, H_b23_125, G_b23_125⟩ := V_b23
      have hin_b23_125 : ¬ ((0 : Int32) < 0 ∨ cl_b23_125.slots.size ≤ ((0 : Int32)).toNatClampNeg) := inb_of S_b23_125 ⟨by decide, by decide⟩
      obtain ⟨T26, h26, X26, e26, W26, st26⟩ := stC X23 hx hZ8 e23 Ar_b23_125 (j := (0 : Int32)) hin_b23_125 (g := (mkF m 125 #[.val (.int p0), .val (.int p1), .val (.int p2), .val (.int p3), .val (.int (p0 &&& (7 : Int32))), .val (.int (own_pk ((p0.toUInt32 >>> ((3 : Int32) &&& 31).toUInt32).toInt32) p1)), .val (.int (own_pk ((p0.toUInt32 >>> ((4 : Int32) &&& 31).toUInt32).toInt32) p2)), .val (.int (own_pk ((p0.toUInt32 >>> ((5 : Int32) &&& 31).toUInt32).toInt32) p3)), .unset, .val (.int (2 : Int32)), .unset, .unset, .unset] [(.int (own_pk ((p0.toUInt32 >>> ((3 : Int32) &&& 31).toUInt32).toInt32) p1)), (.int (0 : Int32)), (.ref b23), (.ref b23), (.ref b20), (.ref b20)])) rfl rfl (hb hby at_125)
      have V_b23_125 : Arv Z h26 b23 ka23 .char (2 : Int32) [(.int (nar .char (own_pk ((p0.toUInt32 >>> ((3 : Int32) &&& 31).toUInt32).toInt32) p1))), (.int (0 : Int32))] (.int (0 : Int32)) := Arv.set Ar_b23_125 q_b23_125 S_b23_125 N_b23_125 H_b23_125 G_b23_125 (fits_nar_char _) W26 0 rfl (Nat.le_of_ble_eq_true rfl)
      have N26 := Fr.snoc X26 N8 g_b23
      have Zs26 : n0 ≤ h26.size := Nat.le_trans Zs23 (Keep.of_wr W26).1
      have k27 : ∀ t, Steps p.tables e below (T26.setTop (mkF m 126 #[.val (.int p0), .val (.int p1), .val (.int p2), .val (.int p3), .val (.int (p0 &&& (7 : Int32))), .val (.int (own_pk ((p0.toUInt32 >>> ((3 : Int32) &&& 31).toUInt32).toInt32) p1)), .val (.int (own_pk ((p0.toUInt32 >>> ((4 : Int32) &&& 31).toUInt32).toInt32) p2)), .val (.int (own_pk ((p0.toUInt32 >>> ((5 : Int32) &&& 31).toUInt32).toInt32) p3)), .unset, .val (.int (2 : Int32)), .unset, .unset, .unset] [(.ref b23), (.ref b20), (.ref b20)])) t → Steps p.tables e below (s₁.setTop (entryFrame m #[(.int p0), (.int p1), (.int p2), (.int p3)] maxLocals)) t := fun t k => k25 t (st26 _ k)
      have k28 : ∀ t, Steps p.tables e below (T26.setTop (mkF m 130 #[.val (.int p0), .val (.int p1), .val (.int p2), .val (.int p3), .val (.int (p0 &&& (7 : Int32))), .val (.int (own_pk ((p0.toUInt32 >>> ((3 : Int32) &&& 31).toUInt32).toInt32) p1)), .val (.int (own_pk ((p0.toUInt32 >>> ((4 : Int32) &&& 31).toUInt32).toInt32) p2)), .val (.int (own_pk ((p0.toUInt32 >>> ((5 : Int32) &&& 31).toUInt32).toInt32) p3)), .unset, .val (.int (2 : Int32)), .unset, .unset, .unset] [(.int (own_pk ((p0.toUInt32 >>> ((4 : Int32) &&& 31).toUInt32).toInt32) p2)), (.int (1 : Int32)), (.ref b23), (.ref b23), (.ref b20), (.ref b20)])) t → Steps p.tables e below (s₁.setTop (entryFrame m #[(.int p0), (.int p1), (.int p2), (.int p3)] maxLocals)) t := fun t k => k27 t (by
          show Steps p.tables e below (T26.setTop (mkF m 126 #[.val (.int p0), .val (.int p1), .val (.int p2), .val (.int p3), .val (.int (p0 &&& (7 : Int32))), .val (.int (own_pk ((p0.toUInt32 >>> ((3 : Int32) &&& 31).toUInt32).toInt32) p1)), .val (.int (own_pk ((p0.toUInt32 >>> ((4 : Int32) &&& 31).toUInt32).toInt32) p2)), .val (.int (own_pk ((p0.toUInt32 >>> ((5 : Int32) &&& 31).toUInt32).toInt32) p3)), .unset, .val (.int (2 : Int32)), .unset, .unset, .unset] [(.ref b23), (.ref b20), (.ref b20)])) _
          refine XS.dup X26.here hx rfl (hb hby at_126) rfl rfl ?_
          show Steps p.tables e below (T26.setTop (mkF m 127 #[.val (.int p0), .val (.int p1), .val (.int p2), .val (.int p3), .val (.int (p0 &&& (7 : Int32))), .val (.int (own_pk ((p0.toUInt32 >>> ((3 : Int32) &&& 31).toUInt32).toInt32) p1)), .val (.int (own_pk ((p0.toUInt32 >>> ((4 : Int32) &&& 31).toUInt32).toInt32) p2)), .val (.int (own_pk ((p0.toUInt32 >>> ((5 : Int32) &&& 31).toUInt32).toInt32) p3)), .unset, .val (.int (2 : Int32)), .unset, .unset, .unset] [(.ref b23), (.ref b23), (.ref b20), (.ref b20)])) _
          refine XS.iconst X26.here hx rfl (hb hby at_127) ?_
          show Steps p.tables e below (T26.setTop (mkF m 128 #[.val (.int p0), .val (.int p1), .val (.int p2), .val (.int p3), .val (.int (p0 &&& (7 : Int32))), .val (.int (own_pk ((p0.toUInt32 >>> ((3 : Int32) &&& 31).toUInt32).toInt32) p1)), .val (.int (own_pk ((p0.toUInt32 >>> ((4 : Int32) &&& 31).toUInt32).toInt32) p2)), .val (.int (own_pk ((p0.toUInt32 >>> ((5 : Int32) &&& 31).toUInt32).toInt32) p3)), .unset, .val (.int (2 : Int32)), .unset, .unset, .unset] [(.int (1 : Int32)), (.ref b23), (.ref b23), (.ref b20), (.ref b20)])) _
          refine XS.iload X26.here hx rfl (hb hby at_128) rfl ?_
          exact k)
      obtain ⟨cl_b23_130, Ar_b23_130, q_b23_130, S_b23_130, N_b23_130, H_b23_130, G_b23_130⟩ := V_b23_125
      have hin_b23_130 : ¬ ((1 : Int32) < 0 ∨ cl_b23_130.slots.size ≤ ((1 : Int32)).toNatClampNeg) := inb_of S_b23_130 ⟨by decide, by decide⟩
      obtain ⟨T29, h29, X29, e29, W29, st29⟩ := stC X26 hx hZ8 e26 Ar_b23_130 (j := (1 : Int32)) hin_b23_130 (g := (mkF m 130 #[.val (.int p0), .val (.int p1), .val (.int p2), .val (.int p3), .val (.int (p0 &&& (7 : Int32))), .val (.int (own_pk ((p0.toUInt32 >>> ((3 : Int32) &&& 31).toUInt32).toInt32) p1)), .val (.int (own_pk ((p0.toUInt32 >>> ((4 : Int32) &&& 31).toUInt32).toInt32) p2)), .val (.int (own_pk ((p0.toUInt32 >>> ((5 : Int32) &&& 31).toUInt32).toInt32) p3)), .unset, .val (.int (2 : Int32)), .unset, .unset, .unset] [(.int (own_pk ((p0.toUInt32 >>> ((4 : Int32) &&& 31).toUInt32).toInt32) p2)), (.int (1 : Int32)), (.ref b23), (.ref b23), (.ref b20), (.ref b20)])) rfl rfl (hb hby at_130)
      have V_b23_130 : Arv Z h29 b23 ka23 .char (2 : Int32) [(.int (nar .char (own_pk ((p0.toUInt32 >>> ((3 : Int32) &&& 31).toUInt32).toInt32) p1))), (.int (nar .char (own_pk ((p0.toUInt32 >>> ((4 : Int32) &&& 31).toUInt32).toInt32) p2)))] (.int (0 : Int32)) := Arv.set Ar_b23_130 q_b23_130 S_b23_130 N_b23_130 H_b23_130 G_b23_130 (fits_nar_char _) W29 1 rfl (Nat.le_of_ble_eq_true rfl)
      have N29 := Fr.snoc X29 N26 g_b23
      have Zs29 : n0 ≤ h29.size := Nat.le_trans Zs26 (Keep.of_wr W29).1
      have k30 : ∀ t, Steps p.tables e below (T29.setTop (mkF m 131 #[.val (.int p0), .val (.int p1), .val (.int p2), .val (.int p3), .val (.int (p0 &&& (7 : Int32))), .val (.int (own_pk ((p0.toUInt32 >>> ((3 : Int32) &&& 31).toUInt32).toInt32) p1)), .val (.int (own_pk ((p0.toUInt32 >>> ((4 : Int32) &&& 31).toUInt32).toInt32) p2)), .val (.int (own_pk ((p0.toUInt32 >>> ((5 : Int32) &&& 31).toUInt32).toInt32) p3)), .unset, .val (.int (2 : Int32)), .unset, .unset, .unset] [(.ref b23), (.ref b20), (.ref b20)])) t → Steps p.tables e below (s₁.setTop (entryFrame m #[(.int p0), (.int p1), (.int p2), (.int p3)] maxLocals)) t := fun t k => k28 t (st29 _ k)
      have hp31 : ∀ c ∈ ([(nar .char (own_pk ((p0.toUInt32 >>> ((3 : Int32) &&& 31).toUInt32).toInt32) p1)), (nar .char (own_pk ((p0.toUInt32 >>> ((4 : Int32) &&& 31).toUInt32).toInt32) p2))] : List Int32), ¬ c < 0 ∧ ¬ (255 : Int32) < c := by
        intro c hc
        simp only [List.mem_cons, List.not_mem_nil, or_false] at hc
        rcases hc with rfl | rfl
        · exact own_pk_ok _ _
        · exact own_pk_ok _ _
      obtain ⟨_, _, ⟨T31, L31, kq31, n31⟩, -, X31, ⟨Lc31, hQ31, l31, y31, z31⟩, st31⟩ := X29.specialBack hx (y := (⟨"java/lang/String", "<init>", "([C)V"⟩ : MethodName)) rfl hown8 (mvT hZ8 (hw _ (List.mem_of_getElem? (i := 8) rfl))) (mvT hZ8 (hw _ (List.mem_of_getElem? (i := 9) rfl))) (mvT hZ8 (hw _ (List.mem_of_getElem? (i := 10) rfl))) (by decide) (StrChars.Road.backV (W := 1) hZ8 hws (kI := 4) (hw _ (List.mem_of_getElem? (i := 5) rfl)) (cs := ([(nar .char (own_pk ((p0.toUInt32 >>> ((3 : Int32) &&& 31).toUInt32).toInt32) p1)), (nar .char (own_pk ((p0.toUInt32 >>> ((4 : Int32) &&& 31).toUInt32).toInt32) p2))] : List Int32)) (bs := (([(nar .char (own_pk ((p0.toUInt32 >>> ((3 : Int32) &&& 31).toUInt32).toInt32) p1)), (nar .char (own_pk ((p0.toUInt32 >>> ((4 : Int32) &&& 31).toUInt32).toInt32) p2))] : List Int32)).map (fun c => c.toInt8.toInt32)) (n := 2) g_b20 Zs29 (((A20.ext E23).wr W26).wr W29) (((F_value_b20.ext E23).other W26 (Or.inl ne_b20_b23)).other W29 (Or.inl ne_b20_b23)) (((F_coder_b20.ext E23).other W26 (Or.inl ne_b20_b23)).other W29 (Or.inl ne_b20_b23)) V_b23_130 (O2.ext (((((((X00.ext Ex2).ext Ex5).ext Ex8).ext E20).ext E23).wr W26 g_b23).wr W29 g_b23).2) P5 rfl rfl (by decide) (by decide) hp31 rfl (by decide) (by decide)) (g := (mkF m 131 #[.val (.int p0), .val (.int p1), .val (.int p2), .val (.int p3), .val (.int (p0 &&& (7 : Int32))), .val (.int (own_pk ((p0.toUInt32 >>> ((3 : Int32) &&& 31).toUInt32).toInt32) p1)), .val (.int (own_pk ((p0.toUInt32 >>> ((4 : Int32) &&& 31).toUInt32).toInt32) p2)), .val (.int (own_pk ((p0.toUInt32 >>> ((5 : Int32) &&& 31).toUInt32).toInt32) p3)), .unset, .val (.int (2 : Int32)), .unset, .unset, .unset] [(.ref b23), (.ref b20), (.ref b20)])) rfl (by rw [hml]; rfl) (Steps.refl _) (a := b20) (argsL := [(.ref b23)]) (rest := [(.ref b20)]) (lenOf pd_11 rfl) rfl (by show 2 * 0 + _ ≤ _; exact Nat.le_of_eq rfl) (hb hby at_131) (fun _ _ => ⟨rfl, e29, (by decide : 8 + 1 ≤ _), (by decide : 66 + 2 ≤ _)⟩)
      dsimp only [Pt.U, Pt.locs, Pt.cells, Pt.slots] at X31 l31 y31 z31 st31 hQ31
      subst l31 y31 z31
      obtain ⟨rfl, N31q, K31, Ex31, Cx31, t31, kb31, gt31, zt31, nt31, Vx31, Ax31⟩ := hQ31
      have N31 := Fr.app N29 N31q
      have Zs31 : n0 ≤ T31.heap.size := Nat.le_trans Zs29 K31.1
      have k32 : ∀ t, Steps p.tables e below (T31.setTop (mkF m 134 #[.val (.int p0), .val (.int p1), .val (.int p2), .val (.int p3), .val (.int (p0 &&& (7 : Int32))), .val (.int (own_pk ((p0.toUInt32 >>> ((3 : Int32) &&& 31).toUInt32).toInt32) p1)), .val (.int (own_pk ((p0.toUInt32 >>> ((4 : Int32) &&& 31).toUInt32).toInt32) p2)), .val (.int (own_pk ((p0.toUInt32 >>> ((5 : Int32) &&& 31).toUInt32).toInt32) p3)), .unset, .val (.int (2 : Int32)), .unset, .unset, .unset] [(.ref b20)])) t → Steps p.tables e below (s₁.setTop (entryFrame m #[(.int p0), (.int p1), (.int p2), (.int p3)] maxLocals)) t := fun t k => k30 t (st31.trans k)
      have k33 : ∀ t, Steps p.tables e below (T31.setTop (mkF m 168 #[.val (.int p0), .val (.int p1), .val (.int p2), .val (.int p3), .val (.int (p0 &&& (7 : Int32))), .val (.int (own_pk ((p0.toUInt32 >>> ((3 : Int32) &&& 31).toUInt32).toInt32) p1)), .val (.int (own_pk ((p0.toUInt32 >>> ((4 : Int32) &&& 31).toUInt32).toInt32) p2)), .val (.int (own_pk ((p0.toUInt32 >>> ((5 : Int32) &&& 31).toUInt32).toInt32) p3)), .val (.ref b20), .val (.int (2 : Int32)), .unset, .unset, .unset] [(.ref b20)])) t → Steps p.tables e below (s₁.setTop (entryFrame m #[(.int p0), (.int p1), (.int p2), (.int p3)] maxLocals)) t := fun t k => k32 t (by
          show Steps p.tables e below (T31.setTop (mkF m 134 #[.val (.int p0), .val (.int p1), .val (.int p2), .val (.int p3), .val (.int (p0 &&& (7 : Int32))), .val (.int (own_pk ((p0.toUInt32 >>> ((3 : Int32) &&& 31).toUInt32).toInt32) p1)), .val (.int (own_pk ((p0.toUInt32 >>> ((4 : Int32) &&& 31).toUInt32).toInt32) p2)), .val (.int (own_pk ((p0.toUInt32 >>> ((5 : Int32) &&& 31).toUInt32).toInt32) p3)), .unset, .val (.int (2 : Int32)), .unset, .unset, .unset] [(.ref b20)])) _
          refine XS.astore X31.here hx rfl (hb hby at_134) rfl rfl (l' := #[.val (.int p0), .val (.int p1), .val (.int p2), .val (.int p3), .val (.int (p0 &&& (7 : Int32))), .val (.int (own_pk ((p0.toUInt32 >>> ((3 : Int32) &&& 31).toUInt32).toInt32) p1)), .val (.int (own_pk ((p0.toUInt32 >>> ((4 : Int32) &&& 31).toUInt32).toInt32) p2)), .val (.int (own_pk ((p0.toUInt32 >>> ((5 : Int32) &&& 31).toUInt32).toInt32) p3)), .val (.ref b20), .val (.int (2 : Int32)), .unset, .unset, .unset]) rfl ?_
          show Steps p.tables e below (T31.setTop (mkF m 136 #[.val (.int p0), .val (.int p1), .val (.int p2), .val (.int p3), .val (.int (p0 &&& (7 : Int32))), .val (.int (own_pk ((p0.toUInt32 >>> ((3 : Int32) &&& 31).toUInt32).toInt32) p1)), .val (.int (own_pk ((p0.toUInt32 >>> ((4 : Int32) &&& 31).toUInt32).toInt32) p2)), .val (.int (own_pk ((p0.toUInt32 >>> ((5 : Int32) &&& 31).toUInt32).toInt32) p3)), .val (.ref b20), .val (.int (2 : Int32)), .unset, .unset, .unset] [])) _
          refine XS.goto X31.here hx rfl (pc0 := 136) (pc' := 166) rfl (hb hby at_136) (by decide) (by decide) ?_
          show Steps p.tables e below (T31.setTop (mkF m 166 #[.val (.int p0), .val (.int p1), .val (.int p2), .val (.int p3), .val (.int (p0 &&& (7 : Int32))), .val (.int (own_pk ((p0.toUInt32 >>> ((3 : Int32) &&& 31).toUInt32).toInt32) p1)), .val (.int (own_pk ((p0.toUInt32 >>> ((4 : Int32) &&& 31).toUInt32).toInt32) p2)), .val (.int (own_pk ((p0.toUInt32 >>> ((5 : Int32) &&& 31).toUInt32).toInt32) p3)), .val (.ref b20), .val (.int (2 : Int32)), .unset, .unset, .unset] [])) _
          refine XS.aload X31.here hx rfl (hb hby at_166) rfl rfl ?_
          exact k)
      obtain ⟨_, _, ⟨T34, L34, kq34, n34⟩, -, X34, ⟨Lc34, hQ34, l34, y34, z34⟩, st34⟩ := Jvm.LawKit.callS X31 hx (y := (⟨"com/example/mediawarden/mediawarden/engine/Lang", "of", "(Ljava/lang/String;)Ljava/util/Optional;"⟩ : MethodName)) hown8 (mvT hZ8 (hw _ (List.mem_of_getElem? (i := 26) rfl))) (mvT hZ8 (hw _ (List.mem_of_getElem? (i := 27) rfl))) (mvT hZ8 (hw _ (List.mem_of_getElem? (i := 28) rfl))) (mvT hZ8 (hw _ (List.mem_of_getElem? (i := 29) rfl))) (by decide) (backOf (W := 0) (rm5s l Z a0 hw [] b20 wv cl w_ZH w_EN c_ZH t_ZH c_EN t_EN k_ZH k_EN w_EMPTY G1 t31 kb31 ([(nar .char (own_pk ((p0.toUInt32 >>> ((3 : Int32) &&& 31).toUInt32).toInt32) p1)), (nar .char (own_pk ((p0.toUInt32 >>> ((4 : Int32) &&& 31).toUInt32).toInt32) p2))] : List Int32) (2 : Int32) T31.heap n0 Zs31 (S_V.ext ((((((((X00.ext Ex2).ext Ex5).ext Ex8).ext E20).ext E23).wr W26 g_b23).wr W29 g_b23).keep K31 (allS g_b20 all0)).2) (Arv_.ext ((((((((X00.ext Ex2).ext Ex5).ext Ex8).ext E20).ext E23).wr W26 g_b23).wr W29 g_b23).keep K31 (allS g_b20 all0)).2) (E_V.ext ((((((((X00.ext Ex2).ext Ex5).ext Ex8).ext E20).ext E23).wr W26 g_b23).wr W29 g_b23).keep K31 (allS g_b20 all0)).2) hsz hat0 hat1 (F_code_w_ZH.ext ((((((((X00.ext Ex2).ext Ex5).ext Ex8).ext E20).ext E23).wr W26 g_b23).wr W29 g_b23).keep K31 (allS g_b20 all0)).2) (E_c_ZH.ext ((((((((X00.ext Ex2).ext Ex5).ext Ex8).ext E20).ext E23).wr W26 g_b23).wr W29 g_b23).keep K31 (allS g_b20 all0)).2) (F_value_c_ZH.ext ((((((((X00.ext Ex2).ext Ex5).ext Ex8).ext E20).ext E23).wr W26 g_b23).wr W29 g_b23).keep K31 (allS g_b20 all0)).2) (F_coder_c_ZH.ext ((((((((X00.ext Ex2).ext Ex5).ext Ex8).ext E20).ext E23).wr W26 g_b23).wr W29 g_b23).keep K31 (allS g_b20 all0)).2) (V_t_ZH.ext ((((((((X00.ext Ex2).ext Ex5).ext Ex8).ext E20).ext E23).wr W26 g_b23).wr W29 g_b23).keep K31 (allS g_b20 all0)).2) (F_code_w_EN.ext ((((((((X00.ext Ex2).ext Ex5).ext Ex8).ext E20).ext E23).wr W26 g_b23).wr W29 g_b23).keep K31 (allS g_b20 all0)).2) (E_c_EN.ext ((((((((X00.ext Ex2).ext Ex5).ext Ex8).ext E20).ext E23).wr W26 g_b23).wr W29 g_b23).keep K31 (allS g_b20 all0)).2) (F_value_c_EN.ext ((((((((X00.ext Ex2).ext Ex5).ext Ex8).ext E20).ext E23).wr W26 g_b23).wr W29 g_b23).keep K31 (allS g_b20 all0)).2) (F_coder_c_EN.ext ((((((((X00.ext Ex2).ext Ex5).ext Ex8).ext E20).ext E23).wr W26 g_b23).wr W29 g_b23).keep K31 (allS g_b20 all0)).2) (V_t_EN.ext ((((((((X00.ext Ex2).ext Ex5).ext Ex8).ext E20).ext E23).wr W26 g_b23).wr W29 g_b23).keep K31 (allS g_b20 all0)).2) Ex31 Vx31 Cx31 Ax31 S_EMPTY E_w_EMPTY F_value_w_EMPTY O2 P5 ((((((((X00.ext Ex2).ext Ex5).ext Ex8).ext E20).ext E23).wr W26 g_b23).wr W29 g_b23).keep K31 (allS g_b20 all0)) (StrChars.Road.codOf (n := 2) rfl (fun c hc => (hp31 c hc).2)) (own_up _ hp31) (Nat.le_of_ble_eq_true rfl)) hZ8 (hw _ (List.mem_of_getElem? (i := 29) rfl)) (hw _ (List.mem_of_getElem? (i := 28) rfl)) (by decide) (by decide)) (g := (mkF m 168 #[.val (.int p0), .val (.int p1), .val (.int p2), .val (.int p3), .val (.int (p0 &&& (7 : Int32))), .val (.int (own_pk ((p0.toUInt32 >>> ((3 : Int32) &&& 31).toUInt32).toInt32) p1)), .val (.int (own_pk ((p0.toUInt32 >>> ((4 : Int32) &&& 31).toUInt32).toInt32) p2)), .val (.int (own_pk ((p0.toUInt32 >>> ((5 : Int32) &&& 31).toUInt32).toInt32) p3)), .val (.ref b20), .val (.int (2 : Int32)), .unset, .unset, .unset] [(.ref b20)])) rfl (by rw [hml]; rfl) (argsL := [(.ref b20)]) (rest := []) (lenOf pd_9 rfl) rfl (by show 2 * 0 + _ ≤ _; exact Nat.le_of_eq rfl) (hb hby at_168) (fun _ _ => ⟨rfl, rfl, (by decide : 9 + 2 ≤ _), (by decide : 68 + 3 ≤ _)⟩)
      dsimp only [Pt.U, Pt.locs, Pt.cells, Pt.slots] at X34 l34 y34 z34 st34 hQ34
      subst l34 y34 z34
      obtain ⟨o34, val, rfl, N34q, K34, Ex34, Fx34, hcs⟩ := hQ34
      have N34 := Fr.app N31 N34q
      have od35 := (((((((((X00.ext Ex2).ext Ex5).ext Ex8).ext E20).ext E23).wr W26 g_b23).wr W29 g_b23).keep K31 (allS g_b20 all0)).keep K34 all0)
      have Zs34 : n0 ≤ T34.heap.size := Nat.le_trans Zs31 K34.1
      have k36 : ∀ t, Steps p.tables e below (T34.setTop (mkF m 171 #[.val (.int p0), .val (.int p1), .val (.int p2), .val (.int p3), .val (.int (p0 &&& (7 : Int32))), .val (.int (own_pk ((p0.toUInt32 >>> ((3 : Int32) &&& 31).toUInt32).toInt32) p1)), .val (.int (own_pk ((p0.toUInt32 >>> ((4 : Int32) &&& 31).toUInt32).toInt32) p2)), .val (.int (own_pk ((p0.toUInt32 >>> ((5 : Int32) &&& 31).toUInt32).toInt32) p3)), .val (.ref b20), .val (.int (2 : Int32)), .unset, .unset, .unset] [(.ref o34)])) t → Steps p.tables e below (s₁.setTop (entryFrame m #[(.int p0), (.int p1), (.int p2), (.int p3)] maxLocals)) t := fun t k => k33 t (st34 _ k)
      rcases hcs with ⟨hz, rfl⟩ | ⟨-, hz, rfl⟩ | ⟨hz, hz2, rfl⟩
      · have hx0 : (own_pk ((p0.toUInt32 >>> ((3 : Int32) &&& 31).toUInt32).toInt32) p1) = (122 : Int32) := by have q := (List.cons.inj hz).1; rw [own_pk_n] at q; exact q.symm
        have hx1 : (own_pk ((p0.toUInt32 >>> ((4 : Int32) &&& 31).toUInt32).toInt32) p2) = (104 : Int32) := by have q := (List.cons.inj (List.cons.inj hz).2).1; rw [own_pk_n] at q; exact q.symm
        have k37 : ∀ t, Steps p.tables e below (T34.setTop (mkF m 182 #[.val (.int p0), .val (.int p1), .val (.int p2), .val (.int p3), .val (.int (p0 &&& (7 : Int32))), .val (.int (own_pk ((p0.toUInt32 >>> ((3 : Int32) &&& 31).toUInt32).toInt32) p1)), .val (.int (own_pk ((p0.toUInt32 >>> ((4 : Int32) &&& 31).toUInt32).toInt32) p2)), .val (.int (own_pk ((p0.toUInt32 >>> ((5 : Int32) &&& 31).toUInt32).toInt32) p3)), .val (.ref b20), .val (.int (2 : Int32)), .val (.ref o34), .unset, .unset] [(.ref o34)])) t → Steps p.tables e below (s₁.setTop (entryFrame m #[(.int p0), (.int p1), (.int p2), (.int p3)] maxLocals)) t := fun t k => k36 t (by
            show Steps p.tables e below (T34.setTop (mkF m 171 #[.val (.int p0), .val (.int p1), .val (.int p2), .val (.int p3), .val (.int (p0 &&& (7 : Int32))), .val (.int (own_pk ((p0.toUInt32 >>> ((3 : Int32) &&& 31).toUInt32).toInt32) p1)), .val (.int (own_pk ((p0.toUInt32 >>> ((4 : Int32) &&& 31).toUInt32).toInt32) p2)), .val (.int (own_pk ((p0.toUInt32 >>> ((5 : Int32) &&& 31).toUInt32).toInt32) p3)), .val (.ref b20), .val (.int (2 : Int32)), .unset, .unset, .unset] [(.ref o34)])) _
            refine XS.astore X34.here hx rfl (hb hby at_171) rfl rfl (l' := #[.val (.int p0), .val (.int p1), .val (.int p2), .val (.int p3), .val (.int (p0 &&& (7 : Int32))), .val (.int (own_pk ((p0.toUInt32 >>> ((3 : Int32) &&& 31).toUInt32).toInt32) p1)), .val (.int (own_pk ((p0.toUInt32 >>> ((4 : Int32) &&& 31).toUInt32).toInt32) p2)), .val (.int (own_pk ((p0.toUInt32 >>> ((5 : Int32) &&& 31).toUInt32).toInt32) p3)), .val (.ref b20), .val (.int (2 : Int32)), .val (.ref o34), .unset, .unset]) rfl ?_
            show Steps p.tables e below (T34.setTop (mkF m 173 #[.val (.int p0), .val (.int p1), .val (.int p2), .val (.int p3), .val (.int (p0 &&& (7 : Int32))), .val (.int (own_pk ((p0.toUInt32 >>> ((3 : Int32) &&& 31).toUInt32).toInt32) p1)), .val (.int (own_pk ((p0.toUInt32 >>> ((4 : Int32) &&& 31).toUInt32).toInt32) p2)), .val (.int (own_pk ((p0.toUInt32 >>> ((5 : Int32) &&& 31).toUInt32).toInt32) p3)), .val (.ref b20), .val (.int (2 : Int32)), .val (.ref o34), .unset, .unset] [])) _
            refine XS.aload X34.here hx rfl (hb hby at_173) rfl rfl ?_
            show Steps p.tables e below (T34.setTop (mkF m 175 #[.val (.int p0), .val (.int p1), .val (.int p2), .val (.int p3), .val (.int (p0 &&& (7 : Int32))), .val (.int (own_pk ((p0.toUInt32 >>> ((3 : Int32) &&& 31).toUInt32).toInt32) p1)), .val (.int (own_pk ((p0.toUInt32 >>> ((4 : Int32) &&& 31).toUInt32).toInt32) p2)), .val (.int (own_pk ((p0.toUInt32 >>> ((5 : Int32) &&& 31).toUInt32).toInt32) p3)), .val (.ref b20), .val (.int (2 : Int32)), .val (.ref o34), .unset, .unset] [(.ref o34)])) _
            refine XS.ifnonnullYes X34.here hx rfl (pc0 := 175) (pc' := 180) rfl (hb hby at_175) rfl (by decide) (by decide) ?_
            show Steps p.tables e below (T34.setTop (mkF m 180 #[.val (.int p0), .val (.int p1), .val (.int p2), .val (.int p3), .val (.int (p0 &&& (7 : Int32))), .val (.int (own_pk ((p0.toUInt32 >>> ((3 : Int32) &&& 31).toUInt32).toInt32) p1)), .val (.int (own_pk ((p0.toUInt32 >>> ((4 : Int32) &&& 31).toUInt32).toInt32) p2)), .val (.int (own_pk ((p0.toUInt32 >>> ((5 : Int32) &&& 31).toUInt32).toInt32) p3)), .val (.ref b20), .val (.int (2 : Int32)), .val (.ref o34), .unset, .unset] [])) _
            refine XS.aload X34.here hx rfl (hb hby at_180) rfl rfl ?_
            exact k)
        obtain ⟨cq38, kcq38, q38a, q38b, q38c⟩ := isOf hZ8 rfl Ex34
        obtain ⟨_, _, ⟨T38, L38, kq38, n38⟩, -, X38, ⟨Lc38, hQ38, l38, y38, z38⟩, st38⟩ := X34.virtualBack hx (y := (⟨"java/util/Optional", "isPresent", "()Z"⟩ : MethodName)) (z := (⟨"java/util/Optional", "isPresent", "()Z"⟩ : MethodName)) hown8 (mvT hZ8 (hw _ (List.mem_of_getElem? (i := 65) rfl))) (mvT hZ8 (hw _ (List.mem_of_getElem? (i := 66) rfl))) (notFace_of_selects (args := #[]) (mvT hZ8 (hw _ (List.mem_of_getElem? (i := 68) rfl)))) (mvT hZ8 (hw _ (List.mem_of_getElem? (i := 68) rfl))) (mvT hZ8 (hw _ (List.mem_of_getElem? (i := 67) rfl))) (by decide) (backOf (W := 0) (rm10r l Z a0 hw [] o34 w_ZH T34.heap n0 Zs34 Fx34) hZ8 (hw _ (List.mem_of_getElem? (i := 69) rfl)) (hw _ (List.mem_of_getElem? (i := 62) rfl)) (by decide) (by decide)) q38a q38c (g := (mkF m 182 #[.val (.int p0), .val (.int p1), .val (.int p2), .val (.int p3), .val (.int (p0 &&& (7 : Int32))), .val (.int (own_pk ((p0.toUInt32 >>> ((3 : Int32) &&& 31).toUInt32).toInt32) p1)), .val (.int (own_pk ((p0.toUInt32 >>> ((4 : Int32) &&& 31).toUInt32).toInt32) p2)), .val (.int (own_pk ((p0.toUInt32 >>> ((5 : Int32) &&& 31).toUInt32).toInt32) p3)), .val (.ref b20), .val (.int (2 : Int32)), .val (.ref o34), .unset, .unset] [(.ref o34)])) rfl (by rw [hml]; rfl) (Steps.refl _) (argsL := []) (rest := []) (lenOf pd_10 rfl) rfl (by show 2 * 0 + _ ≤ _; exact Nat.le_of_eq rfl) (hb hby at_182) (fun _ _ => ⟨rfl, rfl, (by decide : 11 + 0 ≤ _), (by decide : 71 + 0 ≤ _)⟩)
        dsimp only [Pt.U, Pt.locs, Pt.cells, Pt.slots] at X38 l38 y38 z38 st38 hQ38
        subst l38 y38 z38
        obtain ⟨rfl, N38q, e38⟩ := hQ38
        have N38 := Fr.app N34 N38q
        have k39 : ∀ t, Steps p.tables e below (T38.setTop (mkF m 185 #[.val (.int p0), .val (.int p1), .val (.int p2), .val (.int p3), .val (.int (p0 &&& (7 : Int32))), .val (.int (own_pk ((p0.toUInt32 >>> ((3 : Int32) &&& 31).toUInt32).toInt32) p1)), .val (.int (own_pk ((p0.toUInt32 >>> ((4 : Int32) &&& 31).toUInt32).toInt32) p2)), .val (.int (own_pk ((p0.toUInt32 >>> ((5 : Int32) &&& 31).toUInt32).toInt32) p3)), .val (.ref b20), .val (.int (2 : Int32)), .val (.ref o34), .unset, .unset] [(.int (1 : Int32))])) t → Steps p.tables e below (s₁.setTop (entryFrame m #[(.int p0), (.int p1), (.int p2), (.int p3)] maxLocals)) t := fun t k => k37 t (st38.trans k)
        have hc185 : ¬ ((1 : Int32) = (0 : Int32)) := by decide
        have k40 : ∀ t, Steps p.tables e below (T38.setTop (mkF m 190 #[.val (.int p0), .val (.int p1), .val (.int p2), .val (.int p3), .val (.int (p0 &&& (7 : Int32))), .val (.int (own_pk ((p0.toUInt32 >>> ((3 : Int32) &&& 31).toUInt32).toInt32) p1)), .val (.int (own_pk ((p0.toUInt32 >>> ((4 : Int32) &&& 31).toUInt32).toInt32) p2)), .val (.int (own_pk ((p0.toUInt32 >>> ((5 : Int32) &&& 31).toUInt32).toInt32) p3)), .val (.ref b20), .val (.int (2 : Int32)), .val (.ref o34), .unset, .unset] [(.ref o34)])) t → Steps p.tables e below (s₁.setTop (entryFrame m #[(.int p0), (.int p1), (.int p2), (.int p3)] maxLocals)) t := fun t k => k39 t (by
            show Steps p.tables e below (T38.setTop (mkF m 185 #[.val (.int p0), .val (.int p1), .val (.int p2), .val (.int p3), .val (.int (p0 &&& (7 : Int32))), .val (.int (own_pk ((p0.toUInt32 >>> ((3 : Int32) &&& 31).toUInt32).toInt32) p1)), .val (.int (own_pk ((p0.toUInt32 >>> ((4 : Int32) &&& 31).toUInt32).toInt32) p2)), .val (.int (own_pk ((p0.toUInt32 >>> ((5 : Int32) &&& 31).toUInt32).toInt32) p3)), .val (.ref b20), .val (.int (2 : Int32)), .val (.ref o34), .unset, .unset] [(.int (1 : Int32))])) _
            refine XS.ifNo X38.here hx rfl (hb hby at_185) rfl ((if0 _ _).trans (feq hc185).1) ?_
            show Steps p.tables e below (T38.setTop (mkF m 188 #[.val (.int p0), .val (.int p1), .val (.int p2), .val (.int p3), .val (.int (p0 &&& (7 : Int32))), .val (.int (own_pk ((p0.toUInt32 >>> ((3 : Int32) &&& 31).toUInt32).toInt32) p1)), .val (.int (own_pk ((p0.toUInt32 >>> ((4 : Int32) &&& 31).toUInt32).toInt32) p2)), .val (.int (own_pk ((p0.toUInt32 >>> ((5 : Int32) &&& 31).toUInt32).toInt32) p3)), .val (.ref b20), .val (.int (2 : Int32)), .val (.ref o34), .unset, .unset] [])) _
            refine XS.aload X38.here hx rfl (hb hby at_188) rfl rfl ?_
            exact k)
        obtain ⟨cq41, kcq41, q41a, q41b, q41c⟩ := isOf hZ8 e38 Ex34
        obtain ⟨_, _, ⟨T41, L41, kq41, n41⟩, -, X41, ⟨Lc41, hQ41, l41, y41, z41⟩, st41⟩ := X38.virtualBack hx (y := (⟨"java/util/Optional", "get", "()Ljava/lang/Object;"⟩ : MethodName)) (z := (⟨"java/util/Optional", "get", "()Ljava/lang/Object;"⟩ : MethodName)) hown8 (mvT hZ8 (hw _ (List.mem_of_getElem? (i := 118) rfl))) (mvT hZ8 (hw _ (List.mem_of_getElem? (i := 119) rfl))) (notFace_of_selects (args := #[]) (mvT hZ8 (hw _ (List.mem_of_getElem? (i := 121) rfl)))) (mvT hZ8 (hw _ (List.mem_of_getElem? (i := 121) rfl))) (mvT hZ8 (hw _ (List.mem_of_getElem? (i := 120) rfl))) (by decide) (backOf (W := 0) (rm22 l Z a0 hw [] o34 w_ZH T34.heap n0 Zs34 Fx34) hZ8 (hw _ (List.mem_of_getElem? (i := 122) rfl)) (hw _ (List.mem_of_getElem? (i := 62) rfl)) (by decide) (by decide)) q41a q41c (g := (mkF m 190 #[.val (.int p0), .val (.int p1), .val (.int p2), .val (.int p3), .val (.int (p0 &&& (7 : Int32))), .val (.int (own_pk ((p0.toUInt32 >>> ((3 : Int32) &&& 31).toUInt32).toInt32) p1)), .val (.int (own_pk ((p0.toUInt32 >>> ((4 : Int32) &&& 31).toUInt32).toInt32) p2)), .val (.int (own_pk ((p0.toUInt32 >>> ((5 : Int32) &&& 31).toUInt32).toInt32) p3)), .val (.ref b20), .val (.int (2 : Int32)), .val (.ref o34), .unset, .unset] [(.ref o34)])) rfl (by rw [hml]; rfl) (Steps.refl _) (argsL := []) (rest := []) (lenOf pd_12 rfl) rfl (by show 2 * 0 + _ ≤ _; exact Nat.le_of_eq rfl) (hb hby at_190) (fun _ _ => ⟨rfl, e38, (by decide : 11 + 0 ≤ _), (by decide : 71 + 0 ≤ _)⟩)
        dsimp only [Pt.U, Pt.locs, Pt.cells, Pt.slots] at X41 l41 y41 z41 st41 hQ41
        subst l41 y41 z41
        obtain ⟨rfl, N41q, e41⟩ := hQ41
        have N41 := Fr.app N38 N41q
        have k42 : ∀ t, Steps p.tables e below (T41.setTop (mkF m 193 #[.val (.int p0), .val (.int p1), .val (.int p2), .val (.int p3), .val (.int (p0 &&& (7 : Int32))), .val (.int (own_pk ((p0.toUInt32 >>> ((3 : Int32) &&& 31).toUInt32).toInt32) p1)), .val (.int (own_pk ((p0.toUInt32 >>> ((4 : Int32) &&& 31).toUInt32).toInt32) p2)), .val (.int (own_pk ((p0.toUInt32 >>> ((5 : Int32) &&& 31).toUInt32).toInt32) p3)), .val (.ref b20), .val (.int (2 : Int32)), .val (.ref o34), .unset, .unset] [(.ref w_ZH)])) t → Steps p.tables e below (s₁.setTop (entryFrame m #[(.int p0), (.int p1), (.int p2), (.int p3)] maxLocals)) t := fun t k => k40 t (st41.trans k)
        obtain ⟨T43, X43, e43, st43⟩ := castY X41 hx hZ8 hown8 (hw _ (List.mem_of_getElem? (i := 123) rfl)) e41 (Ins.self (E_w_ZH.ext od35.2)) (g := (mkF m 193 #[.val (.int p0), .val (.int p1), .val (.int p2), .val (.int p3), .val (.int (p0 &&& (7 : Int32))), .val (.int (own_pk ((p0.toUInt32 >>> ((3 : Int32) &&& 31).toUInt32).toInt32) p1)), .val (.int (own_pk ((p0.toUInt32 >>> ((4 : Int32) &&& 31).toUInt32).toInt32) p2)), .val (.int (own_pk ((p0.toUInt32 >>> ((5 : Int32) &&& 31).toUInt32).toInt32) p3)), .val (.ref b20), .val (.int (2 : Int32)), .val (.ref o34), .unset, .unset] [(.ref w_ZH)])) rfl rfl (hb hby at_193)
        have k44 : ∀ t, Steps p.tables e below (T43.setTop (mkF m 196 #[.val (.int p0), .val (.int p1), .val (.int p2), .val (.int p3), .val (.int (p0 &&& (7 : Int32))), .val (.int (own_pk ((p0.toUInt32 >>> ((3 : Int32) &&& 31).toUInt32).toInt32) p1)), .val (.int (own_pk ((p0.toUInt32 >>> ((4 : Int32) &&& 31).toUInt32).toInt32) p2)), .val (.int (own_pk ((p0.toUInt32 >>> ((5 : Int32) &&& 31).toUInt32).toInt32) p3)), .val (.ref b20), .val (.int (2 : Int32)), .val (.ref o34), .unset, .unset] [(.ref w_ZH)])) t → Steps p.tables e below (s₁.setTop (entryFrame m #[(.int p0), (.int p1), (.int p2), (.int p3)] maxLocals)) t := fun t k => k42 t (st43 _ k)
        have hc208 : (2 : Int32) = (2 : Int32) := by decide
        have hc215 : (own_pk ((p0.toUInt32 >>> ((3 : Int32) &&& 31).toUInt32).toInt32) p1) = (122 : Int32) := hx0
        have hc222 : (own_pk ((p0.toUInt32 >>> ((4 : Int32) &&& 31).toUInt32).toInt32) p2) = (104 : Int32) := hx1
        have k45 : ∀ t, Steps p.tables e below (T43.setTop (mkF m 225 #[.val (.int p0), .val (.int p1), .val (.int p2), .val (.int p3), .val (.int (p0 &&& (7 : Int32))), .val (.int (own_pk ((p0.toUInt32 >>> ((3 : Int32) &&& 31).toUInt32).toInt32) p1)), .val (.int (own_pk ((p0.toUInt32 >>> ((4 : Int32) &&& 31).toUInt32).toInt32) p2)), .val (.int (own_pk ((p0.toUInt32 >>> ((5 : Int32) &&& 31).toUInt32).toInt32) p3)), .val (.ref b20), .val (.int (2 : Int32)), .val (.ref o34), .val (.ref w_ZH), .val .null] [])) t → Steps p.tables e below (s₁.setTop (entryFrame m #[(.int p0), (.int p1), (.int p2), (.int p3)] maxLocals)) t := fun t k => k44 t (by
            show Steps p.tables e below (T43.setTop (mkF m 196 #[.val (.int p0), .val (.int p1), .val (.int p2), .val (.int p3), .val (.int (p0 &&& (7 : Int32))), .val (.int (own_pk ((p0.toUInt32 >>> ((3 : Int32) &&& 31).toUInt32).toInt32) p1)), .val (.int (own_pk ((p0.toUInt32 >>> ((4 : Int32) &&& 31).toUInt32).toInt32) p2)), .val (.int (own_pk ((p0.toUInt32 >>> ((5 : Int32) &&& 31).toUInt32).toInt32) p3)), .val (.ref b20), .val (.int (2 : Int32)), .val (.ref o34), .unset, .unset] [(.ref w_ZH)])) _
            refine XS.goto X43.here hx rfl (pc0 := 196) (pc' := 200) rfl (hb hby at_196) (by decide) (by decide) ?_
            show Steps p.tables e below (T43.setTop (mkF m 200 #[.val (.int p0), .val (.int p1), .val (.int p2), .val (.int p3), .val (.int (p0 &&& (7 : Int32))), .val (.int (own_pk ((p0.toUInt32 >>> ((3 : Int32) &&& 31).toUInt32).toInt32) p1)), .val (.int (own_pk ((p0.toUInt32 >>> ((4 : Int32) &&& 31).toUInt32).toInt32) p2)), .val (.int (own_pk ((p0.toUInt32 >>> ((5 : Int32) &&& 31).toUInt32).toInt32) p3)), .val (.ref b20), .val (.int (2 : Int32)), .val (.ref o34), .unset, .unset] [(.ref w_ZH)])) _
            refine XS.astore X43.here hx rfl (hb hby at_200) rfl rfl (l' := #[.val (.int p0), .val (.int p1), .val (.int p2), .val (.int p3), .val (.int (p0 &&& (7 : Int32))), .val (.int (own_pk ((p0.toUInt32 >>> ((3 : Int32) &&& 31).toUInt32).toInt32) p1)), .val (.int (own_pk ((p0.toUInt32 >>> ((4 : Int32) &&& 31).toUInt32).toInt32) p2)), .val (.int (own_pk ((p0.toUInt32 >>> ((5 : Int32) &&& 31).toUInt32).toInt32) p3)), .val (.ref b20), .val (.int (2 : Int32)), .val (.ref o34), .val (.ref w_ZH), .unset]) rfl ?_
            show Steps p.tables e below (T43.setTop (mkF m 202 #[.val (.int p0), .val (.int p1), .val (.int p2), .val (.int p3), .val (.int (p0 &&& (7 : Int32))), .val (.int (own_pk ((p0.toUInt32 >>> ((3 : Int32) &&& 31).toUInt32).toInt32) p1)), .val (.int (own_pk ((p0.toUInt32 >>> ((4 : Int32) &&& 31).toUInt32).toInt32) p2)), .val (.int (own_pk ((p0.toUInt32 >>> ((5 : Int32) &&& 31).toUInt32).toInt32) p3)), .val (.ref b20), .val (.int (2 : Int32)), .val (.ref o34), .val (.ref w_ZH), .unset] [])) _
            refine XS.aconstNull X43.here hx rfl (hb hby at_202) ?_
            show Steps p.tables e below (T43.setTop (mkF m 203 #[.val (.int p0), .val (.int p1), .val (.int p2), .val (.int p3), .val (.int (p0 &&& (7 : Int32))), .val (.int (own_pk ((p0.toUInt32 >>> ((3 : Int32) &&& 31).toUInt32).toInt32) p1)), .val (.int (own_pk ((p0.toUInt32 >>> ((4 : Int32) &&& 31).toUInt32).toInt32) p2)), .val (.int (own_pk ((p0.toUInt32 >>> ((5 : Int32) &&& 31).toUInt32).toInt32) p3)), .val (.ref b20), .val (.int (2 : Int32)), .val (.ref o34), .val (.ref w_ZH), .unset] [.null])) _
            refine XS.astore X43.here hx rfl (hb hby at_203) rfl rfl (l' := #[.val (.int p0), .val (.int p1), .val (.int p2), .val (.int p3), .val (.int (p0 &&& (7 : Int32))), .val (.int (own_pk ((p0.toUInt32 >>> ((3 : Int32) &&& 31).toUInt32).toInt32) p1)), .val (.int (own_pk ((p0.toUInt32 >>> ((4 : Int32) &&& 31).toUInt32).toInt32) p2)), .val (.int (own_pk ((p0.toUInt32 >>> ((5 : Int32) &&& 31).toUInt32).toInt32) p3)), .val (.ref b20), .val (.int (2 : Int32)), .val (.ref o34), .val (.ref w_ZH), .val .null]) rfl ?_
            show Steps p.tables e below (T43.setTop (mkF m 205 #[.val (.int p0), .val (.int p1), .val (.int p2), .val (.int p3), .val (.int (p0 &&& (7 : Int32))), .val (.int (own_pk ((p0.toUInt32 >>> ((3 : Int32) &&& 31).toUInt32).toInt32) p1)), .val (.int (own_pk ((p0.toUInt32 >>> ((4 : Int32) &&& 31).toUInt32).toInt32) p2)), .val (.int (own_pk ((p0.toUInt32 >>> ((5 : Int32) &&& 31).toUInt32).toInt32) p3)), .val (.ref b20), .val (.int (2 : Int32)), .val (.ref o34), .val (.ref w_ZH), .val .null] [])) _
            refine XS.iload X43.here hx rfl (hb hby at_205) rfl ?_
            show Steps p.tables e below (T43.setTop (mkF m 207 #[.val (.int p0), .val (.int p1), .val (.int p2), .val (.int p3), .val (.int (p0 &&& (7 : Int32))), .val (.int (own_pk ((p0.toUInt32 >>> ((3 : Int32) &&& 31).toUInt32).toInt32) p1)), .val (.int (own_pk ((p0.toUInt32 >>> ((4 : Int32) &&& 31).toUInt32).toInt32) p2)), .val (.int (own_pk ((p0.toUInt32 >>> ((5 : Int32) &&& 31).toUInt32).toInt32) p3)), .val (.ref b20), .val (.int (2 : Int32)), .val (.ref o34), .val (.ref w_ZH), .val .null] [(.int (2 : Int32))])) _
            refine XS.iconst X43.here hx rfl (hb hby at_207) ?_
            show Steps p.tables e below (T43.setTop (mkF m 208 #[.val (.int p0), .val (.int p1), .val (.int p2), .val (.int p3), .val (.int (p0 &&& (7 : Int32))), .val (.int (own_pk ((p0.toUInt32 >>> ((3 : Int32) &&& 31).toUInt32).toInt32) p1)), .val (.int (own_pk ((p0.toUInt32 >>> ((4 : Int32) &&& 31).toUInt32).toInt32) p2)), .val (.int (own_pk ((p0.toUInt32 >>> ((5 : Int32) &&& 31).toUInt32).toInt32) p3)), .val (.ref b20), .val (.int (2 : Int32)), .val (.ref o34), .val (.ref w_ZH), .val .null] [(.int (2 : Int32)), (.int (2 : Int32))])) _
            refine XS.icmpNo X43.here hx rfl (hb hby at_208) rfl (teq hc208).2 ?_
            show Steps p.tables e below (T43.setTop (mkF m 211 #[.val (.int p0), .val (.int p1), .val (.int p2), .val (.int p3), .val (.int (p0 &&& (7 : Int32))), .val (.int (own_pk ((p0.toUInt32 >>> ((3 : Int32) &&& 31).toUInt32).toInt32) p1)), .val (.int (own_pk ((p0.toUInt32 >>> ((4 : Int32) &&& 31).toUInt32).toInt32) p2)), .val (.int (own_pk ((p0.toUInt32 >>> ((5 : Int32) &&& 31).toUInt32).toInt32) p3)), .val (.ref b20), .val (.int (2 : Int32)), .val (.ref o34), .val (.ref w_ZH), .val .null] [])) _
            refine XS.iload X43.here hx rfl (hb hby at_211) rfl ?_
            show Steps p.tables e below (T43.setTop (mkF m 213 #[.val (.int p0), .val (.int p1), .val (.int p2), .val (.int p3), .val (.int (p0 &&& (7 : Int32))), .val (.int (own_pk ((p0.toUInt32 >>> ((3 : Int32) &&& 31).toUInt32).toInt32) p1)), .val (.int (own_pk ((p0.toUInt32 >>> ((4 : Int32) &&& 31).toUInt32).toInt32) p2)), .val (.int (own_pk ((p0.toUInt32 >>> ((5 : Int32) &&& 31).toUInt32).toInt32) p3)), .val (.ref b20), .val (.int (2 : Int32)), .val (.ref o34), .val (.ref w_ZH), .val .null] [(.int (own_pk ((p0.toUInt32 >>> ((3 : Int32) &&& 31).toUInt32).toInt32) p1))])) _
            refine XS.bipush X43.here hx rfl (hb hby at_213) ?_
            show Steps p.tables e below (T43.setTop (mkF m 215 #[.val (.int p0), .val (.int p1), .val (.int p2), .val (.int p3), .val (.int (p0 &&& (7 : Int32))), .val (.int (own_pk ((p0.toUInt32 >>> ((3 : Int32) &&& 31).toUInt32).toInt32) p1)), .val (.int (own_pk ((p0.toUInt32 >>> ((4 : Int32) &&& 31).toUInt32).toInt32) p2)), .val (.int (own_pk ((p0.toUInt32 >>> ((5 : Int32) &&& 31).toUInt32).toInt32) p3)), .val (.ref b20), .val (.int (2 : Int32)), .val (.ref o34), .val (.ref w_ZH), .val .null] [(.int (122 : Int32)), (.int (own_pk ((p0.toUInt32 >>> ((3 : Int32) &&& 31).toUInt32).toInt32) p1))])) _
            refine XS.icmpNo X43.here hx rfl (hb hby at_215) rfl (teq hc215).2 ?_
            show Steps p.tables e below (T43.setTop (mkF m 218 #[.val (.int p0), .val (.int p1), .val (.int p2), .val (.int p3), .val (.int (p0 &&& (7 : Int32))), .val (.int (own_pk ((p0.toUInt32 >>> ((3 : Int32) &&& 31).toUInt32).toInt32) p1)), .val (.int (own_pk ((p0.toUInt32 >>> ((4 : Int32) &&& 31).toUInt32).toInt32) p2)), .val (.int (own_pk ((p0.toUInt32 >>> ((5 : Int32) &&& 31).toUInt32).toInt32) p3)), .val (.ref b20), .val (.int (2 : Int32)), .val (.ref o34), .val (.ref w_ZH), .val .null] [])) _
            refine XS.iload X43.here hx rfl (hb hby at_218) rfl ?_
            show Steps p.tables e below (T43.setTop (mkF m 220 #[.val (.int p0), .val (.int p1), .val (.int p2), .val (.int p3), .val (.int (p0 &&& (7 : Int32))), .val (.int (own_pk ((p0.toUInt32 >>> ((3 : Int32) &&& 31).toUInt32).toInt32) p1)), .val (.int (own_pk ((p0.toUInt32 >>> ((4 : Int32) &&& 31).toUInt32).toInt32) p2)), .val (.int (own_pk ((p0.toUInt32 >>> ((5 : Int32) &&& 31).toUInt32).toInt32) p3)), .val (.ref b20), .val (.int (2 : Int32)), .val (.ref o34), .val (.ref w_ZH), .val .null] [(.int (own_pk ((p0.toUInt32 >>> ((4 : Int32) &&& 31).toUInt32).toInt32) p2))])) _
            refine XS.bipush X43.here hx rfl (hb hby at_220) ?_
            show Steps p.tables e below (T43.setTop (mkF m 222 #[.val (.int p0), .val (.int p1), .val (.int p2), .val (.int p3), .val (.int (p0 &&& (7 : Int32))), .val (.int (own_pk ((p0.toUInt32 >>> ((3 : Int32) &&& 31).toUInt32).toInt32) p1)), .val (.int (own_pk ((p0.toUInt32 >>> ((4 : Int32) &&& 31).toUInt32).toInt32) p2)), .val (.int (own_pk ((p0.toUInt32 >>> ((5 : Int32) &&& 31).toUInt32).toInt32) p3)), .val (.ref b20), .val (.int (2 : Int32)), .val (.ref o34), .val (.ref w_ZH), .val .null] [(.int (104 : Int32)), (.int (own_pk ((p0.toUInt32 >>> ((4 : Int32) &&& 31).toUInt32).toInt32) p2))])) _
            refine XS.icmpNo X43.here hx rfl (hb hby at_222) rfl (teq hc222).2 ?_
            exact k)
        obtain ⟨T46, X46, e46, st46⟩ := getS2 X43 hx hZ8 hown8 (host := "") (Or.inl (hw _ (List.mem_of_getElem? (i := 126) rfl))) Via.refl e43 (S_ZH.ext od35.2) (g := (mkF m 225 #[.val (.int p0), .val (.int p1), .val (.int p2), .val (.int p3), .val (.int (p0 &&& (7 : Int32))), .val (.int (own_pk ((p0.toUInt32 >>> ((3 : Int32) &&& 31).toUInt32).toInt32) p1)), .val (.int (own_pk ((p0.toUInt32 >>> ((4 : Int32) &&& 31).toUInt32).toInt32) p2)), .val (.int (own_pk ((p0.toUInt32 >>> ((5 : Int32) &&& 31).toUInt32).toInt32) p3)), .val (.ref b20), .val (.int (2 : Int32)), .val (.ref o34), .val (.ref w_ZH), .val .null] [])) rfl (hb hby at_225)
        have k47 : ∀ t, Steps p.tables e below (T46.setTop (mkF m 228 #[.val (.int p0), .val (.int p1), .val (.int p2), .val (.int p3), .val (.int (p0 &&& (7 : Int32))), .val (.int (own_pk ((p0.toUInt32 >>> ((3 : Int32) &&& 31).toUInt32).toInt32) p1)), .val (.int (own_pk ((p0.toUInt32 >>> ((4 : Int32) &&& 31).toUInt32).toInt32) p2)), .val (.int (own_pk ((p0.toUInt32 >>> ((5 : Int32) &&& 31).toUInt32).toInt32) p3)), .val (.ref b20), .val (.int (2 : Int32)), .val (.ref o34), .val (.ref w_ZH), .val .null] [(.ref w_ZH)])) t → Steps p.tables e below (s₁.setTop (entryFrame m #[(.int p0), (.int p1), (.int p2), (.int p3)] maxLocals)) t := fun t k => k45 t (st46 _ k)
        have k48 : ∀ t, Steps p.tables e below (T46.setTop (mkF m 270 #[.val (.int p0), .val (.int p1), .val (.int p2), .val (.int p3), .val (.int (p0 &&& (7 : Int32))), .val (.int (own_pk ((p0.toUInt32 >>> ((3 : Int32) &&& 31).toUInt32).toInt32) p1)), .val (.int (own_pk ((p0.toUInt32 >>> ((4 : Int32) &&& 31).toUInt32).toInt32) p2)), .val (.int (own_pk ((p0.toUInt32 >>> ((5 : Int32) &&& 31).toUInt32).toInt32) p3)), .val (.ref b20), .val (.int (2 : Int32)), .val (.ref o34), .val (.ref w_ZH), .val (.ref w_ZH)] [(.int (1 : Int32))])) t → Steps p.tables e below (s₁.setTop (entryFrame m #[(.int p0), (.int p1), (.int p2), (.int p3)] maxLocals)) t := fun t k => k47 t (by
            show Steps p.tables e below (T46.setTop (mkF m 228 #[.val (.int p0), .val (.int p1), .val (.int p2), .val (.int p3), .val (.int (p0 &&& (7 : Int32))), .val (.int (own_pk ((p0.toUInt32 >>> ((3 : Int32) &&& 31).toUInt32).toInt32) p1)), .val (.int (own_pk ((p0.toUInt32 >>> ((4 : Int32) &&& 31).toUInt32).toInt32) p2)), .val (.int (own_pk ((p0.toUInt32 >>> ((5 : Int32) &&& 31).toUInt32).toInt32) p3)), .val (.ref b20), .val (.int (2 : Int32)), .val (.ref o34), .val (.ref w_ZH), .val .null] [(.ref w_ZH)])) _
            refine XS.astore X46.here hx rfl (hb hby at_228) rfl rfl (l' := #[.val (.int p0), .val (.int p1), .val (.int p2), .val (.int p3), .val (.int (p0 &&& (7 : Int32))), .val (.int (own_pk ((p0.toUInt32 >>> ((3 : Int32) &&& 31).toUInt32).toInt32) p1)), .val (.int (own_pk ((p0.toUInt32 >>> ((4 : Int32) &&& 31).toUInt32).toInt32) p2)), .val (.int (own_pk ((p0.toUInt32 >>> ((5 : Int32) &&& 31).toUInt32).toInt32) p3)), .val (.ref b20), .val (.int (2 : Int32)), .val (.ref o34), .val (.ref w_ZH), .val (.ref w_ZH)]) rfl ?_
            show Steps p.tables e below (T46.setTop (mkF m 230 #[.val (.int p0), .val (.int p1), .val (.int p2), .val (.int p3), .val (.int (p0 &&& (7 : Int32))), .val (.int (own_pk ((p0.toUInt32 >>> ((3 : Int32) &&& 31).toUInt32).toInt32) p1)), .val (.int (own_pk ((p0.toUInt32 >>> ((4 : Int32) &&& 31).toUInt32).toInt32) p2)), .val (.int (own_pk ((p0.toUInt32 >>> ((5 : Int32) &&& 31).toUInt32).toInt32) p3)), .val (.ref b20), .val (.int (2 : Int32)), .val (.ref o34), .val (.ref w_ZH), .val (.ref w_ZH)] [])) _
            refine XS.goto X46.here hx rfl (pc0 := 230) (pc' := 258) rfl (hb hby at_230) (by decide) (by decide) ?_
            show Steps p.tables e below (T46.setTop (mkF m 258 #[.val (.int p0), .val (.int p1), .val (.int p2), .val (.int p3), .val (.int (p0 &&& (7 : Int32))), .val (.int (own_pk ((p0.toUInt32 >>> ((3 : Int32) &&& 31).toUInt32).toInt32) p1)), .val (.int (own_pk ((p0.toUInt32 >>> ((4 : Int32) &&& 31).toUInt32).toInt32) p2)), .val (.int (own_pk ((p0.toUInt32 >>> ((5 : Int32) &&& 31).toUInt32).toInt32) p3)), .val (.ref b20), .val (.int (2 : Int32)), .val (.ref o34), .val (.ref w_ZH), .val (.ref w_ZH)] [])) _
            refine XS.aload X46.here hx rfl (hb hby at_258) rfl rfl ?_
            show Steps p.tables e below (T46.setTop (mkF m 260 #[.val (.int p0), .val (.int p1), .val (.int p2), .val (.int p3), .val (.int (p0 &&& (7 : Int32))), .val (.int (own_pk ((p0.toUInt32 >>> ((3 : Int32) &&& 31).toUInt32).toInt32) p1)), .val (.int (own_pk ((p0.toUInt32 >>> ((4 : Int32) &&& 31).toUInt32).toInt32) p2)), .val (.int (own_pk ((p0.toUInt32 >>> ((5 : Int32) &&& 31).toUInt32).toInt32) p3)), .val (.ref b20), .val (.int (2 : Int32)), .val (.ref o34), .val (.ref w_ZH), .val (.ref w_ZH)] [(.ref w_ZH)])) _
            refine XS.aload X46.here hx rfl (hb hby at_260) rfl rfl ?_
            show Steps p.tables e below (T46.setTop (mkF m 262 #[.val (.int p0), .val (.int p1), .val (.int p2), .val (.int p3), .val (.int (p0 &&& (7 : Int32))), .val (.int (own_pk ((p0.toUInt32 >>> ((3 : Int32) &&& 31).toUInt32).toInt32) p1)), .val (.int (own_pk ((p0.toUInt32 >>> ((4 : Int32) &&& 31).toUInt32).toInt32) p2)), .val (.int (own_pk ((p0.toUInt32 >>> ((5 : Int32) &&& 31).toUInt32).toInt32) p3)), .val (.ref b20), .val (.int (2 : Int32)), .val (.ref o34), .val (.ref w_ZH), .val (.ref w_ZH)] [(.ref w_ZH), (.ref w_ZH)])) _
            refine Jvm.RoadKit.acmp (g := (mkF m 262 #[.val (.int p0), .val (.int p1), .val (.int p2), .val (.int p3), .val (.int (p0 &&& (7 : Int32))), .val (.int (own_pk ((p0.toUInt32 >>> ((3 : Int32) &&& 31).toUInt32).toInt32) p1)), .val (.int (own_pk ((p0.toUInt32 >>> ((4 : Int32) &&& 31).toUInt32).toInt32) p2)), .val (.int (own_pk ((p0.toUInt32 >>> ((5 : Int32) &&& 31).toUInt32).toInt32) p3)), .val (.ref b20), .val (.int (2 : Int32)), .val (.ref o34), .val (.ref w_ZH), .val (.ref w_ZH)] [(.ref w_ZH), (.ref w_ZH)])) X46 hx rfl rfl rfl (pc0 := 262) (pc' := 265) (same := true) rfl (hb hby at_262) rfl (decide_eq_true rfl) (by decide) (by decide) ?_
            show Steps p.tables e below (T46.setTop (mkF m 265 #[.val (.int p0), .val (.int p1), .val (.int p2), .val (.int p3), .val (.int (p0 &&& (7 : Int32))), .val (.int (own_pk ((p0.toUInt32 >>> ((3 : Int32) &&& 31).toUInt32).toInt32) p1)), .val (.int (own_pk ((p0.toUInt32 >>> ((4 : Int32) &&& 31).toUInt32).toInt32) p2)), .val (.int (own_pk ((p0.toUInt32 >>> ((5 : Int32) &&& 31).toUInt32).toInt32) p3)), .val (.ref b20), .val (.int (2 : Int32)), .val (.ref o34), .val (.ref w_ZH), .val (.ref w_ZH)] [])) _
            refine XS.iconst X46.here hx rfl (hb hby at_265) ?_
            show Steps p.tables e below (T46.setTop (mkF m 266 #[.val (.int p0), .val (.int p1), .val (.int p2), .val (.int p3), .val (.int (p0 &&& (7 : Int32))), .val (.int (own_pk ((p0.toUInt32 >>> ((3 : Int32) &&& 31).toUInt32).toInt32) p1)), .val (.int (own_pk ((p0.toUInt32 >>> ((4 : Int32) &&& 31).toUInt32).toInt32) p2)), .val (.int (own_pk ((p0.toUInt32 >>> ((5 : Int32) &&& 31).toUInt32).toInt32) p3)), .val (.ref b20), .val (.int (2 : Int32)), .val (.ref o34), .val (.ref w_ZH), .val (.ref w_ZH)] [(.int (1 : Int32))])) _
            refine XS.goto X46.here hx rfl (pc0 := 266) (pc' := 270) rfl (hb hby at_266) (by decide) (by decide) ?_
            exact k)
        obtain ⟨fs, hr, hrun, hended, w1, w2, w3, w4⟩ := X46.leaveW (s := s) (vm₁ := T8.vm) Sn8 (by rw [e46]; exact (Nat.le_trans (Nat.le_trans (Nat.le_trans (Nat.le_trans (Nat.le_trans (Nat.le_trans (Nat.le_refl _) E20.1) E23.1) (Keep.of_wr W26).1) (Keep.of_wr W29).1) K31.1) K34.1)) (v := (some (.int (1 : Int32)))) (fun h => by rw [Bd.returns] at h; cases h)
        refine ⟨_, _, k48 _ ?_, hrun, hended, _, _, rfl, ?_, w1, w2, w3, w4.mono (by decide) (by decide)⟩
        · exact retN X46 hx (t := .boolean) Bd.returns (by simp) (hb hby at_270) hr
        · show Q0 Z p0 p1 p2 p3 wv cl w_ZH w_EN c_ZH t_ZH c_EN t_EN k_ZH k_EN w_EMPTY G1 G3 h0 n0 _ T46.heap _
          rw [e46]
          exact ⟨rfl, N41⟩
      · have hx0 : (own_pk ((p0.toUInt32 >>> ((3 : Int32) &&& 31).toUInt32).toInt32) p1) = (101 : Int32) := by have q := (List.cons.inj hz).1; rw [own_pk_n] at q; exact q.symm
        have hx1 : (own_pk ((p0.toUInt32 >>> ((4 : Int32) &&& 31).toUInt32).toInt32) p2) = (110 : Int32) := by have q := (List.cons.inj (List.cons.inj hz).2).1; rw [own_pk_n] at q; exact q.symm
        have k49 : ∀ t, Steps p.tables e below (T34.setTop (mkF m 182 #[.val (.int p0), .val (.int p1), .val (.int p2), .val (.int p3), .val (.int (p0 &&& (7 : Int32))), .val (.int (own_pk ((p0.toUInt32 >>> ((3 : Int32) &&& 31).toUInt32).toInt32) p1)), .val (.int (own_pk ((p0.toUInt32 >>> ((4 : Int32) &&& 31).toUInt32).toInt32) p2)), .val (.int (own_pk ((p0.toUInt32 >>> ((5 : Int32) &&& 31).toUInt32).toInt32) p3)), .val (.ref b20), .val (.int (2 : Int32)), .val (.ref o34), .unset, .unset] [(.ref o34)])) t → Steps p.tables e below (s₁.setTop (entryFrame m #[(.int p0), (.int p1), (.int p2), (.int p3)] maxLocals)) t := fun t k => k36 t (by
            show Steps p.tables e below (T34.setTop (mkF m 171 #[.val (.int p0), .val (.int p1), .val (.int p2), .val (.int p3), .val (.int (p0 &&& (7 : Int32))), .val (.int (own_pk ((p0.toUInt32 >>> ((3 : Int32) &&& 31).toUInt32).toInt32) p1)), .val (.int (own_pk ((p0.toUInt32 >>> ((4 : Int32) &&& 31).toUInt32).toInt32) p2)), .val (.int (own_pk ((p0.toUInt32 >>> ((5 : Int32) &&& 31).toUInt32).toInt32) p3)), .val (.ref b20), .val (.int (2 : Int32)), .unset, .unset, .unset] [(.ref o34)])) _
            refine XS.astore X34.here hx rfl (hb hby at_171) rfl rfl (l' := #[.val (.int p0), .val (.int p1), .val (.int p2), .val (.int p3), .val (.int (p0 &&& (7 : Int32))), .val (.int (own_pk ((p0.toUInt32 >>> ((3 : Int32) &&& 31).toUInt32).toInt32) p1)), .val (.int (own_pk ((p0.toUInt32 >>> ((4 : Int32) &&& 31).toUInt32).toInt32) p2)), .val (.int (own_pk ((p0.toUInt32 >>> ((5 : Int32) &&& 31).toUInt32).toInt32) p3)), .val (.ref b20), .val (.int (2 : Int32)), .val (.ref o34), .unset, .unset]) rfl ?_
            show Steps p.tables e below (T34.setTop (mkF m 173 #[.val (.int p0), .val (.int p1), .val (.int p2), .val (.int p3), .val (.int (p0 &&& (7 : Int32))), .val (.int (own_pk ((p0.toUInt32 >>> ((3 : Int32) &&& 31).toUInt32).toInt32) p1)), .val (.int (own_pk ((p0.toUInt32 >>> ((4 : Int32) &&& 31).toUInt32).toInt32) p2)), .val (.int (own_pk ((p0.toUInt32 >>> ((5 : Int32) &&& 31).toUInt32).toInt32) p3)), .val (.ref b20), .val (.int (2 : Int32)), .val (.ref o34), .unset, .unset] [])) _
            refine XS.aload X34.here hx rfl (hb hby at_173) rfl rfl ?_
            show Steps p.tables e below (T34.setTop (mkF m 175 #[.val (.int p0), .val (.int p1), .val (.int p2), .val (.int p3), .val (.int (p0 &&& (7 : Int32))), .val (.int (own_pk ((p0.toUInt32 >>> ((3 : Int32) &&& 31).toUInt32).toInt32) p1)), .val (.int (own_pk ((p0.toUInt32 >>> ((4 : Int32) &&& 31).toUInt32).toInt32) p2)), .val (.int (own_pk ((p0.toUInt32 >>> ((5 : Int32) &&& 31).toUInt32).toInt32) p3)), .val (.ref b20), .val (.int (2 : Int32)), .val (.ref o34), .unset, .unset] [(.ref o34)])) _
            refine XS.ifnonnullYes X34.here hx rfl (pc0 := 175) (pc' := 180) rfl (hb hby at_175) rfl (by decide) (by decide) ?_
            show Steps p.tables e below (T34.setTop (mkF m 180 #[.val (.int p0), .val (.int p1), .val (.int p2), .val (.int p3), .val (.int (p0 &&& (7 : Int32))), .val (.int (own_pk ((p0.toUInt32 >>> ((3 : Int32) &&& 31).toUInt32).toInt32) p1)), .val (.int (own_pk ((p0.toUInt32 >>> ((4 : Int32) &&& 31).toUInt32).toInt32) p2)), .val (.int (own_pk ((p0.toUInt32 >>> ((5 : Int32) &&& 31).toUInt32).toInt32) p3)), .val (.ref b20), .val (.int (2 : Int32)), .val (.ref o34), .unset, .unset] [])) _
            refine XS.aload X34.here hx rfl (hb hby at_180) rfl rfl ?_
            exact k)
        obtain ⟨cq50, kcq50, q50a, q50b, q50c⟩ := isOf hZ8 rfl Ex34
        obtain ⟨_, _, ⟨T50, L50, kq50, n50⟩, -, X50, ⟨Lc50, hQ50, l50, y50, z50⟩, st50⟩ := X34.virtualBack hx (y := (⟨"java/util/Optional", "isPresent", "()Z"⟩ : MethodName)) (z := (⟨"java/util/Optional", "isPresent", "()Z"⟩ : MethodName)) hown8 (mvT hZ8 (hw _ (List.mem_of_getElem? (i := 65) rfl))) (mvT hZ8 (hw _ (List.mem_of_getElem? (i := 66) rfl))) (notFace_of_selects (args := #[]) (mvT hZ8 (hw _ (List.mem_of_getElem? (i := 68) rfl)))) (mvT hZ8 (hw _ (List.mem_of_getElem? (i := 68) rfl))) (mvT hZ8 (hw _ (List.mem_of_getElem? (i := 67) rfl))) (by decide) (backOf (W := 0) (rm10r l Z a0 hw [] o34 w_EN T34.heap n0 Zs34 Fx34) hZ8 (hw _ (List.mem_of_getElem? (i := 69) rfl)) (hw _ (List.mem_of_getElem? (i := 62) rfl)) (by decide) (by decide)) q50a q50c (g := (mkF m 182 #[.val (.int p0), .val (.int p1), .val (.int p2), .val (.int p3), .val (.int (p0 &&& (7 : Int32))), .val (.int (own_pk ((p0.toUInt32 >>> ((3 : Int32) &&& 31).toUInt32).toInt32) p1)), .val (.int (own_pk ((p0.toUInt32 >>> ((4 : Int32) &&& 31).toUInt32).toInt32) p2)), .val (.int (own_pk ((p0.toUInt32 >>> ((5 : Int32) &&& 31).toUInt32).toInt32) p3)), .val (.ref b20), .val (.int (2 : Int32)), .val (.ref o34), .unset, .unset] [(.ref o34)])) rfl (by rw [hml]; rfl) (Steps.refl _) (argsL := []) (rest := []) (lenOf pd_10 rfl) rfl (by show 2 * 0 + _ ≤ _; exact Nat.le_of_eq rfl) (hb hby at_182) (fun _ _ => ⟨rfl, rfl, (by decide : 11 + 0 ≤ _), (by decide : 71 + 0 ≤ _)⟩)
        dsimp only [Pt.U, Pt.locs, Pt.cells, Pt.slots] at X50 l50 y50 z50 st50 hQ50
        subst l50 y50 z50
        obtain ⟨rfl, N50q, e50⟩ := hQ50
        have N50 := Fr.app N34 N50q
        have k51 : ∀ t, Steps p.tables e below (T50.setTop (mkF m 185 #[.val (.int p0), .val (.int p1), .val (.int p2), .val (.int p3), .val (.int (p0 &&& (7 : Int32))), .val (.int (own_pk ((p0.toUInt32 >>> ((3 : Int32) &&& 31).toUInt32).toInt32) p1)), .val (.int (own_pk ((p0.toUInt32 >>> ((4 : Int32) &&& 31).toUInt32).toInt32) p2)), .val (.int (own_pk ((p0.toUInt32 >>> ((5 : Int32) &&& 31).toUInt32).toInt32) p3)), .val (.ref b20), .val (.int (2 : Int32)), .val (.ref o34), .unset, .unset] [(.int (1 : Int32))])) t → Steps p.tables e below (s₁.setTop (entryFrame m #[(.int p0), (.int p1), (.int p2), (.int p3)] maxLocals)) t := fun t k => k49 t (st50.trans k)
        have hc185 : ¬ ((1 : Int32) = (0 : Int32)) := by decide
        have k52 : ∀ t, Steps p.tables e below (T50.setTop (mkF m 190 #[.val (.int p0), .val (.int p1), .val (.int p2), .val (.int p3), .val (.int (p0 &&& (7 : Int32))), .val (.int (own_pk ((p0.toUInt32 >>> ((3 : Int32) &&& 31).toUInt32).toInt32) p1)), .val (.int (own_pk ((p0.toUInt32 >>> ((4 : Int32) &&& 31).toUInt32).toInt32) p2)), .val (.int (own_pk ((p0.toUInt32 >>> ((5 : Int32) &&& 31).toUInt32).toInt32) p3)), .val (.ref b20), .val (.int (2 : Int32)), .val (.ref o34), .unset, .unset] [(.ref o34)])) t → Steps p.tables e below (s₁.setTop (entryFrame m #[(.int p0), (.int p1), (.int p2), (.int p3)] maxLocals)) t := fun t k => k51 t (by
            show Steps p.tables e below (T50.setTop (mkF m 185 #[.val (.int p0), .val (.int p1), .val (.int p2), .val (.int p3), .val (.int (p0 &&& (7 : Int32))), .val (.int (own_pk ((p0.toUInt32 >>> ((3 : Int32) &&& 31).toUInt32).toInt32) p1)), .val (.int (own_pk ((p0.toUInt32 >>> ((4 : Int32) &&& 31).toUInt32).toInt32) p2)), .val (.int (own_pk ((p0.toUInt32 >>> ((5 : Int32) &&& 31).toUInt32).toInt32) p3)), .val (.ref b20), .val (.int (2 : Int32)), .val (.ref o34), .unset, .unset] [(.int (1 : Int32))])) _
            refine XS.ifNo X50.here hx rfl (hb hby at_185) rfl ((if0 _ _).trans (feq hc185).1) ?_
            show Steps p.tables e below (T50.setTop (mkF m 188 #[.val (.int p0), .val (.int p1), .val (.int p2), .val (.int p3), .val (.int (p0 &&& (7 : Int32))), .val (.int (own_pk ((p0.toUInt32 >>> ((3 : Int32) &&& 31).toUInt32).toInt32) p1)), .val (.int (own_pk ((p0.toUInt32 >>> ((4 : Int32) &&& 31).toUInt32).toInt32) p2)), .val (.int (own_pk ((p0.toUInt32 >>> ((5 : Int32) &&& 31).toUInt32).toInt32) p3)), .val (.ref b20), .val (.int (2 : Int32)), .val (.ref o34), .unset, .unset] [])) _
            refine XS.aload X50.here hx rfl (hb hby at_188) rfl rfl ?_
            exact k)
        obtain ⟨cq53, kcq53, q53a, q53b, q53c⟩ := isOf hZ8 e50 Ex34
        obtain ⟨_, _, ⟨T53, L53, kq53, n53⟩, -, X53, ⟨Lc53, hQ53, l53, y53, z53⟩, st53⟩ := X50.virtualBack hx (y := (⟨"java/util/Optional", "get", "()Ljava/lang/Object;"⟩ : MethodName)) (z := (⟨"java/util/Optional", "get", "()Ljava/lang/Object;"⟩ : MethodName)) hown8 (mvT hZ8 (hw _ (List.mem_of_getElem? (i := 118) rfl))) (mvT hZ8 (hw _ (List.mem_of_getElem? (i := 119) rfl))) (notFace_of_selects (args := #[]) (mvT hZ8 (hw _ (List.mem_of_getElem? (i := 121) rfl)))) (mvT hZ8 (hw _ (List.mem_of_getElem? (i := 121) rfl))) (mvT hZ8 (hw _ (List.mem_of_getElem? (i := 120) rfl))) (by decide) (backOf (W := 0) (rm22 l Z a0 hw [] o34 w_EN T34.heap n0 Zs34 Fx34) hZ8 (hw _ (List.mem_of_getElem? (i := 122) rfl)) (hw _ (List.mem_of_getElem? (i := 62) rfl)) (by decide) (by decide)) q53a q53c (g := (mkF m 190 #[.val (.int p0), .val (.int p1), .val (.int p2), .val (.int p3), .val (.int (p0 &&& (7 : Int32))), .val (.int (own_pk ((p0.toUInt32 >>> ((3 : Int32) &&& 31).toUInt32).toInt32) p1)), .val (.int (own_pk ((p0.toUInt32 >>> ((4 : Int32) &&& 31).toUInt32).toInt32) p2)), .val (.int (own_pk ((p0.toUInt32 >>> ((5 : Int32) &&& 31).toUInt32).toInt32) p3)), .val (.ref b20), .val (.int (2 : Int32)), .val (.ref o34), .unset, .unset] [(.ref o34)])) rfl (by rw [hml]; rfl) (Steps.refl _) (argsL := []) (rest := []) (lenOf pd_12 rfl) rfl (by show 2 * 0 + _ ≤ _; exact Nat.le_of_eq rfl) (hb hby at_190) (fun _ _ => ⟨rfl, e50, (by decide : 11 + 0 ≤ _), (by decide : 71 + 0 ≤ _)⟩)
        dsimp only [Pt.U, Pt.locs, Pt.cells, Pt.slots] at X53 l53 y53 z53 st53 hQ53
        subst l53 y53 z53
        obtain ⟨rfl, N53q, e53⟩ := hQ53
        have N53 := Fr.app N50 N53q
        have k54 : ∀ t, Steps p.tables e below (T53.setTop (mkF m 193 #[.val (.int p0), .val (.int p1), .val (.int p2), .val (.int p3), .val (.int (p0 &&& (7 : Int32))), .val (.int (own_pk ((p0.toUInt32 >>> ((3 : Int32) &&& 31).toUInt32).toInt32) p1)), .val (.int (own_pk ((p0.toUInt32 >>> ((4 : Int32) &&& 31).toUInt32).toInt32) p2)), .val (.int (own_pk ((p0.toUInt32 >>> ((5 : Int32) &&& 31).toUInt32).toInt32) p3)), .val (.ref b20), .val (.int (2 : Int32)), .val (.ref o34), .unset, .unset] [(.ref w_EN)])) t → Steps p.tables e below (s₁.setTop (entryFrame m #[(.int p0), (.int p1), (.int p2), (.int p3)] maxLocals)) t := fun t k => k52 t (st53.trans k)
        obtain ⟨T55, X55, e55, st55⟩ := castY X53 hx hZ8 hown8 (hw _ (List.mem_of_getElem? (i := 123) rfl)) e53 (Ins.self (E_w_EN.ext od35.2)) (g := (mkF m 193 #[.val (.int p0), .val (.int p1), .val (.int p2), .val (.int p3), .val (.int (p0 &&& (7 : Int32))), .val (.int (own_pk ((p0.toUInt32 >>> ((3 : Int32) &&& 31).toUInt32).toInt32) p1)), .val (.int (own_pk ((p0.toUInt32 >>> ((4 : Int32) &&& 31).toUInt32).toInt32) p2)), .val (.int (own_pk ((p0.toUInt32 >>> ((5 : Int32) &&& 31).toUInt32).toInt32) p3)), .val (.ref b20), .val (.int (2 : Int32)), .val (.ref o34), .unset, .unset] [(.ref w_EN)])) rfl rfl (hb hby at_193)
        have k56 : ∀ t, Steps p.tables e below (T55.setTop (mkF m 196 #[.val (.int p0), .val (.int p1), .val (.int p2), .val (.int p3), .val (.int (p0 &&& (7 : Int32))), .val (.int (own_pk ((p0.toUInt32 >>> ((3 : Int32) &&& 31).toUInt32).toInt32) p1)), .val (.int (own_pk ((p0.toUInt32 >>> ((4 : Int32) &&& 31).toUInt32).toInt32) p2)), .val (.int (own_pk ((p0.toUInt32 >>> ((5 : Int32) &&& 31).toUInt32).toInt32) p3)), .val (.ref b20), .val (.int (2 : Int32)), .val (.ref o34), .unset, .unset] [(.ref w_EN)])) t → Steps p.tables e below (s₁.setTop (entryFrame m #[(.int p0), (.int p1), (.int p2), (.int p3)] maxLocals)) t := fun t k => k54 t (st55 _ k)
        have hc208 : (2 : Int32) = (2 : Int32) := by decide
        have hc215 : ¬ ((own_pk ((p0.toUInt32 >>> ((3 : Int32) &&& 31).toUInt32).toInt32) p1) = (122 : Int32)) := (by rw [hx0]; decide)
        have hc236 : (2 : Int32) = (2 : Int32) := by decide
        have hc243 : (own_pk ((p0.toUInt32 >>> ((3 : Int32) &&& 31).toUInt32).toInt32) p1) = (101 : Int32) := hx0
        have hc250 : (own_pk ((p0.toUInt32 >>> ((4 : Int32) &&& 31).toUInt32).toInt32) p2) = (110 : Int32) := hx1
        have k57 : ∀ t, Steps p.tables e below (T55.setTop (mkF m 253 #[.val (.int p0), .val (.int p1), .val (.int p2), .val (.int p3), .val (.int (p0 &&& (7 : Int32))), .val (.int (own_pk ((p0.toUInt32 >>> ((3 : Int32) &&& 31).toUInt32).toInt32) p1)), .val (.int (own_pk ((p0.toUInt32 >>> ((4 : Int32) &&& 31).toUInt32).toInt32) p2)), .val (.int (own_pk ((p0.toUInt32 >>> ((5 : Int32) &&& 31).toUInt32).toInt32) p3)), .val (.ref b20), .val (.int (2 : Int32)), .val (.ref o34), .val (.ref w_EN), .val .null] [])) t → Steps p.tables e below (s₁.setTop (entryFrame m #[(.int p0), (.int p1), (.int p2), (.int p3)] maxLocals)) t := fun t k => k56 t (by
            show Steps p.tables e below (T55.setTop (mkF m 196 #[.val (.int p0), .val (.int p1), .val (.int p2), .val (.int p3), .val (.int (p0 &&& (7 : Int32))), .val (.int (own_pk ((p0.toUInt32 >>> ((3 : Int32) &&& 31).toUInt32).toInt32) p1)), .val (.int (own_pk ((p0.toUInt32 >>> ((4 : Int32) &&& 31).toUInt32).toInt32) p2)), .val (.int (own_pk ((p0.toUInt32 >>> ((5 : Int32) &&& 31).toUInt32).toInt32) p3)), .val (.ref b20), .val (.int (2 : Int32)), .val (.ref o34), .unset, .unset] [(.ref w_EN)])) _
            refine XS.goto X55.here hx rfl (pc0 := 196) (pc' := 200) rfl (hb hby at_196) (by decide) (by decide) ?_
            show Steps p.tables e below (T55.setTop (mkF m 200 #[.val (.int p0), .val (.int p1), .val (.int p2), .val (.int p3), .val (.int (p0 &&& (7 : Int32))), .val (.int (own_pk ((p0.toUInt32 >>> ((3 : Int32) &&& 31).toUInt32).toInt32) p1)), .val (.int (own_pk ((p0.toUInt32 >>> ((4 : Int32) &&& 31).toUInt32).toInt32) p2)), .val (.int (own_pk ((p0.toUInt32 >>> ((5 : Int32) &&& 31).toUInt32).toInt32) p3)), .val (.ref b20), .val (.int (2 : Int32)), .val (.ref o34), .unset, .unset] [(.ref w_EN)])) _
            refine XS.astore X55.here hx rfl (hb hby at_200) rfl rfl (l' := #[.val (.int p0), .val (.int p1), .val (.int p2), .val (.int p3), .val (.int (p0 &&& (7 : Int32))), .val (.int (own_pk ((p0.toUInt32 >>> ((3 : Int32) &&& 31).toUInt32).toInt32) p1)), .val (.int (own_pk ((p0.toUInt32 >>> ((4 : Int32) &&& 31).toUInt32).toInt32) p2)), .val (.int (own_pk ((p0.toUInt32 >>> ((5 : Int32) &&& 31).toUInt32).toInt32) p3)), .val (.ref b20), .val (.int (2 : Int32)), .val (.ref o34), .val (.ref w_EN), .unset]) rfl ?_
            show Steps p.tables e below (T55.setTop (mkF m 202 #[.val (.int p0), .val (.int p1), .val (.int p2), .val (.int p3), .val (.int (p0 &&& (7 : Int32))), .val (.int (own_pk ((p0.toUInt32 >>> ((3 : Int32) &&& 31).toUInt32).toInt32) p1)), .val (.int (own_pk ((p0.toUInt32 >>> ((4 : Int32) &&& 31).toUInt32).toInt32) p2)), .val (.int (own_pk ((p0.toUInt32 >>> ((5 : Int32) &&& 31).toUInt32).toInt32) p3)), .val (.ref b20), .val (.int (2 : Int32)), .val (.ref o34), .val (.ref w_EN), .unset] [])) _
            refine XS.aconstNull X55.here hx rfl (hb hby at_202) ?_
            show Steps p.tables e below (T55.setTop (mkF m 203 #[.val (.int p0), .val (.int p1), .val (.int p2), .val (.int p3), .val (.int (p0 &&& (7 : Int32))), .val (.int (own_pk ((p0.toUInt32 >>> ((3 : Int32) &&& 31).toUInt32).toInt32) p1)), .val (.int (own_pk ((p0.toUInt32 >>> ((4 : Int32) &&& 31).toUInt32).toInt32) p2)), .val (.int (own_pk ((p0.toUInt32 >>> ((5 : Int32) &&& 31).toUInt32).toInt32) p3)), .val (.ref b20), .val (.int (2 : Int32)), .val (.ref o34), .val (.ref w_EN), .unset] [.null])) _
            refine XS.astore X55.here hx rfl (hb hby at_203) rfl rfl (l' := #[.val (.int p0), .val (.int p1), .val (.int p2), .val (.int p3), .val (.int (p0 &&& (7 : Int32))), .val (.int (own_pk ((p0.toUInt32 >>> ((3 : Int32) &&& 31).toUInt32).toInt32) p1)), .val (.int (own_pk ((p0.toUInt32 >>> ((4 : Int32) &&& 31).toUInt32).toInt32) p2)), .val (.int (own_pk ((p0.toUInt32 >>> ((5 : Int32) &&& 31).toUInt32).toInt32) p3)), .val (.ref b20), .val (.int (2 : Int32)), .val (.ref o34), .val (.ref w_EN), .val .null]) rfl ?_
            show Steps p.tables e below (T55.setTop (mkF m 205 #[.val (.int p0), .val (.int p1), .val (.int p2), .val (.int p3), .val (.int (p0 &&& (7 : Int32))), .val (.int (own_pk ((p0.toUInt32 >>> ((3 : Int32) &&& 31).toUInt32).toInt32) p1)), .val (.int (own_pk ((p0.toUInt32 >>> ((4 : Int32) &&& 31).toUInt32).toInt32) p2)), .val (.int (own_pk ((p0.toUInt32 >>> ((5 : Int32) &&& 31).toUInt32).toInt32) p3)), .val (.ref b20), .val (.int (2 : Int32)), .val (.ref o34), .val (.ref w_EN), .val .null] [])) _
            refine XS.iload X55.here hx rfl (hb hby at_205) rfl ?_
            show Steps p.tables e below (T55.setTop (mkF m 207 #[.val (.int p0), .val (.int p1), .val (.int p2), .val (.int p3), .val (.int (p0 &&& (7 : Int32))), .val (.int (own_pk ((p0.toUInt32 >>> ((3 : Int32) &&& 31).toUInt32).toInt32) p1)), .val (.int (own_pk ((p0.toUInt32 >>> ((4 : Int32) &&& 31).toUInt32).toInt32) p2)), .val (.int (own_pk ((p0.toUInt32 >>> ((5 : Int32) &&& 31).toUInt32).toInt32) p3)), .val (.ref b20), .val (.int (2 : Int32)), .val (.ref o34), .val (.ref w_EN), .val .null] [(.int (2 : Int32))])) _
            refine XS.iconst X55.here hx rfl (hb hby at_207) ?_
            show Steps p.tables e below (T55.setTop (mkF m 208 #[.val (.int p0), .val (.int p1), .val (.int p2), .val (.int p3), .val (.int (p0 &&& (7 : Int32))), .val (.int (own_pk ((p0.toUInt32 >>> ((3 : Int32) &&& 31).toUInt32).toInt32) p1)), .val (.int (own_pk ((p0.toUInt32 >>> ((4 : Int32) &&& 31).toUInt32).toInt32) p2)), .val (.int (own_pk ((p0.toUInt32 >>> ((5 : Int32) &&& 31).toUInt32).toInt32) p3)), .val (.ref b20), .val (.int (2 : Int32)), .val (.ref o34), .val (.ref w_EN), .val .null] [(.int (2 : Int32)), (.int (2 : Int32))])) _
            refine XS.icmpNo X55.here hx rfl (hb hby at_208) rfl (teq hc208).2 ?_
            show Steps p.tables e below (T55.setTop (mkF m 211 #[.val (.int p0), .val (.int p1), .val (.int p2), .val (.int p3), .val (.int (p0 &&& (7 : Int32))), .val (.int (own_pk ((p0.toUInt32 >>> ((3 : Int32) &&& 31).toUInt32).toInt32) p1)), .val (.int (own_pk ((p0.toUInt32 >>> ((4 : Int32) &&& 31).toUInt32).toInt32) p2)), .val (.int (own_pk ((p0.toUInt32 >>> ((5 : Int32) &&& 31).toUInt32).toInt32) p3)), .val (.ref b20), .val (.int (2 : Int32)), .val (.ref o34), .val (.ref w_EN), .val .null] [])) _
            refine XS.iload X55.here hx rfl (hb hby at_211) rfl ?_
            show Steps p.tables e below (T55.setTop (mkF m 213 #[.val (.int p0), .val (.int p1), .val (.int p2), .val (.int p3), .val (.int (p0 &&& (7 : Int32))), .val (.int (own_pk ((p0.toUInt32 >>> ((3 : Int32) &&& 31).toUInt32).toInt32) p1)), .val (.int (own_pk ((p0.toUInt32 >>> ((4 : Int32) &&& 31).toUInt32).toInt32) p2)), .val (.int (own_pk ((p0.toUInt32 >>> ((5 : Int32) &&& 31).toUInt32).toInt32) p3)), .val (.ref b20), .val (.int (2 : Int32)), .val (.ref o34), .val (.ref w_EN), .val .null] [(.int (own_pk ((p0.toUInt32 >>> ((3 : Int32) &&& 31).toUInt32).toInt32) p1))])) _
            refine XS.bipush X55.here hx rfl (hb hby at_213) ?_
            show Steps p.tables e below (T55.setTop (mkF m 215 #[.val (.int p0), .val (.int p1), .val (.int p2), .val (.int p3), .val (.int (p0 &&& (7 : Int32))), .val (.int (own_pk ((p0.toUInt32 >>> ((3 : Int32) &&& 31).toUInt32).toInt32) p1)), .val (.int (own_pk ((p0.toUInt32 >>> ((4 : Int32) &&& 31).toUInt32).toInt32) p2)), .val (.int (own_pk ((p0.toUInt32 >>> ((5 : Int32) &&& 31).toUInt32).toInt32) p3)), .val (.ref b20), .val (.int (2 : Int32)), .val (.ref o34), .val (.ref w_EN), .val .null] [(.int (122 : Int32)), (.int (own_pk ((p0.toUInt32 >>> ((3 : Int32) &&& 31).toUInt32).toInt32) p1))])) _
            refine XS.icmpYes X55.here hx rfl (pc0 := 215) (pc' := 233) rfl (hb hby at_215) rfl (feq hc215).2 (by decide) (by decide) ?_
            show Steps p.tables e below (T55.setTop (mkF m 233 #[.val (.int p0), .val (.int p1), .val (.int p2), .val (.int p3), .val (.int (p0 &&& (7 : Int32))), .val (.int (own_pk ((p0.toUInt32 >>> ((3 : Int32) &&& 31).toUInt32).toInt32) p1)), .val (.int (own_pk ((p0.toUInt32 >>> ((4 : Int32) &&& 31).toUInt32).toInt32) p2)), .val (.int (own_pk ((p0.toUInt32 >>> ((5 : Int32) &&& 31).toUInt32).toInt32) p3)), .val (.ref b20), .val (.int (2 : Int32)), .val (.ref o34), .val (.ref w_EN), .val .null] [])) _
            refine XS.iload X55.here hx rfl (hb hby at_233) rfl ?_
            show Steps p.tables e below (T55.setTop (mkF m 235 #[.val (.int p0), .val (.int p1), .val (.int p2), .val (.int p3), .val (.int (p0 &&& (7 : Int32))), .val (.int (own_pk ((p0.toUInt32 >>> ((3 : Int32) &&& 31).toUInt32).toInt32) p1)), .val (.int (own_pk ((p0.toUInt32 >>> ((4 : Int32) &&& 31).toUInt32).toInt32) p2)), .val (.int (own_pk ((p0.toUInt32 >>> ((5 : Int32) &&& 31).toUInt32).toInt32) p3)), .val (.ref b20), .val (.int (2 : Int32)), .val (.ref o34), .val (.ref w_EN), .val .null] [(.int (2 : Int32))])) _
            refine XS.iconst X55.here hx rfl (hb hby at_235) ?_
            show Steps p.tables e below (T55.setTop (mkF m 236 #[.val (.int p0), .val (.int p1), .val (.int p2), .val (.int p3), .val (.int (p0 &&& (7 : Int32))), .val (.int (own_pk ((p0.toUInt32 >>> ((3 : Int32) &&& 31).toUInt32).toInt32) p1)), .val (.int (own_pk ((p0.toUInt32 >>> ((4 : Int32) &&& 31).toUInt32).toInt32) p2)), .val (.int (own_pk ((p0.toUInt32 >>> ((5 : Int32) &&& 31).toUInt32).toInt32) p3)), .val (.ref b20), .val (.int (2 : Int32)), .val (.ref o34), .val (.ref w_EN), .val .null] [(.int (2 : Int32)), (.int (2 : Int32))])) _
            refine XS.icmpNo X55.here hx rfl (hb hby at_236) rfl (teq hc236).2 ?_
            show Steps p.tables e below (T55.setTop (mkF m 239 #[.val (.int p0), .val (.int p1), .val (.int p2), .val (.int p3), .val (.int (p0 &&& (7 : Int32))), .val (.int (own_pk ((p0.toUInt32 >>> ((3 : Int32) &&& 31).toUInt32).toInt32) p1)), .val (.int (own_pk ((p0.toUInt32 >>> ((4 : Int32) &&& 31).toUInt32).toInt32) p2)), .val (.int (own_pk ((p0.toUInt32 >>> ((5 : Int32) &&& 31).toUInt32).toInt32) p3)), .val (.ref b20), .val (.int (2 : Int32)), .val (.ref o34), .val (.ref w_EN), .val .null] [])) _
            refine XS.iload X55.here hx rfl (hb hby at_239) rfl ?_
            show Steps p.tables e below (T55.setTop (mkF m 241 #[.val (.int p0), .val (.int p1), .val (.int p2), .val (.int p3), .val (.int (p0 &&& (7 : Int32))), .val (.int (own_pk ((p0.toUInt32 >>> ((3 : Int32) &&& 31).toUInt32).toInt32) p1)), .val (.int (own_pk ((p0.toUInt32 >>> ((4 : Int32) &&& 31).toUInt32).toInt32) p2)), .val (.int (own_pk ((p0.toUInt32 >>> ((5 : Int32) &&& 31).toUInt32).toInt32) p3)), .val (.ref b20), .val (.int (2 : Int32)), .val (.ref o34), .val (.ref w_EN), .val .null] [(.int (own_pk ((p0.toUInt32 >>> ((3 : Int32) &&& 31).toUInt32).toInt32) p1))])) _
            refine XS.bipush X55.here hx rfl (hb hby at_241) ?_
            show Steps p.tables e below (T55.setTop (mkF m 243 #[.val (.int p0), .val (.int p1), .val (.int p2), .val (.int p3), .val (.int (p0 &&& (7 : Int32))), .val (.int (own_pk ((p0.toUInt32 >>> ((3 : Int32) &&& 31).toUInt32).toInt32) p1)), .val (.int (own_pk ((p0.toUInt32 >>> ((4 : Int32) &&& 31).toUInt32).toInt32) p2)), .val (.int (own_pk ((p0.toUInt32 >>> ((5 : Int32) &&& 31).toUInt32).toInt32) p3)), .val (.ref b20), .val (.int (2 : Int32)), .val (.ref o34), .val (.ref w_EN), .val .null] [(.int (101 : Int32)), (.int (own_pk ((p0.toUInt32 >>> ((3 : Int32) &&& 31).toUInt32).toInt32) p1))])) _
            refine XS.icmpNo X55.here hx rfl (hb hby at_243) rfl (teq hc243).2 ?_
            show Steps p.tables e below (T55.setTop (mkF m 246 #[.val (.int p0), .val (.int p1), .val (.int p2), .val (.int p3), .val (.int (p0 &&& (7 : Int32))), .val (.int (own_pk ((p0.toUInt32 >>> ((3 : Int32) &&& 31).toUInt32).toInt32) p1)), .val (.int (own_pk ((p0.toUInt32 >>> ((4 : Int32) &&& 31).toUInt32).toInt32) p2)), .val (.int (own_pk ((p0.toUInt32 >>> ((5 : Int32) &&& 31).toUInt32).toInt32) p3)), .val (.ref b20), .val (.int (2 : Int32)), .val (.ref o34), .val (.ref w_EN), .val .null] [])) _
            refine XS.iload X55.here hx rfl (hb hby at_246) rfl ?_
            show Steps p.tables e below (T55.setTop (mkF m 248 #[.val (.int p0), .val (.int p1), .val (.int p2), .val (.int p3), .val (.int (p0 &&& (7 : Int32))), .val (.int (own_pk ((p0.toUInt32 >>> ((3 : Int32) &&& 31).toUInt32).toInt32) p1)), .val (.int (own_pk ((p0.toUInt32 >>> ((4 : Int32) &&& 31).toUInt32).toInt32) p2)), .val (.int (own_pk ((p0.toUInt32 >>> ((5 : Int32) &&& 31).toUInt32).toInt32) p3)), .val (.ref b20), .val (.int (2 : Int32)), .val (.ref o34), .val (.ref w_EN), .val .null] [(.int (own_pk ((p0.toUInt32 >>> ((4 : Int32) &&& 31).toUInt32).toInt32) p2))])) _
            refine XS.bipush X55.here hx rfl (hb hby at_248) ?_
            show Steps p.tables e below (T55.setTop (mkF m 250 #[.val (.int p0), .val (.int p1), .val (.int p2), .val (.int p3), .val (.int (p0 &&& (7 : Int32))), .val (.int (own_pk ((p0.toUInt32 >>> ((3 : Int32) &&& 31).toUInt32).toInt32) p1)), .val (.int (own_pk ((p0.toUInt32 >>> ((4 : Int32) &&& 31).toUInt32).toInt32) p2)), .val (.int (own_pk ((p0.toUInt32 >>> ((5 : Int32) &&& 31).toUInt32).toInt32) p3)), .val (.ref b20), .val (.int (2 : Int32)), .val (.ref o34), .val (.ref w_EN), .val .null] [(.int (110 : Int32)), (.int (own_pk ((p0.toUInt32 >>> ((4 : Int32) &&& 31).toUInt32).toInt32) p2))])) _
            refine XS.icmpNo X55.here hx rfl (hb hby at_250) rfl (teq hc250).2 ?_
            exact k)
        obtain ⟨T58, X58, e58, st58⟩ := getS2 X55 hx hZ8 hown8 (host := "") (Or.inl (hw _ (List.mem_of_getElem? (i := 125) rfl))) Via.refl e55 (S_EN.ext od35.2) (g := (mkF m 253 #[.val (.int p0), .val (.int p1), .val (.int p2), .val (.int p3), .val (.int (p0 &&& (7 : Int32))), .val (.int (own_pk ((p0.toUInt32 >>> ((3 : Int32) &&& 31).toUInt32).toInt32) p1)), .val (.int (own_pk ((p0.toUInt32 >>> ((4 : Int32) &&& 31).toUInt32).toInt32) p2)), .val (.int (own_pk ((p0.toUInt32 >>> ((5 : Int32) &&& 31).toUInt32).toInt32) p3)), .val (.ref b20), .val (.int (2 : Int32)), .val (.ref o34), .val (.ref w_EN), .val .null] [])) rfl (hb hby at_253)
        have k59 : ∀ t, Steps p.tables e below (T58.setTop (mkF m 256 #[.val (.int p0), .val (.int p1), .val (.int p2), .val (.int p3), .val (.int (p0 &&& (7 : Int32))), .val (.int (own_pk ((p0.toUInt32 >>> ((3 : Int32) &&& 31).toUInt32).toInt32) p1)), .val (.int (own_pk ((p0.toUInt32 >>> ((4 : Int32) &&& 31).toUInt32).toInt32) p2)), .val (.int (own_pk ((p0.toUInt32 >>> ((5 : Int32) &&& 31).toUInt32).toInt32) p3)), .val (.ref b20), .val (.int (2 : Int32)), .val (.ref o34), .val (.ref w_EN), .val .null] [(.ref w_EN)])) t → Steps p.tables e below (s₁.setTop (entryFrame m #[(.int p0), (.int p1), (.int p2), (.int p3)] maxLocals)) t := fun t k => k57 t (st58 _ k)
        have k60 : ∀ t, Steps p.tables e below (T58.setTop (mkF m 270 #[.val (.int p0), .val (.int p1), .val (.int p2), .val (.int p3), .val (.int (p0 &&& (7 : Int32))), .val (.int (own_pk ((p0.toUInt32 >>> ((3 : Int32) &&& 31).toUInt32).toInt32) p1)), .val (.int (own_pk ((p0.toUInt32 >>> ((4 : Int32) &&& 31).toUInt32).toInt32) p2)), .val (.int (own_pk ((p0.toUInt32 >>> ((5 : Int32) &&& 31).toUInt32).toInt32) p3)), .val (.ref b20), .val (.int (2 : Int32)), .val (.ref o34), .val (.ref w_EN), .val (.ref w_EN)] [(.int (1 : Int32))])) t → Steps p.tables e below (s₁.setTop (entryFrame m #[(.int p0), (.int p1), (.int p2), (.int p3)] maxLocals)) t := fun t k => k59 t (by
            show Steps p.tables e below (T58.setTop (mkF m 256 #[.val (.int p0), .val (.int p1), .val (.int p2), .val (.int p3), .val (.int (p0 &&& (7 : Int32))), .val (.int (own_pk ((p0.toUInt32 >>> ((3 : Int32) &&& 31).toUInt32).toInt32) p1)), .val (.int (own_pk ((p0.toUInt32 >>> ((4 : Int32) &&& 31).toUInt32).toInt32) p2)), .val (.int (own_pk ((p0.toUInt32 >>> ((5 : Int32) &&& 31).toUInt32).toInt32) p3)), .val (.ref b20), .val (.int (2 : Int32)), .val (.ref o34), .val (.ref w_EN), .val .null] [(.ref w_EN)])) _
            refine XS.astore X58.here hx rfl (hb hby at_256) rfl rfl (l' := #[.val (.int p0), .val (.int p1), .val (.int p2), .val (.int p3), .val (.int (p0 &&& (7 : Int32))), .val (.int (own_pk ((p0.toUInt32 >>> ((3 : Int32) &&& 31).toUInt32).toInt32) p1)), .val (.int (own_pk ((p0.toUInt32 >>> ((4 : Int32) &&& 31).toUInt32).toInt32) p2)), .val (.int (own_pk ((p0.toUInt32 >>> ((5 : Int32) &&& 31).toUInt32).toInt32) p3)), .val (.ref b20), .val (.int (2 : Int32)), .val (.ref o34), .val (.ref w_EN), .val (.ref w_EN)]) rfl ?_
            show Steps p.tables e below (T58.setTop (mkF m 258 #[.val (.int p0), .val (.int p1), .val (.int p2), .val (.int p3), .val (.int (p0 &&& (7 : Int32))), .val (.int (own_pk ((p0.toUInt32 >>> ((3 : Int32) &&& 31).toUInt32).toInt32) p1)), .val (.int (own_pk ((p0.toUInt32 >>> ((4 : Int32) &&& 31).toUInt32).toInt32) p2)), .val (.int (own_pk ((p0.toUInt32 >>> ((5 : Int32) &&& 31).toUInt32).toInt32) p3)), .val (.ref b20), .val (.int (2 : Int32)), .val (.ref o34), .val (.ref w_EN), .val (.ref w_EN)] [])) _
            refine XS.aload X58.here hx rfl (hb hby at_258) rfl rfl ?_
            show Steps p.tables e below (T58.setTop (mkF m 260 #[.val (.int p0), .val (.int p1), .val (.int p2), .val (.int p3), .val (.int (p0 &&& (7 : Int32))), .val (.int (own_pk ((p0.toUInt32 >>> ((3 : Int32) &&& 31).toUInt32).toInt32) p1)), .val (.int (own_pk ((p0.toUInt32 >>> ((4 : Int32) &&& 31).toUInt32).toInt32) p2)), .val (.int (own_pk ((p0.toUInt32 >>> ((5 : Int32) &&& 31).toUInt32).toInt32) p3)), .val (.ref b20), .val (.int (2 : Int32)), .val (.ref o34), .val (.ref w_EN), .val (.ref w_EN)] [(.ref w_EN)])) _
            refine XS.aload X58.here hx rfl (hb hby at_260) rfl rfl ?_
            show Steps p.tables e below (T58.setTop (mkF m 262 #[.val (.int p0), .val (.int p1), .val (.int p2), .val (.int p3), .val (.int (p0 &&& (7 : Int32))), .val (.int (own_pk ((p0.toUInt32 >>> ((3 : Int32) &&& 31).toUInt32).toInt32) p1)), .val (.int (own_pk ((p0.toUInt32 >>> ((4 : Int32) &&& 31).toUInt32).toInt32) p2)), .val (.int (own_pk ((p0.toUInt32 >>> ((5 : Int32) &&& 31).toUInt32).toInt32) p3)), .val (.ref b20), .val (.int (2 : Int32)), .val (.ref o34), .val (.ref w_EN), .val (.ref w_EN)] [(.ref w_EN), (.ref w_EN)])) _
            refine Jvm.RoadKit.acmp (g := (mkF m 262 #[.val (.int p0), .val (.int p1), .val (.int p2), .val (.int p3), .val (.int (p0 &&& (7 : Int32))), .val (.int (own_pk ((p0.toUInt32 >>> ((3 : Int32) &&& 31).toUInt32).toInt32) p1)), .val (.int (own_pk ((p0.toUInt32 >>> ((4 : Int32) &&& 31).toUInt32).toInt32) p2)), .val (.int (own_pk ((p0.toUInt32 >>> ((5 : Int32) &&& 31).toUInt32).toInt32) p3)), .val (.ref b20), .val (.int (2 : Int32)), .val (.ref o34), .val (.ref w_EN), .val (.ref w_EN)] [(.ref w_EN), (.ref w_EN)])) X58 hx rfl rfl rfl (pc0 := 262) (pc' := 265) (same := true) rfl (hb hby at_262) rfl (decide_eq_true rfl) (by decide) (by decide) ?_
            show Steps p.tables e below (T58.setTop (mkF m 265 #[.val (.int p0), .val (.int p1), .val (.int p2), .val (.int p3), .val (.int (p0 &&& (7 : Int32))), .val (.int (own_pk ((p0.toUInt32 >>> ((3 : Int32) &&& 31).toUInt32).toInt32) p1)), .val (.int (own_pk ((p0.toUInt32 >>> ((4 : Int32) &&& 31).toUInt32).toInt32) p2)), .val (.int (own_pk ((p0.toUInt32 >>> ((5 : Int32) &&& 31).toUInt32).toInt32) p3)), .val (.ref b20), .val (.int (2 : Int32)), .val (.ref o34), .val (.ref w_EN), .val (.ref w_EN)] [])) _
            refine XS.iconst X58.here hx rfl (hb hby at_265) ?_
            show Steps p.tables e below (T58.setTop (mkF m 266 #[.val (.int p0), .val (.int p1), .val (.int p2), .val (.int p3), .val (.int (p0 &&& (7 : Int32))), .val (.int (own_pk ((p0.toUInt32 >>> ((3 : Int32) &&& 31).toUInt32).toInt32) p1)), .val (.int (own_pk ((p0.toUInt32 >>> ((4 : Int32) &&& 31).toUInt32).toInt32) p2)), .val (.int (own_pk ((p0.toUInt32 >>> ((5 : Int32) &&& 31).toUInt32).toInt32) p3)), .val (.ref b20), .val (.int (2 : Int32)), .val (.ref o34), .val (.ref w_EN), .val (.ref w_EN)] [(.int (1 : Int32))])) _
            refine XS.goto X58.here hx rfl (pc0 := 266) (pc' := 270) rfl (hb hby at_266) (by decide) (by decide) ?_
            exact k)
        obtain ⟨fs, hr, hrun, hended, w1, w2, w3, w4⟩ := X58.leaveW (s := s) (vm₁ := T8.vm) Sn8 (by rw [e58]; exact (Nat.le_trans (Nat.le_trans (Nat.le_trans (Nat.le_trans (Nat.le_trans (Nat.le_trans (Nat.le_refl _) E20.1) E23.1) (Keep.of_wr W26).1) (Keep.of_wr W29).1) K31.1) K34.1)) (v := (some (.int (1 : Int32)))) (fun h => by rw [Bd.returns] at h; cases h)
        refine ⟨_, _, k60 _ ?_, hrun, hended, _, _, rfl, ?_, w1, w2, w3, w4.mono (by decide) (by decide)⟩
        · exact retN X58 hx (t := .boolean) Bd.returns (by simp) (hb hby at_270) hr
        · show Q0 Z p0 p1 p2 p3 wv cl w_ZH w_EN c_ZH t_ZH c_EN t_EN k_ZH k_EN w_EMPTY G1 G3 h0 n0 _ T58.heap _
          rw [e58]
          exact ⟨rfl, N53⟩
      · have k61 : ∀ t, Steps p.tables e below (T34.setTop (mkF m 182 #[.val (.int p0), .val (.int p1), .val (.int p2), .val (.int p3), .val (.int (p0 &&& (7 : Int32))), .val (.int (own_pk ((p0.toUInt32 >>> ((3 : Int32) &&& 31).toUInt32).toInt32) p1)), .val (.int (own_pk ((p0.toUInt32 >>> ((4 : Int32) &&& 31).toUInt32).toInt32) p2)), .val (.int (own_pk ((p0.toUInt32 >>> ((5 : Int32) &&& 31).toUInt32).toInt32) p3)), .val (.ref b20), .val (.int (2 : Int32)), .val (.ref o34), .unset, .unset] [(.ref o34)])) t → Steps p.tables e below (s₁.setTop (entryFrame m #[(.int p0), (.int p1), (.int p2), (.int p3)] maxLocals)) t := fun t k => k36 t (by
            show Steps p.tables e below (T34.setTop (mkF m 171 #[.val (.int p0), .val (.int p1), .val (.int p2), .val (.int p3), .val (.int (p0 &&& (7 : Int32))), .val (.int (own_pk ((p0.toUInt32 >>> ((3 : Int32) &&& 31).toUInt32).toInt32) p1)), .val (.int (own_pk ((p0.toUInt32 >>> ((4 : Int32) &&& 31).toUInt32).toInt32) p2)), .val (.int (own_pk ((p0.toUInt32 >>> ((5 : Int32) &&& 31).toUInt32).toInt32) p3)), .val (.ref b20), .val (.int (2 : Int32)), .unset, .unset, .unset] [(.ref o34)])) _
            refine XS.astore X34.here hx rfl (hb hby at_171) rfl rfl (l' := #[.val (.int p0), .val (.int p1), .val (.int p2), .val (.int p3), .val (.int (p0 &&& (7 : Int32))), .val (.int (own_pk ((p0.toUInt32 >>> ((3 : Int32) &&& 31).toUInt32).toInt32) p1)), .val (.int (own_pk ((p0.toUInt32 >>> ((4 : Int32) &&& 31).toUInt32).toInt32) p2)), .val (.int (own_pk ((p0.toUInt32 >>> ((5 : Int32) &&& 31).toUInt32).toInt32) p3)), .val (.ref b20), .val (.int (2 : Int32)), .val (.ref o34), .unset, .unset]) rfl ?_
            show Steps p.tables e below (T34.setTop (mkF m 173 #[.val (.int p0), .val (.int p1), .val (.int p2), .val (.int p3), .val (.int (p0 &&& (7 : Int32))), .val (.int (own_pk ((p0.toUInt32 >>> ((3 : Int32) &&& 31).toUInt32).toInt32) p1)), .val (.int (own_pk ((p0.toUInt32 >>> ((4 : Int32) &&& 31).toUInt32).toInt32) p2)), .val (.int (own_pk ((p0.toUInt32 >>> ((5 : Int32) &&& 31).toUInt32).toInt32) p3)), .val (.ref b20), .val (.int (2 : Int32)), .val (.ref o34), .unset, .unset] [])) _
            refine XS.aload X34.here hx rfl (hb hby at_173) rfl rfl ?_
            show Steps p.tables e below (T34.setTop (mkF m 175 #[.val (.int p0), .val (.int p1), .val (.int p2), .val (.int p3), .val (.int (p0 &&& (7 : Int32))), .val (.int (own_pk ((p0.toUInt32 >>> ((3 : Int32) &&& 31).toUInt32).toInt32) p1)), .val (.int (own_pk ((p0.toUInt32 >>> ((4 : Int32) &&& 31).toUInt32).toInt32) p2)), .val (.int (own_pk ((p0.toUInt32 >>> ((5 : Int32) &&& 31).toUInt32).toInt32) p3)), .val (.ref b20), .val (.int (2 : Int32)), .val (.ref o34), .unset, .unset] [(.ref o34)])) _
            refine XS.ifnonnullYes X34.here hx rfl (pc0 := 175) (pc' := 180) rfl (hb hby at_175) rfl (by decide) (by decide) ?_
            show Steps p.tables e below (T34.setTop (mkF m 180 #[.val (.int p0), .val (.int p1), .val (.int p2), .val (.int p3), .val (.int (p0 &&& (7 : Int32))), .val (.int (own_pk ((p0.toUInt32 >>> ((3 : Int32) &&& 31).toUInt32).toInt32) p1)), .val (.int (own_pk ((p0.toUInt32 >>> ((4 : Int32) &&& 31).toUInt32).toInt32) p2)), .val (.int (own_pk ((p0.toUInt32 >>> ((5 : Int32) &&& 31).toUInt32).toInt32) p3)), .val (.ref b20), .val (.int (2 : Int32)), .val (.ref o34), .unset, .unset] [])) _
            refine XS.aload X34.here hx rfl (hb hby at_180) rfl rfl ?_
            exact k)
        obtain ⟨cq62, kcq62, q62a, q62b, q62c⟩ := isOf hZ8 rfl Ex34
        obtain ⟨_, _, ⟨T62, L62, kq62, n62⟩, -, X62, ⟨Lc62, hQ62, l62, y62, z62⟩, st62⟩ := X34.virtualBack hx (y := (⟨"java/util/Optional", "isPresent", "()Z"⟩ : MethodName)) (z := (⟨"java/util/Optional", "isPresent", "()Z"⟩ : MethodName)) hown8 (mvT hZ8 (hw _ (List.mem_of_getElem? (i := 65) rfl))) (mvT hZ8 (hw _ (List.mem_of_getElem? (i := 66) rfl))) (notFace_of_selects (args := #[]) (mvT hZ8 (hw _ (List.mem_of_getElem? (i := 68) rfl)))) (mvT hZ8 (hw _ (List.mem_of_getElem? (i := 68) rfl))) (mvT hZ8 (hw _ (List.mem_of_getElem? (i := 67) rfl))) (by decide) (backOf (W := 0) (rm10n l Z a0 hw [] o34 T34.heap n0 Zs34 Fx34) hZ8 (hw _ (List.mem_of_getElem? (i := 69) rfl)) (hw _ (List.mem_of_getElem? (i := 62) rfl)) (by decide) (by decide)) q62a q62c (g := (mkF m 182 #[.val (.int p0), .val (.int p1), .val (.int p2), .val (.int p3), .val (.int (p0 &&& (7 : Int32))), .val (.int (own_pk ((p0.toUInt32 >>> ((3 : Int32) &&& 31).toUInt32).toInt32) p1)), .val (.int (own_pk ((p0.toUInt32 >>> ((4 : Int32) &&& 31).toUInt32).toInt32) p2)), .val (.int (own_pk ((p0.toUInt32 >>> ((5 : Int32) &&& 31).toUInt32).toInt32) p3)), .val (.ref b20), .val (.int (2 : Int32)), .val (.ref o34), .unset, .unset] [(.ref o34)])) rfl (by rw [hml]; rfl) (Steps.refl _) (argsL := []) (rest := []) (lenOf pd_10 rfl) rfl (by show 2 * 0 + _ ≤ _; exact Nat.le_of_eq rfl) (hb hby at_182) (fun _ _ => ⟨rfl, rfl, (by decide : 11 + 0 ≤ _), (by decide : 71 + 0 ≤ _)⟩)
        dsimp only [Pt.U, Pt.locs, Pt.cells, Pt.slots] at X62 l62 y62 z62 st62 hQ62
        subst l62 y62 z62
        obtain ⟨rfl, N62q, e62⟩ := hQ62
        have N62 := Fr.app N34 N62q
        have k63 : ∀ t, Steps p.tables e below (T62.setTop (mkF m 185 #[.val (.int p0), .val (.int p1), .val (.int p2), .val (.int p3), .val (.int (p0 &&& (7 : Int32))), .val (.int (own_pk ((p0.toUInt32 >>> ((3 : Int32) &&& 31).toUInt32).toInt32) p1)), .val (.int (own_pk ((p0.toUInt32 >>> ((4 : Int32) &&& 31).toUInt32).toInt32) p2)), .val (.int (own_pk ((p0.toUInt32 >>> ((5 : Int32) &&& 31).toUInt32).toInt32) p3)), .val (.ref b20), .val (.int (2 : Int32)), .val (.ref o34), .unset, .unset] [(.int (0 : Int32))])) t → Steps p.tables e below (s₁.setTop (entryFrame m #[(.int p0), (.int p1), (.int p2), (.int p3)] maxLocals)) t := fun t k => k61 t (st62.trans k)
        have hc185 : (0 : Int32) = (0 : Int32) := by decide
        have hc208 : (2 : Int32) = (2 : Int32) := by decide
        have k64 : ∀ t, Steps p.tables e below (T62.setTop (mkF m 215 #[.val (.int p0), .val (.int p1), .val (.int p2), .val (.int p3), .val (.int (p0 &&& (7 : Int32))), .val (.int (own_pk ((p0.toUInt32 >>> ((3 : Int32) &&& 31).toUInt32).toInt32) p1)), .val (.int (own_pk ((p0.toUInt32 >>> ((4 : Int32) &&& 31).toUInt32).toInt32) p2)), .val (.int (own_pk ((p0.toUInt32 >>> ((5 : Int32) &&& 31).toUInt32).toInt32) p3)), .val (.ref b20), .val (.int (2 : Int32)), .val (.ref o34), .val .null, .val .null] [(.int (122 : Int32)), (.int (own_pk ((p0.toUInt32 >>> ((3 : Int32) &&& 31).toUInt32).toInt32) p1))])) t → Steps p.tables e below (s₁.setTop (entryFrame m #[(.int p0), (.int p1), (.int p2), (.int p3)] maxLocals)) t := fun t k => k63 t (by
            show Steps p.tables e below (T62.setTop (mkF m 185 #[.val (.int p0), .val (.int p1), .val (.int p2), .val (.int p3), .val (.int (p0 &&& (7 : Int32))), .val (.int (own_pk ((p0.toUInt32 >>> ((3 : Int32) &&& 31).toUInt32).toInt32) p1)), .val (.int (own_pk ((p0.toUInt32 >>> ((4 : Int32) &&& 31).toUInt32).toInt32) p2)), .val (.int (own_pk ((p0.toUInt32 >>> ((5 : Int32) &&& 31).toUInt32).toInt32) p3)), .val (.ref b20), .val (.int (2 : Int32)), .val (.ref o34), .unset, .unset] [(.int (0 : Int32))])) _
            refine XS.ifYes X62.here hx rfl (pc0 := 185) (pc' := 199) rfl (hb hby at_185) rfl ((if0 _ _).trans (teq hc185).1) (by decide) (by decide) ?_
            show Steps p.tables e below (T62.setTop (mkF m 199 #[.val (.int p0), .val (.int p1), .val (.int p2), .val (.int p3), .val (.int (p0 &&& (7 : Int32))), .val (.int (own_pk ((p0.toUInt32 >>> ((3 : Int32) &&& 31).toUInt32).toInt32) p1)), .val (.int (own_pk ((p0.toUInt32 >>> ((4 : Int32) &&& 31).toUInt32).toInt32) p2)), .val (.int (own_pk ((p0.toUInt32 >>> ((5 : Int32) &&& 31).toUInt32).toInt32) p3)), .val (.ref b20), .val (.int (2 : Int32)), .val (.ref o34), .unset, .unset] [])) _
            refine XS.aconstNull X62.here hx rfl (hb hby at_199) ?_
            show Steps p.tables e below (T62.setTop (mkF m 200 #[.val (.int p0), .val (.int p1), .val (.int p2), .val (.int p3), .val (.int (p0 &&& (7 : Int32))), .val (.int (own_pk ((p0.toUInt32 >>> ((3 : Int32) &&& 31).toUInt32).toInt32) p1)), .val (.int (own_pk ((p0.toUInt32 >>> ((4 : Int32) &&& 31).toUInt32).toInt32) p2)), .val (.int (own_pk ((p0.toUInt32 >>> ((5 : Int32) &&& 31).toUInt32).toInt32) p3)), .val (.ref b20), .val (.int (2 : Int32)), .val (.ref o34), .unset, .unset] [.null])) _
            refine XS.astore X62.here hx rfl (hb hby at_200) rfl rfl (l' := #[.val (.int p0), .val (.int p1), .val (.int p2), .val (.int p3), .val (.int (p0 &&& (7 : Int32))), .val (.int (own_pk ((p0.toUInt32 >>> ((3 : Int32) &&& 31).toUInt32).toInt32) p1)), .val (.int (own_pk ((p0.toUInt32 >>> ((4 : Int32) &&& 31).toUInt32).toInt32) p2)), .val (.int (own_pk ((p0.toUInt32 >>> ((5 : Int32) &&& 31).toUInt32).toInt32) p3)), .val (.ref b20), .val (.int (2 : Int32)), .val (.ref o34), .val .null, .unset]) rfl ?_
            show Steps p.tables e below (T62.setTop (mkF m 202 #[.val (.int p0), .val (.int p1), .val (.int p2), .val (.int p3), .val (.int (p0 &&& (7 : Int32))), .val (.int (own_pk ((p0.toUInt32 >>> ((3 : Int32) &&& 31).toUInt32).toInt32) p1)), .val (.int (own_pk ((p0.toUInt32 >>> ((4 : Int32) &&& 31).toUInt32).toInt32) p2)), .val (.int (own_pk ((p0.toUInt32 >>> ((5 : Int32) &&& 31).toUInt32).toInt32) p3)), .val (.ref b20), .val (.int (2 : Int32)), .val (.ref o34), .val .null, .unset] [])) _
            refine XS.aconstNull X62.here hx rfl (hb hby at_202) ?_
            show Steps p.tables e below (T62.setTop (mkF m 203 #[.val (.int p0), .val (.int p1), .val (.int p2), .val (.int p3), .val (.int (p0 &&& (7 : Int32))), .val (.int (own_pk ((p0.toUInt32 >>> ((3 : Int32) &&& 31).toUInt32).toInt32) p1)), .val (.int (own_pk ((p0.toUInt32 >>> ((4 : Int32) &&& 31).toUInt32).toInt32) p2)), .val (.int (own_pk ((p0.toUInt32 >>> ((5 : Int32) &&& 31).toUInt32).toInt32) p3)), .val (.ref b20), .val (.int (2 : Int32)), .val (.ref o34), .val .null, .unset] [.null])) _
            refine XS.astore X62.here hx rfl (hb hby at_203) rfl rfl (l' := #[.val (.int p0), .val (.int p1), .val (.int p2), .val (.int p3), .val (.int (p0 &&& (7 : Int32))), .val (.int (own_pk ((p0.toUInt32 >>> ((3 : Int32) &&& 31).toUInt32).toInt32) p1)), .val (.int (own_pk ((p0.toUInt32 >>> ((4 : Int32) &&& 31).toUInt32).toInt32) p2)), .val (.int (own_pk ((p0.toUInt32 >>> ((5 : Int32) &&& 31).toUInt32).toInt32) p3)), .val (.ref b20), .val (.int (2 : Int32)), .val (.ref o34), .val .null, .val .null]) rfl ?_
            show Steps p.tables e below (T62.setTop (mkF m 205 #[.val (.int p0), .val (.int p1), .val (.int p2), .val (.int p3), .val (.int (p0 &&& (7 : Int32))), .val (.int (own_pk ((p0.toUInt32 >>> ((3 : Int32) &&& 31).toUInt32).toInt32) p1)), .val (.int (own_pk ((p0.toUInt32 >>> ((4 : Int32) &&& 31).toUInt32).toInt32) p2)), .val (.int (own_pk ((p0.toUInt32 >>> ((5 : Int32) &&& 31).toUInt32).toInt32) p3)), .val (.ref b20), .val (.int (2 : Int32)), .val (.ref o34), .val .null, .val .null] [])) _
            refine XS.iload X62.here hx rfl (hb hby at_205) rfl ?_
            show Steps p.tables e below (T62.setTop (mkF m 207 #[.val (.int p0), .val (.int p1), .val (.int p2), .val (.int p3), .val (.int (p0 &&& (7 : Int32))), .val (.int (own_pk ((p0.toUInt32 >>> ((3 : Int32) &&& 31).toUInt32).toInt32) p1)), .val (.int (own_pk ((p0.toUInt32 >>> ((4 : Int32) &&& 31).toUInt32).toInt32) p2)), .val (.int (own_pk ((p0.toUInt32 >>> ((5 : Int32) &&& 31).toUInt32).toInt32) p3)), .val (.ref b20), .val (.int (2 : Int32)), .val (.ref o34), .val .null, .val .null] [(.int (2 : Int32))])) _
            refine XS.iconst X62.here hx rfl (hb hby at_207) ?_
            show Steps p.tables e below (T62.setTop (mkF m 208 #[.val (.int p0), .val (.int p1), .val (.int p2), .val (.int p3), .val (.int (p0 &&& (7 : Int32))), .val (.int (own_pk ((p0.toUInt32 >>> ((3 : Int32) &&& 31).toUInt32).toInt32) p1)), .val (.int (own_pk ((p0.toUInt32 >>> ((4 : Int32) &&& 31).toUInt32).toInt32) p2)), .val (.int (own_pk ((p0.toUInt32 >>> ((5 : Int32) &&& 31).toUInt32).toInt32) p3)), .val (.ref b20), .val (.int (2 : Int32)), .val (.ref o34), .val .null, .val .null] [(.int (2 : Int32)), (.int (2 : Int32))])) _
            refine XS.icmpNo X62.here hx rfl (hb hby at_208) rfl (teq hc208).2 ?_
            show Steps p.tables e below (T62.setTop (mkF m 211 #[.val (.int p0), .val (.int p1), .val (.int p2), .val (.int p3), .val (.int (p0 &&& (7 : Int32))), .val (.int (own_pk ((p0.toUInt32 >>> ((3 : Int32) &&& 31).toUInt32).toInt32) p1)), .val (.int (own_pk ((p0.toUInt32 >>> ((4 : Int32) &&& 31).toUInt32).toInt32) p2)), .val (.int (own_pk ((p0.toUInt32 >>> ((5 : Int32) &&& 31).toUInt32).toInt32) p3)), .val (.ref b20), .val (.int (2 : Int32)), .val (.ref o34), .val .null, .val .null] [])) _
            refine XS.iload X62.here hx rfl (hb hby at_211) rfl ?_
            show Steps p.tables e below (T62.setTop (mkF m 213 #[.val (.int p0), .val (.int p1), .val (.int p2), .val (.int p3), .val (.int (p0 &&& (7 : Int32))), .val (.int (own_pk ((p0.toUInt32 >>> ((3 : Int32) &&& 31).toUInt32).toInt32) p1)), .val (.int (own_pk ((p0.toUInt32 >>> ((4 : Int32) &&& 31).toUInt32).toInt32) p2)), .val (.int (own_pk ((p0.toUInt32 >>> ((5 : Int32) &&& 31).toUInt32).toInt32) p3)), .val (.ref b20), .val (.int (2 : Int32)), .val (.ref o34), .val .null, .val .null] [(.int (own_pk ((p0.toUInt32 >>> ((3 : Int32) &&& 31).toUInt32).toInt32) p1))])) _
            refine XS.bipush X62.here hx rfl (hb hby at_213) ?_
            exact k)
        by_cases hc215 : (own_pk ((p0.toUInt32 >>> ((3 : Int32) &&& 31).toUInt32).toInt32) p1) = (122 : Int32)
        · have hc222 : ¬ ((own_pk ((p0.toUInt32 >>> ((4 : Int32) &&& 31).toUInt32).toInt32) p2) = (104 : Int32)) := fun q => hz (by rw [own_pk_n, own_pk_n, hc215, q])
          have hc236 : (2 : Int32) = (2 : Int32) := by decide
          have hc243 : ¬ ((own_pk ((p0.toUInt32 >>> ((3 : Int32) &&& 31).toUInt32).toInt32) p1) = (101 : Int32)) := (by rw [hc215]; decide)
          have k65 : ∀ t, Steps p.tables e below (T62.setTop (mkF m 270 #[.val (.int p0), .val (.int p1), .val (.int p2), .val (.int p3), .val (.int (p0 &&& (7 : Int32))), .val (.int (own_pk ((p0.toUInt32 >>> ((3 : Int32) &&& 31).toUInt32).toInt32) p1)), .val (.int (own_pk ((p0.toUInt32 >>> ((4 : Int32) &&& 31).toUInt32).toInt32) p2)), .val (.int (own_pk ((p0.toUInt32 >>> ((5 : Int32) &&& 31).toUInt32).toInt32) p3)), .val (.ref b20), .val (.int (2 : Int32)), .val (.ref o34), .val .null, .val .null] [(.int (1 : Int32))])) t → Steps p.tables e below (s₁.setTop (entryFrame m #[(.int p0), (.int p1), (.int p2), (.int p3)] maxLocals)) t := fun t k => k64 t (by
              show Steps p.tables e below (T62.setTop (mkF m 215 #[.val (.int p0), .val (.int p1), .val (.int p2), .val (.int p3), .val (.int (p0 &&& (7 : Int32))), .val (.int (own_pk ((p0.toUInt32 >>> ((3 : Int32) &&& 31).toUInt32).toInt32) p1)), .val (.int (own_pk ((p0.toUInt32 >>> ((4 : Int32) &&& 31).toUInt32).toInt32) p2)), .val (.int (own_pk ((p0.toUInt32 >>> ((5 : Int32) &&& 31).toUInt32).toInt32) p3)), .val (.ref b20), .val (.int (2 : Int32)), .val (.ref o34), .val .null, .val .null] [(.int (122 : Int32)), (.int (own_pk ((p0.toUInt32 >>> ((3 : Int32) &&& 31).toUInt32).toInt32) p1))])) _
              refine XS.icmpNo X62.here hx rfl (hb hby at_215) rfl (teq hc215).2 ?_
              show Steps p.tables e below (T62.setTop (mkF m 218 #[.val (.int p0), .val (.int p1), .val (.int p2), .val (.int p3), .val (.int (p0 &&& (7 : Int32))), .val (.int (own_pk ((p0.toUInt32 >>> ((3 : Int32) &&& 31).toUInt32).toInt32) p1)), .val (.int (own_pk ((p0.toUInt32 >>> ((4 : Int32) &&& 31).toUInt32).toInt32) p2)), .val (.int (own_pk ((p0.toUInt32 >>> ((5 : Int32) &&& 31).toUInt32).toInt32) p3)), .val (.ref b20), .val (.int (2 : Int32)), .val (.ref o34), .val .null, .val .null] [])) _
              refine XS.iload X62.here hx rfl (hb hby at_218) rfl ?_
              show Steps p.tables e below (T62.setTop (mkF m 220 #[.val (.int p0), .val (.int p1), .val (.int p2), .val (.int p3), .val (.int (p0 &&& (7 : Int32))), .val (.int (own_pk ((p0.toUInt32 >>> ((3 : Int32) &&& 31).toUInt32).toInt32) p1)), .val (.int (own_pk ((p0.toUInt32 >>> ((4 : Int32) &&& 31).toUInt32).toInt32) p2)), .val (.int (own_pk ((p0.toUInt32 >>> ((5 : Int32) &&& 31).toUInt32).toInt32) p3)), .val (.ref b20), .val (.int (2 : Int32)), .val (.ref o34), .val .null, .val .null] [(.int (own_pk ((p0.toUInt32 >>> ((4 : Int32) &&& 31).toUInt32).toInt32) p2))])) _
              refine XS.bipush X62.here hx rfl (hb hby at_220) ?_
              show Steps p.tables e below (T62.setTop (mkF m 222 #[.val (.int p0), .val (.int p1), .val (.int p2), .val (.int p3), .val (.int (p0 &&& (7 : Int32))), .val (.int (own_pk ((p0.toUInt32 >>> ((3 : Int32) &&& 31).toUInt32).toInt32) p1)), .val (.int (own_pk ((p0.toUInt32 >>> ((4 : Int32) &&& 31).toUInt32).toInt32) p2)), .val (.int (own_pk ((p0.toUInt32 >>> ((5 : Int32) &&& 31).toUInt32).toInt32) p3)), .val (.ref b20), .val (.int (2 : Int32)), .val (.ref o34), .val .null, .val .null] [(.int (104 : Int32)), (.int (own_pk ((p0.toUInt32 >>> ((4 : Int32) &&& 31).toUInt32).toInt32) p2))])) _
              refine XS.icmpYes X62.here hx rfl (pc0 := 222) (pc' := 233) rfl (hb hby at_222) rfl (feq hc222).2 (by decide) (by decide) ?_
              show Steps p.tables e below (T62.setTop (mkF m 233 #[.val (.int p0), .val (.int p1), .val (.int p2), .val (.int p3), .val (.int (p0 &&& (7 : Int32))), .val (.int (own_pk ((p0.toUInt32 >>> ((3 : Int32) &&& 31).toUInt32).toInt32) p1)), .val (.int (own_pk ((p0.toUInt32 >>> ((4 : Int32) &&& 31).toUInt32).toInt32) p2)), .val (.int (own_pk ((p0.toUInt32 >>> ((5 : Int32) &&& 31).toUInt32).toInt32) p3)), .val (.ref b20), .val (.int (2 : Int32)), .val (.ref o34), .val .null, .val .null] [])) _
              refine XS.iload X62.here hx rfl (hb hby at_233) rfl ?_
              show Steps p.tables e below (T62.setTop (mkF m 235 #[.val (.int p0), .val (.int p1), .val (.int p2), .val (.int p3), .val (.int (p0 &&& (7 : Int32))), .val (.int (own_pk ((p0.toUInt32 >>> ((3 : Int32) &&& 31).toUInt32).toInt32) p1)), .val (.int (own_pk ((p0.toUInt32 >>> ((4 : Int32) &&& 31).toUInt32).toInt32) p2)), .val (.int (own_pk ((p0.toUInt32 >>> ((5 : Int32) &&& 31).toUInt32).toInt32) p3)), .val (.ref b20), .val (.int (2 : Int32)), .val (.ref o34), .val .null, .val .null] [(.int (2 : Int32))])) _
              refine XS.iconst X62.here hx rfl (hb hby at_235) ?_
              show Steps p.tables e below (T62.setTop (mkF m 236 #[.val (.int p0), .val (.int p1), .val (.int p2), .val (.int p3), .val (.int (p0 &&& (7 : Int32))), .val (.int (own_pk ((p0.toUInt32 >>> ((3 : Int32) &&& 31).toUInt32).toInt32) p1)), .val (.int (own_pk ((p0.toUInt32 >>> ((4 : Int32) &&& 31).toUInt32).toInt32) p2)), .val (.int (own_pk ((p0.toUInt32 >>> ((5 : Int32) &&& 31).toUInt32).toInt32) p3)), .val (.ref b20), .val (.int (2 : Int32)), .val (.ref o34), .val .null, .val .null] [(.int (2 : Int32)), (.int (2 : Int32))])) _
              refine XS.icmpNo X62.here hx rfl (hb hby at_236) rfl (teq hc236).2 ?_
              show Steps p.tables e below (T62.setTop (mkF m 239 #[.val (.int p0), .val (.int p1), .val (.int p2), .val (.int p3), .val (.int (p0 &&& (7 : Int32))), .val (.int (own_pk ((p0.toUInt32 >>> ((3 : Int32) &&& 31).toUInt32).toInt32) p1)), .val (.int (own_pk ((p0.toUInt32 >>> ((4 : Int32) &&& 31).toUInt32).toInt32) p2)), .val (.int (own_pk ((p0.toUInt32 >>> ((5 : Int32) &&& 31).toUInt32).toInt32) p3)), .val (.ref b20), .val (.int (2 : Int32)), .val (.ref o34), .val .null, .val .null] [])) _
              refine XS.iload X62.here hx rfl (hb hby at_239) rfl ?_
              show Steps p.tables e below (T62.setTop (mkF m 241 #[.val (.int p0), .val (.int p1), .val (.int p2), .val (.int p3), .val (.int (p0 &&& (7 : Int32))), .val (.int (own_pk ((p0.toUInt32 >>> ((3 : Int32) &&& 31).toUInt32).toInt32) p1)), .val (.int (own_pk ((p0.toUInt32 >>> ((4 : Int32) &&& 31).toUInt32).toInt32) p2)), .val (.int (own_pk ((p0.toUInt32 >>> ((5 : Int32) &&& 31).toUInt32).toInt32) p3)), .val (.ref b20), .val (.int (2 : Int32)), .val (.ref o34), .val .null, .val .null] [(.int (own_pk ((p0.toUInt32 >>> ((3 : Int32) &&& 31).toUInt32).toInt32) p1))])) _
              refine XS.bipush X62.here hx rfl (hb hby at_241) ?_
              show Steps p.tables e below (T62.setTop (mkF m 243 #[.val (.int p0), .val (.int p1), .val (.int p2), .val (.int p3), .val (.int (p0 &&& (7 : Int32))), .val (.int (own_pk ((p0.toUInt32 >>> ((3 : Int32) &&& 31).toUInt32).toInt32) p1)), .val (.int (own_pk ((p0.toUInt32 >>> ((4 : Int32) &&& 31).toUInt32).toInt32) p2)), .val (.int (own_pk ((p0.toUInt32 >>> ((5 : Int32) &&& 31).toUInt32).toInt32) p3)), .val (.ref b20), .val (.int (2 : Int32)), .val (.ref o34), .val .null, .val .null] [(.int (101 : Int32)), (.int (own_pk ((p0.toUInt32 >>> ((3 : Int32) &&& 31).toUInt32).toInt32) p1))])) _
              refine XS.icmpYes X62.here hx rfl (pc0 := 243) (pc' := 258) rfl (hb hby at_243) rfl (feq hc243).2 (by decide) (by decide) ?_
              show Steps p.tables e below (T62.setTop (mkF m 258 #[.val (.int p0), .val (.int p1), .val (.int p2), .val (.int p3), .val (.int (p0 &&& (7 : Int32))), .val (.int (own_pk ((p0.toUInt32 >>> ((3 : Int32) &&& 31).toUInt32).toInt32) p1)), .val (.int (own_pk ((p0.toUInt32 >>> ((4 : Int32) &&& 31).toUInt32).toInt32) p2)), .val (.int (own_pk ((p0.toUInt32 >>> ((5 : Int32) &&& 31).toUInt32).toInt32) p3)), .val (.ref b20), .val (.int (2 : Int32)), .val (.ref o34), .val .null, .val .null] [])) _
              refine XS.aload X62.here hx rfl (hb hby at_258) rfl rfl ?_
              show Steps p.tables e below (T62.setTop (mkF m 260 #[.val (.int p0), .val (.int p1), .val (.int p2), .val (.int p3), .val (.int (p0 &&& (7 : Int32))), .val (.int (own_pk ((p0.toUInt32 >>> ((3 : Int32) &&& 31).toUInt32).toInt32) p1)), .val (.int (own_pk ((p0.toUInt32 >>> ((4 : Int32) &&& 31).toUInt32).toInt32) p2)), .val (.int (own_pk ((p0.toUInt32 >>> ((5 : Int32) &&& 31).toUInt32).toInt32) p3)), .val (.ref b20), .val (.int (2 : Int32)), .val (.ref o34), .val .null, .val .null] [.null])) _
              refine XS.aload X62.here hx rfl (hb hby at_260) rfl rfl ?_
              show Steps p.tables e below (T62.setTop (mkF m 262 #[.val (.int p0), .val (.int p1), .val (.int p2), .val (.int p3), .val (.int (p0 &&& (7 : Int32))), .val (.int (own_pk ((p0.toUInt32 >>> ((3 : Int32) &&& 31).toUInt32).toInt32) p1)), .val (.int (own_pk ((p0.toUInt32 >>> ((4 : Int32) &&& 31).toUInt32).toInt32) p2)), .val (.int (own_pk ((p0.toUInt32 >>> ((5 : Int32) &&& 31).toUInt32).toInt32) p3)), .val (.ref b20), .val (.int (2 : Int32)), .val (.ref o34), .val .null, .val .null] [.null, .null])) _
              refine Jvm.RoadKit.acmp (g := (mkF m 262 #[.val (.int p0), .val (.int p1), .val (.int p2), .val (.int p3), .val (.int (p0 &&& (7 : Int32))), .val (.int (own_pk ((p0.toUInt32 >>> ((3 : Int32) &&& 31).toUInt32).toInt32) p1)), .val (.int (own_pk ((p0.toUInt32 >>> ((4 : Int32) &&& 31).toUInt32).toInt32) p2)), .val (.int (own_pk ((p0.toUInt32 >>> ((5 : Int32) &&& 31).toUInt32).toInt32) p3)), .val (.ref b20), .val (.int (2 : Int32)), .val (.ref o34), .val .null, .val .null] [.null, .null])) X62 hx rfl rfl rfl (pc0 := 262) (pc' := 265) (same := true) rfl (hb hby at_262) rfl (decide_eq_true rfl) (by decide) (by decide) ?_
              show Steps p.tables e below (T62.setTop (mkF m 265 #[.val (.int p0), .val (.int p1), .val (.int p2), .val (.int p3), .val (.int (p0 &&& (7 : Int32))), .val (.int (own_pk ((p0.toUInt32 >>> ((3 : Int32) &&& 31).toUInt32).toInt32) p1)), .val (.int (own_pk ((p0.toUInt32 >>> ((4 : Int32) &&& 31).toUInt32).toInt32) p2)), .val (.int (own_pk ((p0.toUInt32 >>> ((5 : Int32) &&& 31).toUInt32).toInt32) p3)), .val (.ref b20), .val (.int (2 : Int32)), .val (.ref o34), .val .null, .val .null] [])) _
              refine XS.iconst X62.here hx rfl (hb hby at_265) ?_
              show Steps p.tables e below (T62.setTop (mkF m 266 #[.val (.int p0), .val (.int p1), .val (.int p2), .val (.int p3), .val (.int (p0 &&& (7 : Int32))), .val (.int (own_pk ((p0.toUInt32 >>> ((3 : Int32) &&& 31).toUInt32).toInt32) p1)), .val (.int (own_pk ((p0.toUInt32 >>> ((4 : Int32) &&& 31).toUInt32).toInt32) p2)), .val (.int (own_pk ((p0.toUInt32 >>> ((5 : Int32) &&& 31).toUInt32).toInt32) p3)), .val (.ref b20), .val (.int (2 : Int32)), .val (.ref o34), .val .null, .val .null] [(.int (1 : Int32))])) _
              refine XS.goto X62.here hx rfl (pc0 := 266) (pc' := 270) rfl (hb hby at_266) (by decide) (by decide) ?_
              exact k)
          obtain ⟨fs, hr, hrun, hended, w1, w2, w3, w4⟩ := X62.leaveW (s := s) (vm₁ := T8.vm) Sn8 (by rw [e62]; exact (Nat.le_trans (Nat.le_trans (Nat.le_trans (Nat.le_trans (Nat.le_trans (Nat.le_trans (Nat.le_refl _) E20.1) E23.1) (Keep.of_wr W26).1) (Keep.of_wr W29).1) K31.1) K34.1)) (v := (some (.int (1 : Int32)))) (fun h => by rw [Bd.returns] at h; cases h)
          refine ⟨_, _, k65 _ ?_, hrun, hended, _, _, rfl, ?_, w1, w2, w3, w4.mono (by decide) (by decide)⟩
          · exact retN X62 hx (t := .boolean) Bd.returns (by simp) (hb hby at_270) hr
          · show Q0 Z p0 p1 p2 p3 wv cl w_ZH w_EN c_ZH t_ZH c_EN t_EN k_ZH k_EN w_EMPTY G1 G3 h0 n0 _ T62.heap _
            rw [e62]
            exact ⟨rfl, N62⟩
        · have hc236 : (2 : Int32) = (2 : Int32) := by decide
          have k66 : ∀ t, Steps p.tables e below (T62.setTop (mkF m 243 #[.val (.int p0), .val (.int p1), .val (.int p2), .val (.int p3), .val (.int (p0 &&& (7 : Int32))), .val (.int (own_pk ((p0.toUInt32 >>> ((3 : Int32) &&& 31).toUInt32).toInt32) p1)), .val (.int (own_pk ((p0.toUInt32 >>> ((4 : Int32) &&& 31).toUInt32).toInt32) p2)), .val (.int (own_pk ((p0.toUInt32 >>> ((5 : Int32) &&& 31).toUInt32).toInt32) p3)), .val (.ref b20), .val (.int (2 : Int32)), .val (.ref o34), .val .null, .val .null] [(.int (101 : Int32)), (.int (own_pk ((p0.toUInt32 >>> ((3 : Int32) &&& 31).toUInt32).toInt32) p1))])) t → Steps p.tables e below (s₁.setTop (entryFrame m #[(.int p0), (.int p1), (.int p2), (.int p3)] maxLocals)) t := fun t k => k64 t (by
              show Steps p.tables e below (T62.setTop (mkF m 215 #[.val (.int p0), .val (.int p1), .val (.int p2), .val (.int p3), .val (.int (p0 &&& (7 : Int32))), .val (.int (own_pk ((p0.toUInt32 >>> ((3 : Int32) &&& 31).toUInt32).toInt32) p1)), .val (.int (own_pk ((p0.toUInt32 >>> ((4 : Int32) &&& 31).toUInt32).toInt32) p2)), .val (.int (own_pk ((p0.toUInt32 >>> ((5 : Int32) &&& 31).toUInt32).toInt32) p3)), .val (.ref b20), .val (.int (2 : Int32)), .val (.ref o34), .val .null, .val .null] [(.int (122 : Int32)), (.int (own_pk ((p0.toUInt32 >>> ((3 : Int32) &&& 31).toUInt32).toInt32) p1))])) _
              refine XS.icmpYes X62.here hx rfl (pc0 := 215) (pc' := 233) rfl (hb hby at_215) rfl (feq hc215).2 (by decide) (by decide) ?_
              show Steps p.tables e below (T62.setTop (mkF m 233 #[.val (.int p0), .val (.int p1), .val (.int p2), .val (.int p3), .val (.int (p0 &&& (7 : Int32))), .val (.int (own_pk ((p0.toUInt32 >>> ((3 : Int32) &&& 31).toUInt32).toInt32) p1)), .val (.int (own_pk ((p0.toUInt32 >>> ((4 : Int32) &&& 31).toUInt32).toInt32) p2)), .val (.int (own_pk ((p0.toUInt32 >>> ((5 : Int32) &&& 31).toUInt32).toInt32) p3)), .val (.ref b20), .val (.int (2 : Int32)), .val (.ref o34), .val .null, .val .null] [])) _
              refine XS.iload X62.here hx rfl (hb hby at_233) rfl ?_
              show Steps p.tables e below (T62.setTop (mkF m 235 #[.val (.int p0), .val (.int p1), .val (.int p2), .val (.int p3), .val (.int (p0 &&& (7 : Int32))), .val (.int (own_pk ((p0.toUInt32 >>> ((3 : Int32) &&& 31).toUInt32).toInt32) p1)), .val (.int (own_pk ((p0.toUInt32 >>> ((4 : Int32) &&& 31).toUInt32).toInt32) p2)), .val (.int (own_pk ((p0.toUInt32 >>> ((5 : Int32) &&& 31).toUInt32).toInt32) p3)), .val (.ref b20), .val (.int (2 : Int32)), .val (.ref o34), .val .null, .val .null] [(.int (2 : Int32))])) _
              refine XS.iconst X62.here hx rfl (hb hby at_235) ?_
              show Steps p.tables e below (T62.setTop (mkF m 236 #[.val (.int p0), .val (.int p1), .val (.int p2), .val (.int p3), .val (.int (p0 &&& (7 : Int32))), .val (.int (own_pk ((p0.toUInt32 >>> ((3 : Int32) &&& 31).toUInt32).toInt32) p1)), .val (.int (own_pk ((p0.toUInt32 >>> ((4 : Int32) &&& 31).toUInt32).toInt32) p2)), .val (.int (own_pk ((p0.toUInt32 >>> ((5 : Int32) &&& 31).toUInt32).toInt32) p3)), .val (.ref b20), .val (.int (2 : Int32)), .val (.ref o34), .val .null, .val .null] [(.int (2 : Int32)), (.int (2 : Int32))])) _
              refine XS.icmpNo X62.here hx rfl (hb hby at_236) rfl (teq hc236).2 ?_
              show Steps p.tables e below (T62.setTop (mkF m 239 #[.val (.int p0), .val (.int p1), .val (.int p2), .val (.int p3), .val (.int (p0 &&& (7 : Int32))), .val (.int (own_pk ((p0.toUInt32 >>> ((3 : Int32) &&& 31).toUInt32).toInt32) p1)), .val (.int (own_pk ((p0.toUInt32 >>> ((4 : Int32) &&& 31).toUInt32).toInt32) p2)), .val (.int (own_pk ((p0.toUInt32 >>> ((5 : Int32) &&& 31).toUInt32).toInt32) p3)), .val (.ref b20), .val (.int (2 : Int32)), .val (.ref o34), .val .null, .val .null] [])) _
              refine XS.iload X62.here hx rfl (hb hby at_239) rfl ?_
              show Steps p.tables e below (T62.setTop (mkF m 241 #[.val (.int p0), .val (.int p1), .val (.int p2), .val (.int p3), .val (.int (p0 &&& (7 : Int32))), .val (.int (own_pk ((p0.toUInt32 >>> ((3 : Int32) &&& 31).toUInt32).toInt32) p1)), .val (.int (own_pk ((p0.toUInt32 >>> ((4 : Int32) &&& 31).toUInt32).toInt32) p2)), .val (.int (own_pk ((p0.toUInt32 >>> ((5 : Int32) &&& 31).toUInt32).toInt32) p3)), .val (.ref b20), .val (.int (2 : Int32)), .val (.ref o34), .val .null, .val .null] [(.int (own_pk ((p0.toUInt32 >>> ((3 : Int32) &&& 31).toUInt32).toInt32) p1))])) _
              refine XS.bipush X62.here hx rfl (hb hby at_241) ?_
              exact k)
          by_cases hc243 : (own_pk ((p0.toUInt32 >>> ((3 : Int32) &&& 31).toUInt32).toInt32) p1) = (101 : Int32)
          · have hc250 : ¬ ((own_pk ((p0.toUInt32 >>> ((4 : Int32) &&& 31).toUInt32).toInt32) p2) = (110 : Int32)) := fun q => hz2 (by rw [own_pk_n, own_pk_n, hc243, q])
            have k67 : ∀ t, Steps p.tables e below (T62.setTop (mkF m 270 #[.val (.int p0), .val (.int p1), .val (.int p2), .val (.int p3), .val (.int (p0 &&& (7 : Int32))), .val (.int (own_pk ((p0.toUInt32 >>> ((3 : Int32) &&& 31).toUInt32).toInt32) p1)), .val (.int (own_pk ((p0.toUInt32 >>> ((4 : Int32) &&& 31).toUInt32).toInt32) p2)), .val (.int (own_pk ((p0.toUInt32 >>> ((5 : Int32) &&& 31).toUInt32).toInt32) p3)), .val (.ref b20), .val (.int (2 : Int32)), .val (.ref o34), .val .null, .val .null] [(.int (1 : Int32))])) t → Steps p.tables e below (s₁.setTop (entryFrame m #[(.int p0), (.int p1), (.int p2), (.int p3)] maxLocals)) t := fun t k => k66 t (by
                show Steps p.tables e below (T62.setTop (mkF m 243 #[.val (.int p0), .val (.int p1), .val (.int p2), .val (.int p3), .val (.int (p0 &&& (7 : Int32))), .val (.int (own_pk ((p0.toUInt32 >>> ((3 : Int32) &&& 31).toUInt32).toInt32) p1)), .val (.int (own_pk ((p0.toUInt32 >>> ((4 : Int32) &&& 31).toUInt32).toInt32) p2)), .val (.int (own_pk ((p0.toUInt32 >>> ((5 : Int32) &&& 31).toUInt32).toInt32) p3)), .val (.ref b20), .val (.int (2 : Int32)), .val (.ref o34), .val .null, .val .null] [(.int (101 : Int32)), (.int (own_pk ((p0.toUInt32 >>> ((3 : Int32) &&& 31).toUInt32).toInt32) p1))])) _
                refine XS.icmpNo X62.here hx rfl (hb hby at_243) rfl (teq hc243).2 ?_
                show Steps p.tables e below (T62.setTop (mkF m 246 #[.val (.int p0), .val (.int p1), .val (.int p2), .val (.int p3), .val (.int (p0 &&& (7 : Int32))), .val (.int (own_pk ((p0.toUInt32 >>> ((3 : Int32) &&& 31).toUInt32).toInt32) p1)), .val (.int (own_pk ((p0.toUInt32 >>> ((4 : Int32) &&& 31).toUInt32).toInt32) p2)), .val (.int (own_pk ((p0.toUInt32 >>> ((5 : Int32) &&& 31).toUInt32).toInt32) p3)), .val (.ref b20), .val (.int (2 : Int32)), .val (.ref o34), .val .null, .val .null] [])) _
                refine XS.iload X62.here hx rfl (hb hby at_246) rfl ?_
                show Steps p.tables e below (T62.setTop (mkF m 248 #[.val (.int p0), .val (.int p1), .val (.int p2), .val (.int p3), .val (.int (p0 &&& (7 : Int32))), .val (.int (own_pk ((p0.toUInt32 >>> ((3 : Int32) &&& 31).toUInt32).toInt32) p1)), .val (.int (own_pk ((p0.toUInt32 >>> ((4 : Int32) &&& 31).toUInt32).toInt32) p2)), .val (.int (own_pk ((p0.toUInt32 >>> ((5 : Int32) &&& 31).toUInt32).toInt32) p3)), .val (.ref b20), .val (.int (2 : Int32)), .val (.ref o34), .val .null, .val .null] [(.int (own_pk ((p0.toUInt32 >>> ((4 : Int32) &&& 31).toUInt32).toInt32) p2))])) _
                refine XS.bipush X62.here hx rfl (hb hby at_248) ?_
                show Steps p.tables e below (T62.setTop (mkF m 250 #[.val (.int p0), .val (.int p1), .val (.int p2), .val (.int p3), .val (.int (p0 &&& (7 : Int32))), .val (.int (own_pk ((p0.toUInt32 >>> ((3 : Int32) &&& 31).toUInt32).toInt32) p1)), .val (.int (own_pk ((p0.toUInt32 >>> ((4 : Int32) &&& 31).toUInt32).toInt32) p2)), .val (.int (own_pk ((p0.toUInt32 >>> ((5 : Int32) &&& 31).toUInt32).toInt32) p3)), .val (.ref b20), .val (.int (2 : Int32)), .val (.ref o34), .val .null, .val .null] [(.int (110 : Int32)), (.int (own_pk ((p0.toUInt32 >>> ((4 : Int32) &&& 31).toUInt32).toInt32) p2))])) _
                refine XS.icmpYes X62.here hx rfl (pc0 := 250) (pc' := 258) rfl (hb hby at_250) rfl (feq hc250).2 (by decide) (by decide) ?_
                show Steps p.tables e below (T62.setTop (mkF m 258 #[.val (.int p0), .val (.int p1), .val (.int p2), .val (.int p3), .val (.int (p0 &&& (7 : Int32))), .val (.int (own_pk ((p0.toUInt32 >>> ((3 : Int32) &&& 31).toUInt32).toInt32) p1)), .val (.int (own_pk ((p0.toUInt32 >>> ((4 : Int32) &&& 31).toUInt32).toInt32) p2)), .val (.int (own_pk ((p0.toUInt32 >>> ((5 : Int32) &&& 31).toUInt32).toInt32) p3)), .val (.ref b20), .val (.int (2 : Int32)), .val (.ref o34), .val .null, .val .null] [])) _
                refine XS.aload X62.here hx rfl (hb hby at_258) rfl rfl ?_
                show Steps p.tables e below (T62.setTop (mkF m 260 #[.val (.int p0), .val (.int p1), .val (.int p2), .val (.int p3), .val (.int (p0 &&& (7 : Int32))), .val (.int (own_pk ((p0.toUInt32 >>> ((3 : Int32) &&& 31).toUInt32).toInt32) p1)), .val (.int (own_pk ((p0.toUInt32 >>> ((4 : Int32) &&& 31).toUInt32).toInt32) p2)), .val (.int (own_pk ((p0.toUInt32 >>> ((5 : Int32) &&& 31).toUInt32).toInt32) p3)), .val (.ref b20), .val (.int (2 : Int32)), .val (.ref o34), .val .null, .val .null] [.null])) _
                refine XS.aload X62.here hx rfl (hb hby at_260) rfl rfl ?_
                show Steps p.tables e below (T62.setTop (mkF m 262 #[.val (.int p0), .val (.int p1), .val (.int p2), .val (.int p3), .val (.int (p0 &&& (7 : Int32))), .val (.int (own_pk ((p0.toUInt32 >>> ((3 : Int32) &&& 31).toUInt32).toInt32) p1)), .val (.int (own_pk ((p0.toUInt32 >>> ((4 : Int32) &&& 31).toUInt32).toInt32) p2)), .val (.int (own_pk ((p0.toUInt32 >>> ((5 : Int32) &&& 31).toUInt32).toInt32) p3)), .val (.ref b20), .val (.int (2 : Int32)), .val (.ref o34), .val .null, .val .null] [.null, .null])) _
                refine Jvm.RoadKit.acmp (g := (mkF m 262 #[.val (.int p0), .val (.int p1), .val (.int p2), .val (.int p3), .val (.int (p0 &&& (7 : Int32))), .val (.int (own_pk ((p0.toUInt32 >>> ((3 : Int32) &&& 31).toUInt32).toInt32) p1)), .val (.int (own_pk ((p0.toUInt32 >>> ((4 : Int32) &&& 31).toUInt32).toInt32) p2)), .val (.int (own_pk ((p0.toUInt32 >>> ((5 : Int32) &&& 31).toUInt32).toInt32) p3)), .val (.ref b20), .val (.int (2 : Int32)), .val (.ref o34), .val .null, .val .null] [.null, .null])) X62 hx rfl rfl rfl (pc0 := 262) (pc' := 265) (same := true) rfl (hb hby at_262) rfl (decide_eq_true rfl) (by decide) (by decide) ?_
                show Steps p.tables e below (T62.setTop (mkF m 265 #[.val (.int p0), .val (.int p1), .val (.int p2), .val (.int p3), .val (.int (p0 &&& (7 : Int32))), .val (.int (own_pk ((p0.toUInt32 >>> ((3 : Int32) &&& 31).toUInt32).toInt32) p1)), .val (.int (own_pk ((p0.toUInt32 >>> ((4 : Int32) &&& 31).toUInt32).toInt32) p2)), .val (.int (own_pk ((p0.toUInt32 >>> ((5 : Int32) &&& 31).toUInt32).toInt32) p3)), .val (.ref b20), .val (.int (2 : Int32)), .val (.ref o34), .val .null, .val .null] [])) _
                refine XS.iconst X62.here hx rfl (hb hby at_265) ?_
                show Steps p.tables e below (T62.setTop (mkF m 266 #[.val (.int p0), .val (.int p1), .val (.int p2), .val (.int p3), .val (.int (p0 &&& (7 : Int32))), .val (.int (own_pk ((p0.toUInt32 >>> ((3 : Int32) &&& 31).toUInt32).toInt32) p1)), .val (.int (own_pk ((p0.toUInt32 >>> ((4 : Int32) &&& 31).toUInt32).toInt32) p2)), .val (.int (own_pk ((p0.toUInt32 >>> ((5 : Int32) &&& 31).toUInt32).toInt32) p3)), .val (.ref b20), .val (.int (2 : Int32)), .val (.ref o34), .val .null, .val .null] [(.int (1 : Int32))])) _
                refine XS.goto X62.here hx rfl (pc0 := 266) (pc' := 270) rfl (hb hby at_266) (by decide) (by decide) ?_
                exact k)
            obtain ⟨fs, hr, hrun, hended, w1, w2, w3, w4⟩ := X62.leaveW (s := s) (vm₁ := T8.vm) Sn8 (by rw [e62]; exact (Nat.le_trans (Nat.le_trans (Nat.le_trans (Nat.le_trans (Nat.le_trans (Nat.le_trans (Nat.le_refl _) E20.1) E23.1) (Keep.of_wr W26).1) (Keep.of_wr W29).1) K31.1) K34.1)) (v := (some (.int (1 : Int32)))) (fun h => by rw [Bd.returns] at h; cases h)
            refine ⟨_, _, k67 _ ?_, hrun, hended, _, _, rfl, ?_, w1, w2, w3, w4.mono (by decide) (by decide)⟩
            · exact retN X62 hx (t := .boolean) Bd.returns (by simp) (hb hby at_270) hr
            · show Q0 Z p0 p1 p2 p3 wv cl w_ZH w_EN c_ZH t_ZH c_EN t_EN k_ZH k_EN w_EMPTY G1 G3 h0 n0 _ T62.heap _
              rw [e62]
              exact ⟨rfl, N62⟩
          · have k68 : ∀ t, Steps p.tables e below (T62.setTop (mkF m 270 #[.val (.int p0), .val (.int p1), .val (.int p2), .val (.int p3), .val (.int (p0 &&& (7 : Int32))), .val (.int (own_pk ((p0.toUInt32 >>> ((3 : Int32) &&& 31).toUInt32).toInt32) p1)), .val (.int (own_pk ((p0.toUInt32 >>> ((4 : Int32) &&& 31).toUInt32).toInt32) p2)), .val (.int (own_pk ((p0.toUInt32 >>> ((5 : Int32) &&& 31).toUInt32).toInt32) p3)), .val (.ref b20), .val (.int (2 : Int32)), .val (.ref o34), .val .null, .val .null] [(.int (1 : Int32))])) t → Steps p.tables e below (s₁.setTop (entryFrame m #[(.int p0), (.int p1), (.int p2), (.int p3)] maxLocals)) t := fun t k => k66 t (by
                show Steps p.tables e below (T62.setTop (mkF m 243 #[.val (.int p0), .val (.int p1), .val (.int p2), .val (.int p3), .val (.int (p0 &&& (7 : Int32))), .val (.int (own_pk ((p0.toUInt32 >>> ((3 : Int32) &&& 31).toUInt32).toInt32) p1)), .val (.int (own_pk ((p0.toUInt32 >>> ((4 : Int32) &&& 31).toUInt32).toInt32) p2)), .val (.int (own_pk ((p0.toUInt32 >>> ((5 : Int32) &&& 31).toUInt32).toInt32) p3)), .val (.ref b20), .val (.int (2 : Int32)), .val (.ref o34), .val .null, .val .null] [(.int (101 : Int32)), (.int (own_pk ((p0.toUInt32 >>> ((3 : Int32) &&& 31).toUInt32).toInt32) p1))])) _
                refine XS.icmpYes X62.here hx rfl (pc0 := 243) (pc' := 258) rfl (hb hby at_243) rfl (feq hc243).2 (by decide) (by decide) ?_
                show Steps p.tables e below (T62.setTop (mkF m 258 #[.val (.int p0), .val (.int p1), .val (.int p2), .val (.int p3), .val (.int (p0 &&& (7 : Int32))), .val (.int (own_pk ((p0.toUInt32 >>> ((3 : Int32) &&& 31).toUInt32).toInt32) p1)), .val (.int (own_pk ((p0.toUInt32 >>> ((4 : Int32) &&& 31).toUInt32).toInt32) p2)), .val (.int (own_pk ((p0.toUInt32 >>> ((5 : Int32) &&& 31).toUInt32).toInt32) p3)), .val (.ref b20), .val (.int (2 : Int32)), .val (.ref o34), .val .null, .val .null] [])) _
                refine XS.aload X62.here hx rfl (hb hby at_258) rfl rfl ?_
                show Steps p.tables e below (T62.setTop (mkF m 260 #[.val (.int p0), .val (.int p1), .val (.int p2), .val (.int p3), .val (.int (p0 &&& (7 : Int32))), .val (.int (own_pk ((p0.toUInt32 >>> ((3 : Int32) &&& 31).toUInt32).toInt32) p1)), .val (.int (own_pk ((p0.toUInt32 >>> ((4 : Int32) &&& 31).toUInt32).toInt32) p2)), .val (.int (own_pk ((p0.toUInt32 >>> ((5 : Int32) &&& 31).toUInt32).toInt32) p3)), .val (.ref b20), .val (.int (2 : Int32)), .val (.ref o34), .val .null, .val .null] [.null])) _
                refine XS.aload X62.here hx rfl (hb hby at_260) rfl rfl ?_
                show Steps p.tables e below (T62.setTop (mkF m 262 #[.val (.int p0), .val (.int p1), .val (.int p2), .val (.int p3), .val (.int (p0 &&& (7 : Int32))), .val (.int (own_pk ((p0.toUInt32 >>> ((3 : Int32) &&& 31).toUInt32).toInt32) p1)), .val (.int (own_pk ((p0.toUInt32 >>> ((4 : Int32) &&& 31).toUInt32).toInt32) p2)), .val (.int (own_pk ((p0.toUInt32 >>> ((5 : Int32) &&& 31).toUInt32).toInt32) p3)), .val (.ref b20), .val (.int (2 : Int32)), .val (.ref o34), .val .null, .val .null] [.null, .null])) _
                refine Jvm.RoadKit.acmp (g := (mkF m 262 #[.val (.int p0), .val (.int p1), .val (.int p2), .val (.int p3), .val (.int (p0 &&& (7 : Int32))), .val (.int (own_pk ((p0.toUInt32 >>> ((3 : Int32) &&& 31).toUInt32).toInt32) p1)), .val (.int (own_pk ((p0.toUInt32 >>> ((4 : Int32) &&& 31).toUInt32).toInt32) p2)), .val (.int (own_pk ((p0.toUInt32 >>> ((5 : Int32) &&& 31).toUInt32).toInt32) p3)), .val (.ref b20), .val (.int (2 : Int32)), .val (.ref o34), .val .null, .val .null] [.null, .null])) X62 hx rfl rfl rfl (pc0 := 262) (pc' := 265) (same := true) rfl (hb hby at_262) rfl (decide_eq_true rfl) (by decide) (by decide) ?_
                show Steps p.tables e below (T62.setTop (mkF m 265 #[.val (.int p0), .val (.int p1), .val (.int p2), .val (.int p3), .val (.int (p0 &&& (7 : Int32))), .val (.int (own_pk ((p0.toUInt32 >>> ((3 : Int32) &&& 31).toUInt32).toInt32) p1)), .val (.int (own_pk ((p0.toUInt32 >>> ((4 : Int32) &&& 31).toUInt32).toInt32) p2)), .val (.int (own_pk ((p0.toUInt32 >>> ((5 : Int32) &&& 31).toUInt32).toInt32) p3)), .val (.ref b20), .val (.int (2 : Int32)), .val (.ref o34), .val .null, .val .null] [])) _
                refine XS.iconst X62.here hx rfl (hb hby at_265) ?_
                show Steps p.tables e below (T62.setTop (mkF m 266 #[.val (.int p0), .val (.int p1), .val (.int p2), .val (.int p3), .val (.int (p0 &&& (7 : Int32))), .val (.int (own_pk ((p0.toUInt32 >>> ((3 : Int32) &&& 31).toUInt32).toInt32) p1)), .val (.int (own_pk ((p0.toUInt32 >>> ((4 : Int32) &&& 31).toUInt32).toInt32) p2)), .val (.int (own_pk ((p0.toUInt32 >>> ((5 : Int32) &&& 31).toUInt32).toInt32) p3)), .val (.ref b20), .val (.int (2 : Int32)), .val (.ref o34), .val .null, .val .null] [(.int (1 : Int32))])) _
                refine XS.goto X62.here hx rfl (pc0 := 266) (pc' := 270) rfl (hb hby at_266) (by decide) (by decide) ?_
                exact k)
            obtain ⟨fs, hr, hrun, hended, w1, w2, w3, w4⟩ := X62.leaveW (s := s) (vm₁ := T8.vm) Sn8 (by rw [e62]; exact (Nat.le_trans (Nat.le_trans (Nat.le_trans (Nat.le_trans (Nat.le_trans (Nat.le_trans (Nat.le_refl _) E20.1) E23.1) (Keep.of_wr W26).1) (Keep.of_wr W29).1) K31.1) K34.1)) (v := (some (.int (1 : Int32)))) (fun h => by rw [Bd.returns] at h; cases h)
            refine ⟨_, _, k68 _ ?_, hrun, hended, _, _, rfl, ?_, w1, w2, w3, w4.mono (by decide) (by decide)⟩
            · exact retN X62 hx (t := .boolean) Bd.returns (by simp) (hb hby at_270) hr
            · show Q0 Z p0 p1 p2 p3 wv cl w_ZH w_EN c_ZH t_ZH c_EN t_EN k_ZH k_EN w_EMPTY G1 G3 h0 n0 _ T62.heap _
              rw [e62]
              exact ⟨rfl, N62⟩
    · have k69 : ∀ t, Steps p.tables e below (T8.setTop (mkF m 64 #[.val (.int p0), .val (.int p1), .val (.int p2), .val (.int p3), .val (.int (p0 &&& (7 : Int32))), .val (.int (own_pk ((p0.toUInt32 >>> ((3 : Int32) &&& 31).toUInt32).toInt32) p1)), .val (.int (own_pk ((p0.toUInt32 >>> ((4 : Int32) &&& 31).toUInt32).toInt32) p2)), .val (.int (own_pk ((p0.toUInt32 >>> ((5 : Int32) &&& 31).toUInt32).toInt32) p3)), .unset, .val (.int (p0 &&& (7 : Int32))), .unset, .unset, .unset] [(.int (p0 &&& (7 : Int32)))])) t → Steps p.tables e below (s₁.setTop (entryFrame m #[(.int p0), (.int p1), (.int p2), (.int p3)] maxLocals)) t := fun t k => k18 t (by
          show Steps p.tables e below (T8.setTop (mkF m 51 #[.val (.int p0), .val (.int p1), .val (.int p2), .val (.int p3), .val (.int (p0 &&& (7 : Int32))), .val (.int (own_pk ((p0.toUInt32 >>> ((3 : Int32) &&& 31).toUInt32).toInt32) p1)), .val (.int (own_pk ((p0.toUInt32 >>> ((4 : Int32) &&& 31).toUInt32).toInt32) p2)), .val (.int (own_pk ((p0.toUInt32 >>> ((5 : Int32) &&& 31).toUInt32).toInt32) p3)), .unset, .unset, .unset, .unset, .unset] [(.int (3 : Int32)), (.int (p0 &&& (7 : Int32)))])) _
          refine XS.icmpYes X8.here hx rfl (pc0 := 51) (pc' := 58) rfl (hb hby at_51) rfl (flt hc51).2.2.2 (by decide) (by decide) ?_
          show Steps p.tables e below (T8.setTop (mkF m 58 #[.val (.int p0), .val (.int p1), .val (.int p2), .val (.int p3), .val (.int (p0 &&& (7 : Int32))), .val (.int (own_pk ((p0.toUInt32 >>> ((3 : Int32) &&& 31).toUInt32).toInt32) p1)), .val (.int (own_pk ((p0.toUInt32 >>> ((4 : Int32) &&& 31).toUInt32).toInt32) p2)), .val (.int (own_pk ((p0.toUInt32 >>> ((5 : Int32) &&& 31).toUInt32).toInt32) p3)), .unset, .unset, .unset, .unset, .unset] [])) _
          refine XS.iload X8.here hx rfl (hb hby at_58) rfl ?_
          show Steps p.tables e below (T8.setTop (mkF m 60 #[.val (.int p0), .val (.int p1), .val (.int p2), .val (.int p3), .val (.int (p0 &&& (7 : Int32))), .val (.int (own_pk ((p0.toUInt32 >>> ((3 : Int32) &&& 31).toUInt32).toInt32) p1)), .val (.int (own_pk ((p0.toUInt32 >>> ((4 : Int32) &&& 31).toUInt32).toInt32) p2)), .val (.int (own_pk ((p0.toUInt32 >>> ((5 : Int32) &&& 31).toUInt32).toInt32) p3)), .unset, .unset, .unset, .unset, .unset] [(.int (p0 &&& (7 : Int32)))])) _
          refine XS.istore X8.here hx rfl (hb hby at_60) rfl (l' := #[.val (.int p0), .val (.int p1), .val (.int p2), .val (.int p3), .val (.int (p0 &&& (7 : Int32))), .val (.int (own_pk ((p0.toUInt32 >>> ((3 : Int32) &&& 31).toUInt32).toInt32) p1)), .val (.int (own_pk ((p0.toUInt32 >>> ((4 : Int32) &&& 31).toUInt32).toInt32) p2)), .val (.int (own_pk ((p0.toUInt32 >>> ((5 : Int32) &&& 31).toUInt32).toInt32) p3)), .unset, .val (.int (p0 &&& (7 : Int32))), .unset, .unset, .unset]) rfl ?_
          show Steps p.tables e below (T8.setTop (mkF m 62 #[.val (.int p0), .val (.int p1), .val (.int p2), .val (.int p3), .val (.int (p0 &&& (7 : Int32))), .val (.int (own_pk ((p0.toUInt32 >>> ((3 : Int32) &&& 31).toUInt32).toInt32) p1)), .val (.int (own_pk ((p0.toUInt32 >>> ((4 : Int32) &&& 31).toUInt32).toInt32) p2)), .val (.int (own_pk ((p0.toUInt32 >>> ((5 : Int32) &&& 31).toUInt32).toInt32) p3)), .unset, .val (.int (p0 &&& (7 : Int32))), .unset, .unset, .unset] [])) _
          refine XS.iload X8.here hx rfl (hb hby at_62) rfl ?_
          exact k)
      by_cases hc64 : (p0 &&& (7 : Int32)) = (0 : Int32)
      · have k70 : ∀ t, Steps p.tables e below (T8.setTop (mkF m 67 #[.val (.int p0), .val (.int p1), .val (.int p2), .val (.int p3), .val (.int (p0 &&& (7 : Int32))), .val (.int (own_pk ((p0.toUInt32 >>> ((3 : Int32) &&& 31).toUInt32).toInt32) p1)), .val (.int (own_pk ((p0.toUInt32 >>> ((4 : Int32) &&& 31).toUInt32).toInt32) p2)), .val (.int (own_pk ((p0.toUInt32 >>> ((5 : Int32) &&& 31).toUInt32).toInt32) p3)), .unset, .val (.int (p0 &&& (7 : Int32))), .unset, .unset, .unset] [])) t → Steps p.tables e below (s₁.setTop (entryFrame m #[(.int p0), (.int p1), (.int p2), (.int p3)] maxLocals)) t := fun t k => k69 t (by
            show Steps p.tables e below (T8.setTop (mkF m 64 #[.val (.int p0), .val (.int p1), .val (.int p2), .val (.int p3), .val (.int (p0 &&& (7 : Int32))), .val (.int (own_pk ((p0.toUInt32 >>> ((3 : Int32) &&& 31).toUInt32).toInt32) p1)), .val (.int (own_pk ((p0.toUInt32 >>> ((4 : Int32) &&& 31).toUInt32).toInt32) p2)), .val (.int (own_pk ((p0.toUInt32 >>> ((5 : Int32) &&& 31).toUInt32).toInt32) p3)), .unset, .val (.int (p0 &&& (7 : Int32))), .unset, .unset, .unset] [(.int (p0 &&& (7 : Int32)))])) _
            refine XS.ifNo X8.here hx rfl (hb hby at_64) rfl ((if0 _ _).trans (teq hc64).2) ?_
            exact k)
        obtain ⟨T71, h71, X71, e71, E71, A71, D71, -, st71⟩ := newO X8 hx hZ8 hown8 (hw _ (List.mem_of_getElem? (i := 4) rfl)) (hw _ (List.mem_of_getElem? (i := 5) rfl)) (hw _ (List.mem_of_getElem? (i := 6) rfl)) rfl (g := (mkF m 67 #[.val (.int p0), .val (.int p1), .val (.int p2), .val (.int p3), .val (.int (p0 &&& (7 : Int32))), .val (.int (own_pk ((p0.toUInt32 >>> ((3 : Int32) &&& 31).toUInt32).toInt32) p1)), .val (.int (own_pk ((p0.toUInt32 >>> ((4 : Int32) &&& 31).toUInt32).toInt32) p2)), .val (.int (own_pk ((p0.toUInt32 >>> ((5 : Int32) &&& 31).toUInt32).toInt32) p3)), .unset, .val (.int (p0 &&& (7 : Int32))), .unset, .unset, .unset] [])) rfl (hb hby at_67) (by decide) (by decide)
        obtain ⟨b71, g71⟩ : ∃ z, z = T8.heap.size := ⟨_, rfl⟩
        rw [← g71] at A71 D71 st71
        have sz_b71 : h0.size ≤ b71 := Nat.le_trans ((((Keep.refl h0 []).ext Ex2).ext Ex5).ext Ex8).1 (Nat.le_of_eq g71.symm)
        have F_value_b71 : Fld Z h71 b71 "java/lang/String" "value" "[B" .null := D71 (Or.inr (hw _ (List.mem_of_getElem? (i := 20) rfl))) (ty := (.array .byte)) (by decide)
        have F_coder_b71 : Fld Z h71 b71 "java/lang/String" "coder" "B" (.int (0 : Int32)) := D71 (Or.inr (hw _ (List.mem_of_getElem? (i := 21) rfl))) (ty := .byte) (by decide)
        have g_b71 : n0 ≤ b71 := Nat.le_trans Zs8 (Nat.le_of_eq g71.symm)
        have Zs71 : n0 ≤ h71.size := Nat.le_trans Zs8 E71.1
        have k72 : ∀ t, Steps p.tables e below (T71.setTop (mkF m 70 #[.val (.int p0), .val (.int p1), .val (.int p2), .val (.int p3), .val (.int (p0 &&& (7 : Int32))), .val (.int (own_pk ((p0.toUInt32 >>> ((3 : Int32) &&& 31).toUInt32).toInt32) p1)), .val (.int (own_pk ((p0.toUInt32 >>> ((4 : Int32) &&& 31).toUInt32).toInt32) p2)), .val (.int (own_pk ((p0.toUInt32 >>> ((5 : Int32) &&& 31).toUInt32).toInt32) p3)), .unset, .val (.int (p0 &&& (7 : Int32))), .unset, .unset, .unset] [(.ref b71)])) t → Steps p.tables e below (s₁.setTop (entryFrame m #[(.int p0), (.int p1), (.int p2), (.int p3)] maxLocals)) t := fun t k => k70 t (st71 _ k)
        have k73 : ∀ t, Steps p.tables e below (T71.setTop (mkF m 72 #[.val (.int p0), .val (.int p1), .val (.int p2), .val (.int p3), .val (.int (p0 &&& (7 : Int32))), .val (.int (own_pk ((p0.toUInt32 >>> ((3 : Int32) &&& 31).toUInt32).toInt32) p1)), .val (.int (own_pk ((p0.toUInt32 >>> ((4 : Int32) &&& 31).toUInt32).toInt32) p2)), .val (.int (own_pk ((p0.toUInt32 >>> ((5 : Int32) &&& 31).toUInt32).toInt32) p3)), .unset, .val (.int (p0 &&& (7 : Int32))), .unset, .unset, .unset] [(.int (0 : Int32)), (.ref b71), (.ref b71)])) t → Steps p.tables e below (s₁.setTop (entryFrame m #[(.int p0), (.int p1), (.int p2), (.int p3)] maxLocals)) t := fun t k => k72 t (by
            show Steps p.tables e below (T71.setTop (mkF m 70 #[.val (.int p0), .val (.int p1), .val (.int p2), .val (.int p3), .val (.int (p0 &&& (7 : Int32))), .val (.int (own_pk ((p0.toUInt32 >>> ((3 : Int32) &&& 31).toUInt32).toInt32) p1)), .val (.int (own_pk ((p0.toUInt32 >>> ((4 : Int32) &&& 31).toUInt32).toInt32) p2)), .val (.int (own_pk ((p0.toUInt32 >>> ((5 : Int32) &&& 31).toUInt32).toInt32) p3)), .unset, .val (.int (p0 &&& (7 : Int32))), .unset, .unset, .unset] [(.ref b71)])) _
            refine XS.dup X71.here hx rfl (hb hby at_70) rfl rfl ?_
            show Steps p.tables e below (T71.setTop (mkF m 71 #[.val (.int p0), .val (.int p1), .val (.int p2), .val (.int p3), .val (.int (p0 &&& (7 : Int32))), .val (.int (own_pk ((p0.toUInt32 >>> ((3 : Int32) &&& 31).toUInt32).toInt32) p1)), .val (.int (own_pk ((p0.toUInt32 >>> ((4 : Int32) &&& 31).toUInt32).toInt32) p2)), .val (.int (own_pk ((p0.toUInt32 >>> ((5 : Int32) &&& 31).toUInt32).toInt32) p3)), .unset, .val (.int (p0 &&& (7 : Int32))), .unset, .unset, .unset] [(.ref b71), (.ref b71)])) _
            refine XS.iconst X71.here hx rfl (hb hby at_71) ?_
            exact k)
        obtain ⟨T74, h74, ka74, X74, e74, E74, A74, st74⟩ := newP X71 hx hZ8 (hw _ (List.mem_of_getElem? (i := 7) rfl)) e71 (g := (mkF m 72 #[.val (.int p0), .val (.int p1), .val (.int p2), .val (.int p3), .val (.int (p0 &&& (7 : Int32))), .val (.int (own_pk ((p0.toUInt32 >>> ((3 : Int32) &&& 31).toUInt32).toInt32) p1)), .val (.int (own_pk ((p0.toUInt32 >>> ((4 : Int32) &&& 31).toUInt32).toInt32) p2)), .val (.int (own_pk ((p0.toUInt32 >>> ((5 : Int32) &&& 31).toUInt32).toInt32) p3)), .unset, .val (.int (p0 &&& (7 : Int32))), .unset, .unset, .unset] [(.int (0 : Int32)), (.ref b71), (.ref b71)])) rfl (hb hby at_72) rfl (by decide) (cap := 0) (by decide) (by decide) (by decide) (by decide)
        obtain ⟨b74, g74⟩ : ∃ z, z = h71.size := ⟨_, rfl⟩
        rw [← g74] at A74 st74
        have ne_b71_b74 : b71 ≠ b74 := Nat.ne_of_lt (Nat.lt_of_lt_of_le F_value_b71.lt (Nat.le_of_eq g74.symm))
        have V_b74 : Arv Z h74 b74 ka74 .char (0 : Int32) [] (.int (0 : Int32)) := (Arv.new A74 (by decide)).pad (pad_rep [] (.int (0 : Int32)) 0)
        have g_b74 : n0 ≤ b74 := Nat.le_trans Zs71 (Nat.le_of_eq g74.symm)
        have sz_b74 : h0.size ≤ b74 := Nat.le_trans (((((Keep.refl h0 []).ext Ex2).ext Ex5).ext Ex8).ext E71).1 (Nat.le_of_eq g74.symm)
        have Zs74 : n0 ≤ h74.size := Nat.le_trans Zs71 E74.1
        have k75 : ∀ t, Steps p.tables e below (T74.setTop (mkF m 74 #[.val (.int p0), .val (.int p1), .val (.int p2), .val (.int p3), .val (.int (p0 &&& (7 : Int32))), .val (.int (own_pk ((p0.toUInt32 >>> ((3 : Int32) &&& 31).toUInt32).toInt32) p1)), .val (.int (own_pk ((p0.toUInt32 >>> ((4 : Int32) &&& 31).toUInt32).toInt32) p2)), .val (.int (own_pk ((p0.toUInt32 >>> ((5 : Int32) &&& 31).toUInt32).toInt32) p3)), .unset, .val (.int (p0 &&& (7 : Int32))), .unset, .unset, .unset] [(.ref b74), (.ref b71), (.ref b71)])) t → Steps p.tables e below (s₁.setTop (entryFrame m #[(.int p0), (.int p1), (.int p2), (.int p3)] maxLocals)) t := fun t k => k73 t (st74 _ k)
        obtain ⟨clE, ArE, -, SE0, -, -, -⟩ := V_b74
        have SE : clE.slots.size = 0 := SE0
        obtain ⟨_, _, ⟨T76, L76, kq76, n76⟩, -, X76, Sc76, gr76, ⟨Lc76, hQ76, l76, y76, z76⟩, st76⟩ := X74.specialBackS hx (y := (⟨"java/lang/String", "<init>", "([C)V"⟩ : MethodName)) rfl hown8 (mvT hZ8 (hw _ (List.mem_of_getElem? (i := 8) rfl))) (mvT hZ8 (hw _ (List.mem_of_getElem? (i := 9) rfl))) (mvT hZ8 (hw _ (List.mem_of_getElem? (i := 10) rfl))) (by decide) (own_backE (s := s) (vm0 := T8.vm) (W := 1) (rm2 l Z a0 hw [] b71 b74 clE h74 n0 Zs74 (F_value_b71.ext E74) (F_coder_b71.ext E74) (A71.ext E74) g_b71 ArE SE) hZ8 (hw _ (List.mem_of_getElem? (i := 10) rfl)) (hw _ (List.mem_of_getElem? (i := 6) rfl)) (by decide) (by decide) hEL (CHv.ext E74 (CHv.ext E71 cr8.1))) (g := (mkF m 74 #[.val (.int p0), .val (.int p1), .val (.int p2), .val (.int p3), .val (.int (p0 &&& (7 : Int32))), .val (.int (own_pk ((p0.toUInt32 >>> ((3 : Int32) &&& 31).toUInt32).toInt32) p1)), .val (.int (own_pk ((p0.toUInt32 >>> ((4 : Int32) &&& 31).toUInt32).toInt32) p2)), .val (.int (own_pk ((p0.toUInt32 >>> ((5 : Int32) &&& 31).toUInt32).toInt32) p3)), .unset, .val (.int (p0 &&& (7 : Int32))), .unset, .unset, .unset] [(.ref b74), (.ref b71), (.ref b71)])) rfl (by rw [hml]; rfl) (Steps.refl _) (a := b71) (argsL := [(.ref b74)]) (rest := [(.ref b71)]) (lenOf pd_11 rfl) rfl (by show 2 * 0 + _ ≤ _; exact Nat.le_of_eq rfl) (hb hby at_74) (fun _ _ => ⟨rfl, e74, (by decide : 8 + 2 ≤ _), (by decide : 64 + 4 ≤ _)⟩)
        dsimp only [Pt.U, Pt.locs, Pt.cells, Pt.slots] at Sc76 gr76
        dsimp only [Pt.U, Pt.locs, Pt.cells, Pt.slots] at X76 l76 y76 z76 st76 hQ76
        subst l76 y76 z76
        obtain ⟨rfl, N76q, K76, Ex76, Cx76, t76, kb76, Vx76, Ax76⟩ := hQ76
        have N76 := Fr.app N8 N76q
        have Zs76 : n0 ≤ T76.heap.size := Nat.le_trans Zs74 K76.1
        have hZ76 : Z.Warmed39 (s.setVm T76.vm).vm := State.Warmed39.trans (t := s.setVm T8.vm) hZ8 Sc76.1
        have hown76 : (s.setVm T76.vm).vm.findClass "com/example/mediawarden/mediawarden/engine/LangOfPinLaw" = some m.cls := by rw [show (s.setVm T76.vm).vm = T76.vm from rfl, Sc76.1.alike.findClass]; exact hown8
        have Sn76 : s.Since T76.vm T76.heap.size := foldS (vm0 := T8.vm) Sn8 (by rw [e74]; exact (Nat.le_trans (Nat.le_trans (Nat.le_refl _) E71.1) E74.1)) Sc76 gr76
        have k77 : ∀ t, Steps p.tables e below (T76.setTop (mkF m 77 #[.val (.int p0), .val (.int p1), .val (.int p2), .val (.int p3), .val (.int (p0 &&& (7 : Int32))), .val (.int (own_pk ((p0.toUInt32 >>> ((3 : Int32) &&& 31).toUInt32).toInt32) p1)), .val (.int (own_pk ((p0.toUInt32 >>> ((4 : Int32) &&& 31).toUInt32).toInt32) p2)), .val (.int (own_pk ((p0.toUInt32 >>> ((5 : Int32) &&& 31).toUInt32).toInt32) p3)), .unset, .val (.int (p0 &&& (7 : Int32))), .unset, .unset, .unset] [(.ref b71)])) t → Steps p.tables e below (s₁.setTop (entryFrame m #[(.int p0), (.int p1), (.int p2), (.int p3)] maxLocals)) t := fun t k => k75 t (st76.trans k)
        have k78 : ∀ t, Steps p.tables e below (T76.setTop (mkF m 168 #[.val (.int p0), .val (.int p1), .val (.int p2), .val (.int p3), .val (.int (p0 &&& (7 : Int32))), .val (.int (own_pk ((p0.toUInt32 >>> ((3 : Int32) &&& 31).toUInt32).toInt32) p1)), .val (.int (own_pk ((p0.toUInt32 >>> ((4 : Int32) &&& 31).toUInt32).toInt32) p2)), .val (.int (own_pk ((p0.toUInt32 >>> ((5 : Int32) &&& 31).toUInt32).toInt32) p3)), .val (.ref b71), .val (.int (p0 &&& (7 : Int32))), .unset, .unset, .unset] [(.ref b71)])) t → Steps p.tables e below (s₁.setTop (entryFrame m #[(.int p0), (.int p1), (.int p2), (.int p3)] maxLocals)) t := fun t k => k77 t (by
            show Steps p.tables e below (T76.setTop (mkF m 77 #[.val (.int p0), .val (.int p1), .val (.int p2), .val (.int p3), .val (.int (p0 &&& (7 : Int32))), .val (.int (own_pk ((p0.toUInt32 >>> ((3 : Int32) &&& 31).toUInt32).toInt32) p1)), .val (.int (own_pk ((p0.toUInt32 >>> ((4 : Int32) &&& 31).toUInt32).toInt32) p2)), .val (.int (own_pk ((p0.toUInt32 >>> ((5 : Int32) &&& 31).toUInt32).toInt32) p3)), .unset, .val (.int (p0 &&& (7 : Int32))), .unset, .unset, .unset] [(.ref b71)])) _
            refine XS.astore X76.here hx rfl (hb hby at_77) rfl rfl (l' := #[.val (.int p0), .val (.int p1), .val (.int p2), .val (.int p3), .val (.int (p0 &&& (7 : Int32))), .val (.int (own_pk ((p0.toUInt32 >>> ((3 : Int32) &&& 31).toUInt32).toInt32) p1)), .val (.int (own_pk ((p0.toUInt32 >>> ((4 : Int32) &&& 31).toUInt32).toInt32) p2)), .val (.int (own_pk ((p0.toUInt32 >>> ((5 : Int32) &&& 31).toUInt32).toInt32) p3)), .val (.ref b71), .val (.int (p0 &&& (7 : Int32))), .unset, .unset, .unset]) rfl ?_
            show Steps p.tables e below (T76.setTop (mkF m 79 #[.val (.int p0), .val (.int p1), .val (.int p2), .val (.int p3), .val (.int (p0 &&& (7 : Int32))), .val (.int (own_pk ((p0.toUInt32 >>> ((3 : Int32) &&& 31).toUInt32).toInt32) p1)), .val (.int (own_pk ((p0.toUInt32 >>> ((4 : Int32) &&& 31).toUInt32).toInt32) p2)), .val (.int (own_pk ((p0.toUInt32 >>> ((5 : Int32) &&& 31).toUInt32).toInt32) p3)), .val (.ref b71), .val (.int (p0 &&& (7 : Int32))), .unset, .unset, .unset] [])) _
            refine XS.goto X76.here hx rfl (pc0 := 79) (pc' := 166) rfl (hb hby at_79) (by decide) (by decide) ?_
            show Steps p.tables e below (T76.setTop (mkF m 166 #[.val (.int p0), .val (.int p1), .val (.int p2), .val (.int p3), .val (.int (p0 &&& (7 : Int32))), .val (.int (own_pk ((p0.toUInt32 >>> ((3 : Int32) &&& 31).toUInt32).toInt32) p1)), .val (.int (own_pk ((p0.toUInt32 >>> ((4 : Int32) &&& 31).toUInt32).toInt32) p2)), .val (.int (own_pk ((p0.toUInt32 >>> ((5 : Int32) &&& 31).toUInt32).toInt32) p3)), .val (.ref b71), .val (.int (p0 &&& (7 : Int32))), .unset, .unset, .unset] [])) _
            refine XS.aload X76.here hx rfl (hb hby at_166) rfl rfl ?_
            exact k)
        obtain ⟨_, _, ⟨T79, L79, kq79, n79⟩, -, X79, ⟨Lc79, hQ79, l79, y79, z79⟩, st79⟩ := Jvm.LawKit.callS X76 hx (y := (⟨"com/example/mediawarden/mediawarden/engine/Lang", "of", "(Ljava/lang/String;)Ljava/util/Optional;"⟩ : MethodName)) hown76 (mvT hZ76 (hw _ (List.mem_of_getElem? (i := 26) rfl))) (mvT hZ76 (hw _ (List.mem_of_getElem? (i := 27) rfl))) (mvT hZ76 (hw _ (List.mem_of_getElem? (i := 28) rfl))) (mvT hZ76 (hw _ (List.mem_of_getElem? (i := 29) rfl))) (by decide) (backOf (W := 0) (rm5s l Z a0 hw [] b71 wv cl w_ZH w_EN c_ZH t_ZH c_EN t_EN k_ZH k_EN w_EMPTY G1 t76 kb76 ([] : List Int32) (0 : Int32) T76.heap n0 Zs76 (S_V.ext ((((((X00.ext Ex2).ext Ex5).ext Ex8).ext E71).ext E74).keep K76 (allS g_b71 all0)).2) (Arv_.ext ((((((X00.ext Ex2).ext Ex5).ext Ex8).ext E71).ext E74).keep K76 (allS g_b71 all0)).2) (E_V.ext ((((((X00.ext Ex2).ext Ex5).ext Ex8).ext E71).ext E74).keep K76 (allS g_b71 all0)).2) hsz hat0 hat1 (F_code_w_ZH.ext ((((((X00.ext Ex2).ext Ex5).ext Ex8).ext E71).ext E74).keep K76 (allS g_b71 all0)).2) (E_c_ZH.ext ((((((X00.ext Ex2).ext Ex5).ext Ex8).ext E71).ext E74).keep K76 (allS g_b71 all0)).2) (F_value_c_ZH.ext ((((((X00.ext Ex2).ext Ex5).ext Ex8).ext E71).ext E74).keep K76 (allS g_b71 all0)).2) (F_coder_c_ZH.ext ((((((X00.ext Ex2).ext Ex5).ext Ex8).ext E71).ext E74).keep K76 (allS g_b71 all0)).2) (V_t_ZH.ext ((((((X00.ext Ex2).ext Ex5).ext Ex8).ext E71).ext E74).keep K76 (allS g_b71 all0)).2) (F_code_w_EN.ext ((((((X00.ext Ex2).ext Ex5).ext Ex8).ext E71).ext E74).keep K76 (allS g_b71 all0)).2) (E_c_EN.ext ((((((X00.ext Ex2).ext Ex5).ext Ex8).ext E71).ext E74).keep K76 (allS g_b71 all0)).2) (F_value_c_EN.ext ((((((X00.ext Ex2).ext Ex5).ext Ex8).ext E71).ext E74).keep K76 (allS g_b71 all0)).2) (F_coder_c_EN.ext ((((((X00.ext Ex2).ext Ex5).ext Ex8).ext E71).ext E74).keep K76 (allS g_b71 all0)).2) (V_t_EN.ext ((((((X00.ext Ex2).ext Ex5).ext Ex8).ext E71).ext E74).keep K76 (allS g_b71 all0)).2) Ex76 Vx76 Cx76 Ax76 S_EMPTY E_w_EMPTY F_value_w_EMPTY O2 P5 ((((((X00.ext Ex2).ext Ex5).ext Ex8).ext E71).ext E74).keep K76 (allS g_b71 all0)) (StrChars.Road.codOf (n := 0) rfl (fun c hc => ((fun c hc => nomatch hc : ∀ c ∈ ([] : List Int32), ¬ c < 0 ∧ ¬ (255 : Int32) < c) c hc).2)) (own_up _ (fun c hc => nomatch hc : ∀ c ∈ ([] : List Int32), ¬ c < 0 ∧ ¬ (255 : Int32) < c)) (Nat.le_of_ble_eq_true rfl)) hZ76 (hw _ (List.mem_of_getElem? (i := 29) rfl)) (hw _ (List.mem_of_getElem? (i := 28) rfl)) (by decide) (by decide)) (g := (mkF m 168 #[.val (.int p0), .val (.int p1), .val (.int p2), .val (.int p3), .val (.int (p0 &&& (7 : Int32))), .val (.int (own_pk ((p0.toUInt32 >>> ((3 : Int32) &&& 31).toUInt32).toInt32) p1)), .val (.int (own_pk ((p0.toUInt32 >>> ((4 : Int32) &&& 31).toUInt32).toInt32) p2)), .val (.int (own_pk ((p0.toUInt32 >>> ((5 : Int32) &&& 31).toUInt32).toInt32) p3)), .val (.ref b71), .val (.int (p0 &&& (7 : Int32))), .unset, .unset, .unset] [(.ref b71)])) rfl (by rw [hml]; rfl) (argsL := [(.ref b71)]) (rest := []) (lenOf pd_9 rfl) rfl (by show 2 * 0 + _ ≤ _; exact Nat.le_of_eq rfl) (hb hby at_168) (fun _ _ => ⟨rfl, rfl, (by decide : 10 + 2 ≤ _), (by decide : 68 + 3 ≤ _)⟩)
        dsimp only [Pt.U, Pt.locs, Pt.cells, Pt.slots] at X79 l79 y79 z79 st79 hQ79
        subst l79 y79 z79
        obtain ⟨o79, val, rfl, N79q, K79, Ex79, Fx79, hcs⟩ := hQ79
        have N79 := Fr.app N76 N79q
        have Zs79 : n0 ≤ T79.heap.size := Nat.le_trans Zs76 K79.1
        have k80 : ∀ t, Steps p.tables e below (T79.setTop (mkF m 171 #[.val (.int p0), .val (.int p1), .val (.int p2), .val (.int p3), .val (.int (p0 &&& (7 : Int32))), .val (.int (own_pk ((p0.toUInt32 >>> ((3 : Int32) &&& 31).toUInt32).toInt32) p1)), .val (.int (own_pk ((p0.toUInt32 >>> ((4 : Int32) &&& 31).toUInt32).toInt32) p2)), .val (.int (own_pk ((p0.toUInt32 >>> ((5 : Int32) &&& 31).toUInt32).toInt32) p3)), .val (.ref b71), .val (.int (p0 &&& (7 : Int32))), .unset, .unset, .unset] [(.ref o79)])) t → Steps p.tables e below (s₁.setTop (entryFrame m #[(.int p0), (.int p1), (.int p2), (.int p3)] maxLocals)) t := fun t k => k78 t (st79 _ k)
        obtain rfl : val = .null := by rcases hcs with ⟨q, -⟩ | ⟨-, q, -⟩ | ⟨-, -, q⟩ <;> first | exact q | exact absurd (congrArg List.length q) (by simp)
        have k81 : ∀ t, Steps p.tables e below (T79.setTop (mkF m 182 #[.val (.int p0), .val (.int p1), .val (.int p2), .val (.int p3), .val (.int (p0 &&& (7 : Int32))), .val (.int (own_pk ((p0.toUInt32 >>> ((3 : Int32) &&& 31).toUInt32).toInt32) p1)), .val (.int (own_pk ((p0.toUInt32 >>> ((4 : Int32) &&& 31).toUInt32).toInt32) p2)), .val (.int (own_pk ((p0.toUInt32 >>> ((5 : Int32) &&& 31).toUInt32).toInt32) p3)), .val (.ref b71), .val (.int (p0 &&& (7 : Int32))), .val (.ref o79), .unset, .unset] [(.ref o79)])) t → Steps p.tables e below (s₁.setTop (entryFrame m #[(.int p0), (.int p1), (.int p2), (.int p3)] maxLocals)) t := fun t k => k80 t (by
            show Steps p.tables e below (T79.setTop (mkF m 171 #[.val (.int p0), .val (.int p1), .val (.int p2), .val (.int p3), .val (.int (p0 &&& (7 : Int32))), .val (.int (own_pk ((p0.toUInt32 >>> ((3 : Int32) &&& 31).toUInt32).toInt32) p1)), .val (.int (own_pk ((p0.toUInt32 >>> ((4 : Int32) &&& 31).toUInt32).toInt32) p2)), .val (.int (own_pk ((p0.toUInt32 >>> ((5 : Int32) &&& 31).toUInt32).toInt32) p3)), .val (.ref b71), .val (.int (p0 &&& (7 : Int32))), .unset, .unset, .unset] [(.ref o79)])) _
            refine XS.astore X79.here hx rfl (hb hby at_171) rfl rfl (l' := #[.val (.int p0), .val (.int p1), .val (.int p2), .val (.int p3), .val (.int (p0 &&& (7 : Int32))), .val (.int (own_pk ((p0.toUInt32 >>> ((3 : Int32) &&& 31).toUInt32).toInt32) p1)), .val (.int (own_pk ((p0.toUInt32 >>> ((4 : Int32) &&& 31).toUInt32).toInt32) p2)), .val (.int (own_pk ((p0.toUInt32 >>> ((5 : Int32) &&& 31).toUInt32).toInt32) p3)), .val (.ref b71), .val (.int (p0 &&& (7 : Int32))), .val (.ref o79), .unset, .unset]) rfl ?_
            show Steps p.tables e below (T79.setTop (mkF m 173 #[.val (.int p0), .val (.int p1), .val (.int p2), .val (.int p3), .val (.int (p0 &&& (7 : Int32))), .val (.int (own_pk ((p0.toUInt32 >>> ((3 : Int32) &&& 31).toUInt32).toInt32) p1)), .val (.int (own_pk ((p0.toUInt32 >>> ((4 : Int32) &&& 31).toUInt32).toInt32) p2)), .val (.int (own_pk ((p0.toUInt32 >>> ((5 : Int32) &&& 31).toUInt32).toInt32) p3)), .val (.ref b71), .val (.int (p0 &&& (7 : Int32))), .val (.ref o79), .unset, .unset] [])) _
            refine XS.aload X79.here hx rfl (hb hby at_173) rfl rfl ?_
            show Steps p.tables e below (T79.setTop (mkF m 175 #[.val (.int p0), .val (.int p1), .val (.int p2), .val (.int p3), .val (.int (p0 &&& (7 : Int32))), .val (.int (own_pk ((p0.toUInt32 >>> ((3 : Int32) &&& 31).toUInt32).toInt32) p1)), .val (.int (own_pk ((p0.toUInt32 >>> ((4 : Int32) &&& 31).toUInt32).toInt32) p2)), .val (.int (own_pk ((p0.toUInt32 >>> ((5 : Int32) &&& 31).toUInt32).toInt32) p3)), .val (.ref b71), .val (.int (p0 &&& (7 : Int32))), .val (.ref o79), .unset, .unset] [(.ref o79)])) _
            refine XS.ifnonnullYes X79.here hx rfl (pc0 := 175) (pc' := 180) rfl (hb hby at_175) rfl (by decide) (by decide) ?_
            show Steps p.tables e below (T79.setTop (mkF m 180 #[.val (.int p0), .val (.int p1), .val (.int p2), .val (.int p3), .val (.int (p0 &&& (7 : Int32))), .val (.int (own_pk ((p0.toUInt32 >>> ((3 : Int32) &&& 31).toUInt32).toInt32) p1)), .val (.int (own_pk ((p0.toUInt32 >>> ((4 : Int32) &&& 31).toUInt32).toInt32) p2)), .val (.int (own_pk ((p0.toUInt32 >>> ((5 : Int32) &&& 31).toUInt32).toInt32) p3)), .val (.ref b71), .val (.int (p0 &&& (7 : Int32))), .val (.ref o79), .unset, .unset] [])) _
            refine XS.aload X79.here hx rfl (hb hby at_180) rfl rfl ?_
            exact k)
        obtain ⟨cq82, kcq82, q82a, q82b, q82c⟩ := isOf hZ76 rfl Ex79
        obtain ⟨_, _, ⟨T82, L82, kq82, n82⟩, -, X82, ⟨Lc82, hQ82, l82, y82, z82⟩, st82⟩ := X79.virtualBack hx (y := (⟨"java/util/Optional", "isPresent", "()Z"⟩ : MethodName)) (z := (⟨"java/util/Optional", "isPresent", "()Z"⟩ : MethodName)) hown76 (mvT hZ76 (hw _ (List.mem_of_getElem? (i := 65) rfl))) (mvT hZ76 (hw _ (List.mem_of_getElem? (i := 66) rfl))) (notFace_of_selects (args := #[]) (mvT hZ76 (hw _ (List.mem_of_getElem? (i := 68) rfl)))) (mvT hZ76 (hw _ (List.mem_of_getElem? (i := 68) rfl))) (mvT hZ76 (hw _ (List.mem_of_getElem? (i := 67) rfl))) (by decide) (backOf (W := 0) (rm10n l Z a0 hw [] o79 T79.heap n0 Zs79 Fx79) hZ76 (hw _ (List.mem_of_getElem? (i := 69) rfl)) (hw _ (List.mem_of_getElem? (i := 62) rfl)) (by decide) (by decide)) q82a q82c (g := (mkF m 182 #[.val (.int p0), .val (.int p1), .val (.int p2), .val (.int p3), .val (.int (p0 &&& (7 : Int32))), .val (.int (own_pk ((p0.toUInt32 >>> ((3 : Int32) &&& 31).toUInt32).toInt32) p1)), .val (.int (own_pk ((p0.toUInt32 >>> ((4 : Int32) &&& 31).toUInt32).toInt32) p2)), .val (.int (own_pk ((p0.toUInt32 >>> ((5 : Int32) &&& 31).toUInt32).toInt32) p3)), .val (.ref b71), .val (.int (p0 &&& (7 : Int32))), .val (.ref o79), .unset, .unset] [(.ref o79)])) rfl (by rw [hml]; rfl) (Steps.refl _) (argsL := []) (rest := []) (lenOf pd_10 rfl) rfl (by show 2 * 0 + _ ≤ _; exact Nat.le_of_eq rfl) (hb hby at_182) (fun _ _ => ⟨rfl, rfl, (by decide : 12 + 0 ≤ _), (by decide : 71 + 0 ≤ _)⟩)
        dsimp only [Pt.U, Pt.locs, Pt.cells, Pt.slots] at X82 l82 y82 z82 st82 hQ82
        subst l82 y82 z82
        obtain ⟨rfl, N82q, e82⟩ := hQ82
        have N82 := Fr.app N79 N82q
        have k83 : ∀ t, Steps p.tables e below (T82.setTop (mkF m 185 #[.val (.int p0), .val (.int p1), .val (.int p2), .val (.int p3), .val (.int (p0 &&& (7 : Int32))), .val (.int (own_pk ((p0.toUInt32 >>> ((3 : Int32) &&& 31).toUInt32).toInt32) p1)), .val (.int (own_pk ((p0.toUInt32 >>> ((4 : Int32) &&& 31).toUInt32).toInt32) p2)), .val (.int (own_pk ((p0.toUInt32 >>> ((5 : Int32) &&& 31).toUInt32).toInt32) p3)), .val (.ref b71), .val (.int (p0 &&& (7 : Int32))), .val (.ref o79), .unset, .unset] [(.int (0 : Int32))])) t → Steps p.tables e below (s₁.setTop (entryFrame m #[(.int p0), (.int p1), (.int p2), (.int p3)] maxLocals)) t := fun t k => k81 t (st82.trans k)
        have hc185 : (0 : Int32) = (0 : Int32) := by decide
        have hc208 : ¬ ((p0 &&& (7 : Int32)) = (2 : Int32)) := (by rw [hc64]; decide)
        have hc236 : ¬ ((p0 &&& (7 : Int32)) = (2 : Int32)) := (by rw [hc64]; decide)
        have k84 : ∀ t, Steps p.tables e below (T82.setTop (mkF m 270 #[.val (.int p0), .val (.int p1), .val (.int p2), .val (.int p3), .val (.int (p0 &&& (7 : Int32))), .val (.int (own_pk ((p0.toUInt32 >>> ((3 : Int32) &&& 31).toUInt32).toInt32) p1)), .val (.int (own_pk ((p0.toUInt32 >>> ((4 : Int32) &&& 31).toUInt32).toInt32) p2)), .val (.int (own_pk ((p0.toUInt32 >>> ((5 : Int32) &&& 31).toUInt32).toInt32) p3)), .val (.ref b71), .val (.int (p0 &&& (7 : Int32))), .val (.ref o79), .val .null, .val .null] [(.int (1 : Int32))])) t → Steps p.tables e below (s₁.setTop (entryFrame m #[(.int p0), (.int p1), (.int p2), (.int p3)] maxLocals)) t := fun t k => k83 t (by
            show Steps p.tables e below (T82.setTop (mkF m 185 #[.val (.int p0), .val (.int p1), .val (.int p2), .val (.int p3), .val (.int (p0 &&& (7 : Int32))), .val (.int (own_pk ((p0.toUInt32 >>> ((3 : Int32) &&& 31).toUInt32).toInt32) p1)), .val (.int (own_pk ((p0.toUInt32 >>> ((4 : Int32) &&& 31).toUInt32).toInt32) p2)), .val (.int (own_pk ((p0.toUInt32 >>> ((5 : Int32) &&& 31).toUInt32).toInt32) p3)), .val (.ref b71), .val (.int (p0 &&& (7 : Int32))), .val (.ref o79), .unset, .unset] [(.int (0 : Int32))])) _
            refine XS.ifYes X82.here hx rfl (pc0 := 185) (pc' := 199) rfl (hb hby at_185) rfl ((if0 _ _).trans (teq hc185).1) (by decide) (by decide) ?_
            show Steps p.tables e below (T82.setTop (mkF m 199 #[.val (.int p0), .val (.int p1), .val (.int p2), .val (.int p3), .val (.int (p0 &&& (7 : Int32))), .val (.int (own_pk ((p0.toUInt32 >>> ((3 : Int32) &&& 31).toUInt32).toInt32) p1)), .val (.int (own_pk ((p0.toUInt32 >>> ((4 : Int32) &&& 31).toUInt32).toInt32) p2)), .val (.int (own_pk ((p0.toUInt32 >>> ((5 : Int32) &&& 31).toUInt32).toInt32) p3)), .val (.ref b71), .val (.int (p0 &&& (7 : Int32))), .val (.ref o79), .unset, .unset] [])) _
            refine XS.aconstNull X82.here hx rfl (hb hby at_199) ?_
            show Steps p.tables e below (T82.setTop (mkF m 200 #[.val (.int p0), .val (.int p1), .val (.int p2), .val (.int p3), .val (.int (p0 &&& (7 : Int32))), .val (.int (own_pk ((p0.toUInt32 >>> ((3 : Int32) &&& 31).toUInt32).toInt32) p1)), .val (.int (own_pk ((p0.toUInt32 >>> ((4 : Int32) &&& 31).toUInt32).toInt32) p2)), .val (.int (own_pk ((p0.toUInt32 >>> ((5 : Int32) &&& 31).toUInt32).toInt32) p3)), .val (.ref b71), .val (.int (p0 &&& (7 : Int32))), .val (.ref o79), .unset, .unset] [.null])) _
            refine XS.astore X82.here hx rfl (hb hby at_200) rfl rfl (l' := #[.val (.int p0), .val (.int p1), .val (.int p2), .val (.int p3), .val (.int (p0 &&& (7 : Int32))), .val (.int (own_pk ((p0.toUInt32 >>> ((3 : Int32) &&& 31).toUInt32).toInt32) p1)), .val (.int (own_pk ((p0.toUInt32 >>> ((4 : Int32) &&& 31).toUInt32).toInt32) p2)), .val (.int (own_pk ((p0.toUInt32 >>> ((5 : Int32) &&& 31).toUInt32).toInt32) p3)), .val (.ref b71), .val (.int (p0 &&& (7 : Int32))), .val (.ref o79), .val .null, .unset]) rfl ?_
            show Steps p.tables e below (T82.setTop (mkF m 202 #[.val (.int p0), .val (.int p1), .val (.int p2), .val (.int p3), .val (.int (p0 &&& (7 : Int32))), .val (.int (own_pk ((p0.toUInt32 >>> ((3 : Int32) &&& 31).toUInt32).toInt32) p1)), .val (.int (own_pk ((p0.toUInt32 >>> ((4 : Int32) &&& 31).toUInt32).toInt32) p2)), .val (.int (own_pk ((p0.toUInt32 >>> ((5 : Int32) &&& 31).toUInt32).toInt32) p3)), .val (.ref b71), .val (.int (p0 &&& (7 : Int32))), .val (.ref o79), .val .null, .unset] [])) _
            refine XS.aconstNull X82.here hx rfl (hb hby at_202) ?_
            show Steps p.tables e below (T82.setTop (mkF m 203 #[.val (.int p0), .val (.int p1), .val (.int p2), .val (.int p3), .val (.int (p0 &&& (7 : Int32))), .val (.int (own_pk ((p0.toUInt32 >>> ((3 : Int32) &&& 31).toUInt32).toInt32) p1)), .val (.int (own_pk ((p0.toUInt32 >>> ((4 : Int32) &&& 31).toUInt32).toInt32) p2)), .val (.int (own_pk ((p0.toUInt32 >>> ((5 : Int32) &&& 31).toUInt32).toInt32) p3)), .val (.ref b71), .val (.int (p0 &&& (7 : Int32))), .val (.ref o79), .val .null, .unset] [.null])) _
            refine XS.astore X82.here hx rfl (hb hby at_203) rfl rfl (l' := #[.val (.int p0), .val (.int p1), .val (.int p2), .val (.int p3), .val (.int (p0 &&& (7 : Int32))), .val (.int (own_pk ((p0.toUInt32 >>> ((3 : Int32) &&& 31).toUInt32).toInt32) p1)), .val (.int (own_pk ((p0.toUInt32 >>> ((4 : Int32) &&& 31).toUInt32).toInt32) p2)), .val (.int (own_pk ((p0.toUInt32 >>> ((5 : Int32) &&& 31).toUInt32).toInt32) p3)), .val (.ref b71), .val (.int (p0 &&& (7 : Int32))), .val (.ref o79), .val .null, .val .null]) rfl ?_
            show Steps p.tables e below (T82.setTop (mkF m 205 #[.val (.int p0), .val (.int p1), .val (.int p2), .val (.int p3), .val (.int (p0 &&& (7 : Int32))), .val (.int (own_pk ((p0.toUInt32 >>> ((3 : Int32) &&& 31).toUInt32).toInt32) p1)), .val (.int (own_pk ((p0.toUInt32 >>> ((4 : Int32) &&& 31).toUInt32).toInt32) p2)), .val (.int (own_pk ((p0.toUInt32 >>> ((5 : Int32) &&& 31).toUInt32).toInt32) p3)), .val (.ref b71), .val (.int (p0 &&& (7 : Int32))), .val (.ref o79), .val .null, .val .null] [])) _
            refine XS.iload X82.here hx rfl (hb hby at_205) rfl ?_
            show Steps p.tables e below (T82.setTop (mkF m 207 #[.val (.int p0), .val (.int p1), .val (.int p2), .val (.int p3), .val (.int (p0 &&& (7 : Int32))), .val (.int (own_pk ((p0.toUInt32 >>> ((3 : Int32) &&& 31).toUInt32).toInt32) p1)), .val (.int (own_pk ((p0.toUInt32 >>> ((4 : Int32) &&& 31).toUInt32).toInt32) p2)), .val (.int (own_pk ((p0.toUInt32 >>> ((5 : Int32) &&& 31).toUInt32).toInt32) p3)), .val (.ref b71), .val (.int (p0 &&& (7 : Int32))), .val (.ref o79), .val .null, .val .null] [(.int (p0 &&& (7 : Int32)))])) _
            refine XS.iconst X82.here hx rfl (hb hby at_207) ?_
            show Steps p.tables e below (T82.setTop (mkF m 208 #[.val (.int p0), .val (.int p1), .val (.int p2), .val (.int p3), .val (.int (p0 &&& (7 : Int32))), .val (.int (own_pk ((p0.toUInt32 >>> ((3 : Int32) &&& 31).toUInt32).toInt32) p1)), .val (.int (own_pk ((p0.toUInt32 >>> ((4 : Int32) &&& 31).toUInt32).toInt32) p2)), .val (.int (own_pk ((p0.toUInt32 >>> ((5 : Int32) &&& 31).toUInt32).toInt32) p3)), .val (.ref b71), .val (.int (p0 &&& (7 : Int32))), .val (.ref o79), .val .null, .val .null] [(.int (2 : Int32)), (.int (p0 &&& (7 : Int32)))])) _
            refine XS.icmpYes X82.here hx rfl (pc0 := 208) (pc' := 233) rfl (hb hby at_208) rfl (feq hc208).2 (by decide) (by decide) ?_
            show Steps p.tables e below (T82.setTop (mkF m 233 #[.val (.int p0), .val (.int p1), .val (.int p2), .val (.int p3), .val (.int (p0 &&& (7 : Int32))), .val (.int (own_pk ((p0.toUInt32 >>> ((3 : Int32) &&& 31).toUInt32).toInt32) p1)), .val (.int (own_pk ((p0.toUInt32 >>> ((4 : Int32) &&& 31).toUInt32).toInt32) p2)), .val (.int (own_pk ((p0.toUInt32 >>> ((5 : Int32) &&& 31).toUInt32).toInt32) p3)), .val (.ref b71), .val (.int (p0 &&& (7 : Int32))), .val (.ref o79), .val .null, .val .null] [])) _
            refine XS.iload X82.here hx rfl (hb hby at_233) rfl ?_
            show Steps p.tables e below (T82.setTop (mkF m 235 #[.val (.int p0), .val (.int p1), .val (.int p2), .val (.int p3), .val (.int (p0 &&& (7 : Int32))), .val (.int (own_pk ((p0.toUInt32 >>> ((3 : Int32) &&& 31).toUInt32).toInt32) p1)), .val (.int (own_pk ((p0.toUInt32 >>> ((4 : Int32) &&& 31).toUInt32).toInt32) p2)), .val (.int (own_pk ((p0.toUInt32 >>> ((5 : Int32) &&& 31).toUInt32).toInt32) p3)), .val (.ref b71), .val (.int (p0 &&& (7 : Int32))), .val (.ref o79), .val .null, .val .null] [(.int (p0 &&& (7 : Int32)))])) _
            refine XS.iconst X82.here hx rfl (hb hby at_235) ?_
            show Steps p.tables e below (T82.setTop (mkF m 236 #[.val (.int p0), .val (.int p1), .val (.int p2), .val (.int p3), .val (.int (p0 &&& (7 : Int32))), .val (.int (own_pk ((p0.toUInt32 >>> ((3 : Int32) &&& 31).toUInt32).toInt32) p1)), .val (.int (own_pk ((p0.toUInt32 >>> ((4 : Int32) &&& 31).toUInt32).toInt32) p2)), .val (.int (own_pk ((p0.toUInt32 >>> ((5 : Int32) &&& 31).toUInt32).toInt32) p3)), .val (.ref b71), .val (.int (p0 &&& (7 : Int32))), .val (.ref o79), .val .null, .val .null] [(.int (2 : Int32)), (.int (p0 &&& (7 : Int32)))])) _
            refine XS.icmpYes X82.here hx rfl (pc0 := 236) (pc' := 258) rfl (hb hby at_236) rfl (feq hc236).2 (by decide) (by decide) ?_
            show Steps p.tables e below (T82.setTop (mkF m 258 #[.val (.int p0), .val (.int p1), .val (.int p2), .val (.int p3), .val (.int (p0 &&& (7 : Int32))), .val (.int (own_pk ((p0.toUInt32 >>> ((3 : Int32) &&& 31).toUInt32).toInt32) p1)), .val (.int (own_pk ((p0.toUInt32 >>> ((4 : Int32) &&& 31).toUInt32).toInt32) p2)), .val (.int (own_pk ((p0.toUInt32 >>> ((5 : Int32) &&& 31).toUInt32).toInt32) p3)), .val (.ref b71), .val (.int (p0 &&& (7 : Int32))), .val (.ref o79), .val .null, .val .null] [])) _
            refine XS.aload X82.here hx rfl (hb hby at_258) rfl rfl ?_
            show Steps p.tables e below (T82.setTop (mkF m 260 #[.val (.int p0), .val (.int p1), .val (.int p2), .val (.int p3), .val (.int (p0 &&& (7 : Int32))), .val (.int (own_pk ((p0.toUInt32 >>> ((3 : Int32) &&& 31).toUInt32).toInt32) p1)), .val (.int (own_pk ((p0.toUInt32 >>> ((4 : Int32) &&& 31).toUInt32).toInt32) p2)), .val (.int (own_pk ((p0.toUInt32 >>> ((5 : Int32) &&& 31).toUInt32).toInt32) p3)), .val (.ref b71), .val (.int (p0 &&& (7 : Int32))), .val (.ref o79), .val .null, .val .null] [.null])) _
            refine XS.aload X82.here hx rfl (hb hby at_260) rfl rfl ?_
            show Steps p.tables e below (T82.setTop (mkF m 262 #[.val (.int p0), .val (.int p1), .val (.int p2), .val (.int p3), .val (.int (p0 &&& (7 : Int32))), .val (.int (own_pk ((p0.toUInt32 >>> ((3 : Int32) &&& 31).toUInt32).toInt32) p1)), .val (.int (own_pk ((p0.toUInt32 >>> ((4 : Int32) &&& 31).toUInt32).toInt32) p2)), .val (.int (own_pk ((p0.toUInt32 >>> ((5 : Int32) &&& 31).toUInt32).toInt32) p3)), .val (.ref b71), .val (.int (p0 &&& (7 : Int32))), .val (.ref o79), .val .null, .val .null] [.null, .null])) _
            refine Jvm.RoadKit.acmp (g := (mkF m 262 #[.val (.int p0), .val (.int p1), .val (.int p2), .val (.int p3), .val (.int (p0 &&& (7 : Int32))), .val (.int (own_pk ((p0.toUInt32 >>> ((3 : Int32) &&& 31).toUInt32).toInt32) p1)), .val (.int (own_pk ((p0.toUInt32 >>> ((4 : Int32) &&& 31).toUInt32).toInt32) p2)), .val (.int (own_pk ((p0.toUInt32 >>> ((5 : Int32) &&& 31).toUInt32).toInt32) p3)), .val (.ref b71), .val (.int (p0 &&& (7 : Int32))), .val (.ref o79), .val .null, .val .null] [.null, .null])) X82 hx rfl rfl rfl (pc0 := 262) (pc' := 265) (same := true) rfl (hb hby at_262) rfl (decide_eq_true rfl) (by decide) (by decide) ?_
            show Steps p.tables e below (T82.setTop (mkF m 265 #[.val (.int p0), .val (.int p1), .val (.int p2), .val (.int p3), .val (.int (p0 &&& (7 : Int32))), .val (.int (own_pk ((p0.toUInt32 >>> ((3 : Int32) &&& 31).toUInt32).toInt32) p1)), .val (.int (own_pk ((p0.toUInt32 >>> ((4 : Int32) &&& 31).toUInt32).toInt32) p2)), .val (.int (own_pk ((p0.toUInt32 >>> ((5 : Int32) &&& 31).toUInt32).toInt32) p3)), .val (.ref b71), .val (.int (p0 &&& (7 : Int32))), .val (.ref o79), .val .null, .val .null] [])) _
            refine XS.iconst X82.here hx rfl (hb hby at_265) ?_
            show Steps p.tables e below (T82.setTop (mkF m 266 #[.val (.int p0), .val (.int p1), .val (.int p2), .val (.int p3), .val (.int (p0 &&& (7 : Int32))), .val (.int (own_pk ((p0.toUInt32 >>> ((3 : Int32) &&& 31).toUInt32).toInt32) p1)), .val (.int (own_pk ((p0.toUInt32 >>> ((4 : Int32) &&& 31).toUInt32).toInt32) p2)), .val (.int (own_pk ((p0.toUInt32 >>> ((5 : Int32) &&& 31).toUInt32).toInt32) p3)), .val (.ref b71), .val (.int (p0 &&& (7 : Int32))), .val (.ref o79), .val .null, .val .null] [(.int (1 : Int32))])) _
            refine XS.goto X82.here hx rfl (pc0 := 266) (pc' := 270) rfl (hb hby at_266) (by decide) (by decide) ?_
            exact k)
        obtain ⟨fs, hr, hrun, hended, w1, w2, w3, w4⟩ := X82.leaveW (s := s) (vm₁ := T76.vm) Sn76 (by rw [e82]; exact (Nat.le_trans (Nat.le_refl _) K79.1)) (v := (some (.int (1 : Int32)))) (fun h => by rw [Bd.returns] at h; cases h)
        refine ⟨_, _, k84 _ ?_, hrun, hended, _, _, rfl, ?_, w1, w2, w3, w4.mono (by decide) (by decide)⟩
        · exact retN X82 hx (t := .boolean) Bd.returns (by simp) (hb hby at_270) hr
        · show Q0 Z p0 p1 p2 p3 wv cl w_ZH w_EN c_ZH t_ZH c_EN t_EN k_ZH k_EN w_EMPTY G1 G3 h0 n0 _ T82.heap _
          rw [e82]
          exact ⟨rfl, N82⟩
      · have k85 : ∀ t, Steps p.tables e below (T8.setTop (mkF m 85 #[.val (.int p0), .val (.int p1), .val (.int p2), .val (.int p3), .val (.int (p0 &&& (7 : Int32))), .val (.int (own_pk ((p0.toUInt32 >>> ((3 : Int32) &&& 31).toUInt32).toInt32) p1)), .val (.int (own_pk ((p0.toUInt32 >>> ((4 : Int32) &&& 31).toUInt32).toInt32) p2)), .val (.int (own_pk ((p0.toUInt32 >>> ((5 : Int32) &&& 31).toUInt32).toInt32) p3)), .unset, .val (.int (p0 &&& (7 : Int32))), .unset, .unset, .unset] [(.int (1 : Int32)), (.int (p0 &&& (7 : Int32)))])) t → Steps p.tables e below (s₁.setTop (entryFrame m #[(.int p0), (.int p1), (.int p2), (.int p3)] maxLocals)) t := fun t k => k69 t (by
            show Steps p.tables e below (T8.setTop (mkF m 64 #[.val (.int p0), .val (.int p1), .val (.int p2), .val (.int p3), .val (.int (p0 &&& (7 : Int32))), .val (.int (own_pk ((p0.toUInt32 >>> ((3 : Int32) &&& 31).toUInt32).toInt32) p1)), .val (.int (own_pk ((p0.toUInt32 >>> ((4 : Int32) &&& 31).toUInt32).toInt32) p2)), .val (.int (own_pk ((p0.toUInt32 >>> ((5 : Int32) &&& 31).toUInt32).toInt32) p3)), .unset, .val (.int (p0 &&& (7 : Int32))), .unset, .unset, .unset] [(.int (p0 &&& (7 : Int32)))])) _
            refine XS.ifYes X8.here hx rfl (pc0 := 64) (pc' := 82) rfl (hb hby at_64) rfl ((if0 _ _).trans (feq hc64).2) (by decide) (by decide) ?_
            show Steps p.tables e below (T8.setTop (mkF m 82 #[.val (.int p0), .val (.int p1), .val (.int p2), .val (.int p3), .val (.int (p0 &&& (7 : Int32))), .val (.int (own_pk ((p0.toUInt32 >>> ((3 : Int32) &&& 31).toUInt32).toInt32) p1)), .val (.int (own_pk ((p0.toUInt32 >>> ((4 : Int32) &&& 31).toUInt32).toInt32) p2)), .val (.int (own_pk ((p0.toUInt32 >>> ((5 : Int32) &&& 31).toUInt32).toInt32) p3)), .unset, .val (.int (p0 &&& (7 : Int32))), .unset, .unset, .unset] [])) _
            refine XS.iload X8.here hx rfl (hb hby at_82) rfl ?_
            show Steps p.tables e below (T8.setTop (mkF m 84 #[.val (.int p0), .val (.int p1), .val (.int p2), .val (.int p3), .val (.int (p0 &&& (7 : Int32))), .val (.int (own_pk ((p0.toUInt32 >>> ((3 : Int32) &&& 31).toUInt32).toInt32) p1)), .val (.int (own_pk ((p0.toUInt32 >>> ((4 : Int32) &&& 31).toUInt32).toInt32) p2)), .val (.int (own_pk ((p0.toUInt32 >>> ((5 : Int32) &&& 31).toUInt32).toInt32) p3)), .unset, .val (.int (p0 &&& (7 : Int32))), .unset, .unset, .unset] [(.int (p0 &&& (7 : Int32)))])) _
            refine XS.iconst X8.here hx rfl (hb hby at_84) ?_
            exact k)
        by_cases hc85 : (p0 &&& (7 : Int32)) = (1 : Int32)
        · have k86 : ∀ t, Steps p.tables e below (T8.setTop (mkF m 88 #[.val (.int p0), .val (.int p1), .val (.int p2), .val (.int p3), .val (.int (p0 &&& (7 : Int32))), .val (.int (own_pk ((p0.toUInt32 >>> ((3 : Int32) &&& 31).toUInt32).toInt32) p1)), .val (.int (own_pk ((p0.toUInt32 >>> ((4 : Int32) &&& 31).toUInt32).toInt32) p2)), .val (.int (own_pk ((p0.toUInt32 >>> ((5 : Int32) &&& 31).toUInt32).toInt32) p3)), .unset, .val (.int (p0 &&& (7 : Int32))), .unset, .unset, .unset] [])) t → Steps p.tables e below (s₁.setTop (entryFrame m #[(.int p0), (.int p1), (.int p2), (.int p3)] maxLocals)) t := fun t k => k85 t (by
              show Steps p.tables e below (T8.setTop (mkF m 85 #[.val (.int p0), .val (.int p1), .val (.int p2), .val (.int p3), .val (.int (p0 &&& (7 : Int32))), .val (.int (own_pk ((p0.toUInt32 >>> ((3 : Int32) &&& 31).toUInt32).toInt32) p1)), .val (.int (own_pk ((p0.toUInt32 >>> ((4 : Int32) &&& 31).toUInt32).toInt32) p2)), .val (.int (own_pk ((p0.toUInt32 >>> ((5 : Int32) &&& 31).toUInt32).toInt32) p3)), .unset, .val (.int (p0 &&& (7 : Int32))), .unset, .unset, .unset] [(.int (1 : Int32)), (.int (p0 &&& (7 : Int32)))])) _
              refine XS.icmpNo X8.here hx rfl (hb hby at_85) rfl (teq hc85).2 ?_
              exact k)
          obtain ⟨T87, h87, X87, e87, E87, A87, D87, -, st87⟩ := newO X8 hx hZ8 hown8 (hw _ (List.mem_of_getElem? (i := 4) rfl)) (hw _ (List.mem_of_getElem? (i := 5) rfl)) (hw _ (List.mem_of_getElem? (i := 6) rfl)) rfl (g := (mkF m 88 #[.val (.int p0), .val (.int p1), .val (.int p2), .val (.int p3), .val (.int (p0 &&& (7 : Int32))), .val (.int (own_pk ((p0.toUInt32 >>> ((3 : Int32) &&& 31).toUInt32).toInt32) p1)), .val (.int (own_pk ((p0.toUInt32 >>> ((4 : Int32) &&& 31).toUInt32).toInt32) p2)), .val (.int (own_pk ((p0.toUInt32 >>> ((5 : Int32) &&& 31).toUInt32).toInt32) p3)), .unset, .val (.int (p0 &&& (7 : Int32))), .unset, .unset, .unset] [])) rfl (hb hby at_88) (by decide) (by decide)
          obtain ⟨b87, g87⟩ : ∃ z, z = T8.heap.size := ⟨_, rfl⟩
          rw [← g87] at A87 D87 st87
          have sz_b87 : h0.size ≤ b87 := Nat.le_trans ((((Keep.refl h0 []).ext Ex2).ext Ex5).ext Ex8).1 (Nat.le_of_eq g87.symm)
          have F_value_b87 : Fld Z h87 b87 "java/lang/String" "value" "[B" .null := D87 (Or.inr (hw _ (List.mem_of_getElem? (i := 20) rfl))) (ty := (.array .byte)) (by decide)
          have F_coder_b87 : Fld Z h87 b87 "java/lang/String" "coder" "B" (.int (0 : Int32)) := D87 (Or.inr (hw _ (List.mem_of_getElem? (i := 21) rfl))) (ty := .byte) (by decide)
          have g_b87 : n0 ≤ b87 := Nat.le_trans Zs8 (Nat.le_of_eq g87.symm)
          have Zs87 : n0 ≤ h87.size := Nat.le_trans Zs8 E87.1
          have k88 : ∀ t, Steps p.tables e below (T87.setTop (mkF m 91 #[.val (.int p0), .val (.int p1), .val (.int p2), .val (.int p3), .val (.int (p0 &&& (7 : Int32))), .val (.int (own_pk ((p0.toUInt32 >>> ((3 : Int32) &&& 31).toUInt32).toInt32) p1)), .val (.int (own_pk ((p0.toUInt32 >>> ((4 : Int32) &&& 31).toUInt32).toInt32) p2)), .val (.int (own_pk ((p0.toUInt32 >>> ((5 : Int32) &&& 31).toUInt32).toInt32) p3)), .unset, .val (.int (p0 &&& (7 : Int32))), .unset, .unset, .unset] [(.ref b87)])) t → Steps p.tables e below (s₁.setTop (entryFrame m #[(.int p0), (.int p1), (.int p2), (.int p3)] maxLocals)) t := fun t k => k86 t (st87 _ k)
          have k89 : ∀ t, Steps p.tables e below (T87.setTop (mkF m 93 #[.val (.int p0), .val (.int p1), .val (.int p2), .val (.int p3), .val (.int (p0 &&& (7 : Int32))), .val (.int (own_pk ((p0.toUInt32 >>> ((3 : Int32) &&& 31).toUInt32).toInt32) p1)), .val (.int (own_pk ((p0.toUInt32 >>> ((4 : Int32) &&& 31).toUInt32).toInt32) p2)), .val (.int (own_pk ((p0.toUInt32 >>> ((5 : Int32) &&& 31).toUInt32).toInt32) p3)), .unset, .val (.int (p0 &&& (7 : Int32))), .unset, .unset, .unset] [(.int (1 : Int32)), (.ref b87), (.ref b87)])) t → Steps p.tables e below (s₁.setTop (entryFrame m #[(.int p0), (.int p1), (.int p2), (.int p3)] maxLocals)) t := fun t k => k88 t (by
              show Steps p.tables e below (T87.setTop (mkF m 91 #[.val (.int p0), .val (.int p1), .val (.int p2), .val (.int p3), .val (.int (p0 &&& (7 : Int32))), .val (.int (own_pk ((p0.toUInt32 >>> ((3 : Int32) &&& 31).toUInt32).toInt32) p1)), .val (.int (own_pk ((p0.toUInt32 >>> ((4 : Int32) &&& 31).toUInt32).toInt32) p2)), .val (.int (own_pk ((p0.toUInt32 >>> ((5 : Int32) &&& 31).toUInt32).toInt32) p3)), .unset, .val (.int (p0 &&& (7 : Int32))), .unset, .unset, .unset] [(.ref b87)])) _
              refine XS.dup X87.here hx rfl (hb hby at_91) rfl rfl ?_
              show Steps p.tables e below (T87.setTop (mkF m 92 #[.val (.int p0), .val (.int p1), .val (.int p2), .val (.int p3), .val (.int (p0 &&& (7 : Int32))), .val (.int (own_pk ((p0.toUInt32 >>> ((3 : Int32) &&& 31).toUInt32).toInt32) p1)), .val (.int (own_pk ((p0.toUInt32 >>> ((4 : Int32) &&& 31).toUInt32).toInt32) p2)), .val (.int (own_pk ((p0.toUInt32 >>> ((5 : Int32) &&& 31).toUInt32).toInt32) p3)), .unset, .val (.int (p0 &&& (7 : Int32))), .unset, .unset, .unset] [(.ref b87), (.ref b87)])) _
              refine XS.iconst X87.here hx rfl (hb hby at_92) ?_
              exact k)
          obtain ⟨T90, h90, ka90, X90, e90, E90, A90, st90⟩ := newP X87 hx hZ8 (hw _ (List.mem_of_getElem? (i := 7) rfl)) e87 (g := (mkF m 93 #[.val (.int p0), .val (.int p1), .val (.int p2), .val (.int p3), .val (.int (p0 &&& (7 : Int32))), .val (.int (own_pk ((p0.toUInt32 >>> ((3 : Int32) &&& 31).toUInt32).toInt32) p1)), .val (.int (own_pk ((p0.toUInt32 >>> ((4 : Int32) &&& 31).toUInt32).toInt32) p2)), .val (.int (own_pk ((p0.toUInt32 >>> ((5 : Int32) &&& 31).toUInt32).toInt32) p3)), .unset, .val (.int (p0 &&& (7 : Int32))), .unset, .unset, .unset] [(.int (1 : Int32)), (.ref b87), (.ref b87)])) rfl (hb hby at_93) rfl (by decide) (cap := 1) (by decide) (by decide) (by decide) (by decide)
          obtain ⟨b90, g90⟩ : ∃ z, z = h87.size := ⟨_, rfl⟩
          rw [← g90] at A90 st90
          have ne_b87_b90 : b87 ≠ b90 := Nat.ne_of_lt (Nat.lt_of_lt_of_le F_value_b87.lt (Nat.le_of_eq g90.symm))
          have V_b90 : Arv Z h90 b90 ka90 .char (1 : Int32) [(.int (0 : Int32))] (.int (0 : Int32)) := (Arv.new A90 (by decide)).pad (pad_rep [] (.int (0 : Int32)) 1)
          have g_b90 : n0 ≤ b90 := Nat.le_trans Zs87 (Nat.le_of_eq g90.symm)
          have sz_b90 : h0.size ≤ b90 := Nat.le_trans (((((Keep.refl h0 []).ext Ex2).ext Ex5).ext Ex8).ext E87).1 (Nat.le_of_eq g90.symm)
          have Zs90 : n0 ≤ h90.size := Nat.le_trans Zs87 E90.1
          have k91 : ∀ t, Steps p.tables e below (T90.setTop (mkF m 95 #[.val (.int p0), .val (.int p1), .val (.int p2), .val (.int p3), .val (.int (p0 &&& (7 : Int32))), .val (.int (own_pk ((p0.toUInt32 >>> ((3 : Int32) &&& 31).toUInt32).toInt32) p1)), .val (.int (own_pk ((p0.toUInt32 >>> ((4 : Int32) &&& 31).toUInt32).toInt32) p2)), .val (.int (own_pk ((p0.toUInt32 >>> ((5 : Int32) &&& 31).toUInt32).toInt32) p3)), .unset, .val (.int (p0 &&& (7 : Int32))), .unset, .unset, .unset] [(.ref b90), (.ref b87), (.ref b87)])) t → Steps p.tables e below (s₁.setTop (entryFrame m #[(.int p0), (.int p1), (.int p2), (.int p3)] maxLocals)) t := fun t k => k89 t (st90 _ k)
          have k92 : ∀ t, Steps p.tables e below (T90.setTop (mkF m 99 #[.val (.int p0), .val (.int p1), .val (.int p2), .val (.int p3), .val (.int (p0 &&& (7 : Int32))), .val (.int (own_pk ((p0.toUInt32 >>> ((3 : Int32) &&& 31).toUInt32).toInt32) p1)), .val (.int (own_pk ((p0.toUInt32 >>> ((4 : Int32) &&& 31).toUInt32).toInt32) p2)), .val (.int (own_pk ((p0.toUInt32 >>> ((5 : Int32) &&& 31).toUInt32).toInt32) p3)), .unset, .val (.int (p0 &&& (7 : Int32))), .unset, .unset, .unset] [(.int (own_pk ((p0.toUInt32 >>> ((3 : Int32) &&& 31).toUInt32).toInt32) p1)), (.int (0 : Int32)), (.ref b90), (.ref b90), (.ref b87), (.ref b87)])) t → Steps p.tables e below (s₁.setTop (entryFrame m #[(.int p0), (.int p1), (.int p2), (.int p3)] maxLocals)) t := fun t k => k91 t (by
              show Steps p.tables e below (T90.setTop (mkF m 95 #[.val (.int p0), .val (.int p1), .val (.int p2), .val (.int p3), .val (.int (p0 &&& (7 : Int32))), .val (.int (own_pk ((p0.toUInt32 >>> ((3 : Int32) &&& 31).toUInt32).toInt32) p1)), .val (.int (own_pk ((p0.toUInt32 >>> ((4 : Int32) &&& 31).toUInt32).toInt32) p2)), .val (.int (own_pk ((p0.toUInt32 >>> ((5 : Int32) &&& 31).toUInt32).toInt32) p3)), .unset, .val (.int (p0 &&& (7 : Int32))), .unset, .unset, .unset] [(.ref b90), (.ref b87), (.ref b87)])) _
              refine XS.dup X90.here hx rfl (hb hby at_95) rfl rfl ?_
              show Steps p.tables e below (T90.setTop (mkF m 96 #[.val (.int p0), .val (.int p1), .val (.int p2), .val (.int p3), .val (.int (p0 &&& (7 : Int32))), .val (.int (own_pk ((p0.toUInt32 >>> ((3 : Int32) &&& 31).toUInt32).toInt32) p1)), .val (.int (own_pk ((p0.toUInt32 >>> ((4 : Int32) &&& 31).toUInt32).toInt32) p2)), .val (.int (own_pk ((p0.toUInt32 >>> ((5 : Int32) &&& 31).toUInt32).toInt32) p3)), .unset, .val (.int (p0 &&& (7 : Int32))), .unset, .unset, .unset] [(.ref b90), (.ref b90), (.ref b87), (.ref b87)])) _
              refine XS.iconst X90.here hx rfl (hb hby at_96) ?_
              show Steps p.tables e below (T90.setTop (mkF m 97 #[.val (.int p0), .val (.int p1), .val (.int p2), .val (.int p3), .val (.int (p0 &&& (7 : Int32))), .val (.int (own_pk ((p0.toUInt32 >>> ((3 : Int32) &&& 31).toUInt32).toInt32) p1)), .val (.int (own_pk ((p0.toUInt32 >>> ((4 : Int32) &&& 31).toUInt32).toInt32) p2)), .val (.int (own_pk ((p0.toUInt32 >>> ((5 : Int32) &&& 31).toUInt32).toInt32) p3)), .unset, .val (.int (p0 &&& (7 : Int32))), .unset, .unset, .unset] [(.int (0 : Int32)), (.ref b90), (.ref b90), (.ref b87), (.ref b87)])) _
              refine XS.iload X90.here hx rfl (hb hby at_97) rfl ?_
              exact k)
          obtain ⟨cl_b90_99, Ar_b90_99, q_b90_99, S_b90_99, N_b90_99, H_b90_99, G_b90_99⟩ := V_b90
          have hin_b90_99 : ¬ ((0 : Int32) < 0 ∨ cl_b90_99.slots.size ≤ ((0 : Int32)).toNatClampNeg) := inb_of S_b90_99 ⟨by decide, by decide⟩
          obtain ⟨T93, h93, X93, e93, W93, st93⟩ := stC X90 hx hZ8 e90 Ar_b90_99 (j := (0 : Int32)) hin_b90_99 (g := (mkF m 99 #[.val (.int p0), .val (.int p1), .val (.int p2), .val (.int p3), .val (.int (p0 &&& (7 : Int32))), .val (.int (own_pk ((p0.toUInt32 >>> ((3 : Int32) &&& 31).toUInt32).toInt32) p1)), .val (.int (own_pk ((p0.toUInt32 >>> ((4 : Int32) &&& 31).toUInt32).toInt32) p2)), .val (.int (own_pk ((p0.toUInt32 >>> ((5 : Int32) &&& 31).toUInt32).toInt32) p3)), .unset, .val (.int (p0 &&& (7 : Int32))), .unset, .unset, .unset] [(.int (own_pk ((p0.toUInt32 >>> ((3 : Int32) &&& 31).toUInt32).toInt32) p1)), (.int (0 : Int32)), (.ref b90), (.ref b90), (.ref b87), (.ref b87)])) rfl rfl (hb hby at_99)
          have V_b90_99 : Arv Z h93 b90 ka90 .char (1 : Int32) [(.int (nar .char (own_pk ((p0.toUInt32 >>> ((3 : Int32) &&& 31).toUInt32).toInt32) p1)))] (.int (0 : Int32)) := Arv.set Ar_b90_99 q_b90_99 S_b90_99 N_b90_99 H_b90_99 G_b90_99 (fits_nar_char _) W93 0 rfl (Nat.le_of_ble_eq_true rfl)
          have N93 := Fr.snoc X93 N8 g_b90
          have Zs93 : n0 ≤ h93.size := Nat.le_trans Zs90 (Keep.of_wr W93).1
          have k94 : ∀ t, Steps p.tables e below (T93.setTop (mkF m 100 #[.val (.int p0), .val (.int p1), .val (.int p2), .val (.int p3), .val (.int (p0 &&& (7 : Int32))), .val (.int (own_pk ((p0.toUInt32 >>> ((3 : Int32) &&& 31).toUInt32).toInt32) p1)), .val (.int (own_pk ((p0.toUInt32 >>> ((4 : Int32) &&& 31).toUInt32).toInt32) p2)), .val (.int (own_pk ((p0.toUInt32 >>> ((5 : Int32) &&& 31).toUInt32).toInt32) p3)), .unset, .val (.int (p0 &&& (7 : Int32))), .unset, .unset, .unset] [(.ref b90), (.ref b87), (.ref b87)])) t → Steps p.tables e below (s₁.setTop (entryFrame m #[(.int p0), (.int p1), (.int p2), (.int p3)] maxLocals)) t := fun t k => k92 t (st93 _ k)
          have hp95 : ∀ c ∈ ([(nar .char (own_pk ((p0.toUInt32 >>> ((3 : Int32) &&& 31).toUInt32).toInt32) p1))] : List Int32), ¬ c < 0 ∧ ¬ (255 : Int32) < c := by
            intro c hc
            simp only [List.mem_cons, List.not_mem_nil, or_false] at hc
            rcases hc with rfl
            · exact own_pk_ok _ _
          obtain ⟨_, _, ⟨T95, L95, kq95, n95⟩, -, X95, ⟨Lc95, hQ95, l95, y95, z95⟩, st95⟩ := X93.specialBack hx (y := (⟨"java/lang/String", "<init>", "([C)V"⟩ : MethodName)) rfl hown8 (mvT hZ8 (hw _ (List.mem_of_getElem? (i := 8) rfl))) (mvT hZ8 (hw _ (List.mem_of_getElem? (i := 9) rfl))) (mvT hZ8 (hw _ (List.mem_of_getElem? (i := 10) rfl))) (by decide) (StrChars.Road.backV (W := 1) hZ8 hws (kI := 4) (hw _ (List.mem_of_getElem? (i := 5) rfl)) (cs := ([(nar .char (own_pk ((p0.toUInt32 >>> ((3 : Int32) &&& 31).toUInt32).toInt32) p1))] : List Int32)) (bs := (([(nar .char (own_pk ((p0.toUInt32 >>> ((3 : Int32) &&& 31).toUInt32).toInt32) p1))] : List Int32)).map (fun c => c.toInt8.toInt32)) (n := 1) g_b87 Zs93 ((A87.ext E90).wr W93) ((F_value_b87.ext E90).other W93 (Or.inl ne_b87_b90)) ((F_coder_b87.ext E90).other W93 (Or.inl ne_b87_b90)) V_b90_99 (O2.ext ((((((X00.ext Ex2).ext Ex5).ext Ex8).ext E87).ext E90).wr W93 g_b90).2) P5 rfl rfl (by decide) (by decide) hp95 rfl (by decide) (by decide)) (g := (mkF m 100 #[.val (.int p0), .val (.int p1), .val (.int p2), .val (.int p3), .val (.int (p0 &&& (7 : Int32))), .val (.int (own_pk ((p0.toUInt32 >>> ((3 : Int32) &&& 31).toUInt32).toInt32) p1)), .val (.int (own_pk ((p0.toUInt32 >>> ((4 : Int32) &&& 31).toUInt32).toInt32) p2)), .val (.int (own_pk ((p0.toUInt32 >>> ((5 : Int32) &&& 31).toUInt32).toInt32) p3)), .unset, .val (.int (p0 &&& (7 : Int32))), .unset, .unset, .unset] [(.ref b90), (.ref b87), (.ref b87)])) rfl (by rw [hml]; rfl) (Steps.refl _) (a := b87) (argsL := [(.ref b90)]) (rest := [(.ref b87)]) (lenOf pd_11 rfl) rfl (by show 2 * 0 + _ ≤ _; exact Nat.le_of_eq rfl) (hb hby at_100) (fun _ _ => ⟨rfl, e93, (by decide : 8 + 1 ≤ _), (by decide : 65 + 1 ≤ _)⟩)
          dsimp only [Pt.U, Pt.locs, Pt.cells, Pt.slots] at X95 l95 y95 z95 st95 hQ95
          subst l95 y95 z95
          obtain ⟨rfl, N95q, K95, Ex95, Cx95, t95, kb95, gt95, zt95, nt95, Vx95, Ax95⟩ := hQ95
          have N95 := Fr.app N93 N95q
          have Zs95 : n0 ≤ T95.heap.size := Nat.le_trans Zs93 K95.1
          have k96 : ∀ t, Steps p.tables e below (T95.setTop (mkF m 103 #[.val (.int p0), .val (.int p1), .val (.int p2), .val (.int p3), .val (.int (p0 &&& (7 : Int32))), .val (.int (own_pk ((p0.toUInt32 >>> ((3 : Int32) &&& 31).toUInt32).toInt32) p1)), .val (.int (own_pk ((p0.toUInt32 >>> ((4 : Int32) &&& 31).toUInt32).toInt32) p2)), .val (.int (own_pk ((p0.toUInt32 >>> ((5 : Int32) &&& 31).toUInt32).toInt32) p3)), .unset, .val (.int (p0 &&& (7 : Int32))), .unset, .unset, .unset] [(.ref b87)])) t → Steps p.tables e below (s₁.setTop (entryFrame m #[(.int p0), (.int p1), (.int p2), (.int p3)] maxLocals)) t := fun t k => k94 t (st95.trans k)
          have k97 : ∀ t, Steps p.tables e below (T95.setTop (mkF m 168 #[.val (.int p0), .val (.int p1), .val (.int p2), .val (.int p3), .val (.int (p0 &&& (7 : Int32))), .val (.int (own_pk ((p0.toUInt32 >>> ((3 : Int32) &&& 31).toUInt32).toInt32) p1)), .val (.int (own_pk ((p0.toUInt32 >>> ((4 : Int32) &&& 31).toUInt32).toInt32) p2)), .val (.int (own_pk ((p0.toUInt32 >>> ((5 : Int32) &&& 31).toUInt32).toInt32) p3)), .val (.ref b87), .val (.int (p0 &&& (7 : Int32))), .unset, .unset, .unset] [(.ref b87)])) t → Steps p.tables e below (s₁.setTop (entryFrame m #[(.int p0), (.int p1), (.int p2), (.int p3)] maxLocals)) t := fun t k => k96 t (by
              show Steps p.tables e below (T95.setTop (mkF m 103 #[.val (.int p0), .val (.int p1), .val (.int p2), .val (.int p3), .val (.int (p0 &&& (7 : Int32))), .val (.int (own_pk ((p0.toUInt32 >>> ((3 : Int32) &&& 31).toUInt32).toInt32) p1)), .val (.int (own_pk ((p0.toUInt32 >>> ((4 : Int32) &&& 31).toUInt32).toInt32) p2)), .val (.int (own_pk ((p0.toUInt32 >>> ((5 : Int32) &&& 31).toUInt32).toInt32) p3)), .unset, .val (.int (p0 &&& (7 : Int32))), .unset, .unset, .unset] [(.ref b87)])) _
              refine XS.astore X95.here hx rfl (hb hby at_103) rfl rfl (l' := #[.val (.int p0), .val (.int p1), .val (.int p2), .val (.int p3), .val (.int (p0 &&& (7 : Int32))), .val (.int (own_pk ((p0.toUInt32 >>> ((3 : Int32) &&& 31).toUInt32).toInt32) p1)), .val (.int (own_pk ((p0.toUInt32 >>> ((4 : Int32) &&& 31).toUInt32).toInt32) p2)), .val (.int (own_pk ((p0.toUInt32 >>> ((5 : Int32) &&& 31).toUInt32).toInt32) p3)), .val (.ref b87), .val (.int (p0 &&& (7 : Int32))), .unset, .unset, .unset]) rfl ?_
              show Steps p.tables e below (T95.setTop (mkF m 105 #[.val (.int p0), .val (.int p1), .val (.int p2), .val (.int p3), .val (.int (p0 &&& (7 : Int32))), .val (.int (own_pk ((p0.toUInt32 >>> ((3 : Int32) &&& 31).toUInt32).toInt32) p1)), .val (.int (own_pk ((p0.toUInt32 >>> ((4 : Int32) &&& 31).toUInt32).toInt32) p2)), .val (.int (own_pk ((p0.toUInt32 >>> ((5 : Int32) &&& 31).toUInt32).toInt32) p3)), .val (.ref b87), .val (.int (p0 &&& (7 : Int32))), .unset, .unset, .unset] [])) _
              refine XS.goto X95.here hx rfl (pc0 := 105) (pc' := 166) rfl (hb hby at_105) (by decide) (by decide) ?_
              show Steps p.tables e below (T95.setTop (mkF m 166 #[.val (.int p0), .val (.int p1), .val (.int p2), .val (.int p3), .val (.int (p0 &&& (7 : Int32))), .val (.int (own_pk ((p0.toUInt32 >>> ((3 : Int32) &&& 31).toUInt32).toInt32) p1)), .val (.int (own_pk ((p0.toUInt32 >>> ((4 : Int32) &&& 31).toUInt32).toInt32) p2)), .val (.int (own_pk ((p0.toUInt32 >>> ((5 : Int32) &&& 31).toUInt32).toInt32) p3)), .val (.ref b87), .val (.int (p0 &&& (7 : Int32))), .unset, .unset, .unset] [])) _
              refine XS.aload X95.here hx rfl (hb hby at_166) rfl rfl ?_
              exact k)
          obtain ⟨_, _, ⟨T98, L98, kq98, n98⟩, -, X98, ⟨Lc98, hQ98, l98, y98, z98⟩, st98⟩ := Jvm.LawKit.callS X95 hx (y := (⟨"com/example/mediawarden/mediawarden/engine/Lang", "of", "(Ljava/lang/String;)Ljava/util/Optional;"⟩ : MethodName)) hown8 (mvT hZ8 (hw _ (List.mem_of_getElem? (i := 26) rfl))) (mvT hZ8 (hw _ (List.mem_of_getElem? (i := 27) rfl))) (mvT hZ8 (hw _ (List.mem_of_getElem? (i := 28) rfl))) (mvT hZ8 (hw _ (List.mem_of_getElem? (i := 29) rfl))) (by decide) (backOf (W := 0) (rm5s l Z a0 hw [] b87 wv cl w_ZH w_EN c_ZH t_ZH c_EN t_EN k_ZH k_EN w_EMPTY G1 t95 kb95 ([(nar .char (own_pk ((p0.toUInt32 >>> ((3 : Int32) &&& 31).toUInt32).toInt32) p1))] : List Int32) (1 : Int32) T95.heap n0 Zs95 (S_V.ext (((((((X00.ext Ex2).ext Ex5).ext Ex8).ext E87).ext E90).wr W93 g_b90).keep K95 (allS g_b87 all0)).2) (Arv_.ext (((((((X00.ext Ex2).ext Ex5).ext Ex8).ext E87).ext E90).wr W93 g_b90).keep K95 (allS g_b87 all0)).2) (E_V.ext (((((((X00.ext Ex2).ext Ex5).ext Ex8).ext E87).ext E90).wr W93 g_b90).keep K95 (allS g_b87 all0)).2) hsz hat0 hat1 (F_code_w_ZH.ext (((((((X00.ext Ex2).ext Ex5).ext Ex8).ext E87).ext E90).wr W93 g_b90).keep K95 (allS g_b87 all0)).2) (E_c_ZH.ext (((((((X00.ext Ex2).ext Ex5).ext Ex8).ext E87).ext E90).wr W93 g_b90).keep K95 (allS g_b87 all0)).2) (F_value_c_ZH.ext (((((((X00.ext Ex2).ext Ex5).ext Ex8).ext E87).ext E90).wr W93 g_b90).keep K95 (allS g_b87 all0)).2) (F_coder_c_ZH.ext (((((((X00.ext Ex2).ext Ex5).ext Ex8).ext E87).ext E90).wr W93 g_b90).keep K95 (allS g_b87 all0)).2) (V_t_ZH.ext (((((((X00.ext Ex2).ext Ex5).ext Ex8).ext E87).ext E90).wr W93 g_b90).keep K95 (allS g_b87 all0)).2) (F_code_w_EN.ext (((((((X00.ext Ex2).ext Ex5).ext Ex8).ext E87).ext E90).wr W93 g_b90).keep K95 (allS g_b87 all0)).2) (E_c_EN.ext (((((((X00.ext Ex2).ext Ex5).ext Ex8).ext E87).ext E90).wr W93 g_b90).keep K95 (allS g_b87 all0)).2) (F_value_c_EN.ext (((((((X00.ext Ex2).ext Ex5).ext Ex8).ext E87).ext E90).wr W93 g_b90).keep K95 (allS g_b87 all0)).2) (F_coder_c_EN.ext (((((((X00.ext Ex2).ext Ex5).ext Ex8).ext E87).ext E90).wr W93 g_b90).keep K95 (allS g_b87 all0)).2) (V_t_EN.ext (((((((X00.ext Ex2).ext Ex5).ext Ex8).ext E87).ext E90).wr W93 g_b90).keep K95 (allS g_b87 all0)).2) Ex95 Vx95 Cx95 Ax95 S_EMPTY E_w_EMPTY F_value_w_EMPTY O2 P5 (((((((X00.ext Ex2).ext Ex5).ext Ex8).ext E87).ext E90).wr W93 g_b90).keep K95 (allS g_b87 all0)) (StrChars.Road.codOf (n := 1) rfl (fun c hc => (hp95 c hc).2)) (own_up _ hp95) (Nat.le_of_ble_eq_true rfl)) hZ8 (hw _ (List.mem_of_getElem? (i := 29) rfl)) (hw _ (List.mem_of_getElem? (i := 28) rfl)) (by decide) (by decide)) (g := (mkF m 168 #[.val (.int p0), .val (.int p1), .val (.int p2), .val (.int p3), .val (.int (p0 &&& (7 : Int32))), .val (.int (own_pk ((p0.toUInt32 >>> ((3 : Int32) &&& 31).toUInt32).toInt32) p1)), .val (.int (own_pk ((p0.toUInt32 >>> ((4 : Int32) &&& 31).toUInt32).toInt32) p2)), .val (.int (own_pk ((p0.toUInt32 >>> ((5 : Int32) &&& 31).toUInt32).toInt32) p3)), .val (.ref b87), .val (.int (p0 &&& (7 : Int32))), .unset, .unset, .unset] [(.ref b87)])) rfl (by rw [hml]; rfl) (argsL := [(.ref b87)]) (rest := []) (lenOf pd_9 rfl) rfl (by show 2 * 0 + _ ≤ _; exact Nat.le_of_eq rfl) (hb hby at_168) (fun _ _ => ⟨rfl, rfl, (by decide : 9 + 2 ≤ _), (by decide : 66 + 3 ≤ _)⟩)
          dsimp only [Pt.U, Pt.locs, Pt.cells, Pt.slots] at X98 l98 y98 z98 st98 hQ98
          subst l98 y98 z98
          obtain ⟨o98, val, rfl, N98q, K98, Ex98, Fx98, hcs⟩ := hQ98
          have N98 := Fr.app N95 N98q
          have Zs98 : n0 ≤ T98.heap.size := Nat.le_trans Zs95 K98.1
          have k99 : ∀ t, Steps p.tables e below (T98.setTop (mkF m 171 #[.val (.int p0), .val (.int p1), .val (.int p2), .val (.int p3), .val (.int (p0 &&& (7 : Int32))), .val (.int (own_pk ((p0.toUInt32 >>> ((3 : Int32) &&& 31).toUInt32).toInt32) p1)), .val (.int (own_pk ((p0.toUInt32 >>> ((4 : Int32) &&& 31).toUInt32).toInt32) p2)), .val (.int (own_pk ((p0.toUInt32 >>> ((5 : Int32) &&& 31).toUInt32).toInt32) p3)), .val (.ref b87), .val (.int (p0 &&& (7 : Int32))), .unset, .unset, .unset] [(.ref o98)])) t → Steps p.tables e below (s₁.setTop (entryFrame m #[(.int p0), (.int p1), (.int p2), (.int p3)] maxLocals)) t := fun t k => k97 t (st98 _ k)
          obtain rfl : val = .null := by rcases hcs with ⟨q, -⟩ | ⟨-, q, -⟩ | ⟨-, -, q⟩ <;> first | exact q | exact absurd (congrArg List.length q) (by simp)
          have k100 : ∀ t, Steps p.tables e below (T98.setTop (mkF m 182 #[.val (.int p0), .val (.int p1), .val (.int p2), .val (.int p3), .val (.int (p0 &&& (7 : Int32))), .val (.int (own_pk ((p0.toUInt32 >>> ((3 : Int32) &&& 31).toUInt32).toInt32) p1)), .val (.int (own_pk ((p0.toUInt32 >>> ((4 : Int32) &&& 31).toUInt32).toInt32) p2)), .val (.int (own_pk ((p0.toUInt32 >>> ((5 : Int32) &&& 31).toUInt32).toInt32) p3)), .val (.ref b87), .val (.int (p0 &&& (7 : Int32))), .val (.ref o98), .unset, .unset] [(.ref o98)])) t → Steps p.tables e below (s₁.setTop (entryFrame m #[(.int p0), (.int p1), (.int p2), (.int p3)] maxLocals)) t := fun t k => k99 t (by
              show Steps p.tables e below (T98.setTop (mkF m 171 #[.val (.int p0), .val (.int p1), .val (.int p2), .val (.int p3), .val (.int (p0 &&& (7 : Int32))), .val (.int (own_pk ((p0.toUInt32 >>> ((3 : Int32) &&& 31).toUInt32).toInt32) p1)), .val (.int (own_pk ((p0.toUInt32 >>> ((4 : Int32) &&& 31).toUInt32).toInt32) p2)), .val (.int (own_pk ((p0.toUInt32 >>> ((5 : Int32) &&& 31).toUInt32).toInt32) p3)), .val (.ref b87), .val (.int (p0 &&& (7 : Int32))), .unset, .unset, .unset] [(.ref o98)])) _
              refine XS.astore X98.here hx rfl (hb hby at_171) rfl rfl (l' := #[.val (.int p0), .val (.int p1), .val (.int p2), .val (.int p3), .val (.int (p0 &&& (7 : Int32))), .val (.int (own_pk ((p0.toUInt32 >>> ((3 : Int32) &&& 31).toUInt32).toInt32) p1)), .val (.int (own_pk ((p0.toUInt32 >>> ((4 : Int32) &&& 31).toUInt32).toInt32) p2)), .val (.int (own_pk ((p0.toUInt32 >>> ((5 : Int32) &&& 31).toUInt32).toInt32) p3)), .val (.ref b87), .val (.int (p0 &&& (7 : Int32))), .val (.ref o98), .unset, .unset]) rfl ?_
              show Steps p.tables e below (T98.setTop (mkF m 173 #[.val (.int p0), .val (.int p1), .val (.int p2), .val (.int p3), .val (.int (p0 &&& (7 : Int32))), .val (.int (own_pk ((p0.toUInt32 >>> ((3 : Int32) &&& 31).toUInt32).toInt32) p1)), .val (.int (own_pk ((p0.toUInt32 >>> ((4 : Int32) &&& 31).toUInt32).toInt32) p2)), .val (.int (own_pk ((p0.toUInt32 >>> ((5 : Int32) &&& 31).toUInt32).toInt32) p3)), .val (.ref b87), .val (.int (p0 &&& (7 : Int32))), .val (.ref o98), .unset, .unset] [])) _
              refine XS.aload X98.here hx rfl (hb hby at_173) rfl rfl ?_
              show Steps p.tables e below (T98.setTop (mkF m 175 #[.val (.int p0), .val (.int p1), .val (.int p2), .val (.int p3), .val (.int (p0 &&& (7 : Int32))), .val (.int (own_pk ((p0.toUInt32 >>> ((3 : Int32) &&& 31).toUInt32).toInt32) p1)), .val (.int (own_pk ((p0.toUInt32 >>> ((4 : Int32) &&& 31).toUInt32).toInt32) p2)), .val (.int (own_pk ((p0.toUInt32 >>> ((5 : Int32) &&& 31).toUInt32).toInt32) p3)), .val (.ref b87), .val (.int (p0 &&& (7 : Int32))), .val (.ref o98), .unset, .unset] [(.ref o98)])) _
              refine XS.ifnonnullYes X98.here hx rfl (pc0 := 175) (pc' := 180) rfl (hb hby at_175) rfl (by decide) (by decide) ?_
              show Steps p.tables e below (T98.setTop (mkF m 180 #[.val (.int p0), .val (.int p1), .val (.int p2), .val (.int p3), .val (.int (p0 &&& (7 : Int32))), .val (.int (own_pk ((p0.toUInt32 >>> ((3 : Int32) &&& 31).toUInt32).toInt32) p1)), .val (.int (own_pk ((p0.toUInt32 >>> ((4 : Int32) &&& 31).toUInt32).toInt32) p2)), .val (.int (own_pk ((p0.toUInt32 >>> ((5 : Int32) &&& 31).toUInt32).toInt32) p3)), .val (.ref b87), .val (.int (p0 &&& (7 : Int32))), .val (.ref o98), .unset, .unset] [])) _
              refine XS.aload X98.here hx rfl (hb hby at_180) rfl rfl ?_
              exact k)
          obtain ⟨cq101, kcq101, q101a, q101b, q101c⟩ := isOf hZ8 rfl Ex98
          obtain ⟨_, _, ⟨T101, L101, kq101, n101⟩, -, X101, ⟨Lc101, hQ101, l101, y101, z101⟩, st101⟩ := X98.virtualBack hx (y := (⟨"java/util/Optional", "isPresent", "()Z"⟩ : MethodName)) (z := (⟨"java/util/Optional", "isPresent", "()Z"⟩ : MethodName)) hown8 (mvT hZ8 (hw _ (List.mem_of_getElem? (i := 65) rfl))) (mvT hZ8 (hw _ (List.mem_of_getElem? (i := 66) rfl))) (notFace_of_selects (args := #[]) (mvT hZ8 (hw _ (List.mem_of_getElem? (i := 68) rfl)))) (mvT hZ8 (hw _ (List.mem_of_getElem? (i := 68) rfl))) (mvT hZ8 (hw _ (List.mem_of_getElem? (i := 67) rfl))) (by decide) (backOf (W := 0) (rm10n l Z a0 hw [] o98 T98.heap n0 Zs98 Fx98) hZ8 (hw _ (List.mem_of_getElem? (i := 69) rfl)) (hw _ (List.mem_of_getElem? (i := 62) rfl)) (by decide) (by decide)) q101a q101c (g := (mkF m 182 #[.val (.int p0), .val (.int p1), .val (.int p2), .val (.int p3), .val (.int (p0 &&& (7 : Int32))), .val (.int (own_pk ((p0.toUInt32 >>> ((3 : Int32) &&& 31).toUInt32).toInt32) p1)), .val (.int (own_pk ((p0.toUInt32 >>> ((4 : Int32) &&& 31).toUInt32).toInt32) p2)), .val (.int (own_pk ((p0.toUInt32 >>> ((5 : Int32) &&& 31).toUInt32).toInt32) p3)), .val (.ref b87), .val (.int (p0 &&& (7 : Int32))), .val (.ref o98), .unset, .unset] [(.ref o98)])) rfl (by rw [hml]; rfl) (Steps.refl _) (argsL := []) (rest := []) (lenOf pd_10 rfl) rfl (by show 2 * 0 + _ ≤ _; exact Nat.le_of_eq rfl) (hb hby at_182) (fun _ _ => ⟨rfl, rfl, (by decide : 11 + 0 ≤ _), (by decide : 69 + 0 ≤ _)⟩)
          dsimp only [Pt.U, Pt.locs, Pt.cells, Pt.slots] at X101 l101 y101 z101 st101 hQ101
          subst l101 y101 z101
          obtain ⟨rfl, N101q, e101⟩ := hQ101
          have N101 := Fr.app N98 N101q
          have k102 : ∀ t, Steps p.tables e below (T101.setTop (mkF m 185 #[.val (.int p0), .val (.int p1), .val (.int p2), .val (.int p3), .val (.int (p0 &&& (7 : Int32))), .val (.int (own_pk ((p0.toUInt32 >>> ((3 : Int32) &&& 31).toUInt32).toInt32) p1)), .val (.int (own_pk ((p0.toUInt32 >>> ((4 : Int32) &&& 31).toUInt32).toInt32) p2)), .val (.int (own_pk ((p0.toUInt32 >>> ((5 : Int32) &&& 31).toUInt32).toInt32) p3)), .val (.ref b87), .val (.int (p0 &&& (7 : Int32))), .val (.ref o98), .unset, .unset] [(.int (0 : Int32))])) t → Steps p.tables e below (s₁.setTop (entryFrame m #[(.int p0), (.int p1), (.int p2), (.int p3)] maxLocals)) t := fun t k => k100 t (st101.trans k)
          have hc185 : (0 : Int32) = (0 : Int32) := by decide
          have hc208 : ¬ ((p0 &&& (7 : Int32)) = (2 : Int32)) := (by rw [hc85]; decide)
          have hc236 : ¬ ((p0 &&& (7 : Int32)) = (2 : Int32)) := (by rw [hc85]; decide)
          have k103 : ∀ t, Steps p.tables e below (T101.setTop (mkF m 270 #[.val (.int p0), .val (.int p1), .val (.int p2), .val (.int p3), .val (.int (p0 &&& (7 : Int32))), .val (.int (own_pk ((p0.toUInt32 >>> ((3 : Int32) &&& 31).toUInt32).toInt32) p1)), .val (.int (own_pk ((p0.toUInt32 >>> ((4 : Int32) &&& 31).toUInt32).toInt32) p2)), .val (.int (own_pk ((p0.toUInt32 >>> ((5 : Int32) &&& 31).toUInt32).toInt32) p3)), .val (.ref b87), .val (.int (p0 &&& (7 : Int32))), .val (.ref o98), .val .null, .val .null] [(.int (1 : Int32))])) t → Steps p.tables e below (s₁.setTop (entryFrame m #[(.int p0), (.int p1), (.int p2), (.int p3)] maxLocals)) t := fun t k => k102 t (by
              show Steps p.tables e below (T101.setTop (mkF m 185 #[.val (.int p0), .val (.int p1), .val (.int p2), .val (.int p3), .val (.int (p0 &&& (7 : Int32))), .val (.int (own_pk ((p0.toUInt32 >>> ((3 : Int32) &&& 31).toUInt32).toInt32) p1)), .val (.int (own_pk ((p0.toUInt32 >>> ((4 : Int32) &&& 31).toUInt32).toInt32) p2)), .val (.int (own_pk ((p0.toUInt32 >>> ((5 : Int32) &&& 31).toUInt32).toInt32) p3)), .val (.ref b87), .val (.int (p0 &&& (7 : Int32))), .val (.ref o98), .unset, .unset] [(.int (0 : Int32))])) _
              refine XS.ifYes X101.here hx rfl (pc0 := 185) (pc' := 199) rfl (hb hby at_185) rfl ((if0 _ _).trans (teq hc185).1) (by decide) (by decide) ?_
              show Steps p.tables e below (T101.setTop (mkF m 199 #[.val (.int p0), .val (.int p1), .val (.int p2), .val (.int p3), .val (.int (p0 &&& (7 : Int32))), .val (.int (own_pk ((p0.toUInt32 >>> ((3 : Int32) &&& 31).toUInt32).toInt32) p1)), .val (.int (own_pk ((p0.toUInt32 >>> ((4 : Int32) &&& 31).toUInt32).toInt32) p2)), .val (.int (own_pk ((p0.toUInt32 >>> ((5 : Int32) &&& 31).toUInt32).toInt32) p3)), .val (.ref b87), .val (.int (p0 &&& (7 : Int32))), .val (.ref o98), .unset, .unset] [])) _
              refine XS.aconstNull X101.here hx rfl (hb hby at_199) ?_
              show Steps p.tables e below (T101.setTop (mkF m 200 #[.val (.int p0), .val (.int p1), .val (.int p2), .val (.int p3), .val (.int (p0 &&& (7 : Int32))), .val (.int (own_pk ((p0.toUInt32 >>> ((3 : Int32) &&& 31).toUInt32).toInt32) p1)), .val (.int (own_pk ((p0.toUInt32 >>> ((4 : Int32) &&& 31).toUInt32).toInt32) p2)), .val (.int (own_pk ((p0.toUInt32 >>> ((5 : Int32) &&& 31).toUInt32).toInt32) p3)), .val (.ref b87), .val (.int (p0 &&& (7 : Int32))), .val (.ref o98), .unset, .unset] [.null])) _
              refine XS.astore X101.here hx rfl (hb hby at_200) rfl rfl (l' := #[.val (.int p0), .val (.int p1), .val (.int p2), .val (.int p3), .val (.int (p0 &&& (7 : Int32))), .val (.int (own_pk ((p0.toUInt32 >>> ((3 : Int32) &&& 31).toUInt32).toInt32) p1)), .val (.int (own_pk ((p0.toUInt32 >>> ((4 : Int32) &&& 31).toUInt32).toInt32) p2)), .val (.int (own_pk ((p0.toUInt32 >>> ((5 : Int32) &&& 31).toUInt32).toInt32) p3)), .val (.ref b87), .val (.int (p0 &&& (7 : Int32))), .val (.ref o98), .val .null, .unset]) rfl ?_
              show Steps p.tables e below (T101.setTop (mkF m 202 #[.val (.int p0), .val (.int p1), .val (.int p2), .val (.int p3), .val (.int (p0 &&& (7 : Int32))), .val (.int (own_pk ((p0.toUInt32 >>> ((3 : Int32) &&& 31).toUInt32).toInt32) p1)), .val (.int (own_pk ((p0.toUInt32 >>> ((4 : Int32) &&& 31).toUInt32).toInt32) p2)), .val (.int (own_pk ((p0.toUInt32 >>> ((5 : Int32) &&& 31).toUInt32).toInt32) p3)), .val (.ref b87), .val (.int (p0 &&& (7 : Int32))), .val (.ref o98), .val .null, .unset] [])) _
              refine XS.aconstNull X101.here hx rfl (hb hby at_202) ?_
              show Steps p.tables e below (T101.setTop (mkF m 203 #[.val (.int p0), .val (.int p1), .val (.int p2), .val (.int p3), .val (.int (p0 &&& (7 : Int32))), .val (.int (own_pk ((p0.toUInt32 >>> ((3 : Int32) &&& 31).toUInt32).toInt32) p1)), .val (.int (own_pk ((p0.toUInt32 >>> ((4 : Int32) &&& 31).toUInt32).toInt32) p2)), .val (.int (own_pk ((p0.toUInt32 >>> ((5 : Int32) &&& 31).toUInt32).toInt32) p3)), .val (.ref b87), .val (.int (p0 &&& (7 : Int32))), .val (.ref o98), .val .null, .unset] [.null])) _
              refine XS.astore X101.here hx rfl (hb hby at_203) rfl rfl (l' := #[.val (.int p0), .val (.int p1), .val (.int p2), .val (.int p3), .val (.int (p0 &&& (7 : Int32))), .val (.int (own_pk ((p0.toUInt32 >>> ((3 : Int32) &&& 31).toUInt32).toInt32) p1)), .val (.int (own_pk ((p0.toUInt32 >>> ((4 : Int32) &&& 31).toUInt32).toInt32) p2)), .val (.int (own_pk ((p0.toUInt32 >>> ((5 : Int32) &&& 31).toUInt32).toInt32) p3)), .val (.ref b87), .val (.int (p0 &&& (7 : Int32))), .val (.ref o98), .val .null, .val .null]) rfl ?_
              show Steps p.tables e below (T101.setTop (mkF m 205 #[.val (.int p0), .val (.int p1), .val (.int p2), .val (.int p3), .val (.int (p0 &&& (7 : Int32))), .val (.int (own_pk ((p0.toUInt32 >>> ((3 : Int32) &&& 31).toUInt32).toInt32) p1)), .val (.int (own_pk ((p0.toUInt32 >>> ((4 : Int32) &&& 31).toUInt32).toInt32) p2)), .val (.int (own_pk ((p0.toUInt32 >>> ((5 : Int32) &&& 31).toUInt32).toInt32) p3)), .val (.ref b87), .val (.int (p0 &&& (7 : Int32))), .val (.ref o98), .val .null, .val .null] [])) _
              refine XS.iload X101.here hx rfl (hb hby at_205) rfl ?_
              show Steps p.tables e below (T101.setTop (mkF m 207 #[.val (.int p0), .val (.int p1), .val (.int p2), .val (.int p3), .val (.int (p0 &&& (7 : Int32))), .val (.int (own_pk ((p0.toUInt32 >>> ((3 : Int32) &&& 31).toUInt32).toInt32) p1)), .val (.int (own_pk ((p0.toUInt32 >>> ((4 : Int32) &&& 31).toUInt32).toInt32) p2)), .val (.int (own_pk ((p0.toUInt32 >>> ((5 : Int32) &&& 31).toUInt32).toInt32) p3)), .val (.ref b87), .val (.int (p0 &&& (7 : Int32))), .val (.ref o98), .val .null, .val .null] [(.int (p0 &&& (7 : Int32)))])) _
              refine XS.iconst X101.here hx rfl (hb hby at_207) ?_
              show Steps p.tables e below (T101.setTop (mkF m 208 #[.val (.int p0), .val (.int p1), .val (.int p2), .val (.int p3), .val (.int (p0 &&& (7 : Int32))), .val (.int (own_pk ((p0.toUInt32 >>> ((3 : Int32) &&& 31).toUInt32).toInt32) p1)), .val (.int (own_pk ((p0.toUInt32 >>> ((4 : Int32) &&& 31).toUInt32).toInt32) p2)), .val (.int (own_pk ((p0.toUInt32 >>> ((5 : Int32) &&& 31).toUInt32).toInt32) p3)), .val (.ref b87), .val (.int (p0 &&& (7 : Int32))), .val (.ref o98), .val .null, .val .null] [(.int (2 : Int32)), (.int (p0 &&& (7 : Int32)))])) _
              refine XS.icmpYes X101.here hx rfl (pc0 := 208) (pc' := 233) rfl (hb hby at_208) rfl (feq hc208).2 (by decide) (by decide) ?_
              show Steps p.tables e below (T101.setTop (mkF m 233 #[.val (.int p0), .val (.int p1), .val (.int p2), .val (.int p3), .val (.int (p0 &&& (7 : Int32))), .val (.int (own_pk ((p0.toUInt32 >>> ((3 : Int32) &&& 31).toUInt32).toInt32) p1)), .val (.int (own_pk ((p0.toUInt32 >>> ((4 : Int32) &&& 31).toUInt32).toInt32) p2)), .val (.int (own_pk ((p0.toUInt32 >>> ((5 : Int32) &&& 31).toUInt32).toInt32) p3)), .val (.ref b87), .val (.int (p0 &&& (7 : Int32))), .val (.ref o98), .val .null, .val .null] [])) _
              refine XS.iload X101.here hx rfl (hb hby at_233) rfl ?_
              show Steps p.tables e below (T101.setTop (mkF m 235 #[.val (.int p0), .val (.int p1), .val (.int p2), .val (.int p3), .val (.int (p0 &&& (7 : Int32))), .val (.int (own_pk ((p0.toUInt32 >>> ((3 : Int32) &&& 31).toUInt32).toInt32) p1)), .val (.int (own_pk ((p0.toUInt32 >>> ((4 : Int32) &&& 31).toUInt32).toInt32) p2)), .val (.int (own_pk ((p0.toUInt32 >>> ((5 : Int32) &&& 31).toUInt32).toInt32) p3)), .val (.ref b87), .val (.int (p0 &&& (7 : Int32))), .val (.ref o98), .val .null, .val .null] [(.int (p0 &&& (7 : Int32)))])) _
              refine XS.iconst X101.here hx rfl (hb hby at_235) ?_
              show Steps p.tables e below (T101.setTop (mkF m 236 #[.val (.int p0), .val (.int p1), .val (.int p2), .val (.int p3), .val (.int (p0 &&& (7 : Int32))), .val (.int (own_pk ((p0.toUInt32 >>> ((3 : Int32) &&& 31).toUInt32).toInt32) p1)), .val (.int (own_pk ((p0.toUInt32 >>> ((4 : Int32) &&& 31).toUInt32).toInt32) p2)), .val (.int (own_pk ((p0.toUInt32 >>> ((5 : Int32) &&& 31).toUInt32).toInt32) p3)), .val (.ref b87), .val (.int (p0 &&& (7 : Int32))), .val (.ref o98), .val .null, .val .null] [(.int (2 : Int32)), (.int (p0 &&& (7 : Int32)))])) _
              refine XS.icmpYes X101.here hx rfl (pc0 := 236) (pc' := 258) rfl (hb hby at_236) rfl (feq hc236).2 (by decide) (by decide) ?_
              show Steps p.tables e below (T101.setTop (mkF m 258 #[.val (.int p0), .val (.int p1), .val (.int p2), .val (.int p3), .val (.int (p0 &&& (7 : Int32))), .val (.int (own_pk ((p0.toUInt32 >>> ((3 : Int32) &&& 31).toUInt32).toInt32) p1)), .val (.int (own_pk ((p0.toUInt32 >>> ((4 : Int32) &&& 31).toUInt32).toInt32) p2)), .val (.int (own_pk ((p0.toUInt32 >>> ((5 : Int32) &&& 31).toUInt32).toInt32) p3)), .val (.ref b87), .val (.int (p0 &&& (7 : Int32))), .val (.ref o98), .val .null, .val .null] [])) _
              refine XS.aload X101.here hx rfl (hb hby at_258) rfl rfl ?_
              show Steps p.tables e below (T101.setTop (mkF m 260 #[.val (.int p0), .val (.int p1), .val (.int p2), .val (.int p3), .val (.int (p0 &&& (7 : Int32))), .val (.int (own_pk ((p0.toUInt32 >>> ((3 : Int32) &&& 31).toUInt32).toInt32) p1)), .val (.int (own_pk ((p0.toUInt32 >>> ((4 : Int32) &&& 31).toUInt32).toInt32) p2)), .val (.int (own_pk ((p0.toUInt32 >>> ((5 : Int32) &&& 31).toUInt32).toInt32) p3)), .val (.ref b87), .val (.int (p0 &&& (7 : Int32))), .val (.ref o98), .val .null, .val .null] [.null])) _
              refine XS.aload X101.here hx rfl (hb hby at_260) rfl rfl ?_
              show Steps p.tables e below (T101.setTop (mkF m 262 #[.val (.int p0), .val (.int p1), .val (.int p2), .val (.int p3), .val (.int (p0 &&& (7 : Int32))), .val (.int (own_pk ((p0.toUInt32 >>> ((3 : Int32) &&& 31).toUInt32).toInt32) p1)), .val (.int (own_pk ((p0.toUInt32 >>> ((4 : Int32) &&& 31).toUInt32).toInt32) p2)), .val (.int (own_pk ((p0.toUInt32 >>> ((5 : Int32) &&& 31).toUInt32).toInt32) p3)), .val (.ref b87), .val (.int (p0 &&& (7 : Int32))), .val (.ref o98), .val .null, .val .null] [.null, .null])) _
              refine Jvm.RoadKit.acmp (g := (mkF m 262 #[.val (.int p0), .val (.int p1), .val (.int p2), .val (.int p3), .val (.int (p0 &&& (7 : Int32))), .val (.int (own_pk ((p0.toUInt32 >>> ((3 : Int32) &&& 31).toUInt32).toInt32) p1)), .val (.int (own_pk ((p0.toUInt32 >>> ((4 : Int32) &&& 31).toUInt32).toInt32) p2)), .val (.int (own_pk ((p0.toUInt32 >>> ((5 : Int32) &&& 31).toUInt32).toInt32) p3)), .val (.ref b87), .val (.int (p0 &&& (7 : Int32))), .val (.ref o98), .val .null, .val .null] [.null, .null])) X101 hx rfl rfl rfl (pc0 := 262) (pc' := 265) (same := true) rfl (hb hby at_262) rfl (decide_eq_true rfl) (by decide) (by decide) ?_
              show Steps p.tables e below (T101.setTop (mkF m 265 #[.val (.int p0), .val (.int p1), .val (.int p2), .val (.int p3), .val (.int (p0 &&& (7 : Int32))), .val (.int (own_pk ((p0.toUInt32 >>> ((3 : Int32) &&& 31).toUInt32).toInt32) p1)), .val (.int (own_pk ((p0.toUInt32 >>> ((4 : Int32) &&& 31).toUInt32).toInt32) p2)), .val (.int (own_pk ((p0.toUInt32 >>> ((5 : Int32) &&& 31).toUInt32).toInt32) p3)), .val (.ref b87), .val (.int (p0 &&& (7 : Int32))), .val (.ref o98), .val .null, .val .null] [])) _
              refine XS.iconst X101.here hx rfl (hb hby at_265) ?_
              show Steps p.tables e below (T101.setTop (mkF m 266 #[.val (.int p0), .val (.int p1), .val (.int p2), .val (.int p3), .val (.int (p0 &&& (7 : Int32))), .val (.int (own_pk ((p0.toUInt32 >>> ((3 : Int32) &&& 31).toUInt32).toInt32) p1)), .val (.int (own_pk ((p0.toUInt32 >>> ((4 : Int32) &&& 31).toUInt32).toInt32) p2)), .val (.int (own_pk ((p0.toUInt32 >>> ((5 : Int32) &&& 31).toUInt32).toInt32) p3)), .val (.ref b87), .val (.int (p0 &&& (7 : Int32))), .val (.ref o98), .val .null, .val .null] [(.int (1 : Int32))])) _
              refine XS.goto X101.here hx rfl (pc0 := 266) (pc' := 270) rfl (hb hby at_266) (by decide) (by decide) ?_
              exact k)
          obtain ⟨fs, hr, hrun, hended, w1, w2, w3, w4⟩ := X101.leaveW (s := s) (vm₁ := T8.vm) Sn8 (by rw [e101]; exact (Nat.le_trans (Nat.le_trans (Nat.le_trans (Nat.le_trans (Nat.le_trans (Nat.le_refl _) E87.1) E90.1) (Keep.of_wr W93).1) K95.1) K98.1)) (v := (some (.int (1 : Int32)))) (fun h => by rw [Bd.returns] at h; cases h)
          refine ⟨_, _, k103 _ ?_, hrun, hended, _, _, rfl, ?_, w1, w2, w3, w4.mono (by decide) (by decide)⟩
          · exact retN X101 hx (t := .boolean) Bd.returns (by simp) (hb hby at_270) hr
          · show Q0 Z p0 p1 p2 p3 wv cl w_ZH w_EN c_ZH t_ZH c_EN t_EN k_ZH k_EN w_EMPTY G1 G3 h0 n0 _ T101.heap _
            rw [e101]
            exact ⟨rfl, N101⟩
        · have k104 : ∀ t, Steps p.tables e below (T8.setTop (mkF m 111 #[.val (.int p0), .val (.int p1), .val (.int p2), .val (.int p3), .val (.int (p0 &&& (7 : Int32))), .val (.int (own_pk ((p0.toUInt32 >>> ((3 : Int32) &&& 31).toUInt32).toInt32) p1)), .val (.int (own_pk ((p0.toUInt32 >>> ((4 : Int32) &&& 31).toUInt32).toInt32) p2)), .val (.int (own_pk ((p0.toUInt32 >>> ((5 : Int32) &&& 31).toUInt32).toInt32) p3)), .unset, .val (.int (p0 &&& (7 : Int32))), .unset, .unset, .unset] [(.int (2 : Int32)), (.int (p0 &&& (7 : Int32)))])) t → Steps p.tables e below (s₁.setTop (entryFrame m #[(.int p0), (.int p1), (.int p2), (.int p3)] maxLocals)) t := fun t k => k85 t (by
              show Steps p.tables e below (T8.setTop (mkF m 85 #[.val (.int p0), .val (.int p1), .val (.int p2), .val (.int p3), .val (.int (p0 &&& (7 : Int32))), .val (.int (own_pk ((p0.toUInt32 >>> ((3 : Int32) &&& 31).toUInt32).toInt32) p1)), .val (.int (own_pk ((p0.toUInt32 >>> ((4 : Int32) &&& 31).toUInt32).toInt32) p2)), .val (.int (own_pk ((p0.toUInt32 >>> ((5 : Int32) &&& 31).toUInt32).toInt32) p3)), .unset, .val (.int (p0 &&& (7 : Int32))), .unset, .unset, .unset] [(.int (1 : Int32)), (.int (p0 &&& (7 : Int32)))])) _
              refine XS.icmpYes X8.here hx rfl (pc0 := 85) (pc' := 108) rfl (hb hby at_85) rfl (feq hc85).2 (by decide) (by decide) ?_
              show Steps p.tables e below (T8.setTop (mkF m 108 #[.val (.int p0), .val (.int p1), .val (.int p2), .val (.int p3), .val (.int (p0 &&& (7 : Int32))), .val (.int (own_pk ((p0.toUInt32 >>> ((3 : Int32) &&& 31).toUInt32).toInt32) p1)), .val (.int (own_pk ((p0.toUInt32 >>> ((4 : Int32) &&& 31).toUInt32).toInt32) p2)), .val (.int (own_pk ((p0.toUInt32 >>> ((5 : Int32) &&& 31).toUInt32).toInt32) p3)), .unset, .val (.int (p0 &&& (7 : Int32))), .unset, .unset, .unset] [])) _
              refine XS.iload X8.here hx rfl (hb hby at_108) rfl ?_
              show Steps p.tables e below (T8.setTop (mkF m 110 #[.val (.int p0), .val (.int p1), .val (.int p2), .val (.int p3), .val (.int (p0 &&& (7 : Int32))), .val (.int (own_pk ((p0.toUInt32 >>> ((3 : Int32) &&& 31).toUInt32).toInt32) p1)), .val (.int (own_pk ((p0.toUInt32 >>> ((4 : Int32) &&& 31).toUInt32).toInt32) p2)), .val (.int (own_pk ((p0.toUInt32 >>> ((5 : Int32) &&& 31).toUInt32).toInt32) p3)), .unset, .val (.int (p0 &&& (7 : Int32))), .unset, .unset, .unset] [(.int (p0 &&& (7 : Int32)))])) _
              refine XS.iconst X8.here hx rfl (hb hby at_110) ?_
              exact k)
          by_cases hc111 : (p0 &&& (7 : Int32)) = (2 : Int32)
          · have k105 : ∀ t, Steps p.tables e below (T8.setTop (mkF m 114 #[.val (.int p0), .val (.int p1), .val (.int p2), .val (.int p3), .val (.int (p0 &&& (7 : Int32))), .val (.int (own_pk ((p0.toUInt32 >>> ((3 : Int32) &&& 31).toUInt32).toInt32) p1)), .val (.int (own_pk ((p0.toUInt32 >>> ((4 : Int32) &&& 31).toUInt32).toInt32) p2)), .val (.int (own_pk ((p0.toUInt32 >>> ((5 : Int32) &&& 31).toUInt32).toInt32) p3)), .unset, .val (.int (p0 &&& (7 : Int32))), .unset, .unset, .unset] [])) t → Steps p.tables e below (s₁.setTop (entryFrame m #[(.int p0), (.int p1), (.int p2), (.int p3)] maxLocals)) t := fun t k => k104 t (by
                show Steps p.tables e below (T8.setTop (mkF m 111 #[.val (.int p0), .val (.int p1), .val (.int p2), .val (.int p3), .val (.int (p0 &&& (7 : Int32))), .val (.int (own_pk ((p0.toUInt32 >>> ((3 : Int32) &&& 31).toUInt32).toInt32) p1)), .val (.int (own_pk ((p0.toUInt32 >>> ((4 : Int32) &&& 31).toUInt32).toInt32) p2)), .val (.int (own_pk ((p0.toUInt32 >>> ((5 : Int32) &&& 31).toUInt32).toInt32) p3)), .unset, .val (.int (p0 &&& (7 : Int32))), .unset, .unset, .unset] [(.int (2 : Int32)), (.int (p0 &&& (7 : Int32)))])) _
                refine XS.icmpNo X8.here hx rfl (hb hby at_111) rfl (teq hc111).2 ?_
                exact k)
            obtain ⟨T106, h106, X106, e106, E106, A106, D106, -, st106⟩ := newO X8 hx hZ8 hown8 (hw _ (List.mem_of_getElem? (i := 4) rfl)) (hw _ (List.mem_of_getElem? (i := 5) rfl)) (hw _ (List.mem_of_getElem? (i := 6) rfl)) rfl (g := (mkF m 114 #[.val (.int p0), .val (.int p1), .val (.int p2), .val (.int p3), .val (.int (p0 &&& (7 : Int32))), .val (.int (own_pk ((p0.toUInt32 >>> ((3 : Int32) &&& 31).toUInt32).toInt32) p1)), .val (.int (own_pk ((p0.toUInt32 >>> ((4 : Int32) &&& 31).toUInt32).toInt32) p2)), .val (.int (own_pk ((p0.toUInt32 >>> ((5 : Int32) &&& 31).toUInt32).toInt32) p3)), .unset, .val (.int (p0 &&& (7 : Int32))), .unset, .unset, .unset] [])) rfl (hb hby at_114) (by decide) (by decide)
            obtain ⟨b106, g106⟩ : ∃ z, z = T8.heap.size := ⟨_, rfl⟩
            rw [← g106] at A106 D106 st106
            have sz_b106 : h0.size ≤ b106 := Nat.le_trans ((((Keep.refl h0 []).ext Ex2).ext Ex5).ext Ex8).1 (Nat.le_of_eq g106.symm)
            have F_value_b106 : Fld Z h106 b106 "java/lang/String" "value" "[B" .null := D106 (Or.inr (hw _ (List.mem_of_getElem? (i := 20) rfl))) (ty := (.array .byte)) (by decide)
            have F_coder_b106 : Fld Z h106 b106 "java/lang/String" "coder" "B" (.int (0 : Int32)) := D106 (Or.inr (hw _ (List.mem_of_getElem? (i := 21) rfl))) (ty := .byte) (by decide)
            have g_b106 : n0 ≤ b106 := Nat.le_trans Zs8 (Nat.le_of_eq g106.symm)
            have Zs106 : n0 ≤ h106.size := Nat.le_trans Zs8 E106.1
            have k107 : ∀ t, Steps p.tables e below (T106.setTop (mkF m 117 #[.val (.int p0), .val (.int p1), .val (.int p2), .val (.int p3), .val (.int (p0 &&& (7 : Int32))), .val (.int (own_pk ((p0.toUInt32 >>> ((3 : Int32) &&& 31).toUInt32).toInt32) p1)), .val (.int (own_pk ((p0.toUInt32 >>> ((4 : Int32) &&& 31).toUInt32).toInt32) p2)), .val (.int (own_pk ((p0.toUInt32 >>> ((5 : Int32) &&& 31).toUInt32).toInt32) p3)), .unset, .val (.int (p0 &&& (7 : Int32))), .unset, .unset, .unset] [(.ref b106)])) t → Steps p.tables e below (s₁.setTop (entryFrame m #[(.int p0), (.int p1), (.int p2), (.int p3)] maxLocals)) t := fun t k => k105 t (st106 _ k)
            have k108 : ∀ t, Steps p.tables e below (T106.setTop (mkF m 119 #[.val (.int p0), .val (.int p1), .val (.int p2), .val (.int p3), .val (.int (p0 &&& (7 : Int32))), .val (.int (own_pk ((p0.toUInt32 >>> ((3 : Int32) &&& 31).toUInt32).toInt32) p1)), .val (.int (own_pk ((p0.toUInt32 >>> ((4 : Int32) &&& 31).toUInt32).toInt32) p2)), .val (.int (own_pk ((p0.toUInt32 >>> ((5 : Int32) &&& 31).toUInt32).toInt32) p3)), .unset, .val (.int (p0 &&& (7 : Int32))), .unset, .unset, .unset] [(.int (2 : Int32)), (.ref b106), (.ref b106)])) t → Steps p.tables e below (s₁.setTop (entryFrame m #[(.int p0), (.int p1), (.int p2), (.int p3)] maxLocals)) t := fun t k => k107 t (by
                show Steps p.tables e below (T106.setTop (mkF m 117 #[.val (.int p0), .val (.int p1), .val (.int p2), .val (.int p3), .val (.int (p0 &&& (7 : Int32))), .val (.int (own_pk ((p0.toUInt32 >>> ((3 : Int32) &&& 31).toUInt32).toInt32) p1)), .val (.int (own_pk ((p0.toUInt32 >>> ((4 : Int32) &&& 31).toUInt32).toInt32) p2)), .val (.int (own_pk ((p0.toUInt32 >>> ((5 : Int32) &&& 31).toUInt32).toInt32) p3)), .unset, .val (.int (p0 &&& (7 : Int32))), .unset, .unset, .unset] [(.ref b106)])) _
                refine XS.dup X106.here hx rfl (hb hby at_117) rfl rfl ?_
                show Steps p.tables e below (T106.setTop (mkF m 118 #[.val (.int p0), .val (.int p1), .val (.int p2), .val (.int p3), .val (.int (p0 &&& (7 : Int32))), .val (.int (own_pk ((p0.toUInt32 >>> ((3 : Int32) &&& 31).toUInt32).toInt32) p1)), .val (.int (own_pk ((p0.toUInt32 >>> ((4 : Int32) &&& 31).toUInt32).toInt32) p2)), .val (.int (own_pk ((p0.toUInt32 >>> ((5 : Int32) &&& 31).toUInt32).toInt32) p3)), .unset, .val (.int (p0 &&& (7 : Int32))), .unset, .unset, .unset] [(.ref b106), (.ref b106)])) _
                refine XS.iconst X106.here hx rfl (hb hby at_118) ?_
                exact k)
            obtain ⟨T109, h109, ka109, X109, e109, E109, A109, st109⟩ := newP X106 hx hZ8 (hw _ (List.mem_of_getElem? (i := 7) rfl)) e106 (g := (mkF m 119 #[.val (.int p0), .val (.int p1), .val (.int p2), .val (.int p3), .val (.int (p0 &&& (7 : Int32))), .val (.int (own_pk ((p0.toUInt32 >>> ((3 : Int32) &&& 31).toUInt32).toInt32) p1)), .val (.int (own_pk ((p0.toUInt32 >>> ((4 : Int32) &&& 31).toUInt32).toInt32) p2)), .val (.int (own_pk ((p0.toUInt32 >>> ((5 : Int32) &&& 31).toUInt32).toInt32) p3)), .unset, .val (.int (p0 &&& (7 : Int32))), .unset, .unset, .unset] [(.int (2 : Int32)), (.ref b106), (.ref b106)])) rfl (hb hby at_119) rfl (by decide) (cap := 2) (by decide) (by decide) (by decide) (by decide)
            obtain ⟨b109, g109⟩ : ∃ z, z = h106.size := ⟨_, rfl⟩
            rw [← g109] at A109 st109
            have ne_b106_b109 : b106 ≠ b109 := Nat.ne_of_lt (Nat.lt_of_lt_of_le F_value_b106.lt (Nat.le_of_eq g109.symm))
            have V_b109 : Arv Z h109 b109 ka109 .char (2 : Int32) [(.int (0 : Int32)), (.int (0 : Int32))] (.int (0 : Int32)) := (Arv.new A109 (by decide)).pad (pad_rep [] (.int (0 : Int32)) 2)
            have g_b109 : n0 ≤ b109 := Nat.le_trans Zs106 (Nat.le_of_eq g109.symm)
            have sz_b109 : h0.size ≤ b109 := Nat.le_trans (((((Keep.refl h0 []).ext Ex2).ext Ex5).ext Ex8).ext E106).1 (Nat.le_of_eq g109.symm)
            have Zs109 : n0 ≤ h109.size := Nat.le_trans Zs106 E109.1
            have k110 : ∀ t, Steps p.tables e below (T109.setTop (mkF m 121 #[.val (.int p0), .val (.int p1), .val (.int p2), .val (.int p3), .val (.int (p0 &&& (7 : Int32))), .val (.int (own_pk ((p0.toUInt32 >>> ((3 : Int32) &&& 31).toUInt32).toInt32) p1)), .val (.int (own_pk ((p0.toUInt32 >>> ((4 : Int32) &&& 31).toUInt32).toInt32) p2)), .val (.int (own_pk ((p0.toUInt32 >>> ((5 : Int32) &&& 31).toUInt32).toInt32) p3)), .unset, .val (.int (p0 &&& (7 : Int32))), .unset, .unset, .unset] [(.ref b109), (.ref b106), (.ref b106)])) t → Steps p.tables e below (s₁.setTop (entryFrame m #[(.int p0), (.int p1), (.int p2), (.int p3)] maxLocals)) t := fun t k => k108 t (st109 _ k)
            have k111 : ∀ t, Steps p.tables e below (T109.setTop (mkF m 125 #[.val (.int p0), .val (.int p1), .val (.int p2), .val (.int p3), .val (.int (p0 &&& (7 : Int32))), .val (.int (own_pk ((p0.toUInt32 >>> ((3 : Int32) &&& 31).toUInt32).toInt32) p1)), .val (.int (own_pk ((p0.toUInt32 >>> ((4 : Int32) &&& 31).toUInt32).toInt32) p2)), .val (.int (own_pk ((p0.toUInt32 >>> ((5 : Int32) &&& 31).toUInt32).toInt32) p3)), .unset, .val (.int (p0 &&& (7 : Int32))), .unset, .unset, .unset] [(.int (own_pk ((p0.toUInt32 >>> ((3 : Int32) &&& 31).toUInt32).toInt32) p1)), (.int (0 : Int32)), (.ref b109), (.ref b109), (.ref b106), (.ref b106)])) t → Steps p.tables e below (s₁.setTop (entryFrame m #[(.int p0), (.int p1), (.int p2), (.int p3)] maxLocals)) t := fun t k => k110 t (by
                show Steps p.tables e below (T109.setTop (mkF m 121 #[.val (.int p0), .val (.int p1), .val (.int p2), .val (.int p3), .val (.int (p0 &&& (7 : Int32))), .val (.int (own_pk ((p0.toUInt32 >>> ((3 : Int32) &&& 31).toUInt32).toInt32) p1)), .val (.int (own_pk ((p0.toUInt32 >>> ((4 : Int32) &&& 31).toUInt32).toInt32) p2)), .val (.int (own_pk ((p0.toUInt32 >>> ((5 : Int32) &&& 31).toUInt32).toInt32) p3)), .unset, .val (.int (p0 &&& (7 : Int32))), .unset, .unset, .unset] [(.ref b109), (.ref b106), (.ref b106)])) _
                refine XS.dup X109.here hx rfl (hb hby at_121) rfl rfl ?_
                show Steps p.tables e below (T109.setTop (mkF m 122 #[.val (.int p0), .val (.int p1), .val (.int p2), .val (.int p3), .val (.int (p0 &&& (7 : Int32))), .val (.int (own_pk ((p0.toUInt32 >>> ((3 : Int32) &&& 31).toUInt32).toInt32) p1)), .val (.int (own_pk ((p0.toUInt32 >>> ((4 : Int32) &&& 31).toUInt32).toInt32) p2)), .val (.int (own_pk ((p0.toUInt32 >>> ((5 : Int32) &&& 31).toUInt32).toInt32) p3)), .unset, .val (.int (p0 &&& (7 : Int32))), .unset, .unset, .unset] [(.ref b109), (.ref b109), (.ref b106), (.ref b106)])) _
                refine XS.iconst X109.here hx rfl (hb hby at_122) ?_
                show Steps p.tables e below (T109.setTop (mkF m 123 #[.val (.int p0), .val (.int p1), .val (.int p2), .val (.int p3), .val (.int (p0 &&& (7 : Int32))), .val (.int (own_pk ((p0.toUInt32 >>> ((3 : Int32) &&& 31).toUInt32).toInt32) p1)), .val (.int (own_pk ((p0.toUInt32 >>> ((4 : Int32) &&& 31).toUInt32).toInt32) p2)), .val (.int (own_pk ((p0.toUInt32 >>> ((5 : Int32) &&& 31).toUInt32).toInt32) p3)), .unset, .val (.int (p0 &&& (7 : Int32))), .unset, .unset, .unset] [(.int (0 : Int32)), (.ref b109), (.ref b109), (.ref b106), (.ref b106)])) _
                refine XS.iload X109.here hx rfl (hb hby at_123) rfl ?_
                exact k)
            obtain ⟨cl_b109_125, Ar_b109_125, q_b109_125, S_b109_125, N_b109_125, H_b109_125, G_b109_125⟩ := V_b109
            have hin_b109_125 : ¬ ((0 : Int32) < 0 ∨ cl_b109_125.slots.size ≤ ((0 : Int32)).toNatClampNeg) := inb_of S_b109_125 ⟨by decide, by decide⟩
            obtain ⟨T112, h112, X112, e112, W112, st112⟩ := stC X109 hx hZ8 e109 Ar_b109_125 (j := (0 : Int32)) hin_b109_125 (g := (mkF m 125 #[.val (.int p0), .val (.int p1), .val (.int p2), .val (.int p3), .val (.int (p0 &&& (7 : Int32))), .val (.int (own_pk ((p0.toUInt32 >>> ((3 : Int32) &&& 31).toUInt32).toInt32) p1)), .val (.int (own_pk ((p0.toUInt32 >>> ((4 : Int32) &&& 31).toUInt32).toInt32) p2)), .val (.int (own_pk ((p0.toUInt32 >>> ((5 : Int32) &&& 31).toUInt32).toInt32) p3)), .unset, .val (.int (p0 &&& (7 : Int32))), .unset, .unset, .unset] [(.int (own_pk ((p0.toUInt32 >>> ((3 : Int32) &&& 31).toUInt32).toInt32) p1)), (.int (0 : Int32)), (.ref b109), (.ref b109), (.ref b106), (.ref b106)])) rfl rfl (hb hby at_125)
            have V_b109_125 : Arv Z h112 b109 ka109 .char (2 : Int32) [(.int (nar .char (own_pk ((p0.toUInt32 >>> ((3 : Int32) &&& 31).toUInt32).toInt32) p1))), (.int (0 : Int32))] (.int (0 : Int32)) := Arv.set Ar_b109_125 q_b109_125 S_b109_125 N_b109_125 H_b109_125 G_b109_125 (fits_nar_char _) W112 0 rfl (Nat.le_of_ble_eq_true rfl)
            have N112 := Fr.snoc X112 N8 g_b109
            have Zs112 : n0 ≤ h112.size := Nat.le_trans Zs109 (Keep.of_wr W112).1
            have k113 : ∀ t, Steps p.tables e below (T112.setTop (mkF m 126 #[.val (.int p0), .val (.int p1), .val (.int p2), .val (.int p3), .val (.int (p0 &&& (7 : Int32))), .val (.int (own_pk ((p0.toUInt32 >>> ((3 : Int32) &&& 31).toUInt32).toInt32) p1)), .val (.int (own_pk ((p0.toUInt32 >>> ((4 : Int32) &&& 31).toUInt32).toInt32) p2)), .val (.int (own_pk ((p0.toUInt32 >>> ((5 : Int32) &&& 31).toUInt32).toInt32) p3)), .unset, .val (.int (p0 &&& (7 : Int32))), .unset, .unset, .unset] [(.ref b109), (.ref b106), (.ref b106)])) t → Steps p.tables e below (s₁.setTop (entryFrame m #[(.int p0), (.int p1), (.int p2), (.int p3)] maxLocals)) t := fun t k => k111 t (st112 _ k)
            have k114 : ∀ t, Steps p.tables e below (T112.setTop (mkF m 130 #[.val (.int p0), .val (.int p1), .val (.int p2), .val (.int p3), .val (.int (p0 &&& (7 : Int32))), .val (.int (own_pk ((p0.toUInt32 >>> ((3 : Int32) &&& 31).toUInt32).toInt32) p1)), .val (.int (own_pk ((p0.toUInt32 >>> ((4 : Int32) &&& 31).toUInt32).toInt32) p2)), .val (.int (own_pk ((p0.toUInt32 >>> ((5 : Int32) &&& 31).toUInt32).toInt32) p3)), .unset, .val (.int (p0 &&& (7 : Int32))), .unset, .unset, .unset] [(.int (own_pk ((p0.toUInt32 >>> ((4 : Int32) &&& 31).toUInt32).toInt32) p2)), (.int (1 : Int32)), (.ref b109), (.ref b109), (.ref b106), (.ref b106)])) t → Steps p.tables e below (s₁.setTop (entryFrame m #[(.int p0), (.int p1), (.int p2), (.int p3)] maxLocals)) t := fun t k => k113 t (by
                show Steps p.tables e below (T112.setTop (mkF m 126 #[.val (.int p0), .val (.int p1), .val (.int p2), .val (.int p3), .val (.int (p0 &&& (7 : Int32))), .val (.int (own_pk ((p0.toUInt32 >>> ((3 : Int32) &&& 31).toUInt32).toInt32) p1)), .val (.int (own_pk ((p0.toUInt32 >>> ((4 : Int32) &&& 31).toUInt32).toInt32) p2)), .val (.int (own_pk ((p0.toUInt32 >>> ((5 : Int32) &&& 31).toUInt32).toInt32) p3)), .unset, .val (.int (p0 &&& (7 : Int32))), .unset, .unset, .unset] [(.ref b109), (.ref b106), (.ref b106)])) _
                refine XS.dup X112.here hx rfl (hb hby at_126) rfl rfl ?_
                show Steps p.tables e below (T112.setTop (mkF m 127 #[.val (.int p0), .val (.int p1), .val (.int p2), .val (.int p3), .val (.int (p0 &&& (7 : Int32))), .val (.int (own_pk ((p0.toUInt32 >>> ((3 : Int32) &&& 31).toUInt32).toInt32) p1)), .val (.int (own_pk ((p0.toUInt32 >>> ((4 : Int32) &&& 31).toUInt32).toInt32) p2)), .val (.int (own_pk ((p0.toUInt32 >>> ((5 : Int32) &&& 31).toUInt32).toInt32) p3)), .unset, .val (.int (p0 &&& (7 : Int32))), .unset, .unset, .unset] [(.ref b109), (.ref b109), (.ref b106), (.ref b106)])) _
                refine XS.iconst X112.here hx rfl (hb hby at_127) ?_
                show Steps p.tables e below (T112.setTop (mkF m 128 #[.val (.int p0), .val (.int p1), .val (.int p2), .val (.int p3), .val (.int (p0 &&& (7 : Int32))), .val (.int (own_pk ((p0.toUInt32 >>> ((3 : Int32) &&& 31).toUInt32).toInt32) p1)), .val (.int (own_pk ((p0.toUInt32 >>> ((4 : Int32) &&& 31).toUInt32).toInt32) p2)), .val (.int (own_pk ((p0.toUInt32 >>> ((5 : Int32) &&& 31).toUInt32).toInt32) p3)), .unset, .val (.int (p0 &&& (7 : Int32))), .unset, .unset, .unset] [(.int (1 : Int32)), (.ref b109), (.ref b109), (.ref b106), (.ref b106)])) _
                refine XS.iload X112.here hx rfl (hb hby at_128) rfl ?_
                exact k)
            obtain ⟨cl_b109_130, Ar_b109_130, q_b109_130, S_b109_130, N_b109_130, H_b109_130, G_b109_130⟩ := V_b109_125
            have hin_b109_130 : ¬ ((1 : Int32) < 0 ∨ cl_b109_130.slots.size ≤ ((1 : Int32)).toNatClampNeg) := inb_of S_b109_130 ⟨by decide, by decide⟩
            obtain ⟨T115, h115, X115, e115, W115, st115⟩ := stC X112 hx hZ8 e112 Ar_b109_130 (j := (1 : Int32)) hin_b109_130 (g := (mkF m 130 #[.val (.int p0), .val (.int p1), .val (.int p2), .val (.int p3), .val (.int (p0 &&& (7 : Int32))), .val (.int (own_pk ((p0.toUInt32 >>> ((3 : Int32) &&& 31).toUInt32).toInt32) p1)), .val (.int (own_pk ((p0.toUInt32 >>> ((4 : Int32) &&& 31).toUInt32).toInt32) p2)), .val (.int (own_pk ((p0.toUInt32 >>> ((5 : Int32) &&& 31).toUInt32).toInt32) p3)), .unset, .val (.int (p0 &&& (7 : Int32))), .unset, .unset, .unset] [(.int (own_pk ((p0.toUInt32 >>> ((4 : Int32) &&& 31).toUInt32).toInt32) p2)), (.int (1 : Int32)), (.ref b109), (.ref b109), (.ref b106), (.ref b106)])) rfl rfl (hb hby at_130)
            have V_b109_130 : Arv Z h115 b109 ka109 .char (2 : Int32) [(.int (nar .char (own_pk ((p0.toUInt32 >>> ((3 : Int32) &&& 31).toUInt32).toInt32) p1))), (.int (nar .char (own_pk ((p0.toUInt32 >>> ((4 : Int32) &&& 31).toUInt32).toInt32) p2)))] (.int (0 : Int32)) := Arv.set Ar_b109_130 q_b109_130 S_b109_130 N_b109_130 H_b109_130 G_b109_130 (fits_nar_char _) W115 1 rfl (Nat.le_of_ble_eq_true rfl)
            have N115 := Fr.snoc X115 N112 g_b109
            have Zs115 : n0 ≤ h115.size := Nat.le_trans Zs112 (Keep.of_wr W115).1
            have k116 : ∀ t, Steps p.tables e below (T115.setTop (mkF m 131 #[.val (.int p0), .val (.int p1), .val (.int p2), .val (.int p3), .val (.int (p0 &&& (7 : Int32))), .val (.int (own_pk ((p0.toUInt32 >>> ((3 : Int32) &&& 31).toUInt32).toInt32) p1)), .val (.int (own_pk ((p0.toUInt32 >>> ((4 : Int32) &&& 31).toUInt32).toInt32) p2)), .val (.int (own_pk ((p0.toUInt32 >>> ((5 : Int32) &&& 31).toUInt32).toInt32) p3)), .unset, .val (.int (p0 &&& (7 : Int32))), .unset, .unset, .unset] [(.ref b109), (.ref b106), (.ref b106)])) t → Steps p.tables e below (s₁.setTop (entryFrame m #[(.int p0), (.int p1), (.int p2), (.int p3)] maxLocals)) t := fun t k => k114 t (st115 _ k)
            have hp117 : ∀ c ∈ ([(nar .char (own_pk ((p0.toUInt32 >>> ((3 : Int32) &&& 31).toUInt32).toInt32) p1)), (nar .char (own_pk ((p0.toUInt32 >>> ((4 : Int32) &&& 31).toUInt32).toInt32) p2))] : List Int32), ¬ c < 0 ∧ ¬ (255 : Int32) < c := by
              intro c hc
              simp only [List.mem_cons, List.not_mem_nil, or_false] at hc
              rcases hc with rfl | rfl
              · exact own_pk_ok _ _
              · exact own_pk_ok _ _
            obtain ⟨_, _, ⟨T117, L117, kq117, n117⟩, -, X117, ⟨Lc117, hQ117, l117, y117, z117⟩, st117⟩ := X115.specialBack hx (y := (⟨"java/lang/String", "<init>", "([C)V"⟩ : MethodName)) rfl hown8 (mvT hZ8 (hw _ (List.mem_of_getElem? (i := 8) rfl))) (mvT hZ8 (hw _ (List.mem_of_getElem? (i := 9) rfl))) (mvT hZ8 (hw _ (List.mem_of_getElem? (i := 10) rfl))) (by decide) (StrChars.Road.backV (W := 1) hZ8 hws (kI := 4) (hw _ (List.mem_of_getElem? (i := 5) rfl)) (cs := ([(nar .char (own_pk ((p0.toUInt32 >>> ((3 : Int32) &&& 31).toUInt32).toInt32) p1)), (nar .char (own_pk ((p0.toUInt32 >>> ((4 : Int32) &&& 31).toUInt32).toInt32) p2))] : List Int32)) (bs := (([(nar .char (own_pk ((p0.toUInt32 >>> ((3 : Int32) &&& 31).toUInt32).toInt32) p1)), (nar .char (own_pk ((p0.toUInt32 >>> ((4 : Int32) &&& 31).toUInt32).toInt32) p2))] : List Int32)).map (fun c => c.toInt8.toInt32)) (n := 2) g_b106 Zs115 (((A106.ext E109).wr W112).wr W115) (((F_value_b106.ext E109).other W112 (Or.inl ne_b106_b109)).other W115 (Or.inl ne_b106_b109)) (((F_coder_b106.ext E109).other W112 (Or.inl ne_b106_b109)).other W115 (Or.inl ne_b106_b109)) V_b109_130 (O2.ext (((((((X00.ext Ex2).ext Ex5).ext Ex8).ext E106).ext E109).wr W112 g_b109).wr W115 g_b109).2) P5 rfl rfl (by decide) (by decide) hp117 rfl (by decide) (by decide)) (g := (mkF m 131 #[.val (.int p0), .val (.int p1), .val (.int p2), .val (.int p3), .val (.int (p0 &&& (7 : Int32))), .val (.int (own_pk ((p0.toUInt32 >>> ((3 : Int32) &&& 31).toUInt32).toInt32) p1)), .val (.int (own_pk ((p0.toUInt32 >>> ((4 : Int32) &&& 31).toUInt32).toInt32) p2)), .val (.int (own_pk ((p0.toUInt32 >>> ((5 : Int32) &&& 31).toUInt32).toInt32) p3)), .unset, .val (.int (p0 &&& (7 : Int32))), .unset, .unset, .unset] [(.ref b109), (.ref b106), (.ref b106)])) rfl (by rw [hml]; rfl) (Steps.refl _) (a := b106) (argsL := [(.ref b109)]) (rest := [(.ref b106)]) (lenOf pd_11 rfl) rfl (by show 2 * 0 + _ ≤ _; exact Nat.le_of_eq rfl) (hb hby at_131) (fun _ _ => ⟨rfl, e115, (by decide : 8 + 1 ≤ _), (by decide : 66 + 2 ≤ _)⟩)
            dsimp only [Pt.U, Pt.locs, Pt.cells, Pt.slots] at X117 l117 y117 z117 st117 hQ117
            subst l117 y117 z117
            obtain ⟨rfl, N117q, K117, Ex117, Cx117, t117, kb117, gt117, zt117, nt117, Vx117, Ax117⟩ := hQ117
            have N117 := Fr.app N115 N117q
            have Zs117 : n0 ≤ T117.heap.size := Nat.le_trans Zs115 K117.1
            have k118 : ∀ t, Steps p.tables e below (T117.setTop (mkF m 134 #[.val (.int p0), .val (.int p1), .val (.int p2), .val (.int p3), .val (.int (p0 &&& (7 : Int32))), .val (.int (own_pk ((p0.toUInt32 >>> ((3 : Int32) &&& 31).toUInt32).toInt32) p1)), .val (.int (own_pk ((p0.toUInt32 >>> ((4 : Int32) &&& 31).toUInt32).toInt32) p2)), .val (.int (own_pk ((p0.toUInt32 >>> ((5 : Int32) &&& 31).toUInt32).toInt32) p3)), .unset, .val (.int (p0 &&& (7 : Int32))), .unset, .unset, .unset] [(.ref b106)])) t → Steps p.tables e below (s₁.setTop (entryFrame m #[(.int p0), (.int p1), (.int p2), (.int p3)] maxLocals)) t := fun t k => k116 t (st117.trans k)
            have k119 : ∀ t, Steps p.tables e below (T117.setTop (mkF m 168 #[.val (.int p0), .val (.int p1), .val (.int p2), .val (.int p3), .val (.int (p0 &&& (7 : Int32))), .val (.int (own_pk ((p0.toUInt32 >>> ((3 : Int32) &&& 31).toUInt32).toInt32) p1)), .val (.int (own_pk ((p0.toUInt32 >>> ((4 : Int32) &&& 31).toUInt32).toInt32) p2)), .val (.int (own_pk ((p0.toUInt32 >>> ((5 : Int32) &&& 31).toUInt32).toInt32) p3)), .val (.ref b106), .val (.int (p0 &&& (7 : Int32))), .unset, .unset, .unset] [(.ref b106)])) t → Steps p.tables e below (s₁.setTop (entryFrame m #[(.int p0), (.int p1), (.int p2), (.int p3)] maxLocals)) t := fun t k => k118 t (by
                show Steps p.tables e below (T117.setTop (mkF m 134 #[.val (.int p0), .val (.int p1), .val (.int p2), .val (.int p3), .val (.int (p0 &&& (7 : Int32))), .val (.int (own_pk ((p0.toUInt32 >>> ((3 : Int32) &&& 31).toUInt32).toInt32) p1)), .val (.int (own_pk ((p0.toUInt32 >>> ((4 : Int32) &&& 31).toUInt32).toInt32) p2)), .val (.int (own_pk ((p0.toUInt32 >>> ((5 : Int32) &&& 31).toUInt32).toInt32) p3)), .unset, .val (.int (p0 &&& (7 : Int32))), .unset, .unset, .unset] [(.ref b106)])) _
                refine XS.astore X117.here hx rfl (hb hby at_134) rfl rfl (l' := #[.val (.int p0), .val (.int p1), .val (.int p2), .val (.int p3), .val (.int (p0 &&& (7 : Int32))), .val (.int (own_pk ((p0.toUInt32 >>> ((3 : Int32) &&& 31).toUInt32).toInt32) p1)), .val (.int (own_pk ((p0.toUInt32 >>> ((4 : Int32) &&& 31).toUInt32).toInt32) p2)), .val (.int (own_pk ((p0.toUInt32 >>> ((5 : Int32) &&& 31).toUInt32).toInt32) p3)), .val (.ref b106), .val (.int (p0 &&& (7 : Int32))), .unset, .unset, .unset]) rfl ?_
                show Steps p.tables e below (T117.setTop (mkF m 136 #[.val (.int p0), .val (.int p1), .val (.int p2), .val (.int p3), .val (.int (p0 &&& (7 : Int32))), .val (.int (own_pk ((p0.toUInt32 >>> ((3 : Int32) &&& 31).toUInt32).toInt32) p1)), .val (.int (own_pk ((p0.toUInt32 >>> ((4 : Int32) &&& 31).toUInt32).toInt32) p2)), .val (.int (own_pk ((p0.toUInt32 >>> ((5 : Int32) &&& 31).toUInt32).toInt32) p3)), .val (.ref b106), .val (.int (p0 &&& (7 : Int32))), .unset, .unset, .unset] [])) _
                refine XS.goto X117.here hx rfl (pc0 := 136) (pc' := 166) rfl (hb hby at_136) (by decide) (by decide) ?_
                show Steps p.tables e below (T117.setTop (mkF m 166 #[.val (.int p0), .val (.int p1), .val (.int p2), .val (.int p3), .val (.int (p0 &&& (7 : Int32))), .val (.int (own_pk ((p0.toUInt32 >>> ((3 : Int32) &&& 31).toUInt32).toInt32) p1)), .val (.int (own_pk ((p0.toUInt32 >>> ((4 : Int32) &&& 31).toUInt32).toInt32) p2)), .val (.int (own_pk ((p0.toUInt32 >>> ((5 : Int32) &&& 31).toUInt32).toInt32) p3)), .val (.ref b106), .val (.int (p0 &&& (7 : Int32))), .unset, .unset, .unset] [])) _
                refine XS.aload X117.here hx rfl (hb hby at_166) rfl rfl ?_
                exact k)
            obtain ⟨_, _, ⟨T120, L120, kq120, n120⟩, -, X120, ⟨Lc120, hQ120, l120, y120, z120⟩, st120⟩ := Jvm.LawKit.callS X117 hx (y := (⟨"com/example/mediawarden/mediawarden/engine/Lang", "of", "(Ljava/lang/String;)Ljava/util/Optional;"⟩ : MethodName)) hown8 (mvT hZ8 (hw _ (List.mem_of_getElem? (i := 26) rfl))) (mvT hZ8 (hw _ (List.mem_of_getElem? (i := 27) rfl))) (mvT hZ8 (hw _ (List.mem_of_getElem? (i := 28) rfl))) (mvT hZ8 (hw _ (List.mem_of_getElem? (i := 29) rfl))) (by decide) (backOf (W := 0) (rm5s l Z a0 hw [] b106 wv cl w_ZH w_EN c_ZH t_ZH c_EN t_EN k_ZH k_EN w_EMPTY G1 t117 kb117 ([(nar .char (own_pk ((p0.toUInt32 >>> ((3 : Int32) &&& 31).toUInt32).toInt32) p1)), (nar .char (own_pk ((p0.toUInt32 >>> ((4 : Int32) &&& 31).toUInt32).toInt32) p2))] : List Int32) (2 : Int32) T117.heap n0 Zs117 (S_V.ext ((((((((X00.ext Ex2).ext Ex5).ext Ex8).ext E106).ext E109).wr W112 g_b109).wr W115 g_b109).keep K117 (allS g_b106 all0)).2) (Arv_.ext ((((((((X00.ext Ex2).ext Ex5).ext Ex8).ext E106).ext E109).wr W112 g_b109).wr W115 g_b109).keep K117 (allS g_b106 all0)).2) (E_V.ext ((((((((X00.ext Ex2).ext Ex5).ext Ex8).ext E106).ext E109).wr W112 g_b109).wr W115 g_b109).keep K117 (allS g_b106 all0)).2) hsz hat0 hat1 (F_code_w_ZH.ext ((((((((X00.ext Ex2).ext Ex5).ext Ex8).ext E106).ext E109).wr W112 g_b109).wr W115 g_b109).keep K117 (allS g_b106 all0)).2) (E_c_ZH.ext ((((((((X00.ext Ex2).ext Ex5).ext Ex8).ext E106).ext E109).wr W112 g_b109).wr W115 g_b109).keep K117 (allS g_b106 all0)).2) (F_value_c_ZH.ext ((((((((X00.ext Ex2).ext Ex5).ext Ex8).ext E106).ext E109).wr W112 g_b109).wr W115 g_b109).keep K117 (allS g_b106 all0)).2) (F_coder_c_ZH.ext ((((((((X00.ext Ex2).ext Ex5).ext Ex8).ext E106).ext E109).wr W112 g_b109).wr W115 g_b109).keep K117 (allS g_b106 all0)).2) (V_t_ZH.ext ((((((((X00.ext Ex2).ext Ex5).ext Ex8).ext E106).ext E109).wr W112 g_b109).wr W115 g_b109).keep K117 (allS g_b106 all0)).2) (F_code_w_EN.ext ((((((((X00.ext Ex2).ext Ex5).ext Ex8).ext E106).ext E109).wr W112 g_b109).wr W115 g_b109).keep K117 (allS g_b106 all0)).2) (E_c_EN.ext ((((((((X00.ext Ex2).ext Ex5).ext Ex8).ext E106).ext E109).wr W112 g_b109).wr W115 g_b109).keep K117 (allS g_b106 all0)).2) (F_value_c_EN.ext ((((((((X00.ext Ex2).ext Ex5).ext Ex8).ext E106).ext E109).wr W112 g_b109).wr W115 g_b109).keep K117 (allS g_b106 all0)).2) (F_coder_c_EN.ext ((((((((X00.ext Ex2).ext Ex5).ext Ex8).ext E106).ext E109).wr W112 g_b109).wr W115 g_b109).keep K117 (allS g_b106 all0)).2) (V_t_EN.ext ((((((((X00.ext Ex2).ext Ex5).ext Ex8).ext E106).ext E109).wr W112 g_b109).wr W115 g_b109).keep K117 (allS g_b106 all0)).2) Ex117 Vx117 Cx117 Ax117 S_EMPTY E_w_EMPTY F_value_w_EMPTY O2 P5 ((((((((X00.ext Ex2).ext Ex5).ext Ex8).ext E106).ext E109).wr W112 g_b109).wr W115 g_b109).keep K117 (allS g_b106 all0)) (StrChars.Road.codOf (n := 2) rfl (fun c hc => (hp117 c hc).2)) (own_up _ hp117) (Nat.le_of_ble_eq_true rfl)) hZ8 (hw _ (List.mem_of_getElem? (i := 29) rfl)) (hw _ (List.mem_of_getElem? (i := 28) rfl)) (by decide) (by decide)) (g := (mkF m 168 #[.val (.int p0), .val (.int p1), .val (.int p2), .val (.int p3), .val (.int (p0 &&& (7 : Int32))), .val (.int (own_pk ((p0.toUInt32 >>> ((3 : Int32) &&& 31).toUInt32).toInt32) p1)), .val (.int (own_pk ((p0.toUInt32 >>> ((4 : Int32) &&& 31).toUInt32).toInt32) p2)), .val (.int (own_pk ((p0.toUInt32 >>> ((5 : Int32) &&& 31).toUInt32).toInt32) p3)), .val (.ref b106), .val (.int (p0 &&& (7 : Int32))), .unset, .unset, .unset] [(.ref b106)])) rfl (by rw [hml]; rfl) (argsL := [(.ref b106)]) (rest := []) (lenOf pd_9 rfl) rfl (by show 2 * 0 + _ ≤ _; exact Nat.le_of_eq rfl) (hb hby at_168) (fun _ _ => ⟨rfl, rfl, (by decide : 9 + 2 ≤ _), (by decide : 68 + 3 ≤ _)⟩)
            dsimp only [Pt.U, Pt.locs, Pt.cells, Pt.slots] at X120 l120 y120 z120 st120 hQ120
            subst l120 y120 z120
            obtain ⟨o120, val, rfl, N120q, K120, Ex120, Fx120, hcs⟩ := hQ120
            have N120 := Fr.app N117 N120q
            have od121 := (((((((((X00.ext Ex2).ext Ex5).ext Ex8).ext E106).ext E109).wr W112 g_b109).wr W115 g_b109).keep K117 (allS g_b106 all0)).keep K120 all0)
            have Zs120 : n0 ≤ T120.heap.size := Nat.le_trans Zs117 K120.1
            have k122 : ∀ t, Steps p.tables e below (T120.setTop (mkF m 171 #[.val (.int p0), .val (.int p1), .val (.int p2), .val (.int p3), .val (.int (p0 &&& (7 : Int32))), .val (.int (own_pk ((p0.toUInt32 >>> ((3 : Int32) &&& 31).toUInt32).toInt32) p1)), .val (.int (own_pk ((p0.toUInt32 >>> ((4 : Int32) &&& 31).toUInt32).toInt32) p2)), .val (.int (own_pk ((p0.toUInt32 >>> ((5 : Int32) &&& 31).toUInt32).toInt32) p3)), .val (.ref b106), .val (.int (p0 &&& (7 : Int32))), .unset, .unset, .unset] [(.ref o120)])) t → Steps p.tables e below (s₁.setTop (entryFrame m #[(.int p0), (.int p1), (.int p2), (.int p3)] maxLocals)) t := fun t k => k119 t (st120 _ k)
            rcases hcs with ⟨hz, rfl⟩ | ⟨-, hz, rfl⟩ | ⟨hz, hz2, rfl⟩
            · have hx0 : (own_pk ((p0.toUInt32 >>> ((3 : Int32) &&& 31).toUInt32).toInt32) p1) = (122 : Int32) := by have q := (List.cons.inj hz).1; rw [own_pk_n] at q; exact q.symm
              have hx1 : (own_pk ((p0.toUInt32 >>> ((4 : Int32) &&& 31).toUInt32).toInt32) p2) = (104 : Int32) := by have q := (List.cons.inj (List.cons.inj hz).2).1; rw [own_pk_n] at q; exact q.symm
              have k123 : ∀ t, Steps p.tables e below (T120.setTop (mkF m 182 #[.val (.int p0), .val (.int p1), .val (.int p2), .val (.int p3), .val (.int (p0 &&& (7 : Int32))), .val (.int (own_pk ((p0.toUInt32 >>> ((3 : Int32) &&& 31).toUInt32).toInt32) p1)), .val (.int (own_pk ((p0.toUInt32 >>> ((4 : Int32) &&& 31).toUInt32).toInt32) p2)), .val (.int (own_pk ((p0.toUInt32 >>> ((5 : Int32) &&& 31).toUInt32).toInt32) p3)), .val (.ref b106), .val (.int (p0 &&& (7 : Int32))), .val (.ref o120), .unset, .unset] [(.ref o120)])) t → Steps p.tables e below (s₁.setTop (entryFrame m #[(.int p0), (.int p1), (.int p2), (.int p3)] maxLocals)) t := fun t k => k122 t (by
                  show Steps p.tables e below (T120.setTop (mkF m 171 #[.val (.int p0), .val (.int p1), .val (.int p2), .val (.int p3), .val (.int (p0 &&& (7 : Int32))), .val (.int (own_pk ((p0.toUInt32 >>> ((3 : Int32) &&& 31).toUInt32).toInt32) p1)), .val (.int (own_pk ((p0.toUInt32 >>> ((4 : Int32) &&& 31).toUInt32).toInt32) p2)), .val (.int (own_pk ((p0.toUInt32 >>> ((5 : Int32) &&& 31).toUInt32).toInt32) p3)), .val (.ref b106), .val (.int (p0 &&& (7 : Int32))), .unset, .unset, .unset] [(.ref o120)])) _
                  refine XS.astore X120.here hx rfl (hb hby at_171) rfl rfl (l' := #[.val (.int p0), .val (.int p1), .val (.int p2), .val (.int p3), .val (.int (p0 &&& (7 : Int32))), .val (.int (own_pk ((p0.toUInt32 >>> ((3 : Int32) &&& 31).toUInt32).toInt32) p1)), .val (.int (own_pk ((p0.toUInt32 >>> ((4 : Int32) &&& 31).toUInt32).toInt32) p2)), .val (.int (own_pk ((p0.toUInt32 >>> ((5 : Int32) &&& 31).toUInt32).toInt32) p3)), .val (.ref b106), .val (.int (p0 &&& (7 : Int32))), .val (.ref o120), .unset, .unset]) rfl ?_
                  show Steps p.tables e below (T120.setTop (mkF m 173 #[.val (.int p0), .val (.int p1), .val (.int p2), .val (.int p3), .val (.int (p0 &&& (7 : Int32))), .val (.int (own_pk ((p0.toUInt32 >>> ((3 : Int32) &&& 31).toUInt32).toInt32) p1)), .val (.int (own_pk ((p0.toUInt32 >>> ((4 : Int32) &&& 31).toUInt32).toInt32) p2)), .val (.int (own_pk ((p0.toUInt32 >>> ((5 : Int32) &&& 31).toUInt32).toInt32) p3)), .val (.ref b106), .val (.int (p0 &&& (7 : Int32))), .val (.ref o120), .unset, .unset] [])) _
                  refine XS.aload X120.here hx rfl (hb hby at_173) rfl rfl ?_
                  show Steps p.tables e below (T120.setTop (mkF m 175 #[.val (.int p0), .val (.int p1), .val (.int p2), .val (.int p3), .val (.int (p0 &&& (7 : Int32))), .val (.int (own_pk ((p0.toUInt32 >>> ((3 : Int32) &&& 31).toUInt32).toInt32) p1)), .val (.int (own_pk ((p0.toUInt32 >>> ((4 : Int32) &&& 31).toUInt32).toInt32) p2)), .val (.int (own_pk ((p0.toUInt32 >>> ((5 : Int32) &&& 31).toUInt32).toInt32) p3)), .val (.ref b106), .val (.int (p0 &&& (7 : Int32))), .val (.ref o120), .unset, .unset] [(.ref o120)])) _
                  refine XS.ifnonnullYes X120.here hx rfl (pc0 := 175) (pc' := 180) rfl (hb hby at_175) rfl (by decide) (by decide) ?_
                  show Steps p.tables e below (T120.setTop (mkF m 180 #[.val (.int p0), .val (.int p1), .val (.int p2), .val (.int p3), .val (.int (p0 &&& (7 : Int32))), .val (.int (own_pk ((p0.toUInt32 >>> ((3 : Int32) &&& 31).toUInt32).toInt32) p1)), .val (.int (own_pk ((p0.toUInt32 >>> ((4 : Int32) &&& 31).toUInt32).toInt32) p2)), .val (.int (own_pk ((p0.toUInt32 >>> ((5 : Int32) &&& 31).toUInt32).toInt32) p3)), .val (.ref b106), .val (.int (p0 &&& (7 : Int32))), .val (.ref o120), .unset, .unset] [])) _
                  refine XS.aload X120.here hx rfl (hb hby at_180) rfl rfl ?_
                  exact k)
              obtain ⟨cq124, kcq124, q124a, q124b, q124c⟩ := isOf hZ8 rfl Ex120
              obtain ⟨_, _, ⟨T124, L124, kq124, n124⟩, -, X124, ⟨Lc124, hQ124, l124, y124, z124⟩, st124⟩ := X120.virtualBack hx (y := (⟨"java/util/Optional", "isPresent", "()Z"⟩ : MethodName)) (z := (⟨"java/util/Optional", "isPresent", "()Z"⟩ : MethodName)) hown8 (mvT hZ8 (hw _ (List.mem_of_getElem? (i := 65) rfl))) (mvT hZ8 (hw _ (List.mem_of_getElem? (i := 66) rfl))) (notFace_of_selects (args := #[]) (mvT hZ8 (hw _ (List.mem_of_getElem? (i := 68) rfl)))) (mvT hZ8 (hw _ (List.mem_of_getElem? (i := 68) rfl))) (mvT hZ8 (hw _ (List.mem_of_getElem? (i := 67) rfl))) (by decide) (backOf (W := 0) (rm10r l Z a0 hw [] o120 w_ZH T120.heap n0 Zs120 Fx120) hZ8 (hw _ (List.mem_of_getElem? (i := 69) rfl)) (hw _ (List.mem_of_getElem? (i := 62) rfl)) (by decide) (by decide)) q124a q124c (g := (mkF m 182 #[.val (.int p0), .val (.int p1), .val (.int p2), .val (.int p3), .val (.int (p0 &&& (7 : Int32))), .val (.int (own_pk ((p0.toUInt32 >>> ((3 : Int32) &&& 31).toUInt32).toInt32) p1)), .val (.int (own_pk ((p0.toUInt32 >>> ((4 : Int32) &&& 31).toUInt32).toInt32) p2)), .val (.int (own_pk ((p0.toUInt32 >>> ((5 : Int32) &&& 31).toUInt32).toInt32) p3)), .val (.ref b106), .val (.int (p0 &&& (7 : Int32))), .val (.ref o120), .unset, .unset] [(.ref o120)])) rfl (by rw [hml]; rfl) (Steps.refl _) (argsL := []) (rest := []) (lenOf pd_10 rfl) rfl (by show 2 * 0 + _ ≤ _; exact Nat.le_of_eq rfl) (hb hby at_182) (fun _ _ => ⟨rfl, rfl, (by decide : 11 + 0 ≤ _), (by decide : 71 + 0 ≤ _)⟩)
              dsimp only [Pt.U, Pt.locs, Pt.cells, Pt.slots] at X124 l124 y124 z124 st124 hQ124
              subst l124 y124 z124
              obtain ⟨rfl, N124q, e124⟩ := hQ124
              have N124 := Fr.app N120 N124q
              have k125 : ∀ t, Steps p.tables e below (T124.setTop (mkF m 185 #[.val (.int p0), .val (.int p1), .val (.int p2), .val (.int p3), .val (.int (p0 &&& (7 : Int32))), .val (.int (own_pk ((p0.toUInt32 >>> ((3 : Int32) &&& 31).toUInt32).toInt32) p1)), .val (.int (own_pk ((p0.toUInt32 >>> ((4 : Int32) &&& 31).toUInt32).toInt32) p2)), .val (.int (own_pk ((p0.toUInt32 >>> ((5 : Int32) &&& 31).toUInt32).toInt32) p3)), .val (.ref b106), .val (.int (p0 &&& (7 : Int32))), .val (.ref o120), .unset, .unset] [(.int (1 : Int32))])) t → Steps p.tables e below (s₁.setTop (entryFrame m #[(.int p0), (.int p1), (.int p2), (.int p3)] maxLocals)) t := fun t k => k123 t (st124.trans k)
              have hc185 : ¬ ((1 : Int32) = (0 : Int32)) := by decide
              have k126 : ∀ t, Steps p.tables e below (T124.setTop (mkF m 190 #[.val (.int p0), .val (.int p1), .val (.int p2), .val (.int p3), .val (.int (p0 &&& (7 : Int32))), .val (.int (own_pk ((p0.toUInt32 >>> ((3 : Int32) &&& 31).toUInt32).toInt32) p1)), .val (.int (own_pk ((p0.toUInt32 >>> ((4 : Int32) &&& 31).toUInt32).toInt32) p2)), .val (.int (own_pk ((p0.toUInt32 >>> ((5 : Int32) &&& 31).toUInt32).toInt32) p3)), .val (.ref b106), .val (.int (p0 &&& (7 : Int32))), .val (.ref o120), .unset, .unset] [(.ref o120)])) t → Steps p.tables e below (s₁.setTop (entryFrame m #[(.int p0), (.int p1), (.int p2), (.int p3)] maxLocals)) t := fun t k => k125 t (by
                  show Steps p.tables e below (T124.setTop (mkF m 185 #[.val (.int p0), .val (.int p1), .val (.int p2), .val (.int p3), .val (.int (p0 &&& (7 : Int32))), .val (.int (own_pk ((p0.toUInt32 >>> ((3 : Int32) &&& 31).toUInt32).toInt32) p1)), .val (.int (own_pk ((p0.toUInt32 >>> ((4 : Int32) &&& 31).toUInt32).toInt32) p2)), .val (.int (own_pk ((p0.toUInt32 >>> ((5 : Int32) &&& 31).toUInt32).toInt32) p3)), .val (.ref b106), .val (.int (p0 &&& (7 : Int32))), .val (.ref o120), .unset, .unset] [(.int (1 : Int32))])) _
                  refine XS.ifNo X124.here hx rfl (hb hby at_185) rfl ((if0 _ _).trans (feq hc185).1) ?_
                  show Steps p.tables e below (T124.setTop (mkF m 188 #[.val (.int p0), .val (.int p1), .val (.int p2), .val (.int p3), .val (.int (p0 &&& (7 : Int32))), .val (.int (own_pk ((p0.toUInt32 >>> ((3 : Int32) &&& 31).toUInt32).toInt32) p1)), .val (.int (own_pk ((p0.toUInt32 >>> ((4 : Int32) &&& 31).toUInt32).toInt32) p2)), .val (.int (own_pk ((p0.toUInt32 >>> ((5 : Int32) &&& 31).toUInt32).toInt32) p3)), .val (.ref b106), .val (.int (p0 &&& (7 : Int32))), .val (.ref o120), .unset, .unset] [])) _
                  refine XS.aload X124.here hx rfl (hb hby at_188) rfl rfl ?_
                  exact k)
              obtain ⟨cq127, kcq127, q127a, q127b, q127c⟩ := isOf hZ8 e124 Ex120
              obtain ⟨_, _, ⟨T127, L127, kq127, n127⟩, -, X127, ⟨Lc127, hQ127, l127, y127, z127⟩, st127⟩ := X124.virtualBack hx (y := (⟨"java/util/Optional", "get", "()Ljava/lang/Object;"⟩ : MethodName)) (z := (⟨"java/util/Optional", "get", "()Ljava/lang/Object;"⟩ : MethodName)) hown8 (mvT hZ8 (hw _ (List.mem_of_getElem? (i := 118) rfl))) (mvT hZ8 (hw _ (List.mem_of_getElem? (i := 119) rfl))) (notFace_of_selects (args := #[]) (mvT hZ8 (hw _ (List.mem_of_getElem? (i := 121) rfl)))) (mvT hZ8 (hw _ (List.mem_of_getElem? (i := 121) rfl))) (mvT hZ8 (hw _ (List.mem_of_getElem? (i := 120) rfl))) (by decide) (backOf (W := 0) (rm22 l Z a0 hw [] o120 w_ZH T120.heap n0 Zs120 Fx120) hZ8 (hw _ (List.mem_of_getElem? (i := 122) rfl)) (hw _ (List.mem_of_getElem? (i := 62) rfl)) (by decide) (by decide)) q127a q127c (g := (mkF m 190 #[.val (.int p0), .val (.int p1), .val (.int p2), .val (.int p3), .val (.int (p0 &&& (7 : Int32))), .val (.int (own_pk ((p0.toUInt32 >>> ((3 : Int32) &&& 31).toUInt32).toInt32) p1)), .val (.int (own_pk ((p0.toUInt32 >>> ((4 : Int32) &&& 31).toUInt32).toInt32) p2)), .val (.int (own_pk ((p0.toUInt32 >>> ((5 : Int32) &&& 31).toUInt32).toInt32) p3)), .val (.ref b106), .val (.int (p0 &&& (7 : Int32))), .val (.ref o120), .unset, .unset] [(.ref o120)])) rfl (by rw [hml]; rfl) (Steps.refl _) (argsL := []) (rest := []) (lenOf pd_12 rfl) rfl (by show 2 * 0 + _ ≤ _; exact Nat.le_of_eq rfl) (hb hby at_190) (fun _ _ => ⟨rfl, e124, (by decide : 11 + 0 ≤ _), (by decide : 71 + 0 ≤ _)⟩)
              dsimp only [Pt.U, Pt.locs, Pt.cells, Pt.slots] at X127 l127 y127 z127 st127 hQ127
              subst l127 y127 z127
              obtain ⟨rfl, N127q, e127⟩ := hQ127
              have N127 := Fr.app N124 N127q
              have k128 : ∀ t, Steps p.tables e below (T127.setTop (mkF m 193 #[.val (.int p0), .val (.int p1), .val (.int p2), .val (.int p3), .val (.int (p0 &&& (7 : Int32))), .val (.int (own_pk ((p0.toUInt32 >>> ((3 : Int32) &&& 31).toUInt32).toInt32) p1)), .val (.int (own_pk ((p0.toUInt32 >>> ((4 : Int32) &&& 31).toUInt32).toInt32) p2)), .val (.int (own_pk ((p0.toUInt32 >>> ((5 : Int32) &&& 31).toUInt32).toInt32) p3)), .val (.ref b106), .val (.int (p0 &&& (7 : Int32))), .val (.ref o120), .unset, .unset] [(.ref w_ZH)])) t → Steps p.tables e below (s₁.setTop (entryFrame m #[(.int p0), (.int p1), (.int p2), (.int p3)] maxLocals)) t := fun t k => k126 t (st127.trans k)
              obtain ⟨T129, X129, e129, st129⟩ := castY X127 hx hZ8 hown8 (hw _ (List.mem_of_getElem? (i := 123) rfl)) e127 (Ins.self (E_w_ZH.ext od121.2)) (g := (mkF m 193 #[.val (.int p0), .val (.int p1), .val (.int p2), .val (.int p3), .val (.int (p0 &&& (7 : Int32))), .val (.int (own_pk ((p0.toUInt32 >>> ((3 : Int32) &&& 31).toUInt32).toInt32) p1)), .val (.int (own_pk ((p0.toUInt32 >>> ((4 : Int32) &&& 31).toUInt32).toInt32) p2)), .val (.int (own_pk ((p0.toUInt32 >>> ((5 : Int32) &&& 31).toUInt32).toInt32) p3)), .val (.ref b106), .val (.int (p0 &&& (7 : Int32))), .val (.ref o120), .unset, .unset] [(.ref w_ZH)])) rfl rfl (hb hby at_193)
              have k130 : ∀ t, Steps p.tables e below (T129.setTop (mkF m 196 #[.val (.int p0), .val (.int p1), .val (.int p2), .val (.int p3), .val (.int (p0 &&& (7 : Int32))), .val (.int (own_pk ((p0.toUInt32 >>> ((3 : Int32) &&& 31).toUInt32).toInt32) p1)), .val (.int (own_pk ((p0.toUInt32 >>> ((4 : Int32) &&& 31).toUInt32).toInt32) p2)), .val (.int (own_pk ((p0.toUInt32 >>> ((5 : Int32) &&& 31).toUInt32).toInt32) p3)), .val (.ref b106), .val (.int (p0 &&& (7 : Int32))), .val (.ref o120), .unset, .unset] [(.ref w_ZH)])) t → Steps p.tables e below (s₁.setTop (entryFrame m #[(.int p0), (.int p1), (.int p2), (.int p3)] maxLocals)) t := fun t k => k128 t (st129 _ k)
              have hc208 : (p0 &&& (7 : Int32)) = (2 : Int32) := hc111
              have hc215 : (own_pk ((p0.toUInt32 >>> ((3 : Int32) &&& 31).toUInt32).toInt32) p1) = (122 : Int32) := hx0
              have hc222 : (own_pk ((p0.toUInt32 >>> ((4 : Int32) &&& 31).toUInt32).toInt32) p2) = (104 : Int32) := hx1
              have k131 : ∀ t, Steps p.tables e below (T129.setTop (mkF m 225 #[.val (.int p0), .val (.int p1), .val (.int p2), .val (.int p3), .val (.int (p0 &&& (7 : Int32))), .val (.int (own_pk ((p0.toUInt32 >>> ((3 : Int32) &&& 31).toUInt32).toInt32) p1)), .val (.int (own_pk ((p0.toUInt32 >>> ((4 : Int32) &&& 31).toUInt32).toInt32) p2)), .val (.int (own_pk ((p0.toUInt32 >>> ((5 : Int32) &&& 31).toUInt32).toInt32) p3)), .val (.ref b106), .val (.int (p0 &&& (7 : Int32))), .val (.ref o120), .val (.ref w_ZH), .val .null] [])) t → Steps p.tables e below (s₁.setTop (entryFrame m #[(.int p0), (.int p1), (.int p2), (.int p3)] maxLocals)) t := fun t k => k130 t (by
                  show Steps p.tables e below (T129.setTop (mkF m 196 #[.val (.int p0), .val (.int p1), .val (.int p2), .val (.int p3), .val (.int (p0 &&& (7 : Int32))), .val (.int (own_pk ((p0.toUInt32 >>> ((3 : Int32) &&& 31).toUInt32).toInt32) p1)), .val (.int (own_pk ((p0.toUInt32 >>> ((4 : Int32) &&& 31).toUInt32).toInt32) p2)), .val (.int (own_pk ((p0.toUInt32 >>> ((5 : Int32) &&& 31).toUInt32).toInt32) p3)), .val (.ref b106), .val (.int (p0 &&& (7 : Int32))), .val (.ref o120), .unset, .unset] [(.ref w_ZH)])) _
                  refine XS.goto X129.here hx rfl (pc0 := 196) (pc' := 200) rfl (hb hby at_196) (by decide) (by decide) ?_
                  show Steps p.tables e below (T129.setTop (mkF m 200 #[.val (.int p0), .val (.int p1), .val (.int p2), .val (.int p3), .val (.int (p0 &&& (7 : Int32))), .val (.int (own_pk ((p0.toUInt32 >>> ((3 : Int32) &&& 31).toUInt32).toInt32) p1)), .val (.int (own_pk ((p0.toUInt32 >>> ((4 : Int32) &&& 31).toUInt32).toInt32) p2)), .val (.int (own_pk ((p0.toUInt32 >>> ((5 : Int32) &&& 31).toUInt32).toInt32) p3)), .val (.ref b106), .val (.int (p0 &&& (7 : Int32))), .val (.ref o120), .unset, .unset] [(.ref w_ZH)])) _
                  refine XS.astore X129.here hx rfl (hb hby at_200) rfl rfl (l' := #[.val (.int p0), .val (.int p1), .val (.int p2), .val (.int p3), .val (.int (p0 &&& (7 : Int32))), .val (.int (own_pk ((p0.toUInt32 >>> ((3 : Int32) &&& 31).toUInt32).toInt32) p1)), .val (.int (own_pk ((p0.toUInt32 >>> ((4 : Int32) &&& 31).toUInt32).toInt32) p2)), .val (.int (own_pk ((p0.toUInt32 >>> ((5 : Int32) &&& 31).toUInt32).toInt32) p3)), .val (.ref b106), .val (.int (p0 &&& (7 : Int32))), .val (.ref o120), .val (.ref w_ZH), .unset]) rfl ?_
                  show Steps p.tables e below (T129.setTop (mkF m 202 #[.val (.int p0), .val (.int p1), .val (.int p2), .val (.int p3), .val (.int (p0 &&& (7 : Int32))), .val (.int (own_pk ((p0.toUInt32 >>> ((3 : Int32) &&& 31).toUInt32).toInt32) p1)), .val (.int (own_pk ((p0.toUInt32 >>> ((4 : Int32) &&& 31).toUInt32).toInt32) p2)), .val (.int (own_pk ((p0.toUInt32 >>> ((5 : Int32) &&& 31).toUInt32).toInt32) p3)), .val (.ref b106), .val (.int (p0 &&& (7 : Int32))), .val (.ref o120), .val (.ref w_ZH), .unset] [])) _
                  refine XS.aconstNull X129.here hx rfl (hb hby at_202) ?_
                  show Steps p.tables e below (T129.setTop (mkF m 203 #[.val (.int p0), .val (.int p1), .val (.int p2), .val (.int p3), .val (.int (p0 &&& (7 : Int32))), .val (.int (own_pk ((p0.toUInt32 >>> ((3 : Int32) &&& 31).toUInt32).toInt32) p1)), .val (.int (own_pk ((p0.toUInt32 >>> ((4 : Int32) &&& 31).toUInt32).toInt32) p2)), .val (.int (own_pk ((p0.toUInt32 >>> ((5 : Int32) &&& 31).toUInt32).toInt32) p3)), .val (.ref b106), .val (.int (p0 &&& (7 : Int32))), .val (.ref o120), .val (.ref w_ZH), .unset] [.null])) _
                  refine XS.astore X129.here hx rfl (hb hby at_203) rfl rfl (l' := #[.val (.int p0), .val (.int p1), .val (.int p2), .val (.int p3), .val (.int (p0 &&& (7 : Int32))), .val (.int (own_pk ((p0.toUInt32 >>> ((3 : Int32) &&& 31).toUInt32).toInt32) p1)), .val (.int (own_pk ((p0.toUInt32 >>> ((4 : Int32) &&& 31).toUInt32).toInt32) p2)), .val (.int (own_pk ((p0.toUInt32 >>> ((5 : Int32) &&& 31).toUInt32).toInt32) p3)), .val (.ref b106), .val (.int (p0 &&& (7 : Int32))), .val (.ref o120), .val (.ref w_ZH), .val .null]) rfl ?_
                  show Steps p.tables e below (T129.setTop (mkF m 205 #[.val (.int p0), .val (.int p1), .val (.int p2), .val (.int p3), .val (.int (p0 &&& (7 : Int32))), .val (.int (own_pk ((p0.toUInt32 >>> ((3 : Int32) &&& 31).toUInt32).toInt32) p1)), .val (.int (own_pk ((p0.toUInt32 >>> ((4 : Int32) &&& 31).toUInt32).toInt32) p2)), .val (.int (own_pk ((p0.toUInt32 >>> ((5 : Int32) &&& 31).toUInt32).toInt32) p3)), .val (.ref b106), .val (.int (p0 &&& (7 : Int32))), .val (.ref o120), .val (.ref w_ZH), .val .null] [])) _
                  refine XS.iload X129.here hx rfl (hb hby at_205) rfl ?_
                  show Steps p.tables e below (T129.setTop (mkF m 207 #[.val (.int p0), .val (.int p1), .val (.int p2), .val (.int p3), .val (.int (p0 &&& (7 : Int32))), .val (.int (own_pk ((p0.toUInt32 >>> ((3 : Int32) &&& 31).toUInt32).toInt32) p1)), .val (.int (own_pk ((p0.toUInt32 >>> ((4 : Int32) &&& 31).toUInt32).toInt32) p2)), .val (.int (own_pk ((p0.toUInt32 >>> ((5 : Int32) &&& 31).toUInt32).toInt32) p3)), .val (.ref b106), .val (.int (p0 &&& (7 : Int32))), .val (.ref o120), .val (.ref w_ZH), .val .null] [(.int (p0 &&& (7 : Int32)))])) _
                  refine XS.iconst X129.here hx rfl (hb hby at_207) ?_
                  show Steps p.tables e below (T129.setTop (mkF m 208 #[.val (.int p0), .val (.int p1), .val (.int p2), .val (.int p3), .val (.int (p0 &&& (7 : Int32))), .val (.int (own_pk ((p0.toUInt32 >>> ((3 : Int32) &&& 31).toUInt32).toInt32) p1)), .val (.int (own_pk ((p0.toUInt32 >>> ((4 : Int32) &&& 31).toUInt32).toInt32) p2)), .val (.int (own_pk ((p0.toUInt32 >>> ((5 : Int32) &&& 31).toUInt32).toInt32) p3)), .val (.ref b106), .val (.int (p0 &&& (7 : Int32))), .val (.ref o120), .val (.ref w_ZH), .val .null] [(.int (2 : Int32)), (.int (p0 &&& (7 : Int32)))])) _
                  refine XS.icmpNo X129.here hx rfl (hb hby at_208) rfl (teq hc208).2 ?_
                  show Steps p.tables e below (T129.setTop (mkF m 211 #[.val (.int p0), .val (.int p1), .val (.int p2), .val (.int p3), .val (.int (p0 &&& (7 : Int32))), .val (.int (own_pk ((p0.toUInt32 >>> ((3 : Int32) &&& 31).toUInt32).toInt32) p1)), .val (.int (own_pk ((p0.toUInt32 >>> ((4 : Int32) &&& 31).toUInt32).toInt32) p2)), .val (.int (own_pk ((p0.toUInt32 >>> ((5 : Int32) &&& 31).toUInt32).toInt32) p3)), .val (.ref b106), .val (.int (p0 &&& (7 : Int32))), .val (.ref o120), .val (.ref w_ZH), .val .null] [])) _
                  refine XS.iload X129.here hx rfl (hb hby at_211) rfl ?_
                  show Steps p.tables e below (T129.setTop (mkF m 213 #[.val (.int p0), .val (.int p1), .val (.int p2), .val (.int p3), .val (.int (p0 &&& (7 : Int32))), .val (.int (own_pk ((p0.toUInt32 >>> ((3 : Int32) &&& 31).toUInt32).toInt32) p1)), .val (.int (own_pk ((p0.toUInt32 >>> ((4 : Int32) &&& 31).toUInt32).toInt32) p2)), .val (.int (own_pk ((p0.toUInt32 >>> ((5 : Int32) &&& 31).toUInt32).toInt32) p3)), .val (.ref b106), .val (.int (p0 &&& (7 : Int32))), .val (.ref o120), .val (.ref w_ZH), .val .null] [(.int (own_pk ((p0.toUInt32 >>> ((3 : Int32) &&& 31).toUInt32).toInt32) p1))])) _
                  refine XS.bipush X129.here hx rfl (hb hby at_213) ?_
                  show Steps p.tables e below (T129.setTop (mkF m 215 #[.val (.int p0), .val (.int p1), .val (.int p2), .val (.int p3), .val (.int (p0 &&& (7 : Int32))), .val (.int (own_pk ((p0.toUInt32 >>> ((3 : Int32) &&& 31).toUInt32).toInt32) p1)), .val (.int (own_pk ((p0.toUInt32 >>> ((4 : Int32) &&& 31).toUInt32).toInt32) p2)), .val (.int (own_pk ((p0.toUInt32 >>> ((5 : Int32) &&& 31).toUInt32).toInt32) p3)), .val (.ref b106), .val (.int (p0 &&& (7 : Int32))), .val (.ref o120), .val (.ref w_ZH), .val .null] [(.int (122 : Int32)), (.int (own_pk ((p0.toUInt32 >>> ((3 : Int32) &&& 31).toUInt32).toInt32) p1))])) _
                  refine XS.icmpNo X129.here hx rfl (hb hby at_215) rfl (teq hc215).2 ?_
                  show Steps p.tables e below (T129.setTop (mkF m 218 #[.val (.int p0), .val (.int p1), .val (.int p2), .val (.int p3), .val (.int (p0 &&& (7 : Int32))), .val (.int (own_pk ((p0.toUInt32 >>> ((3 : Int32) &&& 31).toUInt32).toInt32) p1)), .val (.int (own_pk ((p0.toUInt32 >>> ((4 : Int32) &&& 31).toUInt32).toInt32) p2)), .val (.int (own_pk ((p0.toUInt32 >>> ((5 : Int32) &&& 31).toUInt32).toInt32) p3)), .val (.ref b106), .val (.int (p0 &&& (7 : Int32))), .val (.ref o120), .val (.ref w_ZH), .val .null] [])) _
                  refine XS.iload X129.here hx rfl (hb hby at_218) rfl ?_
                  show Steps p.tables e below (T129.setTop (mkF m 220 #[.val (.int p0), .val (.int p1), .val (.int p2), .val (.int p3), .val (.int (p0 &&& (7 : Int32))), .val (.int (own_pk ((p0.toUInt32 >>> ((3 : Int32) &&& 31).toUInt32).toInt32) p1)), .val (.int (own_pk ((p0.toUInt32 >>> ((4 : Int32) &&& 31).toUInt32).toInt32) p2)), .val (.int (own_pk ((p0.toUInt32 >>> ((5 : Int32) &&& 31).toUInt32).toInt32) p3)), .val (.ref b106), .val (.int (p0 &&& (7 : Int32))), .val (.ref o120), .val (.ref w_ZH), .val .null] [(.int (own_pk ((p0.toUInt32 >>> ((4 : Int32) &&& 31).toUInt32).toInt32) p2))])) _
                  refine XS.bipush X129.here hx rfl (hb hby at_220) ?_
                  show Steps p.tables e below (T129.setTop (mkF m 222 #[.val (.int p0), .val (.int p1), .val (.int p2), .val (.int p3), .val (.int (p0 &&& (7 : Int32))), .val (.int (own_pk ((p0.toUInt32 >>> ((3 : Int32) &&& 31).toUInt32).toInt32) p1)), .val (.int (own_pk ((p0.toUInt32 >>> ((4 : Int32) &&& 31).toUInt32).toInt32) p2)), .val (.int (own_pk ((p0.toUInt32 >>> ((5 : Int32) &&& 31).toUInt32).toInt32) p3)), .val (.ref b106), .val (.int (p0 &&& (7 : Int32))), .val (.ref o120), .val (.ref w_ZH), .val .null] [(.int (104 : Int32)), (.int (own_pk ((p0.toUInt32 >>> ((4 : Int32) &&& 31).toUInt32).toInt32) p2))])) _
                  refine XS.icmpNo X129.here hx rfl (hb hby at_222) rfl (teq hc222).2 ?_
                  exact k)
              obtain ⟨T132, X132, e132, st132⟩ := getS2 X129 hx hZ8 hown8 (host := "") (Or.inl (hw _ (List.mem_of_getElem? (i := 126) rfl))) Via.refl e129 (S_ZH.ext od121.2) (g := (mkF m 225 #[.val (.int p0), .val (.int p1), .val (.int p2), .val (.int p3), .val (.int (p0 &&& (7 : Int32))), .val (.int (own_pk ((p0.toUInt32 >>> ((3 : Int32) &&& 31).toUInt32).toInt32) p1)), .val (.int (own_pk ((p0.toUInt32 >>> ((4 : Int32) &&& 31).toUInt32).toInt32) p2)), .val (.int (own_pk ((p0.toUInt32 >>> ((5 : Int32) &&& 31).toUInt32).toInt32) p3)), .val (.ref b106), .val (.int (p0 &&& (7 : Int32))), .val (.ref o120), .val (.ref w_ZH), .val .null] [])) rfl (hb hby at_225)
              have k133 : ∀ t, Steps p.tables e below (T132.setTop (mkF m 228 #[.val (.int p0), .val (.int p1), .val (.int p2), .val (.int p3), .val (.int (p0 &&& (7 : Int32))), .val (.int (own_pk ((p0.toUInt32 >>> ((3 : Int32) &&& 31).toUInt32).toInt32) p1)), .val (.int (own_pk ((p0.toUInt32 >>> ((4 : Int32) &&& 31).toUInt32).toInt32) p2)), .val (.int (own_pk ((p0.toUInt32 >>> ((5 : Int32) &&& 31).toUInt32).toInt32) p3)), .val (.ref b106), .val (.int (p0 &&& (7 : Int32))), .val (.ref o120), .val (.ref w_ZH), .val .null] [(.ref w_ZH)])) t → Steps p.tables e below (s₁.setTop (entryFrame m #[(.int p0), (.int p1), (.int p2), (.int p3)] maxLocals)) t := fun t k => k131 t (st132 _ k)
              have k134 : ∀ t, Steps p.tables e below (T132.setTop (mkF m 270 #[.val (.int p0), .val (.int p1), .val (.int p2), .val (.int p3), .val (.int (p0 &&& (7 : Int32))), .val (.int (own_pk ((p0.toUInt32 >>> ((3 : Int32) &&& 31).toUInt32).toInt32) p1)), .val (.int (own_pk ((p0.toUInt32 >>> ((4 : Int32) &&& 31).toUInt32).toInt32) p2)), .val (.int (own_pk ((p0.toUInt32 >>> ((5 : Int32) &&& 31).toUInt32).toInt32) p3)), .val (.ref b106), .val (.int (p0 &&& (7 : Int32))), .val (.ref o120), .val (.ref w_ZH), .val (.ref w_ZH)] [(.int (1 : Int32))])) t → Steps p.tables e below (s₁.setTop (entryFrame m #[(.int p0), (.int p1), (.int p2), (.int p3)] maxLocals)) t := fun t k => k133 t (by
                  show Steps p.tables e below (T132.setTop (mkF m 228 #[.val (.int p0), .val (.int p1), .val (.int p2), .val (.int p3), .val (.int (p0 &&& (7 : Int32))), .val (.int (own_pk ((p0.toUInt32 >>> ((3 : Int32) &&& 31).toUInt32).toInt32) p1)), .val (.int (own_pk ((p0.toUInt32 >>> ((4 : Int32) &&& 31).toUInt32).toInt32) p2)), .val (.int (own_pk ((p0.toUInt32 >>> ((5 : Int32) &&& 31).toUInt32).toInt32) p3)), .val (.ref b106), .val (.int (p0 &&& (7 : Int32))), .val (.ref o120), .val (.ref w_ZH), .val .null] [(.ref w_ZH)])) _
                  refine XS.astore X132.here hx rfl (hb hby at_228) rfl rfl (l' := #[.val (.int p0), .val (.int p1), .val (.int p2), .val (.int p3), .val (.int (p0 &&& (7 : Int32))), .val (.int (own_pk ((p0.toUInt32 >>> ((3 : Int32) &&& 31).toUInt32).toInt32) p1)), .val (.int (own_pk ((p0.toUInt32 >>> ((4 : Int32) &&& 31).toUInt32).toInt32) p2)), .val (.int (own_pk ((p0.toUInt32 >>> ((5 : Int32) &&& 31).toUInt32).toInt32) p3)), .val (.ref b106), .val (.int (p0 &&& (7 : Int32))), .val (.ref o120), .val (.ref w_ZH), .val (.ref w_ZH)]) rfl ?_
                  show Steps p.tables e below (T132.setTop (mkF m 230 #[.val (.int p0), .val (.int p1), .val (.int p2), .val (.int p3), .val (.int (p0 &&& (7 : Int32))), .val (.int (own_pk ((p0.toUInt32 >>> ((3 : Int32) &&& 31).toUInt32).toInt32) p1)), .val (.int (own_pk ((p0.toUInt32 >>> ((4 : Int32) &&& 31).toUInt32).toInt32) p2)), .val (.int (own_pk ((p0.toUInt32 >>> ((5 : Int32) &&& 31).toUInt32).toInt32) p3)), .val (.ref b106), .val (.int (p0 &&& (7 : Int32))), .val (.ref o120), .val (.ref w_ZH), .val (.ref w_ZH)] [])) _
                  refine XS.goto X132.here hx rfl (pc0 := 230) (pc' := 258) rfl (hb hby at_230) (by decide) (by decide) ?_
                  show Steps p.tables e below (T132.setTop (mkF m 258 #[.val (.int p0), .val (.int p1), .val (.int p2), .val (.int p3), .val (.int (p0 &&& (7 : Int32))), .val (.int (own_pk ((p0.toUInt32 >>> ((3 : Int32) &&& 31).toUInt32).toInt32) p1)), .val (.int (own_pk ((p0.toUInt32 >>> ((4 : Int32) &&& 31).toUInt32).toInt32) p2)), .val (.int (own_pk ((p0.toUInt32 >>> ((5 : Int32) &&& 31).toUInt32).toInt32) p3)), .val (.ref b106), .val (.int (p0 &&& (7 : Int32))), .val (.ref o120), .val (.ref w_ZH), .val (.ref w_ZH)] [])) _
                  refine XS.aload X132.here hx rfl (hb hby at_258) rfl rfl ?_
                  show Steps p.tables e below (T132.setTop (mkF m 260 #[.val (.int p0), .val (.int p1), .val (.int p2), .val (.int p3), .val (.int (p0 &&& (7 : Int32))), .val (.int (own_pk ((p0.toUInt32 >>> ((3 : Int32) &&& 31).toUInt32).toInt32) p1)), .val (.int (own_pk ((p0.toUInt32 >>> ((4 : Int32) &&& 31).toUInt32).toInt32) p2)), .val (.int (own_pk ((p0.toUInt32 >>> ((5 : Int32) &&& 31).toUInt32).toInt32) p3)), .val (.ref b106), .val (.int (p0 &&& (7 : Int32))), .val (.ref o120), .val (.ref w_ZH), .val (.ref w_ZH)] [(.ref w_ZH)])) _
                  refine XS.aload X132.here hx rfl (hb hby at_260) rfl rfl ?_
                  show Steps p.tables e below (T132.setTop (mkF m 262 #[.val (.int p0), .val (.int p1), .val (.int p2), .val (.int p3), .val (.int (p0 &&& (7 : Int32))), .val (.int (own_pk ((p0.toUInt32 >>> ((3 : Int32) &&& 31).toUInt32).toInt32) p1)), .val (.int (own_pk ((p0.toUInt32 >>> ((4 : Int32) &&& 31).toUInt32).toInt32) p2)), .val (.int (own_pk ((p0.toUInt32 >>> ((5 : Int32) &&& 31).toUInt32).toInt32) p3)), .val (.ref b106), .val (.int (p0 &&& (7 : Int32))), .val (.ref o120), .val (.ref w_ZH), .val (.ref w_ZH)] [(.ref w_ZH), (.ref w_ZH)])) _
                  refine Jvm.RoadKit.acmp (g := (mkF m 262 #[.val (.int p0), .val (.int p1), .val (.int p2), .val (.int p3), .val (.int (p0 &&& (7 : Int32))), .val (.int (own_pk ((p0.toUInt32 >>> ((3 : Int32) &&& 31).toUInt32).toInt32) p1)), .val (.int (own_pk ((p0.toUInt32 >>> ((4 : Int32) &&& 31).toUInt32).toInt32) p2)), .val (.int (own_pk ((p0.toUInt32 >>> ((5 : Int32) &&& 31).toUInt32).toInt32) p3)), .val (.ref b106), .val (.int (p0 &&& (7 : Int32))), .val (.ref o120), .val (.ref w_ZH), .val (.ref w_ZH)] [(.ref w_ZH), (.ref w_ZH)])) X132 hx rfl rfl rfl (pc0 := 262) (pc' := 265) (same := true) rfl (hb hby at_262) rfl (decide_eq_true rfl) (by decide) (by decide) ?_
                  show Steps p.tables e below (T132.setTop (mkF m 265 #[.val (.int p0), .val (.int p1), .val (.int p2), .val (.int p3), .val (.int (p0 &&& (7 : Int32))), .val (.int (own_pk ((p0.toUInt32 >>> ((3 : Int32) &&& 31).toUInt32).toInt32) p1)), .val (.int (own_pk ((p0.toUInt32 >>> ((4 : Int32) &&& 31).toUInt32).toInt32) p2)), .val (.int (own_pk ((p0.toUInt32 >>> ((5 : Int32) &&& 31).toUInt32).toInt32) p3)), .val (.ref b106), .val (.int (p0 &&& (7 : Int32))), .val (.ref o120), .val (.ref w_ZH), .val (.ref w_ZH)] [])) _
                  refine XS.iconst X132.here hx rfl (hb hby at_265) ?_
                  show Steps p.tables e below (T132.setTop (mkF m 266 #[.val (.int p0), .val (.int p1), .val (.int p2), .val (.int p3), .val (.int (p0 &&& (7 : Int32))), .val (.int (own_pk ((p0.toUInt32 >>> ((3 : Int32) &&& 31).toUInt32).toInt32) p1)), .val (.int (own_pk ((p0.toUInt32 >>> ((4 : Int32) &&& 31).toUInt32).toInt32) p2)), .val (.int (own_pk ((p0.toUInt32 >>> ((5 : Int32) &&& 31).toUInt32).toInt32) p3)), .val (.ref b106), .val (.int (p0 &&& (7 : Int32))), .val (.ref o120), .val (.ref w_ZH), .val (.ref w_ZH)] [(.int (1 : Int32))])) _
                  refine XS.goto X132.here hx rfl (pc0 := 266) (pc' := 270) rfl (hb hby at_266) (by decide) (by decide) ?_
                  exact k)
              obtain ⟨fs, hr, hrun, hended, w1, w2, w3, w4⟩ := X132.leaveW (s := s) (vm₁ := T8.vm) Sn8 (by rw [e132]; exact (Nat.le_trans (Nat.le_trans (Nat.le_trans (Nat.le_trans (Nat.le_trans (Nat.le_trans (Nat.le_refl _) E106.1) E109.1) (Keep.of_wr W112).1) (Keep.of_wr W115).1) K117.1) K120.1)) (v := (some (.int (1 : Int32)))) (fun h => by rw [Bd.returns] at h; cases h)
              refine ⟨_, _, k134 _ ?_, hrun, hended, _, _, rfl, ?_, w1, w2, w3, w4.mono (by decide) (by decide)⟩
              · exact retN X132 hx (t := .boolean) Bd.returns (by simp) (hb hby at_270) hr
              · show Q0 Z p0 p1 p2 p3 wv cl w_ZH w_EN c_ZH t_ZH c_EN t_EN k_ZH k_EN w_EMPTY G1 G3 h0 n0 _ T132.heap _
                rw [e132]
                exact ⟨rfl, N127⟩
            · have hx0 : (own_pk ((p0.toUInt32 >>> ((3 : Int32) &&& 31).toUInt32).toInt32) p1) = (101 : Int32) := by have q := (List.cons.inj hz).1; rw [own_pk_n] at q; exact q.symm
              have hx1 : (own_pk ((p0.toUInt32 >>> ((4 : Int32) &&& 31).toUInt32).toInt32) p2) = (110 : Int32) := by have q := (List.cons.inj (List.cons.inj hz).2).1; rw [own_pk_n] at q; exact q.symm
              have k135 : ∀ t, Steps p.tables e below (T120.setTop (mkF m 182 #[.val (.int p0), .val (.int p1), .val (.int p2), .val (.int p3), .val (.int (p0 &&& (7 : Int32))), .val (.int (own_pk ((p0.toUInt32 >>> ((3 : Int32) &&& 31).toUInt32).toInt32) p1)), .val (.int (own_pk ((p0.toUInt32 >>> ((4 : Int32) &&& 31).toUInt32).toInt32) p2)), .val (.int (own_pk ((p0.toUInt32 >>> ((5 : Int32) &&& 31).toUInt32).toInt32) p3)), .val (.ref b106), .val (.int (p0 &&& (7 : Int32))), .val (.ref o120), .unset, .unset] [(.ref o120)])) t → Steps p.tables e below (s₁.setTop (entryFrame m #[(.int p0), (.int p1), (.int p2), (.int p3)] maxLocals)) t := fun t k => k122 t (by
                  show Steps p.tables e below (T120.setTop (mkF m 171 #[.val (.int p0), .val (.int p1), .val (.int p2), .val (.int p3), .val (.int (p0 &&& (7 : Int32))), .val (.int (own_pk ((p0.toUInt32 >>> ((3 : Int32) &&& 31).toUInt32).toInt32) p1)), .val (.int (own_pk ((p0.toUInt32 >>> ((4 : Int32) &&& 31).toUInt32).toInt32) p2)), .val (.int (own_pk ((p0.toUInt32 >>> ((5 : Int32) &&& 31).toUInt32).toInt32) p3)), .val (.ref b106), .val (.int (p0 &&& (7 : Int32))), .unset, .unset, .unset] [(.ref o120)])) _
                  refine XS.astore X120.here hx rfl (hb hby at_171) rfl rfl (l' := #[.val (.int p0), .val (.int p1), .val (.int p2), .val (.int p3), .val (.int (p0 &&& (7 : Int32))), .val (.int (own_pk ((p0.toUInt32 >>> ((3 : Int32) &&& 31).toUInt32).toInt32) p1)), .val (.int (own_pk ((p0.toUInt32 >>> ((4 : Int32) &&& 31).toUInt32).toInt32) p2)), .val (.int (own_pk ((p0.toUInt32 >>> ((5 : Int32) &&& 31).toUInt32).toInt32) p3)), .val (.ref b106), .val (.int (p0 &&& (7 : Int32))), .val (.ref o120), .unset, .unset]) rfl ?_
                  show Steps p.tables e below (T120.setTop (mkF m 173 #[.val (.int p0), .val (.int p1), .val (.int p2), .val (.int p3), .val (.int (p0 &&& (7 : Int32))), .val (.int (own_pk ((p0.toUInt32 >>> ((3 : Int32) &&& 31).toUInt32).toInt32) p1)), .val (.int (own_pk ((p0.toUInt32 >>> ((4 : Int32) &&& 31).toUInt32).toInt32) p2)), .val (.int (own_pk ((p0.toUInt32 >>> ((5 : Int32) &&& 31).toUInt32).toInt32) p3)), .val (.ref b106), .val (.int (p0 &&& (7 : Int32))), .val (.ref o120), .unset, .unset] [])) _
                  refine XS.aload X120.here hx rfl (hb hby at_173) rfl rfl ?_
                  show Steps p.tables e below (T120.setTop (mkF m 175 #[.val (.int p0), .val (.int p1), .val (.int p2), .val (.int p3), .val (.int (p0 &&& (7 : Int32))), .val (.int (own_pk ((p0.toUInt32 >>> ((3 : Int32) &&& 31).toUInt32).toInt32) p1)), .val (.int (own_pk ((p0.toUInt32 >>> ((4 : Int32) &&& 31).toUInt32).toInt32) p2)), .val (.int (own_pk ((p0.toUInt32 >>> ((5 : Int32) &&& 31).toUInt32).toInt32) p3)), .val (.ref b106), .val (.int (p0 &&& (7 : Int32))), .val (.ref o120), .unset, .unset] [(.ref o120)])) _
                  refine XS.ifnonnullYes X120.here hx rfl (pc0 := 175) (pc' := 180) rfl (hb hby at_175) rfl (by decide) (by decide) ?_
                  show Steps p.tables e below (T120.setTop (mkF m 180 #[.val (.int p0), .val (.int p1), .val (.int p2), .val (.int p3), .val (.int (p0 &&& (7 : Int32))), .val (.int (own_pk ((p0.toUInt32 >>> ((3 : Int32) &&& 31).toUInt32).toInt32) p1)), .val (.int (own_pk ((p0.toUInt32 >>> ((4 : Int32) &&& 31).toUInt32).toInt32) p2)), .val (.int (own_pk ((p0.toUInt32 >>> ((5 : Int32) &&& 31).toUInt32).toInt32) p3)), .val (.ref b106), .val (.int (p0 &&& (7 : Int32))), .val (.ref o120), .unset, .unset] [])) _
                  refine XS.aload X120.here hx rfl (hb hby at_180) rfl rfl ?_
                  exact k)
              obtain ⟨cq136, kcq136, q136a, q136b, q136c⟩ := isOf hZ8 rfl Ex120
              obtain ⟨_, _, ⟨T136, L136, kq136, n136⟩, -, X136, ⟨Lc136, hQ136, l136, y136, z136⟩, st136⟩ := X120.virtualBack hx (y := (⟨"java/util/Optional", "isPresent", "()Z"⟩ : MethodName)) (z := (⟨"java/util/Optional", "isPresent", "()Z"⟩ : MethodName)) hown8 (mvT hZ8 (hw _ (List.mem_of_getElem? (i := 65) rfl))) (mvT hZ8 (hw _ (List.mem_of_getElem? (i := 66) rfl))) (notFace_of_selects (args := #[]) (mvT hZ8 (hw _ (List.mem_of_getElem? (i := 68) rfl)))) (mvT hZ8 (hw _ (List.mem_of_getElem? (i := 68) rfl))) (mvT hZ8 (hw _ (List.mem_of_getElem? (i := 67) rfl))) (by decide) (backOf (W := 0) (rm10r l Z a0 hw [] o120 w_EN T120.heap n0 Zs120 Fx120) hZ8 (hw _ (List.mem_of_getElem? (i := 69) rfl)) (hw _ (List.mem_of_getElem? (i := 62) rfl)) (by decide) (by decide)) q136a q136c (g := (mkF m 182 #[.val (.int p0), .val (.int p1), .val (.int p2), .val (.int p3), .val (.int (p0 &&& (7 : Int32))), .val (.int (own_pk ((p0.toUInt32 >>> ((3 : Int32) &&& 31).toUInt32).toInt32) p1)), .val (.int (own_pk ((p0.toUInt32 >>> ((4 : Int32) &&& 31).toUInt32).toInt32) p2)), .val (.int (own_pk ((p0.toUInt32 >>> ((5 : Int32) &&& 31).toUInt32).toInt32) p3)), .val (.ref b106), .val (.int (p0 &&& (7 : Int32))), .val (.ref o120), .unset, .unset] [(.ref o120)])) rfl (by rw [hml]; rfl) (Steps.refl _) (argsL := []) (rest := []) (lenOf pd_10 rfl) rfl (by show 2 * 0 + _ ≤ _; exact Nat.le_of_eq rfl) (hb hby at_182) (fun _ _ => ⟨rfl, rfl, (by decide : 11 + 0 ≤ _), (by decide : 71 + 0 ≤ _)⟩)
              dsimp only [Pt.U, Pt.locs, Pt.cells, Pt.slots] at X136 l136 y136 z136 st136 hQ136
              subst l136 y136 z136
              obtain ⟨rfl, N136q, e136⟩ := hQ136
              have N136 := Fr.app N120 N136q
              have k137 : ∀ t, Steps p.tables e below (T136.setTop (mkF m 185 #[.val (.int p0), .val (.int p1), .val (.int p2), .val (.int p3), .val (.int (p0 &&& (7 : Int32))), .val (.int (own_pk ((p0.toUInt32 >>> ((3 : Int32) &&& 31).toUInt32).toInt32) p1)), .val (.int (own_pk ((p0.toUInt32 >>> ((4 : Int32) &&& 31).toUInt32).toInt32) p2)), .val (.int (own_pk ((p0.toUInt32 >>> ((5 : Int32) &&& 31).toUInt32).toInt32) p3)), .val (.ref b106), .val (.int (p0 &&& (7 : Int32))), .val (.ref o120), .unset, .unset] [(.int (1 : Int32))])) t → Steps p.tables e below (s₁.setTop (entryFrame m #[(.int p0), (.int p1), (.int p2), (.int p3)] maxLocals)) t := fun t k => k135 t (st136.trans k)
              have hc185 : ¬ ((1 : Int32) = (0 : Int32)) := by decide
              have k138 : ∀ t, Steps p.tables e below (T136.setTop (mkF m 190 #[.val (.int p0), .val (.int p1), .val (.int p2), .val (.int p3), .val (.int (p0 &&& (7 : Int32))), .val (.int (own_pk ((p0.toUInt32 >>> ((3 : Int32) &&& 31).toUInt32).toInt32) p1)), .val (.int (own_pk ((p0.toUInt32 >>> ((4 : Int32) &&& 31).toUInt32).toInt32) p2)), .val (.int (own_pk ((p0.toUInt32 >>> ((5 : Int32) &&& 31).toUInt32).toInt32) p3)), .val (.ref b106), .val (.int (p0 &&& (7 : Int32))), .val (.ref o120), .unset, .unset] [(.ref o120)])) t → Steps p.tables e below (s₁.setTop (entryFrame m #[(.int p0), (.int p1), (.int p2), (.int p3)] maxLocals)) t := fun t k => k137 t (by
                  show Steps p.tables e below (T136.setTop (mkF m 185 #[.val (.int p0), .val (.int p1), .val (.int p2), .val (.int p3), .val (.int (p0 &&& (7 : Int32))), .val (.int (own_pk ((p0.toUInt32 >>> ((3 : Int32) &&& 31).toUInt32).toInt32) p1)), .val (.int (own_pk ((p0.toUInt32 >>> ((4 : Int32) &&& 31).toUInt32).toInt32) p2)), .val (.int (own_pk ((p0.toUInt32 >>> ((5 : Int32) &&& 31).toUInt32).toInt32) p3)), .val (.ref b106), .val (.int (p0 &&& (7 : Int32))), .val (.ref o120), .unset, .unset] [(.int (1 : Int32))])) _
                  refine XS.ifNo X136.here hx rfl (hb hby at_185) rfl ((if0 _ _).trans (feq hc185).1) ?_
                  show Steps p.tables e below (T136.setTop (mkF m 188 #[.val (.int p0), .val (.int p1), .val (.int p2), .val (.int p3), .val (.int (p0 &&& (7 : Int32))), .val (.int (own_pk ((p0.toUInt32 >>> ((3 : Int32) &&& 31).toUInt32).toInt32) p1)), .val (.int (own_pk ((p0.toUInt32 >>> ((4 : Int32) &&& 31).toUInt32).toInt32) p2)), .val (.int (own_pk ((p0.toUInt32 >>> ((5 : Int32) &&& 31).toUInt32).toInt32) p3)), .val (.ref b106), .val (.int (p0 &&& (7 : Int32))), .val (.ref o120), .unset, .unset] [])) _
                  refine XS.aload X136.here hx rfl (hb hby at_188) rfl rfl ?_
                  exact k)
              obtain ⟨cq139, kcq139, q139a, q139b, q139c⟩ := isOf hZ8 e136 Ex120
              obtain ⟨_, _, ⟨T139, L139, kq139, n139⟩, -, X139, ⟨Lc139, hQ139, l139, y139, z139⟩, st139⟩ := X136.virtualBack hx (y := (⟨"java/util/Optional", "get", "()Ljava/lang/Object;"⟩ : MethodName)) (z := (⟨"java/util/Optional", "get", "()Ljava/lang/Object;"⟩ : MethodName)) hown8 (mvT hZ8 (hw _ (List.mem_of_getElem? (i := 118) rfl))) (mvT hZ8 (hw _ (List.mem_of_getElem? (i := 119) rfl))) (notFace_of_selects (args := #[]) (mvT hZ8 (hw _ (List.mem_of_getElem? (i := 121) rfl)))) (mvT hZ8 (hw _ (List.mem_of_getElem? (i := 121) rfl))) (mvT hZ8 (hw _ (List.mem_of_getElem? (i := 120) rfl))) (by decide) (backOf (W := 0) (rm22 l Z a0 hw [] o120 w_EN T120.heap n0 Zs120 Fx120) hZ8 (hw _ (List.mem_of_getElem? (i := 122) rfl)) (hw _ (List.mem_of_getElem? (i := 62) rfl)) (by decide) (by decide)) q139a q139c (g := (mkF m 190 #[.val (.int p0), .val (.int p1), .val (.int p2), .val (.int p3), .val (.int (p0 &&& (7 : Int32))), .val (.int (own_pk ((p0.toUInt32 >>> ((3 : Int32) &&& 31).toUInt32).toInt32) p1)), .val (.int (own_pk ((p0.toUInt32 >>> ((4 : Int32) &&& 31).toUInt32).toInt32) p2)), .val (.int (own_pk ((p0.toUInt32 >>> ((5 : Int32) &&& 31).toUInt32).toInt32) p3)), .val (.ref b106), .val (.int (p0 &&& (7 : Int32))), .val (.ref o120), .unset, .unset] [(.ref o120)])) rfl (by rw [hml]; rfl) (Steps.refl _) (argsL := []) (rest := []) (lenOf pd_12 rfl) rfl (by show 2 * 0 + _ ≤ _; exact Nat.le_of_eq rfl) (hb hby at_190) (fun _ _ => ⟨rfl, e136, (by decide : 11 + 0 ≤ _), (by decide : 71 + 0 ≤ _)⟩)
              dsimp only [Pt.U, Pt.locs, Pt.cells, Pt.slots] at X139 l139 y139 z139 st139 hQ139
              subst l139 y139 z139
              obtain ⟨rfl, N139q, e139⟩ := hQ139
              have N139 := Fr.app N136 N139q
              have k140 : ∀ t, Steps p.tables e below (T139.setTop (mkF m 193 #[.val (.int p0), .val (.int p1), .val (.int p2), .val (.int p3), .val (.int (p0 &&& (7 : Int32))), .val (.int (own_pk ((p0.toUInt32 >>> ((3 : Int32) &&& 31).toUInt32).toInt32) p1)), .val (.int (own_pk ((p0.toUInt32 >>> ((4 : Int32) &&& 31).toUInt32).toInt32) p2)), .val (.int (own_pk ((p0.toUInt32 >>> ((5 : Int32) &&& 31).toUInt32).toInt32) p3)), .val (.ref b106), .val (.int (p0 &&& (7 : Int32))), .val (.ref o120), .unset, .unset] [(.ref w_EN)])) t → Steps p.tables e below (s₁.setTop (entryFrame m #[(.int p0), (.int p1), (.int p2), (.int p3)] maxLocals)) t := fun t k => k138 t (st139.trans k)
              obtain ⟨T141, X141, e141, st141⟩ := castY X139 hx hZ8 hown8 (hw _ (List.mem_of_getElem? (i := 123) rfl)) e139 (Ins.self (E_w_EN.ext od121.2)) (g := (mkF m 193 #[.val (.int p0), .val (.int p1), .val (.int p2), .val (.int p3), .val (.int (p0 &&& (7 : Int32))), .val (.int (own_pk ((p0.toUInt32 >>> ((3 : Int32) &&& 31).toUInt32).toInt32) p1)), .val (.int (own_pk ((p0.toUInt32 >>> ((4 : Int32) &&& 31).toUInt32).toInt32) p2)), .val (.int (own_pk ((p0.toUInt32 >>> ((5 : Int32) &&& 31).toUInt32).toInt32) p3)), .val (.ref b106), .val (.int (p0 &&& (7 : Int32))), .val (.ref o120), .unset, .unset] [(.ref w_EN)])) rfl rfl (hb hby at_193)
              have k142 : ∀ t, Steps p.tables e below (T141.setTop (mkF m 196 #[.val (.int p0), .val (.int p1), .val (.int p2), .val (.int p3), .val (.int (p0 &&& (7 : Int32))), .val (.int (own_pk ((p0.toUInt32 >>> ((3 : Int32) &&& 31).toUInt32).toInt32) p1)), .val (.int (own_pk ((p0.toUInt32 >>> ((4 : Int32) &&& 31).toUInt32).toInt32) p2)), .val (.int (own_pk ((p0.toUInt32 >>> ((5 : Int32) &&& 31).toUInt32).toInt32) p3)), .val (.ref b106), .val (.int (p0 &&& (7 : Int32))), .val (.ref o120), .unset, .unset] [(.ref w_EN)])) t → Steps p.tables e below (s₁.setTop (entryFrame m #[(.int p0), (.int p1), (.int p2), (.int p3)] maxLocals)) t := fun t k => k140 t (st141 _ k)
              have hc208 : (p0 &&& (7 : Int32)) = (2 : Int32) := hc111
              have hc215 : ¬ ((own_pk ((p0.toUInt32 >>> ((3 : Int32) &&& 31).toUInt32).toInt32) p1) = (122 : Int32)) := (by rw [hx0]; decide)
              have hc236 : (p0 &&& (7 : Int32)) = (2 : Int32) := hc111
              have hc243 : (own_pk ((p0.toUInt32 >>> ((3 : Int32) &&& 31).toUInt32).toInt32) p1) = (101 : Int32) := hx0
              have hc250 : (own_pk ((p0.toUInt32 >>> ((4 : Int32) &&& 31).toUInt32).toInt32) p2) = (110 : Int32) := hx1
              have k143 : ∀ t, Steps p.tables e below (T141.setTop (mkF m 253 #[.val (.int p0), .val (.int p1), .val (.int p2), .val (.int p3), .val (.int (p0 &&& (7 : Int32))), .val (.int (own_pk ((p0.toUInt32 >>> ((3 : Int32) &&& 31).toUInt32).toInt32) p1)), .val (.int (own_pk ((p0.toUInt32 >>> ((4 : Int32) &&& 31).toUInt32).toInt32) p2)), .val (.int (own_pk ((p0.toUInt32 >>> ((5 : Int32) &&& 31).toUInt32).toInt32) p3)), .val (.ref b106), .val (.int (p0 &&& (7 : Int32))), .val (.ref o120), .val (.ref w_EN), .val .null] [])) t → Steps p.tables e below (s₁.setTop (entryFrame m #[(.int p0), (.int p1), (.int p2), (.int p3)] maxLocals)) t := fun t k => k142 t (by
                  show Steps p.tables e below (T141.setTop (mkF m 196 #[.val (.int p0), .val (.int p1), .val (.int p2), .val (.int p3), .val (.int (p0 &&& (7 : Int32))), .val (.int (own_pk ((p0.toUInt32 >>> ((3 : Int32) &&& 31).toUInt32).toInt32) p1)), .val (.int (own_pk ((p0.toUInt32 >>> ((4 : Int32) &&& 31).toUInt32).toInt32) p2)), .val (.int (own_pk ((p0.toUInt32 >>> ((5 : Int32) &&& 31).toUInt32).toInt32) p3)), .val (.ref b106), .val (.int (p0 &&& (7 : Int32))), .val (.ref o120), .unset, .unset] [(.ref w_EN)])) _
                  refine XS.goto X141.here hx rfl (pc0 := 196) (pc' := 200) rfl (hb hby at_196) (by decide) (by decide) ?_
                  show Steps p.tables e below (T141.setTop (mkF m 200 #[.val (.int p0), .val (.int p1), .val (.int p2), .val (.int p3), .val (.int (p0 &&& (7 : Int32))), .val (.int (own_pk ((p0.toUInt32 >>> ((3 : Int32) &&& 31).toUInt32).toInt32) p1)), .val (.int (own_pk ((p0.toUInt32 >>> ((4 : Int32) &&& 31).toUInt32).toInt32) p2)), .val (.int (own_pk ((p0.toUInt32 >>> ((5 : Int32) &&& 31).toUInt32).toInt32) p3)), .val (.ref b106), .val (.int (p0 &&& (7 : Int32))), .val (.ref o120), .unset, .unset] [(.ref w_EN)])) _
                  refine XS.astore X141.here hx rfl (hb hby at_200) rfl rfl (l' := #[.val (.int p0), .val (.int p1), .val (.int p2), .val (.int p3), .val (.int (p0 &&& (7 : Int32))), .val (.int (own_pk ((p0.toUInt32 >>> ((3 : Int32) &&& 31).toUInt32).toInt32) p1)), .val (.int (own_pk ((p0.toUInt32 >>> ((4 : Int32) &&& 31).toUInt32).toInt32) p2)), .val (.int (own_pk ((p0.toUInt32 >>> ((5 : Int32) &&& 31).toUInt32).toInt32) p3)), .val (.ref b106), .val (.int (p0 &&& (7 : Int32))), .val (.ref o120), .val (.ref w_EN), .unset]) rfl ?_
                  show Steps p.tables e below (T141.setTop (mkF m 202 #[.val (.int p0), .val (.int p1), .val (.int p2), .val (.int p3), .val (.int (p0 &&& (7 : Int32))), .val (.int (own_pk ((p0.toUInt32 >>> ((3 : Int32) &&& 31).toUInt32).toInt32) p1)), .val (.int (own_pk ((p0.toUInt32 >>> ((4 : Int32) &&& 31).toUInt32).toInt32) p2)), .val (.int (own_pk ((p0.toUInt32 >>> ((5 : Int32) &&& 31).toUInt32).toInt32) p3)), .val (.ref b106), .val (.int (p0 &&& (7 : Int32))), .val (.ref o120), .val (.ref w_EN), .unset] [])) _
                  refine XS.aconstNull X141.here hx rfl (hb hby at_202) ?_
                  show Steps p.tables e below (T141.setTop (mkF m 203 #[.val (.int p0), .val (.int p1), .val (.int p2), .val (.int p3), .val (.int (p0 &&& (7 : Int32))), .val (.int (own_pk ((p0.toUInt32 >>> ((3 : Int32) &&& 31).toUInt32).toInt32) p1)), .val (.int (own_pk ((p0.toUInt32 >>> ((4 : Int32) &&& 31).toUInt32).toInt32) p2)), .val (.int (own_pk ((p0.toUInt32 >>> ((5 : Int32) &&& 31).toUInt32).toInt32) p3)), .val (.ref b106), .val (.int (p0 &&& (7 : Int32))), .val (.ref o120), .val (.ref w_EN), .unset] [.null])) _
                  refine XS.astore X141.here hx rfl (hb hby at_203) rfl rfl (l' := #[.val (.int p0), .val (.int p1), .val (.int p2), .val (.int p3), .val (.int (p0 &&& (7 : Int32))), .val (.int (own_pk ((p0.toUInt32 >>> ((3 : Int32) &&& 31).toUInt32).toInt32) p1)), .val (.int (own_pk ((p0.toUInt32 >>> ((4 : Int32) &&& 31).toUInt32).toInt32) p2)), .val (.int (own_pk ((p0.toUInt32 >>> ((5 : Int32) &&& 31).toUInt32).toInt32) p3)), .val (.ref b106), .val (.int (p0 &&& (7 : Int32))), .val (.ref o120), .val (.ref w_EN), .val .null]) rfl ?_
                  show Steps p.tables e below (T141.setTop (mkF m 205 #[.val (.int p0), .val (.int p1), .val (.int p2), .val (.int p3), .val (.int (p0 &&& (7 : Int32))), .val (.int (own_pk ((p0.toUInt32 >>> ((3 : Int32) &&& 31).toUInt32).toInt32) p1)), .val (.int (own_pk ((p0.toUInt32 >>> ((4 : Int32) &&& 31).toUInt32).toInt32) p2)), .val (.int (own_pk ((p0.toUInt32 >>> ((5 : Int32) &&& 31).toUInt32).toInt32) p3)), .val (.ref b106), .val (.int (p0 &&& (7 : Int32))), .val (.ref o120), .val (.ref w_EN), .val .null] [])) _
                  refine XS.iload X141.here hx rfl (hb hby at_205) rfl ?_
                  show Steps p.tables e below (T141.setTop (mkF m 207 #[.val (.int p0), .val (.int p1), .val (.int p2), .val (.int p3), .val (.int (p0 &&& (7 : Int32))), .val (.int (own_pk ((p0.toUInt32 >>> ((3 : Int32) &&& 31).toUInt32).toInt32) p1)), .val (.int (own_pk ((p0.toUInt32 >>> ((4 : Int32) &&& 31).toUInt32).toInt32) p2)), .val (.int (own_pk ((p0.toUInt32 >>> ((5 : Int32) &&& 31).toUInt32).toInt32) p3)), .val (.ref b106), .val (.int (p0 &&& (7 : Int32))), .val (.ref o120), .val (.ref w_EN), .val .null] [(.int (p0 &&& (7 : Int32)))])) _
                  refine XS.iconst X141.here hx rfl (hb hby at_207) ?_
                  show Steps p.tables e below (T141.setTop (mkF m 208 #[.val (.int p0), .val (.int p1), .val (.int p2), .val (.int p3), .val (.int (p0 &&& (7 : Int32))), .val (.int (own_pk ((p0.toUInt32 >>> ((3 : Int32) &&& 31).toUInt32).toInt32) p1)), .val (.int (own_pk ((p0.toUInt32 >>> ((4 : Int32) &&& 31).toUInt32).toInt32) p2)), .val (.int (own_pk ((p0.toUInt32 >>> ((5 : Int32) &&& 31).toUInt32).toInt32) p3)), .val (.ref b106), .val (.int (p0 &&& (7 : Int32))), .val (.ref o120), .val (.ref w_EN), .val .null] [(.int (2 : Int32)), (.int (p0 &&& (7 : Int32)))])) _
                  refine XS.icmpNo X141.here hx rfl (hb hby at_208) rfl (teq hc208).2 ?_
                  show Steps p.tables e below (T141.setTop (mkF m 211 #[.val (.int p0), .val (.int p1), .val (.int p2), .val (.int p3), .val (.int (p0 &&& (7 : Int32))), .val (.int (own_pk ((p0.toUInt32 >>> ((3 : Int32) &&& 31).toUInt32).toInt32) p1)), .val (.int (own_pk ((p0.toUInt32 >>> ((4 : Int32) &&& 31).toUInt32).toInt32) p2)), .val (.int (own_pk ((p0.toUInt32 >>> ((5 : Int32) &&& 31).toUInt32).toInt32) p3)), .val (.ref b106), .val (.int (p0 &&& (7 : Int32))), .val (.ref o120), .val (.ref w_EN), .val .null] [])) _
                  refine XS.iload X141.here hx rfl (hb hby at_211) rfl ?_
                  show Steps p.tables e below (T141.setTop (mkF m 213 #[.val (.int p0), .val (.int p1), .val (.int p2), .val (.int p3), .val (.int (p0 &&& (7 : Int32))), .val (.int (own_pk ((p0.toUInt32 >>> ((3 : Int32) &&& 31).toUInt32).toInt32) p1)), .val (.int (own_pk ((p0.toUInt32 >>> ((4 : Int32) &&& 31).toUInt32).toInt32) p2)), .val (.int (own_pk ((p0.toUInt32 >>> ((5 : Int32) &&& 31).toUInt32).toInt32) p3)), .val (.ref b106), .val (.int (p0 &&& (7 : Int32))), .val (.ref o120), .val (.ref w_EN), .val .null] [(.int (own_pk ((p0.toUInt32 >>> ((3 : Int32) &&& 31).toUInt32).toInt32) p1))])) _
                  refine XS.bipush X141.here hx rfl (hb hby at_213) ?_
                  show Steps p.tables e below (T141.setTop (mkF m 215 #[.val (.int p0), .val (.int p1), .val (.int p2), .val (.int p3), .val (.int (p0 &&& (7 : Int32))), .val (.int (own_pk ((p0.toUInt32 >>> ((3 : Int32) &&& 31).toUInt32).toInt32) p1)), .val (.int (own_pk ((p0.toUInt32 >>> ((4 : Int32) &&& 31).toUInt32).toInt32) p2)), .val (.int (own_pk ((p0.toUInt32 >>> ((5 : Int32) &&& 31).toUInt32).toInt32) p3)), .val (.ref b106), .val (.int (p0 &&& (7 : Int32))), .val (.ref o120), .val (.ref w_EN), .val .null] [(.int (122 : Int32)), (.int (own_pk ((p0.toUInt32 >>> ((3 : Int32) &&& 31).toUInt32).toInt32) p1))])) _
                  refine XS.icmpYes X141.here hx rfl (pc0 := 215) (pc' := 233) rfl (hb hby at_215) rfl (feq hc215).2 (by decide) (by decide) ?_
                  show Steps p.tables e below (T141.setTop (mkF m 233 #[.val (.int p0), .val (.int p1), .val (.int p2), .val (.int p3), .val (.int (p0 &&& (7 : Int32))), .val (.int (own_pk ((p0.toUInt32 >>> ((3 : Int32) &&& 31).toUInt32).toInt32) p1)), .val (.int (own_pk ((p0.toUInt32 >>> ((4 : Int32) &&& 31).toUInt32).toInt32) p2)), .val (.int (own_pk ((p0.toUInt32 >>> ((5 : Int32) &&& 31).toUInt32).toInt32) p3)), .val (.ref b106), .val (.int (p0 &&& (7 : Int32))), .val (.ref o120), .val (.ref w_EN), .val .null] [])) _
                  refine XS.iload X141.here hx rfl (hb hby at_233) rfl ?_
                  show Steps p.tables e below (T141.setTop (mkF m 235 #[.val (.int p0), .val (.int p1), .val (.int p2), .val (.int p3), .val (.int (p0 &&& (7 : Int32))), .val (.int (own_pk ((p0.toUInt32 >>> ((3 : Int32) &&& 31).toUInt32).toInt32) p1)), .val (.int (own_pk ((p0.toUInt32 >>> ((4 : Int32) &&& 31).toUInt32).toInt32) p2)), .val (.int (own_pk ((p0.toUInt32 >>> ((5 : Int32) &&& 31).toUInt32).toInt32) p3)), .val (.ref b106), .val (.int (p0 &&& (7 : Int32))), .val (.ref o120), .val (.ref w_EN), .val .null] [(.int (p0 &&& (7 : Int32)))])) _
                  refine XS.iconst X141.here hx rfl (hb hby at_235) ?_
                  show Steps p.tables e below (T141.setTop (mkF m 236 #[.val (.int p0), .val (.int p1), .val (.int p2), .val (.int p3), .val (.int (p0 &&& (7 : Int32))), .val (.int (own_pk ((p0.toUInt32 >>> ((3 : Int32) &&& 31).toUInt32).toInt32) p1)), .val (.int (own_pk ((p0.toUInt32 >>> ((4 : Int32) &&& 31).toUInt32).toInt32) p2)), .val (.int (own_pk ((p0.toUInt32 >>> ((5 : Int32) &&& 31).toUInt32).toInt32) p3)), .val (.ref b106), .val (.int (p0 &&& (7 : Int32))), .val (.ref o120), .val (.ref w_EN), .val .null] [(.int (2 : Int32)), (.int (p0 &&& (7 : Int32)))])) _
                  refine XS.icmpNo X141.here hx rfl (hb hby at_236) rfl (teq hc236).2 ?_
                  show Steps p.tables e below (T141.setTop (mkF m 239 #[.val (.int p0), .val (.int p1), .val (.int p2), .val (.int p3), .val (.int (p0 &&& (7 : Int32))), .val (.int (own_pk ((p0.toUInt32 >>> ((3 : Int32) &&& 31).toUInt32).toInt32) p1)), .val (.int (own_pk ((p0.toUInt32 >>> ((4 : Int32) &&& 31).toUInt32).toInt32) p2)), .val (.int (own_pk ((p0.toUInt32 >>> ((5 : Int32) &&& 31).toUInt32).toInt32) p3)), .val (.ref b106), .val (.int (p0 &&& (7 : Int32))), .val (.ref o120), .val (.ref w_EN), .val .null] [])) _
                  refine XS.iload X141.here hx rfl (hb hby at_239) rfl ?_
                  show Steps p.tables e below (T141.setTop (mkF m 241 #[.val (.int p0), .val (.int p1), .val (.int p2), .val (.int p3), .val (.int (p0 &&& (7 : Int32))), .val (.int (own_pk ((p0.toUInt32 >>> ((3 : Int32) &&& 31).toUInt32).toInt32) p1)), .val (.int (own_pk ((p0.toUInt32 >>> ((4 : Int32) &&& 31).toUInt32).toInt32) p2)), .val (.int (own_pk ((p0.toUInt32 >>> ((5 : Int32) &&& 31).toUInt32).toInt32) p3)), .val (.ref b106), .val (.int (p0 &&& (7 : Int32))), .val (.ref o120), .val (.ref w_EN), .val .null] [(.int (own_pk ((p0.toUInt32 >>> ((3 : Int32) &&& 31).toUInt32).toInt32) p1))])) _
                  refine XS.bipush X141.here hx rfl (hb hby at_241) ?_
                  show Steps p.tables e below (T141.setTop (mkF m 243 #[.val (.int p0), .val (.int p1), .val (.int p2), .val (.int p3), .val (.int (p0 &&& (7 : Int32))), .val (.int (own_pk ((p0.toUInt32 >>> ((3 : Int32) &&& 31).toUInt32).toInt32) p1)), .val (.int (own_pk ((p0.toUInt32 >>> ((4 : Int32) &&& 31).toUInt32).toInt32) p2)), .val (.int (own_pk ((p0.toUInt32 >>> ((5 : Int32) &&& 31).toUInt32).toInt32) p3)), .val (.ref b106), .val (.int (p0 &&& (7 : Int32))), .val (.ref o120), .val (.ref w_EN), .val .null] [(.int (101 : Int32)), (.int (own_pk ((p0.toUInt32 >>> ((3 : Int32) &&& 31).toUInt32).toInt32) p1))])) _
                  refine XS.icmpNo X141.here hx rfl (hb hby at_243) rfl (teq hc243).2 ?_
                  show Steps p.tables e below (T141.setTop (mkF m 246 #[.val (.int p0), .val (.int p1), .val (.int p2), .val (.int p3), .val (.int (p0 &&& (7 : Int32))), .val (.int (own_pk ((p0.toUInt32 >>> ((3 : Int32) &&& 31).toUInt32).toInt32) p1)), .val (.int (own_pk ((p0.toUInt32 >>> ((4 : Int32) &&& 31).toUInt32).toInt32) p2)), .val (.int (own_pk ((p0.toUInt32 >>> ((5 : Int32) &&& 31).toUInt32).toInt32) p3)), .val (.ref b106), .val (.int (p0 &&& (7 : Int32))), .val (.ref o120), .val (.ref w_EN), .val .null] [])) _
                  refine XS.iload X141.here hx rfl (hb hby at_246) rfl ?_
                  show Steps p.tables e below (T141.setTop (mkF m 248 #[.val (.int p0), .val (.int p1), .val (.int p2), .val (.int p3), .val (.int (p0 &&& (7 : Int32))), .val (.int (own_pk ((p0.toUInt32 >>> ((3 : Int32) &&& 31).toUInt32).toInt32) p1)), .val (.int (own_pk ((p0.toUInt32 >>> ((4 : Int32) &&& 31).toUInt32).toInt32) p2)), .val (.int (own_pk ((p0.toUInt32 >>> ((5 : Int32) &&& 31).toUInt32).toInt32) p3)), .val (.ref b106), .val (.int (p0 &&& (7 : Int32))), .val (.ref o120), .val (.ref w_EN), .val .null] [(.int (own_pk ((p0.toUInt32 >>> ((4 : Int32) &&& 31).toUInt32).toInt32) p2))])) _
                  refine XS.bipush X141.here hx rfl (hb hby at_248) ?_
                  show Steps p.tables e below (T141.setTop (mkF m 250 #[.val (.int p0), .val (.int p1), .val (.int p2), .val (.int p3), .val (.int (p0 &&& (7 : Int32))), .val (.int (own_pk ((p0.toUInt32 >>> ((3 : Int32) &&& 31).toUInt32).toInt32) p1)), .val (.int (own_pk ((p0.toUInt32 >>> ((4 : Int32) &&& 31).toUInt32).toInt32) p2)), .val (.int (own_pk ((p0.toUInt32 >>> ((5 : Int32) &&& 31).toUInt32).toInt32) p3)), .val (.ref b106), .val (.int (p0 &&& (7 : Int32))), .val (.ref o120), .val (.ref w_EN), .val .null] [(.int (110 : Int32)), (.int (own_pk ((p0.toUInt32 >>> ((4 : Int32) &&& 31).toUInt32).toInt32) p2))])) _
                  refine XS.icmpNo X141.here hx rfl (hb hby at_250) rfl (teq hc250).2 ?_
                  exact k)
              obtain ⟨T144, X144, e144, st144⟩ := getS2 X141 hx hZ8 hown8 (host := "") (Or.inl (hw _ (List.mem_of_getElem? (i := 125) rfl))) Via.refl e141 (S_EN.ext od121.2) (g := (mkF m 253 #[.val (.int p0), .val (.int p1), .val (.int p2), .val (.int p3), .val (.int (p0 &&& (7 : Int32))), .val (.int (own_pk ((p0.toUInt32 >>> ((3 : Int32) &&& 31).toUInt32).toInt32) p1)), .val (.int (own_pk ((p0.toUInt32 >>> ((4 : Int32) &&& 31).toUInt32).toInt32) p2)), .val (.int (own_pk ((p0.toUInt32 >>> ((5 : Int32) &&& 31).toUInt32).toInt32) p3)), .val (.ref b106), .val (.int (p0 &&& (7 : Int32))), .val (.ref o120), .val (.ref w_EN), .val .null] [])) rfl (hb hby at_253)
              have k145 : ∀ t, Steps p.tables e below (T144.setTop (mkF m 256 #[.val (.int p0), .val (.int p1), .val (.int p2), .val (.int p3), .val (.int (p0 &&& (7 : Int32))), .val (.int (own_pk ((p0.toUInt32 >>> ((3 : Int32) &&& 31).toUInt32).toInt32) p1)), .val (.int (own_pk ((p0.toUInt32 >>> ((4 : Int32) &&& 31).toUInt32).toInt32) p2)), .val (.int (own_pk ((p0.toUInt32 >>> ((5 : Int32) &&& 31).toUInt32).toInt32) p3)), .val (.ref b106), .val (.int (p0 &&& (7 : Int32))), .val (.ref o120), .val (.ref w_EN), .val .null] [(.ref w_EN)])) t → Steps p.tables e below (s₁.setTop (entryFrame m #[(.int p0), (.int p1), (.int p2), (.int p3)] maxLocals)) t := fun t k => k143 t (st144 _ k)
              have k146 : ∀ t, Steps p.tables e below (T144.setTop (mkF m 270 #[.val (.int p0), .val (.int p1), .val (.int p2), .val (.int p3), .val (.int (p0 &&& (7 : Int32))), .val (.int (own_pk ((p0.toUInt32 >>> ((3 : Int32) &&& 31).toUInt32).toInt32) p1)), .val (.int (own_pk ((p0.toUInt32 >>> ((4 : Int32) &&& 31).toUInt32).toInt32) p2)), .val (.int (own_pk ((p0.toUInt32 >>> ((5 : Int32) &&& 31).toUInt32).toInt32) p3)), .val (.ref b106), .val (.int (p0 &&& (7 : Int32))), .val (.ref o120), .val (.ref w_EN), .val (.ref w_EN)] [(.int (1 : Int32))])) t → Steps p.tables e below (s₁.setTop (entryFrame m #[(.int p0), (.int p1), (.int p2), (.int p3)] maxLocals)) t := fun t k => k145 t (by
                  show Steps p.tables e below (T144.setTop (mkF m 256 #[.val (.int p0), .val (.int p1), .val (.int p2), .val (.int p3), .val (.int (p0 &&& (7 : Int32))), .val (.int (own_pk ((p0.toUInt32 >>> ((3 : Int32) &&& 31).toUInt32).toInt32) p1)), .val (.int (own_pk ((p0.toUInt32 >>> ((4 : Int32) &&& 31).toUInt32).toInt32) p2)), .val (.int (own_pk ((p0.toUInt32 >>> ((5 : Int32) &&& 31).toUInt32).toInt32) p3)), .val (.ref b106), .val (.int (p0 &&& (7 : Int32))), .val (.ref o120), .val (.ref w_EN), .val .null] [(.ref w_EN)])) _
                  refine XS.astore X144.here hx rfl (hb hby at_256) rfl rfl (l' := #[.val (.int p0), .val (.int p1), .val (.int p2), .val (.int p3), .val (.int (p0 &&& (7 : Int32))), .val (.int (own_pk ((p0.toUInt32 >>> ((3 : Int32) &&& 31).toUInt32).toInt32) p1)), .val (.int (own_pk ((p0.toUInt32 >>> ((4 : Int32) &&& 31).toUInt32).toInt32) p2)), .val (.int (own_pk ((p0.toUInt32 >>> ((5 : Int32) &&& 31).toUInt32).toInt32) p3)), .val (.ref b106), .val (.int (p0 &&& (7 : Int32))), .val (.ref o120), .val (.ref w_EN), .val (.ref w_EN)]) rfl ?_
                  show Steps p.tables e below (T144.setTop (mkF m 258 #[.val (.int p0), .val (.int p1), .val (.int p2), .val (.int p3), .val (.int (p0 &&& (7 : Int32))), .val (.int (own_pk ((p0.toUInt32 >>> ((3 : Int32) &&& 31).toUInt32).toInt32) p1)), .val (.int (own_pk ((p0.toUInt32 >>> ((4 : Int32) &&& 31).toUInt32).toInt32) p2)), .val (.int (own_pk ((p0.toUInt32 >>> ((5 : Int32) &&& 31).toUInt32).toInt32) p3)), .val (.ref b106), .val (.int (p0 &&& (7 : Int32))), .val (.ref o120), .val (.ref w_EN), .val (.ref w_EN)] [])) _
                  refine XS.aload X144.here hx rfl (hb hby at_258) rfl rfl ?_
                  show Steps p.tables e below (T144.setTop (mkF m 260 #[.val (.int p0), .val (.int p1), .val (.int p2), .val (.int p3), .val (.int (p0 &&& (7 : Int32))), .val (.int (own_pk ((p0.toUInt32 >>> ((3 : Int32) &&& 31).toUInt32).toInt32) p1)), .val (.int (own_pk ((p0.toUInt32 >>> ((4 : Int32) &&& 31).toUInt32).toInt32) p2)), .val (.int (own_pk ((p0.toUInt32 >>> ((5 : Int32) &&& 31).toUInt32).toInt32) p3)), .val (.ref b106), .val (.int (p0 &&& (7 : Int32))), .val (.ref o120), .val (.ref w_EN), .val (.ref w_EN)] [(.ref w_EN)])) _
                  refine XS.aload X144.here hx rfl (hb hby at_260) rfl rfl ?_
                  show Steps p.tables e below (T144.setTop (mkF m 262 #[.val (.int p0), .val (.int p1), .val (.int p2), .val (.int p3), .val (.int (p0 &&& (7 : Int32))), .val (.int (own_pk ((p0.toUInt32 >>> ((3 : Int32) &&& 31).toUInt32).toInt32) p1)), .val (.int (own_pk ((p0.toUInt32 >>> ((4 : Int32) &&& 31).toUInt32).toInt32) p2)), .val (.int (own_pk ((p0.toUInt32 >>> ((5 : Int32) &&& 31).toUInt32).toInt32) p3)), .val (.ref b106), .val (.int (p0 &&& (7 : Int32))), .val (.ref o120), .val (.ref w_EN), .val (.ref w_EN)] [(.ref w_EN), (.ref w_EN)])) _
                  refine Jvm.RoadKit.acmp (g := (mkF m 262 #[.val (.int p0), .val (.int p1), .val (.int p2), .val (.int p3), .val (.int (p0 &&& (7 : Int32))), .val (.int (own_pk ((p0.toUInt32 >>> ((3 : Int32) &&& 31).toUInt32).toInt32) p1)), .val (.int (own_pk ((p0.toUInt32 >>> ((4 : Int32) &&& 31).toUInt32).toInt32) p2)), .val (.int (own_pk ((p0.toUInt32 >>> ((5 : Int32) &&& 31).toUInt32).toInt32) p3)), .val (.ref b106), .val (.int (p0 &&& (7 : Int32))), .val (.ref o120), .val (.ref w_EN), .val (.ref w_EN)] [(.ref w_EN), (.ref w_EN)])) X144 hx rfl rfl rfl (pc0 := 262) (pc' := 265) (same := true) rfl (hb hby at_262) rfl (decide_eq_true rfl) (by decide) (by decide) ?_
                  show Steps p.tables e below (T144.setTop (mkF m 265 #[.val (.int p0), .val (.int p1), .val (.int p2), .val (.int p3), .val (.int (p0 &&& (7 : Int32))), .val (.int (own_pk ((p0.toUInt32 >>> ((3 : Int32) &&& 31).toUInt32).toInt32) p1)), .val (.int (own_pk ((p0.toUInt32 >>> ((4 : Int32) &&& 31).toUInt32).toInt32) p2)), .val (.int (own_pk ((p0.toUInt32 >>> ((5 : Int32) &&& 31).toUInt32).toInt32) p3)), .val (.ref b106), .val (.int (p0 &&& (7 : Int32))), .val (.ref o120), .val (.ref w_EN), .val (.ref w_EN)] [])) _
                  refine XS.iconst X144.here hx rfl (hb hby at_265) ?_
                  show Steps p.tables e below (T144.setTop (mkF m 266 #[.val (.int p0), .val (.int p1), .val (.int p2), .val (.int p3), .val (.int (p0 &&& (7 : Int32))), .val (.int (own_pk ((p0.toUInt32 >>> ((3 : Int32) &&& 31).toUInt32).toInt32) p1)), .val (.int (own_pk ((p0.toUInt32 >>> ((4 : Int32) &&& 31).toUInt32).toInt32) p2)), .val (.int (own_pk ((p0.toUInt32 >>> ((5 : Int32) &&& 31).toUInt32).toInt32) p3)), .val (.ref b106), .val (.int (p0 &&& (7 : Int32))), .val (.ref o120), .val (.ref w_EN), .val (.ref w_EN)] [(.int (1 : Int32))])) _
                  refine XS.goto X144.here hx rfl (pc0 := 266) (pc' := 270) rfl (hb hby at_266) (by decide) (by decide) ?_
                  exact k)
              obtain ⟨fs, hr, hrun, hended, w1, w2, w3, w4⟩ := X144.leaveW (s := s) (vm₁ := T8.vm) Sn8 (by rw [e144]; exact (Nat.le_trans (Nat.le_trans (Nat.le_trans (Nat.le_trans (Nat.le_trans (Nat.le_trans (Nat.le_refl _) E106.1) E109.1) (Keep.of_wr W112).1) (Keep.of_wr W115).1) K117.1) K120.1)) (v := (some (.int (1 : Int32)))) (fun h => by rw [Bd.returns] at h; cases h)
              refine ⟨_, _, k146 _ ?_, hrun, hended, _, _, rfl, ?_, w1, w2, w3, w4.mono (by decide) (by decide)⟩
              · exact retN X144 hx (t := .boolean) Bd.returns (by simp) (hb hby at_270) hr
              · show Q0 Z p0 p1 p2 p3 wv cl w_ZH w_EN c_ZH t_ZH c_EN t_EN k_ZH k_EN w_EMPTY G1 G3 h0 n0 _ T144.heap _
                rw [e144]
                exact ⟨rfl, N139⟩
            · have k147 : ∀ t, Steps p.tables e below (T120.setTop (mkF m 182 #[.val (.int p0), .val (.int p1), .val (.int p2), .val (.int p3), .val (.int (p0 &&& (7 : Int32))), .val (.int (own_pk ((p0.toUInt32 >>> ((3 : Int32) &&& 31).toUInt32).toInt32) p1)), .val (.int (own_pk ((p0.toUInt32 >>> ((4 : Int32) &&& 31).toUInt32).toInt32) p2)), .val (.int (own_pk ((p0.toUInt32 >>> ((5 : Int32) &&& 31).toUInt32).toInt32) p3)), .val (.ref b106), .val (.int (p0 &&& (7 : Int32))), .val (.ref o120), .unset, .unset] [(.ref o120)])) t → Steps p.tables e below (s₁.setTop (entryFrame m #[(.int p0), (.int p1), (.int p2), (.int p3)] maxLocals)) t := fun t k => k122 t (by
                  show Steps p.tables e below (T120.setTop (mkF m 171 #[.val (.int p0), .val (.int p1), .val (.int p2), .val (.int p3), .val (.int (p0 &&& (7 : Int32))), .val (.int (own_pk ((p0.toUInt32 >>> ((3 : Int32) &&& 31).toUInt32).toInt32) p1)), .val (.int (own_pk ((p0.toUInt32 >>> ((4 : Int32) &&& 31).toUInt32).toInt32) p2)), .val (.int (own_pk ((p0.toUInt32 >>> ((5 : Int32) &&& 31).toUInt32).toInt32) p3)), .val (.ref b106), .val (.int (p0 &&& (7 : Int32))), .unset, .unset, .unset] [(.ref o120)])) _
                  refine XS.astore X120.here hx rfl (hb hby at_171) rfl rfl (l' := #[.val (.int p0), .val (.int p1), .val (.int p2), .val (.int p3), .val (.int (p0 &&& (7 : Int32))), .val (.int (own_pk ((p0.toUInt32 >>> ((3 : Int32) &&& 31).toUInt32).toInt32) p1)), .val (.int (own_pk ((p0.toUInt32 >>> ((4 : Int32) &&& 31).toUInt32).toInt32) p2)), .val (.int (own_pk ((p0.toUInt32 >>> ((5 : Int32) &&& 31).toUInt32).toInt32) p3)), .val (.ref b106), .val (.int (p0 &&& (7 : Int32))), .val (.ref o120), .unset, .unset]) rfl ?_
                  show Steps p.tables e below (T120.setTop (mkF m 173 #[.val (.int p0), .val (.int p1), .val (.int p2), .val (.int p3), .val (.int (p0 &&& (7 : Int32))), .val (.int (own_pk ((p0.toUInt32 >>> ((3 : Int32) &&& 31).toUInt32).toInt32) p1)), .val (.int (own_pk ((p0.toUInt32 >>> ((4 : Int32) &&& 31).toUInt32).toInt32) p2)), .val (.int (own_pk ((p0.toUInt32 >>> ((5 : Int32) &&& 31).toUInt32).toInt32) p3)), .val (.ref b106), .val (.int (p0 &&& (7 : Int32))), .val (.ref o120), .unset, .unset] [])) _
                  refine XS.aload X120.here hx rfl (hb hby at_173) rfl rfl ?_
                  show Steps p.tables e below (T120.setTop (mkF m 175 #[.val (.int p0), .val (.int p1), .val (.int p2), .val (.int p3), .val (.int (p0 &&& (7 : Int32))), .val (.int (own_pk ((p0.toUInt32 >>> ((3 : Int32) &&& 31).toUInt32).toInt32) p1)), .val (.int (own_pk ((p0.toUInt32 >>> ((4 : Int32) &&& 31).toUInt32).toInt32) p2)), .val (.int (own_pk ((p0.toUInt32 >>> ((5 : Int32) &&& 31).toUInt32).toInt32) p3)), .val (.ref b106), .val (.int (p0 &&& (7 : Int32))), .val (.ref o120), .unset, .unset] [(.ref o120)])) _
                  refine XS.ifnonnullYes X120.here hx rfl (pc0 := 175) (pc' := 180) rfl (hb hby at_175) rfl (by decide) (by decide) ?_
                  show Steps p.tables e below (T120.setTop (mkF m 180 #[.val (.int p0), .val (.int p1), .val (.int p2), .val (.int p3), .val (.int (p0 &&& (7 : Int32))), .val (.int (own_pk ((p0.toUInt32 >>> ((3 : Int32) &&& 31).toUInt32).toInt32) p1)), .val (.int (own_pk ((p0.toUInt32 >>> ((4 : Int32) &&& 31).toUInt32).toInt32) p2)), .val (.int (own_pk ((p0.toUInt32 >>> ((5 : Int32) &&& 31).toUInt32).toInt32) p3)), .val (.ref b106), .val (.int (p0 &&& (7 : Int32))), .val (.ref o120), .unset, .unset] [])) _
                  refine XS.aload X120.here hx rfl (hb hby at_180) rfl rfl ?_
                  exact k)
              obtain ⟨cq148, kcq148, q148a, q148b, q148c⟩ := isOf hZ8 rfl Ex120
              obtain ⟨_, _, ⟨T148, L148, kq148, n148⟩, -, X148, ⟨Lc148, hQ148, l148, y148, z148⟩, st148⟩ := X120.virtualBack hx (y := (⟨"java/util/Optional", "isPresent", "()Z"⟩ : MethodName)) (z := (⟨"java/util/Optional", "isPresent", "()Z"⟩ : MethodName)) hown8 (mvT hZ8 (hw _ (List.mem_of_getElem? (i := 65) rfl))) (mvT hZ8 (hw _ (List.mem_of_getElem? (i := 66) rfl))) (notFace_of_selects (args := #[]) (mvT hZ8 (hw _ (List.mem_of_getElem? (i := 68) rfl)))) (mvT hZ8 (hw _ (List.mem_of_getElem? (i := 68) rfl))) (mvT hZ8 (hw _ (List.mem_of_getElem? (i := 67) rfl))) (by decide) (backOf (W := 0) (rm10n l Z a0 hw [] o120 T120.heap n0 Zs120 Fx120) hZ8 (hw _ (List.mem_of_getElem? (i := 69) rfl)) (hw _ (List.mem_of_getElem? (i := 62) rfl)) (by decide) (by decide)) q148a q148c (g := (mkF m 182 #[.val (.int p0), .val (.int p1), .val (.int p2), .val (.int p3), .val (.int (p0 &&& (7 : Int32))), .val (.int (own_pk ((p0.toUInt32 >>> ((3 : Int32) &&& 31).toUInt32).toInt32) p1)), .val (.int (own_pk ((p0.toUInt32 >>> ((4 : Int32) &&& 31).toUInt32).toInt32) p2)), .val (.int (own_pk ((p0.toUInt32 >>> ((5 : Int32) &&& 31).toUInt32).toInt32) p3)), .val (.ref b106), .val (.int (p0 &&& (7 : Int32))), .val (.ref o120), .unset, .unset] [(.ref o120)])) rfl (by rw [hml]; rfl) (Steps.refl _) (argsL := []) (rest := []) (lenOf pd_10 rfl) rfl (by show 2 * 0 + _ ≤ _; exact Nat.le_of_eq rfl) (hb hby at_182) (fun _ _ => ⟨rfl, rfl, (by decide : 11 + 0 ≤ _), (by decide : 71 + 0 ≤ _)⟩)
              dsimp only [Pt.U, Pt.locs, Pt.cells, Pt.slots] at X148 l148 y148 z148 st148 hQ148
              subst l148 y148 z148
              obtain ⟨rfl, N148q, e148⟩ := hQ148
              have N148 := Fr.app N120 N148q
              have k149 : ∀ t, Steps p.tables e below (T148.setTop (mkF m 185 #[.val (.int p0), .val (.int p1), .val (.int p2), .val (.int p3), .val (.int (p0 &&& (7 : Int32))), .val (.int (own_pk ((p0.toUInt32 >>> ((3 : Int32) &&& 31).toUInt32).toInt32) p1)), .val (.int (own_pk ((p0.toUInt32 >>> ((4 : Int32) &&& 31).toUInt32).toInt32) p2)), .val (.int (own_pk ((p0.toUInt32 >>> ((5 : Int32) &&& 31).toUInt32).toInt32) p3)), .val (.ref b106), .val (.int (p0 &&& (7 : Int32))), .val (.ref o120), .unset, .unset] [(.int (0 : Int32))])) t → Steps p.tables e below (s₁.setTop (entryFrame m #[(.int p0), (.int p1), (.int p2), (.int p3)] maxLocals)) t := fun t k => k147 t (st148.trans k)
              have hc185 : (0 : Int32) = (0 : Int32) := by decide
              have hc208 : (p0 &&& (7 : Int32)) = (2 : Int32) := hc111
              have k150 : ∀ t, Steps p.tables e below (T148.setTop (mkF m 215 #[.val (.int p0), .val (.int p1), .val (.int p2), .val (.int p3), .val (.int (p0 &&& (7 : Int32))), .val (.int (own_pk ((p0.toUInt32 >>> ((3 : Int32) &&& 31).toUInt32).toInt32) p1)), .val (.int (own_pk ((p0.toUInt32 >>> ((4 : Int32) &&& 31).toUInt32).toInt32) p2)), .val (.int (own_pk ((p0.toUInt32 >>> ((5 : Int32) &&& 31).toUInt32).toInt32) p3)), .val (.ref b106), .val (.int (p0 &&& (7 : Int32))), .val (.ref o120), .val .null, .val .null] [(.int (122 : Int32)), (.int (own_pk ((p0.toUInt32 >>> ((3 : Int32) &&& 31).toUInt32).toInt32) p1))])) t → Steps p.tables e below (s₁.setTop (entryFrame m #[(.int p0), (.int p1), (.int p2), (.int p3)] maxLocals)) t := fun t k => k149 t (by
                  show Steps p.tables e below (T148.setTop (mkF m 185 #[.val (.int p0), .val (.int p1), .val (.int p2), .val (.int p3), .val (.int (p0 &&& (7 : Int32))), .val (.int (own_pk ((p0.toUInt32 >>> ((3 : Int32) &&& 31).toUInt32).toInt32) p1)), .val (.int (own_pk ((p0.toUInt32 >>> ((4 : Int32) &&& 31).toUInt32).toInt32) p2)), .val (.int (own_pk ((p0.toUInt32 >>> ((5 : Int32) &&& 31).toUInt32).toInt32) p3)), .val (.ref b106), .val (.int (p0 &&& (7 : Int32))), .val (.ref o120), .unset, .unset] [(.int (0 : Int32))])) _
                  refine XS.ifYes X148.here hx rfl (pc0 := 185) (pc' := 199) rfl (hb hby at_185) rfl ((if0 _ _).trans (teq hc185).1) (by decide) (by decide) ?_
                  show Steps p.tables e below (T148.setTop (mkF m 199 #[.val (.int p0), .val (.int p1), .val (.int p2), .val (.int p3), .val (.int (p0 &&& (7 : Int32))), .val (.int (own_pk ((p0.toUInt32 >>> ((3 : Int32) &&& 31).toUInt32).toInt32) p1)), .val (.int (own_pk ((p0.toUInt32 >>> ((4 : Int32) &&& 31).toUInt32).toInt32) p2)), .val (.int (own_pk ((p0.toUInt32 >>> ((5 : Int32) &&& 31).toUInt32).toInt32) p3)), .val (.ref b106), .val (.int (p0 &&& (7 : Int32))), .val (.ref o120), .unset, .unset] [])) _
                  refine XS.aconstNull X148.here hx rfl (hb hby at_199) ?_
                  show Steps p.tables e below (T148.setTop (mkF m 200 #[.val (.int p0), .val (.int p1), .val (.int p2), .val (.int p3), .val (.int (p0 &&& (7 : Int32))), .val (.int (own_pk ((p0.toUInt32 >>> ((3 : Int32) &&& 31).toUInt32).toInt32) p1)), .val (.int (own_pk ((p0.toUInt32 >>> ((4 : Int32) &&& 31).toUInt32).toInt32) p2)), .val (.int (own_pk ((p0.toUInt32 >>> ((5 : Int32) &&& 31).toUInt32).toInt32) p3)), .val (.ref b106), .val (.int (p0 &&& (7 : Int32))), .val (.ref o120), .unset, .unset] [.null])) _
                  refine XS.astore X148.here hx rfl (hb hby at_200) rfl rfl (l' := #[.val (.int p0), .val (.int p1), .val (.int p2), .val (.int p3), .val (.int (p0 &&& (7 : Int32))), .val (.int (own_pk ((p0.toUInt32 >>> ((3 : Int32) &&& 31).toUInt32).toInt32) p1)), .val (.int (own_pk ((p0.toUInt32 >>> ((4 : Int32) &&& 31).toUInt32).toInt32) p2)), .val (.int (own_pk ((p0.toUInt32 >>> ((5 : Int32) &&& 31).toUInt32).toInt32) p3)), .val (.ref b106), .val (.int (p0 &&& (7 : Int32))), .val (.ref o120), .val .null, .unset]) rfl ?_
                  show Steps p.tables e below (T148.setTop (mkF m 202 #[.val (.int p0), .val (.int p1), .val (.int p2), .val (.int p3), .val (.int (p0 &&& (7 : Int32))), .val (.int (own_pk ((p0.toUInt32 >>> ((3 : Int32) &&& 31).toUInt32).toInt32) p1)), .val (.int (own_pk ((p0.toUInt32 >>> ((4 : Int32) &&& 31).toUInt32).toInt32) p2)), .val (.int (own_pk ((p0.toUInt32 >>> ((5 : Int32) &&& 31).toUInt32).toInt32) p3)), .val (.ref b106), .val (.int (p0 &&& (7 : Int32))), .val (.ref o120), .val .null, .unset] [])) _
                  refine XS.aconstNull X148.here hx rfl (hb hby at_202) ?_
                  show Steps p.tables e below (T148.setTop (mkF m 203 #[.val (.int p0), .val (.int p1), .val (.int p2), .val (.int p3), .val (.int (p0 &&& (7 : Int32))), .val (.int (own_pk ((p0.toUInt32 >>> ((3 : Int32) &&& 31).toUInt32).toInt32) p1)), .val (.int (own_pk ((p0.toUInt32 >>> ((4 : Int32) &&& 31).toUInt32).toInt32) p2)), .val (.int (own_pk ((p0.toUInt32 >>> ((5 : Int32) &&& 31).toUInt32).toInt32) p3)), .val (.ref b106), .val (.int (p0 &&& (7 : Int32))), .val (.ref o120), .val .null, .unset] [.null])) _
                  refine XS.astore X148.here hx rfl (hb hby at_203) rfl rfl (l' := #[.val (.int p0), .val (.int p1), .val (.int p2), .val (.int p3), .val (.int (p0 &&& (7 : Int32))), .val (.int (own_pk ((p0.toUInt32 >>> ((3 : Int32) &&& 31).toUInt32).toInt32) p1)), .val (.int (own_pk ((p0.toUInt32 >>> ((4 : Int32) &&& 31).toUInt32).toInt32) p2)), .val (.int (own_pk ((p0.toUInt32 >>> ((5 : Int32) &&& 31).toUInt32).toInt32) p3)), .val (.ref b106), .val (.int (p0 &&& (7 : Int32))), .val (.ref o120), .val .null, .val .null]) rfl ?_
                  show Steps p.tables e below (T148.setTop (mkF m 205 #[.val (.int p0), .val (.int p1), .val (.int p2), .val (.int p3), .val (.int (p0 &&& (7 : Int32))), .val (.int (own_pk ((p0.toUInt32 >>> ((3 : Int32) &&& 31).toUInt32).toInt32) p1)), .val (.int (own_pk ((p0.toUInt32 >>> ((4 : Int32) &&& 31).toUInt32).toInt32) p2)), .val (.int (own_pk ((p0.toUInt32 >>> ((5 : Int32) &&& 31).toUInt32).toInt32) p3)), .val (.ref b106), .val (.int (p0 &&& (7 : Int32))), .val (.ref o120), .val .null, .val .null] [])) _
                  refine XS.iload X148.here hx rfl (hb hby at_205) rfl ?_
                  show Steps p.tables e below (T148.setTop (mkF m 207 #[.val (.int p0), .val (.int p1), .val (.int p2), .val (.int p3), .val (.int (p0 &&& (7 : Int32))), .val (.int (own_pk ((p0.toUInt32 >>> ((3 : Int32) &&& 31).toUInt32).toInt32) p1)), .val (.int (own_pk ((p0.toUInt32 >>> ((4 : Int32) &&& 31).toUInt32).toInt32) p2)), .val (.int (own_pk ((p0.toUInt32 >>> ((5 : Int32) &&& 31).toUInt32).toInt32) p3)), .val (.ref b106), .val (.int (p0 &&& (7 : Int32))), .val (.ref o120), .val .null, .val .null] [(.int (p0 &&& (7 : Int32)))])) _
                  refine XS.iconst X148.here hx rfl (hb hby at_207) ?_
                  show Steps p.tables e below (T148.setTop (mkF m 208 #[.val (.int p0), .val (.int p1), .val (.int p2), .val (.int p3), .val (.int (p0 &&& (7 : Int32))), .val (.int (own_pk ((p0.toUInt32 >>> ((3 : Int32) &&& 31).toUInt32).toInt32) p1)), .val (.int (own_pk ((p0.toUInt32 >>> ((4 : Int32) &&& 31).toUInt32).toInt32) p2)), .val (.int (own_pk ((p0.toUInt32 >>> ((5 : Int32) &&& 31).toUInt32).toInt32) p3)), .val (.ref b106), .val (.int (p0 &&& (7 : Int32))), .val (.ref o120), .val .null, .val .null] [(.int (2 : Int32)), (.int (p0 &&& (7 : Int32)))])) _
                  refine XS.icmpNo X148.here hx rfl (hb hby at_208) rfl (teq hc208).2 ?_
                  show Steps p.tables e below (T148.setTop (mkF m 211 #[.val (.int p0), .val (.int p1), .val (.int p2), .val (.int p3), .val (.int (p0 &&& (7 : Int32))), .val (.int (own_pk ((p0.toUInt32 >>> ((3 : Int32) &&& 31).toUInt32).toInt32) p1)), .val (.int (own_pk ((p0.toUInt32 >>> ((4 : Int32) &&& 31).toUInt32).toInt32) p2)), .val (.int (own_pk ((p0.toUInt32 >>> ((5 : Int32) &&& 31).toUInt32).toInt32) p3)), .val (.ref b106), .val (.int (p0 &&& (7 : Int32))), .val (.ref o120), .val .null, .val .null] [])) _
                  refine XS.iload X148.here hx rfl (hb hby at_211) rfl ?_
                  show Steps p.tables e below (T148.setTop (mkF m 213 #[.val (.int p0), .val (.int p1), .val (.int p2), .val (.int p3), .val (.int (p0 &&& (7 : Int32))), .val (.int (own_pk ((p0.toUInt32 >>> ((3 : Int32) &&& 31).toUInt32).toInt32) p1)), .val (.int (own_pk ((p0.toUInt32 >>> ((4 : Int32) &&& 31).toUInt32).toInt32) p2)), .val (.int (own_pk ((p0.toUInt32 >>> ((5 : Int32) &&& 31).toUInt32).toInt32) p3)), .val (.ref b106), .val (.int (p0 &&& (7 : Int32))), .val (.ref o120), .val .null, .val .null] [(.int (own_pk ((p0.toUInt32 >>> ((3 : Int32) &&& 31).toUInt32).toInt32) p1))])) _
                  refine XS.bipush X148.here hx rfl (hb hby at_213) ?_
                  exact k)
              by_cases hc215 : (own_pk ((p0.toUInt32 >>> ((3 : Int32) &&& 31).toUInt32).toInt32) p1) = (122 : Int32)
              · have hc222 : ¬ ((own_pk ((p0.toUInt32 >>> ((4 : Int32) &&& 31).toUInt32).toInt32) p2) = (104 : Int32)) := fun q => hz (by rw [own_pk_n, own_pk_n, hc215, q])
                have hc236 : (p0 &&& (7 : Int32)) = (2 : Int32) := hc111
                have hc243 : ¬ ((own_pk ((p0.toUInt32 >>> ((3 : Int32) &&& 31).toUInt32).toInt32) p1) = (101 : Int32)) := (by rw [hc215]; decide)
                have k151 : ∀ t, Steps p.tables e below (T148.setTop (mkF m 270 #[.val (.int p0), .val (.int p1), .val (.int p2), .val (.int p3), .val (.int (p0 &&& (7 : Int32))), .val (.int (own_pk ((p0.toUInt32 >>> ((3 : Int32) &&& 31).toUInt32).toInt32) p1)), .val (.int (own_pk ((p0.toUInt32 >>> ((4 : Int32) &&& 31).toUInt32).toInt32) p2)), .val (.int (own_pk ((p0.toUInt32 >>> ((5 : Int32) &&& 31).toUInt32).toInt32) p3)), .val (.ref b106), .val (.int (p0 &&& (7 : Int32))), .val (.ref o120), .val .null, .val .null] [(.int (1 : Int32))])) t → Steps p.tables e below (s₁.setTop (entryFrame m #[(.int p0), (.int p1), (.int p2), (.int p3)] maxLocals)) t := fun t k => k150 t (by
                    show Steps p.tables e below (T148.setTop (mkF m 215 #[.val (.int p0), .val (.int p1), .val (.int p2), .val (.int p3), .val (.int (p0 &&& (7 : Int32))), .val (.int (own_pk ((p0.toUInt32 >>> ((3 : Int32) &&& 31).toUInt32).toInt32) p1)), .val (.int (own_pk ((p0.toUInt32 >>> ((4 : Int32) &&& 31).toUInt32).toInt32) p2)), .val (.int (own_pk ((p0.toUInt32 >>> ((5 : Int32) &&& 31).toUInt32).toInt32) p3)), .val (.ref b106), .val (.int (p0 &&& (7 : Int32))), .val (.ref o120), .val .null, .val .null] [(.int (122 : Int32)), (.int (own_pk ((p0.toUInt32 >>> ((3 : Int32) &&& 31).toUInt32).toInt32) p1))])) _
                    refine XS.icmpNo X148.here hx rfl (hb hby at_215) rfl (teq hc215).2 ?_
                    show Steps p.tables e below (T148.setTop (mkF m 218 #[.val (.int p0), .val (.int p1), .val (.int p2), .val (.int p3), .val (.int (p0 &&& (7 : Int32))), .val (.int (own_pk ((p0.toUInt32 >>> ((3 : Int32) &&& 31).toUInt32).toInt32) p1)), .val (.int (own_pk ((p0.toUInt32 >>> ((4 : Int32) &&& 31).toUInt32).toInt32) p2)), .val (.int (own_pk ((p0.toUInt32 >>> ((5 : Int32) &&& 31).toUInt32).toInt32) p3)), .val (.ref b106), .val (.int (p0 &&& (7 : Int32))), .val (.ref o120), .val .null, .val .null] [])) _
                    refine XS.iload X148.here hx rfl (hb hby at_218) rfl ?_
                    show Steps p.tables e below (T148.setTop (mkF m 220 #[.val (.int p0), .val (.int p1), .val (.int p2), .val (.int p3), .val (.int (p0 &&& (7 : Int32))), .val (.int (own_pk ((p0.toUInt32 >>> ((3 : Int32) &&& 31).toUInt32).toInt32) p1)), .val (.int (own_pk ((p0.toUInt32 >>> ((4 : Int32) &&& 31).toUInt32).toInt32) p2)), .val (.int (own_pk ((p0.toUInt32 >>> ((5 : Int32) &&& 31).toUInt32).toInt32) p3)), .val (.ref b106), .val (.int (p0 &&& (7 : Int32))), .val (.ref o120), .val .null, .val .null] [(.int (own_pk ((p0.toUInt32 >>> ((4 : Int32) &&& 31).toUInt32).toInt32) p2))])) _
                    refine XS.bipush X148.here hx rfl (hb hby at_220) ?_
                    show Steps p.tables e below (T148.setTop (mkF m 222 #[.val (.int p0), .val (.int p1), .val (.int p2), .val (.int p3), .val (.int (p0 &&& (7 : Int32))), .val (.int (own_pk ((p0.toUInt32 >>> ((3 : Int32) &&& 31).toUInt32).toInt32) p1)), .val (.int (own_pk ((p0.toUInt32 >>> ((4 : Int32) &&& 31).toUInt32).toInt32) p2)), .val (.int (own_pk ((p0.toUInt32 >>> ((5 : Int32) &&& 31).toUInt32).toInt32) p3)), .val (.ref b106), .val (.int (p0 &&& (7 : Int32))), .val (.ref o120), .val .null, .val .null] [(.int (104 : Int32)), (.int (own_pk ((p0.toUInt32 >>> ((4 : Int32) &&& 31).toUInt32).toInt32) p2))])) _
                    refine XS.icmpYes X148.here hx rfl (pc0 := 222) (pc' := 233) rfl (hb hby at_222) rfl (feq hc222).2 (by decide) (by decide) ?_
                    show Steps p.tables e below (T148.setTop (mkF m 233 #[.val (.int p0), .val (.int p1), .val (.int p2), .val (.int p3), .val (.int (p0 &&& (7 : Int32))), .val (.int (own_pk ((p0.toUInt32 >>> ((3 : Int32) &&& 31).toUInt32).toInt32) p1)), .val (.int (own_pk ((p0.toUInt32 >>> ((4 : Int32) &&& 31).toUInt32).toInt32) p2)), .val (.int (own_pk ((p0.toUInt32 >>> ((5 : Int32) &&& 31).toUInt32).toInt32) p3)), .val (.ref b106), .val (.int (p0 &&& (7 : Int32))), .val (.ref o120), .val .null, .val .null] [])) _
                    refine XS.iload X148.here hx rfl (hb hby at_233) rfl ?_
                    show Steps p.tables e below (T148.setTop (mkF m 235 #[.val (.int p0), .val (.int p1), .val (.int p2), .val (.int p3), .val (.int (p0 &&& (7 : Int32))), .val (.int (own_pk ((p0.toUInt32 >>> ((3 : Int32) &&& 31).toUInt32).toInt32) p1)), .val (.int (own_pk ((p0.toUInt32 >>> ((4 : Int32) &&& 31).toUInt32).toInt32) p2)), .val (.int (own_pk ((p0.toUInt32 >>> ((5 : Int32) &&& 31).toUInt32).toInt32) p3)), .val (.ref b106), .val (.int (p0 &&& (7 : Int32))), .val (.ref o120), .val .null, .val .null] [(.int (p0 &&& (7 : Int32)))])) _
                    refine XS.iconst X148.here hx rfl (hb hby at_235) ?_
                    show Steps p.tables e below (T148.setTop (mkF m 236 #[.val (.int p0), .val (.int p1), .val (.int p2), .val (.int p3), .val (.int (p0 &&& (7 : Int32))), .val (.int (own_pk ((p0.toUInt32 >>> ((3 : Int32) &&& 31).toUInt32).toInt32) p1)), .val (.int (own_pk ((p0.toUInt32 >>> ((4 : Int32) &&& 31).toUInt32).toInt32) p2)), .val (.int (own_pk ((p0.toUInt32 >>> ((5 : Int32) &&& 31).toUInt32).toInt32) p3)), .val (.ref b106), .val (.int (p0 &&& (7 : Int32))), .val (.ref o120), .val .null, .val .null] [(.int (2 : Int32)), (.int (p0 &&& (7 : Int32)))])) _
                    refine XS.icmpNo X148.here hx rfl (hb hby at_236) rfl (teq hc236).2 ?_
                    show Steps p.tables e below (T148.setTop (mkF m 239 #[.val (.int p0), .val (.int p1), .val (.int p2), .val (.int p3), .val (.int (p0 &&& (7 : Int32))), .val (.int (own_pk ((p0.toUInt32 >>> ((3 : Int32) &&& 31).toUInt32).toInt32) p1)), .val (.int (own_pk ((p0.toUInt32 >>> ((4 : Int32) &&& 31).toUInt32).toInt32) p2)), .val (.int (own_pk ((p0.toUInt32 >>> ((5 : Int32) &&& 31).toUInt32).toInt32) p3)), .val (.ref b106), .val (.int (p0 &&& (7 : Int32))), .val (.ref o120), .val .null, .val .null] [])) _
                    refine XS.iload X148.here hx rfl (hb hby at_239) rfl ?_
                    show Steps p.tables e below (T148.setTop (mkF m 241 #[.val (.int p0), .val (.int p1), .val (.int p2), .val (.int p3), .val (.int (p0 &&& (7 : Int32))), .val (.int (own_pk ((p0.toUInt32 >>> ((3 : Int32) &&& 31).toUInt32).toInt32) p1)), .val (.int (own_pk ((p0.toUInt32 >>> ((4 : Int32) &&& 31).toUInt32).toInt32) p2)), .val (.int (own_pk ((p0.toUInt32 >>> ((5 : Int32) &&& 31).toUInt32).toInt32) p3)), .val (.ref b106), .val (.int (p0 &&& (7 : Int32))), .val (.ref o120), .val .null, .val .null] [(.int (own_pk ((p0.toUInt32 >>> ((3 : Int32) &&& 31).toUInt32).toInt32) p1))])) _
                    refine XS.bipush X148.here hx rfl (hb hby at_241) ?_
                    show Steps p.tables e below (T148.setTop (mkF m 243 #[.val (.int p0), .val (.int p1), .val (.int p2), .val (.int p3), .val (.int (p0 &&& (7 : Int32))), .val (.int (own_pk ((p0.toUInt32 >>> ((3 : Int32) &&& 31).toUInt32).toInt32) p1)), .val (.int (own_pk ((p0.toUInt32 >>> ((4 : Int32) &&& 31).toUInt32).toInt32) p2)), .val (.int (own_pk ((p0.toUInt32 >>> ((5 : Int32) &&& 31).toUInt32).toInt32) p3)), .val (.ref b106), .val (.int (p0 &&& (7 : Int32))), .val (.ref o120), .val .null, .val .null] [(.int (101 : Int32)), (.int (own_pk ((p0.toUInt32 >>> ((3 : Int32) &&& 31).toUInt32).toInt32) p1))])) _
                    refine XS.icmpYes X148.here hx rfl (pc0 := 243) (pc' := 258) rfl (hb hby at_243) rfl (feq hc243).2 (by decide) (by decide) ?_
                    show Steps p.tables e below (T148.setTop (mkF m 258 #[.val (.int p0), .val (.int p1), .val (.int p2), .val (.int p3), .val (.int (p0 &&& (7 : Int32))), .val (.int (own_pk ((p0.toUInt32 >>> ((3 : Int32) &&& 31).toUInt32).toInt32) p1)), .val (.int (own_pk ((p0.toUInt32 >>> ((4 : Int32) &&& 31).toUInt32).toInt32) p2)), .val (.int (own_pk ((p0.toUInt32 >>> ((5 : Int32) &&& 31).toUInt32).toInt32) p3)), .val (.ref b106), .val (.int (p0 &&& (7 : Int32))), .val (.ref o120), .val .null, .val .null] [])) _
                    refine XS.aload X148.here hx rfl (hb hby at_258) rfl rfl ?_
                    show Steps p.tables e below (T148.setTop (mkF m 260 #[.val (.int p0), .val (.int p1), .val (.int p2), .val (.int p3), .val (.int (p0 &&& (7 : Int32))), .val (.int (own_pk ((p0.toUInt32 >>> ((3 : Int32) &&& 31).toUInt32).toInt32) p1)), .val (.int (own_pk ((p0.toUInt32 >>> ((4 : Int32) &&& 31).toUInt32).toInt32) p2)), .val (.int (own_pk ((p0.toUInt32 >>> ((5 : Int32) &&& 31).toUInt32).toInt32) p3)), .val (.ref b106), .val (.int (p0 &&& (7 : Int32))), .val (.ref o120), .val .null, .val .null] [.null])) _
                    refine XS.aload X148.here hx rfl (hb hby at_260) rfl rfl ?_
                    show Steps p.tables e below (T148.setTop (mkF m 262 #[.val (.int p0), .val (.int p1), .val (.int p2), .val (.int p3), .val (.int (p0 &&& (7 : Int32))), .val (.int (own_pk ((p0.toUInt32 >>> ((3 : Int32) &&& 31).toUInt32).toInt32) p1)), .val (.int (own_pk ((p0.toUInt32 >>> ((4 : Int32) &&& 31).toUInt32).toInt32) p2)), .val (.int (own_pk ((p0.toUInt32 >>> ((5 : Int32) &&& 31).toUInt32).toInt32) p3)), .val (.ref b106), .val (.int (p0 &&& (7 : Int32))), .val (.ref o120), .val .null, .val .null] [.null, .null])) _
                    refine Jvm.RoadKit.acmp (g := (mkF m 262 #[.val (.int p0), .val (.int p1), .val (.int p2), .val (.int p3), .val (.int (p0 &&& (7 : Int32))), .val (.int (own_pk ((p0.toUInt32 >>> ((3 : Int32) &&& 31).toUInt32).toInt32) p1)), .val (.int (own_pk ((p0.toUInt32 >>> ((4 : Int32) &&& 31).toUInt32).toInt32) p2)), .val (.int (own_pk ((p0.toUInt32 >>> ((5 : Int32) &&& 31).toUInt32).toInt32) p3)), .val (.ref b106), .val (.int (p0 &&& (7 : Int32))), .val (.ref o120), .val .null, .val .null] [.null, .null])) X148 hx rfl rfl rfl (pc0 := 262) (pc' := 265) (same := true) rfl (hb hby at_262) rfl (decide_eq_true rfl) (by decide) (by decide) ?_
                    show Steps p.tables e below (T148.setTop (mkF m 265 #[.val (.int p0), .val (.int p1), .val (.int p2), .val (.int p3), .val (.int (p0 &&& (7 : Int32))), .val (.int (own_pk ((p0.toUInt32 >>> ((3 : Int32) &&& 31).toUInt32).toInt32) p1)), .val (.int (own_pk ((p0.toUInt32 >>> ((4 : Int32) &&& 31).toUInt32).toInt32) p2)), .val (.int (own_pk ((p0.toUInt32 >>> ((5 : Int32) &&& 31).toUInt32).toInt32) p3)), .val (.ref b106), .val (.int (p0 &&& (7 : Int32))), .val (.ref o120), .val .null, .val .null] [])) _
                    refine XS.iconst X148.here hx rfl (hb hby at_265) ?_
                    show Steps p.tables e below (T148.setTop (mkF m 266 #[.val (.int p0), .val (.int p1), .val (.int p2), .val (.int p3), .val (.int (p0 &&& (7 : Int32))), .val (.int (own_pk ((p0.toUInt32 >>> ((3 : Int32) &&& 31).toUInt32).toInt32) p1)), .val (.int (own_pk ((p0.toUInt32 >>> ((4 : Int32) &&& 31).toUInt32).toInt32) p2)), .val (.int (own_pk ((p0.toUInt32 >>> ((5 : Int32) &&& 31).toUInt32).toInt32) p3)), .val (.ref b106), .val (.int (p0 &&& (7 : Int32))), .val (.ref o120), .val .null, .val .null] [(.int (1 : Int32))])) _
                    refine XS.goto X148.here hx rfl (pc0 := 266) (pc' := 270) rfl (hb hby at_266) (by decide) (by decide) ?_
                    exact k)
                obtain ⟨fs, hr, hrun, hended, w1, w2, w3, w4⟩ := X148.leaveW (s := s) (vm₁ := T8.vm) Sn8 (by rw [e148]; exact (Nat.le_trans (Nat.le_trans (Nat.le_trans (Nat.le_trans (Nat.le_trans (Nat.le_trans (Nat.le_refl _) E106.1) E109.1) (Keep.of_wr W112).1) (Keep.of_wr W115).1) K117.1) K120.1)) (v := (some (.int (1 : Int32)))) (fun h => by rw [Bd.returns] at h; cases h)
                refine ⟨_, _, k151 _ ?_, hrun, hended, _, _, rfl, ?_, w1, w2, w3, w4.mono (by decide) (by decide)⟩
                · exact retN X148 hx (t := .boolean) Bd.returns (by simp) (hb hby at_270) hr
                · show Q0 Z p0 p1 p2 p3 wv cl w_ZH w_EN c_ZH t_ZH c_EN t_EN k_ZH k_EN w_EMPTY G1 G3 h0 n0 _ T148.heap _
                  rw [e148]
                  exact ⟨rfl, N148⟩
              · have hc236 : (p0 &&& (7 : Int32)) = (2 : Int32) := hc111
                have k152 : ∀ t, Steps p.tables e below (T148.setTop (mkF m 243 #[.val (.int p0), .val (.int p1), .val (.int p2), .val (.int p3), .val (.int (p0 &&& (7 : Int32))), .val (.int (own_pk ((p0.toUInt32 >>> ((3 : Int32) &&& 31).toUInt32).toInt32) p1)), .val (.int (own_pk ((p0.toUInt32 >>> ((4 : Int32) &&& 31).toUInt32).toInt32) p2)), .val (.int (own_pk ((p0.toUInt32 >>> ((5 : Int32) &&& 31).toUInt32).toInt32) p3)), .val (.ref b106), .val (.int (p0 &&& (7 : Int32))), .val (.ref o120), .val .null, .val .null] [(.int (101 : Int32)), (.int (own_pk ((p0.toUInt32 >>> ((3 : Int32) &&& 31).toUInt32).toInt32) p1))])) t → Steps p.tables e below (s₁.setTop (entryFrame m #[(.int p0), (.int p1), (.int p2), (.int p3)] maxLocals)) t := fun t k => k150 t (by
                    show Steps p.tables e below (T148.setTop (mkF m 215 #[.val (.int p0), .val (.int p1), .val (.int p2), .val (.int p3), .val (.int (p0 &&& (7 : Int32))), .val (.int (own_pk ((p0.toUInt32 >>> ((3 : Int32) &&& 31).toUInt32).toInt32) p1)), .val (.int (own_pk ((p0.toUInt32 >>> ((4 : Int32) &&& 31).toUInt32).toInt32) p2)), .val (.int (own_pk ((p0.toUInt32 >>> ((5 : Int32) &&& 31).toUInt32).toInt32) p3)), .val (.ref b106), .val (.int (p0 &&& (7 : Int32))), .val (.ref o120), .val .null, .val .null] [(.int (122 : Int32)), (.int (own_pk ((p0.toUInt32 >>> ((3 : Int32) &&& 31).toUInt32).toInt32) p1))])) _
                    refine XS.icmpYes X148.here hx rfl (pc0 := 215) (pc' := 233) rfl (hb hby at_215) rfl (feq hc215).2 (by decide) (by decide) ?_
                    show Steps p.tables e below (T148.setTop (mkF m 233 #[.val (.int p0), .val (.int p1), .val (.int p2), .val (.int p3), .val (.int (p0 &&& (7 : Int32))), .val (.int (own_pk ((p0.toUInt32 >>> ((3 : Int32) &&& 31).toUInt32).toInt32) p1)), .val (.int (own_pk ((p0.toUInt32 >>> ((4 : Int32) &&& 31).toUInt32).toInt32) p2)), .val (.int (own_pk ((p0.toUInt32 >>> ((5 : Int32) &&& 31).toUInt32).toInt32) p3)), .val (.ref b106), .val (.int (p0 &&& (7 : Int32))), .val (.ref o120), .val .null, .val .null] [])) _
                    refine XS.iload X148.here hx rfl (hb hby at_233) rfl ?_
                    show Steps p.tables e below (T148.setTop (mkF m 235 #[.val (.int p0), .val (.int p1), .val (.int p2), .val (.int p3), .val (.int (p0 &&& (7 : Int32))), .val (.int (own_pk ((p0.toUInt32 >>> ((3 : Int32) &&& 31).toUInt32).toInt32) p1)), .val (.int (own_pk ((p0.toUInt32 >>> ((4 : Int32) &&& 31).toUInt32).toInt32) p2)), .val (.int (own_pk ((p0.toUInt32 >>> ((5 : Int32) &&& 31).toUInt32).toInt32) p3)), .val (.ref b106), .val (.int (p0 &&& (7 : Int32))), .val (.ref o120), .val .null, .val .null] [(.int (p0 &&& (7 : Int32)))])) _
                    refine XS.iconst X148.here hx rfl (hb hby at_235) ?_
                    show Steps p.tables e below (T148.setTop (mkF m 236 #[.val (.int p0), .val (.int p1), .val (.int p2), .val (.int p3), .val (.int (p0 &&& (7 : Int32))), .val (.int (own_pk ((p0.toUInt32 >>> ((3 : Int32) &&& 31).toUInt32).toInt32) p1)), .val (.int (own_pk ((p0.toUInt32 >>> ((4 : Int32) &&& 31).toUInt32).toInt32) p2)), .val (.int (own_pk ((p0.toUInt32 >>> ((5 : Int32) &&& 31).toUInt32).toInt32) p3)), .val (.ref b106), .val (.int (p0 &&& (7 : Int32))), .val (.ref o120), .val .null, .val .null] [(.int (2 : Int32)), (.int (p0 &&& (7 : Int32)))])) _
                    refine XS.icmpNo X148.here hx rfl (hb hby at_236) rfl (teq hc236).2 ?_
                    show Steps p.tables e below (T148.setTop (mkF m 239 #[.val (.int p0), .val (.int p1), .val (.int p2), .val (.int p3), .val (.int (p0 &&& (7 : Int32))), .val (.int (own_pk ((p0.toUInt32 >>> ((3 : Int32) &&& 31).toUInt32).toInt32) p1)), .val (.int (own_pk ((p0.toUInt32 >>> ((4 : Int32) &&& 31).toUInt32).toInt32) p2)), .val (.int (own_pk ((p0.toUInt32 >>> ((5 : Int32) &&& 31).toUInt32).toInt32) p3)), .val (.ref b106), .val (.int (p0 &&& (7 : Int32))), .val (.ref o120), .val .null, .val .null] [])) _
                    refine XS.iload X148.here hx rfl (hb hby at_239) rfl ?_
                    show Steps p.tables e below (T148.setTop (mkF m 241 #[.val (.int p0), .val (.int p1), .val (.int p2), .val (.int p3), .val (.int (p0 &&& (7 : Int32))), .val (.int (own_pk ((p0.toUInt32 >>> ((3 : Int32) &&& 31).toUInt32).toInt32) p1)), .val (.int (own_pk ((p0.toUInt32 >>> ((4 : Int32) &&& 31).toUInt32).toInt32) p2)), .val (.int (own_pk ((p0.toUInt32 >>> ((5 : Int32) &&& 31).toUInt32).toInt32) p3)), .val (.ref b106), .val (.int (p0 &&& (7 : Int32))), .val (.ref o120), .val .null, .val .null] [(.int (own_pk ((p0.toUInt32 >>> ((3 : Int32) &&& 31).toUInt32).toInt32) p1))])) _
                    refine XS.bipush X148.here hx rfl (hb hby at_241) ?_
                    exact k)
                by_cases hc243 : (own_pk ((p0.toUInt32 >>> ((3 : Int32) &&& 31).toUInt32).toInt32) p1) = (101 : Int32)
                · have hc250 : ¬ ((own_pk ((p0.toUInt32 >>> ((4 : Int32) &&& 31).toUInt32).toInt32) p2) = (110 : Int32)) := fun q => hz2 (by rw [own_pk_n, own_pk_n, hc243, q])
                  have k153 : ∀ t, Steps p.tables e below (T148.setTop (mkF m 270 #[.val (.int p0), .val (.int p1), .val (.int p2), .val (.int p3), .val (.int (p0 &&& (7 : Int32))), .val (.int (own_pk ((p0.toUInt32 >>> ((3 : Int32) &&& 31).toUInt32).toInt32) p1)), .val (.int (own_pk ((p0.toUInt32 >>> ((4 : Int32) &&& 31).toUInt32).toInt32) p2)), .val (.int (own_pk ((p0.toUInt32 >>> ((5 : Int32) &&& 31).toUInt32).toInt32) p3)), .val (.ref b106), .val (.int (p0 &&& (7 : Int32))), .val (.ref o120), .val .null, .val .null] [(.int (1 : Int32))])) t → Steps p.tables e below (s₁.setTop (entryFrame m #[(.int p0), (.int p1), (.int p2), (.int p3)] maxLocals)) t := fun t k => k152 t (by
                      show Steps p.tables e below (T148.setTop (mkF m 243 #[.val (.int p0), .val (.int p1), .val (.int p2), .val (.int p3), .val (.int (p0 &&& (7 : Int32))), .val (.int (own_pk ((p0.toUInt32 >>> ((3 : Int32) &&& 31).toUInt32).toInt32) p1)), .val (.int (own_pk ((p0.toUInt32 >>> ((4 : Int32) &&& 31).toUInt32).toInt32) p2)), .val (.int (own_pk ((p0.toUInt32 >>> ((5 : Int32) &&& 31).toUInt32).toInt32) p3)), .val (.ref b106), .val (.int (p0 &&& (7 : Int32))), .val (.ref o120), .val .null, .val .null] [(.int (101 : Int32)), (.int (own_pk ((p0.toUInt32 >>> ((3 : Int32) &&& 31).toUInt32).toInt32) p1))])) _
                      refine XS.icmpNo X148.here hx rfl (hb hby at_243) rfl (teq hc243).2 ?_
                      show Steps p.tables e below (T148.setTop (mkF m 246 #[.val (.int p0), .val (.int p1), .val (.int p2), .val (.int p3), .val (.int (p0 &&& (7 : Int32))), .val (.int (own_pk ((p0.toUInt32 >>> ((3 : Int32) &&& 31).toUInt32).toInt32) p1)), .val (.int (own_pk ((p0.toUInt32 >>> ((4 : Int32) &&& 31).toUInt32).toInt32) p2)), .val (.int (own_pk ((p0.toUInt32 >>> ((5 : Int32) &&& 31).toUInt32).toInt32) p3)), .val (.ref b106), .val (.int (p0 &&& (7 : Int32))), .val (.ref o120), .val .null, .val .null] [])) _
                      refine XS.iload X148.here hx rfl (hb hby at_246) rfl ?_
                      show Steps p.tables e below (T148.setTop (mkF m 248 #[.val (.int p0), .val (.int p1), .val (.int p2), .val (.int p3), .val (.int (p0 &&& (7 : Int32))), .val (.int (own_pk ((p0.toUInt32 >>> ((3 : Int32) &&& 31).toUInt32).toInt32) p1)), .val (.int (own_pk ((p0.toUInt32 >>> ((4 : Int32) &&& 31).toUInt32).toInt32) p2)), .val (.int (own_pk ((p0.toUInt32 >>> ((5 : Int32) &&& 31).toUInt32).toInt32) p3)), .val (.ref b106), .val (.int (p0 &&& (7 : Int32))), .val (.ref o120), .val .null, .val .null] [(.int (own_pk ((p0.toUInt32 >>> ((4 : Int32) &&& 31).toUInt32).toInt32) p2))])) _
                      refine XS.bipush X148.here hx rfl (hb hby at_248) ?_
                      show Steps p.tables e below (T148.setTop (mkF m 250 #[.val (.int p0), .val (.int p1), .val (.int p2), .val (.int p3), .val (.int (p0 &&& (7 : Int32))), .val (.int (own_pk ((p0.toUInt32 >>> ((3 : Int32) &&& 31).toUInt32).toInt32) p1)), .val (.int (own_pk ((p0.toUInt32 >>> ((4 : Int32) &&& 31).toUInt32).toInt32) p2)), .val (.int (own_pk ((p0.toUInt32 >>> ((5 : Int32) &&& 31).toUInt32).toInt32) p3)), .val (.ref b106), .val (.int (p0 &&& (7 : Int32))), .val (.ref o120), .val .null, .val .null] [(.int (110 : Int32)), (.int (own_pk ((p0.toUInt32 >>> ((4 : Int32) &&& 31).toUInt32).toInt32) p2))])) _
                      refine XS.icmpYes X148.here hx rfl (pc0 := 250) (pc' := 258) rfl (hb hby at_250) rfl (feq hc250).2 (by decide) (by decide) ?_
                      show Steps p.tables e below (T148.setTop (mkF m 258 #[.val (.int p0), .val (.int p1), .val (.int p2), .val (.int p3), .val (.int (p0 &&& (7 : Int32))), .val (.int (own_pk ((p0.toUInt32 >>> ((3 : Int32) &&& 31).toUInt32).toInt32) p1)), .val (.int (own_pk ((p0.toUInt32 >>> ((4 : Int32) &&& 31).toUInt32).toInt32) p2)), .val (.int (own_pk ((p0.toUInt32 >>> ((5 : Int32) &&& 31).toUInt32).toInt32) p3)), .val (.ref b106), .val (.int (p0 &&& (7 : Int32))), .val (.ref o120), .val .null, .val .null] [])) _
                      refine XS.aload X148.here hx rfl (hb hby at_258) rfl rfl ?_
                      show Steps p.tables e below (T148.setTop (mkF m 260 #[.val (.int p0), .val (.int p1), .val (.int p2), .val (.int p3), .val (.int (p0 &&& (7 : Int32))), .val (.int (own_pk ((p0.toUInt32 >>> ((3 : Int32) &&& 31).toUInt32).toInt32) p1)), .val (.int (own_pk ((p0.toUInt32 >>> ((4 : Int32) &&& 31).toUInt32).toInt32) p2)), .val (.int (own_pk ((p0.toUInt32 >>> ((5 : Int32) &&& 31).toUInt32).toInt32) p3)), .val (.ref b106), .val (.int (p0 &&& (7 : Int32))), .val (.ref o120), .val .null, .val .null] [.null])) _
                      refine XS.aload X148.here hx rfl (hb hby at_260) rfl rfl ?_
                      show Steps p.tables e below (T148.setTop (mkF m 262 #[.val (.int p0), .val (.int p1), .val (.int p2), .val (.int p3), .val (.int (p0 &&& (7 : Int32))), .val (.int (own_pk ((p0.toUInt32 >>> ((3 : Int32) &&& 31).toUInt32).toInt32) p1)), .val (.int (own_pk ((p0.toUInt32 >>> ((4 : Int32) &&& 31).toUInt32).toInt32) p2)), .val (.int (own_pk ((p0.toUInt32 >>> ((5 : Int32) &&& 31).toUInt32).toInt32) p3)), .val (.ref b106), .val (.int (p0 &&& (7 : Int32))), .val (.ref o120), .val .null, .val .null] [.null, .null])) _
                      refine Jvm.RoadKit.acmp (g := (mkF m 262 #[.val (.int p0), .val (.int p1), .val (.int p2), .val (.int p3), .val (.int (p0 &&& (7 : Int32))), .val (.int (own_pk ((p0.toUInt32 >>> ((3 : Int32) &&& 31).toUInt32).toInt32) p1)), .val (.int (own_pk ((p0.toUInt32 >>> ((4 : Int32) &&& 31).toUInt32).toInt32) p2)), .val (.int (own_pk ((p0.toUInt32 >>> ((5 : Int32) &&& 31).toUInt32).toInt32) p3)), .val (.ref b106), .val (.int (p0 &&& (7 : Int32))), .val (.ref o120), .val .null, .val .null] [.null, .null])) X148 hx rfl rfl rfl (pc0 := 262) (pc' := 265) (same := true) rfl (hb hby at_262) rfl (decide_eq_true rfl) (by decide) (by decide) ?_
                      show Steps p.tables e below (T148.setTop (mkF m 265 #[.val (.int p0), .val (.int p1), .val (.int p2), .val (.int p3), .val (.int (p0 &&& (7 : Int32))), .val (.int (own_pk ((p0.toUInt32 >>> ((3 : Int32) &&& 31).toUInt32).toInt32) p1)), .val (.int (own_pk ((p0.toUInt32 >>> ((4 : Int32) &&& 31).toUInt32).toInt32) p2)), .val (.int (own_pk ((p0.toUInt32 >>> ((5 : Int32) &&& 31).toUInt32).toInt32) p3)), .val (.ref b106), .val (.int (p0 &&& (7 : Int32))), .val (.ref o120), .val .null, .val .null] [])) _
                      refine XS.iconst X148.here hx rfl (hb hby at_265) ?_
                      show Steps p.tables e below (T148.setTop (mkF m 266 #[.val (.int p0), .val (.int p1), .val (.int p2), .val (.int p3), .val (.int (p0 &&& (7 : Int32))), .val (.int (own_pk ((p0.toUInt32 >>> ((3 : Int32) &&& 31).toUInt32).toInt32) p1)), .val (.int (own_pk ((p0.toUInt32 >>> ((4 : Int32) &&& 31).toUInt32).toInt32) p2)), .val (.int (own_pk ((p0.toUInt32 >>> ((5 : Int32) &&& 31).toUInt32).toInt32) p3)), .val (.ref b106), .val (.int (p0 &&& (7 : Int32))), .val (.ref o120), .val .null, .val .null] [(.int (1 : Int32))])) _
                      refine XS.goto X148.here hx rfl (pc0 := 266) (pc' := 270) rfl (hb hby at_266) (by decide) (by decide) ?_
                      exact k)
                  obtain ⟨fs, hr, hrun, hended, w1, w2, w3, w4⟩ := X148.leaveW (s := s) (vm₁ := T8.vm) Sn8 (by rw [e148]; exact (Nat.le_trans (Nat.le_trans (Nat.le_trans (Nat.le_trans (Nat.le_trans (Nat.le_trans (Nat.le_refl _) E106.1) E109.1) (Keep.of_wr W112).1) (Keep.of_wr W115).1) K117.1) K120.1)) (v := (some (.int (1 : Int32)))) (fun h => by rw [Bd.returns] at h; cases h)
                  refine ⟨_, _, k153 _ ?_, hrun, hended, _, _, rfl, ?_, w1, w2, w3, w4.mono (by decide) (by decide)⟩
                  · exact retN X148 hx (t := .boolean) Bd.returns (by simp) (hb hby at_270) hr
                  · show Q0 Z p0 p1 p2 p3 wv cl w_ZH w_EN c_ZH t_ZH c_EN t_EN k_ZH k_EN w_EMPTY G1 G3 h0 n0 _ T148.heap _
                    rw [e148]
                    exact ⟨rfl, N148⟩
                · have k154 : ∀ t, Steps p.tables e below (T148.setTop (mkF m 270 #[.val (.int p0), .val (.int p1), .val (.int p2), .val (.int p3), .val (.int (p0 &&& (7 : Int32))), .val (.int (own_pk ((p0.toUInt32 >>> ((3 : Int32) &&& 31).toUInt32).toInt32) p1)), .val (.int (own_pk ((p0.toUInt32 >>> ((4 : Int32) &&& 31).toUInt32).toInt32) p2)), .val (.int (own_pk ((p0.toUInt32 >>> ((5 : Int32) &&& 31).toUInt32).toInt32) p3)), .val (.ref b106), .val (.int (p0 &&& (7 : Int32))), .val (.ref o120), .val .null, .val .null] [(.int (1 : Int32))])) t → Steps p.tables e below (s₁.setTop (entryFrame m #[(.int p0), (.int p1), (.int p2), (.int p3)] maxLocals)) t := fun t k => k152 t (by
                      show Steps p.tables e below (T148.setTop (mkF m 243 #[.val (.int p0), .val (.int p1), .val (.int p2), .val (.int p3), .val (.int (p0 &&& (7 : Int32))), .val (.int (own_pk ((p0.toUInt32 >>> ((3 : Int32) &&& 31).toUInt32).toInt32) p1)), .val (.int (own_pk ((p0.toUInt32 >>> ((4 : Int32) &&& 31).toUInt32).toInt32) p2)), .val (.int (own_pk ((p0.toUInt32 >>> ((5 : Int32) &&& 31).toUInt32).toInt32) p3)), .val (.ref b106), .val (.int (p0 &&& (7 : Int32))), .val (.ref o120), .val .null, .val .null] [(.int (101 : Int32)), (.int (own_pk ((p0.toUInt32 >>> ((3 : Int32) &&& 31).toUInt32).toInt32) p1))])) _
                      refine XS.icmpYes X148.here hx rfl (pc0 := 243) (pc' := 258) rfl (hb hby at_243) rfl (feq hc243).2 (by decide) (by decide) ?_
                      show Steps p.tables e below (T148.setTop (mkF m 258 #[.val (.int p0), .val (.int p1), .val (.int p2), .val (.int p3), .val (.int (p0 &&& (7 : Int32))), .val (.int (own_pk ((p0.toUInt32 >>> ((3 : Int32) &&& 31).toUInt32).toInt32) p1)), .val (.int (own_pk ((p0.toUInt32 >>> ((4 : Int32) &&& 31).toUInt32).toInt32) p2)), .val (.int (own_pk ((p0.toUInt32 >>> ((5 : Int32) &&& 31).toUInt32).toInt32) p3)), .val (.ref b106), .val (.int (p0 &&& (7 : Int32))), .val (.ref o120), .val .null, .val .null] [])) _
                      refine XS.aload X148.here hx rfl (hb hby at_258) rfl rfl ?_
                      show Steps p.tables e below (T148.setTop (mkF m 260 #[.val (.int p0), .val (.int p1), .val (.int p2), .val (.int p3), .val (.int (p0 &&& (7 : Int32))), .val (.int (own_pk ((p0.toUInt32 >>> ((3 : Int32) &&& 31).toUInt32).toInt32) p1)), .val (.int (own_pk ((p0.toUInt32 >>> ((4 : Int32) &&& 31).toUInt32).toInt32) p2)), .val (.int (own_pk ((p0.toUInt32 >>> ((5 : Int32) &&& 31).toUInt32).toInt32) p3)), .val (.ref b106), .val (.int (p0 &&& (7 : Int32))), .val (.ref o120), .val .null, .val .null] [.null])) _
                      refine XS.aload X148.here hx rfl (hb hby at_260) rfl rfl ?_
                      show Steps p.tables e below (T148.setTop (mkF m 262 #[.val (.int p0), .val (.int p1), .val (.int p2), .val (.int p3), .val (.int (p0 &&& (7 : Int32))), .val (.int (own_pk ((p0.toUInt32 >>> ((3 : Int32) &&& 31).toUInt32).toInt32) p1)), .val (.int (own_pk ((p0.toUInt32 >>> ((4 : Int32) &&& 31).toUInt32).toInt32) p2)), .val (.int (own_pk ((p0.toUInt32 >>> ((5 : Int32) &&& 31).toUInt32).toInt32) p3)), .val (.ref b106), .val (.int (p0 &&& (7 : Int32))), .val (.ref o120), .val .null, .val .null] [.null, .null])) _
                      refine Jvm.RoadKit.acmp (g := (mkF m 262 #[.val (.int p0), .val (.int p1), .val (.int p2), .val (.int p3), .val (.int (p0 &&& (7 : Int32))), .val (.int (own_pk ((p0.toUInt32 >>> ((3 : Int32) &&& 31).toUInt32).toInt32) p1)), .val (.int (own_pk ((p0.toUInt32 >>> ((4 : Int32) &&& 31).toUInt32).toInt32) p2)), .val (.int (own_pk ((p0.toUInt32 >>> ((5 : Int32) &&& 31).toUInt32).toInt32) p3)), .val (.ref b106), .val (.int (p0 &&& (7 : Int32))), .val (.ref o120), .val .null, .val .null] [.null, .null])) X148 hx rfl rfl rfl (pc0 := 262) (pc' := 265) (same := true) rfl (hb hby at_262) rfl (decide_eq_true rfl) (by decide) (by decide) ?_
                      show Steps p.tables e below (T148.setTop (mkF m 265 #[.val (.int p0), .val (.int p1), .val (.int p2), .val (.int p3), .val (.int (p0 &&& (7 : Int32))), .val (.int (own_pk ((p0.toUInt32 >>> ((3 : Int32) &&& 31).toUInt32).toInt32) p1)), .val (.int (own_pk ((p0.toUInt32 >>> ((4 : Int32) &&& 31).toUInt32).toInt32) p2)), .val (.int (own_pk ((p0.toUInt32 >>> ((5 : Int32) &&& 31).toUInt32).toInt32) p3)), .val (.ref b106), .val (.int (p0 &&& (7 : Int32))), .val (.ref o120), .val .null, .val .null] [])) _
                      refine XS.iconst X148.here hx rfl (hb hby at_265) ?_
                      show Steps p.tables e below (T148.setTop (mkF m 266 #[.val (.int p0), .val (.int p1), .val (.int p2), .val (.int p3), .val (.int (p0 &&& (7 : Int32))), .val (.int (own_pk ((p0.toUInt32 >>> ((3 : Int32) &&& 31).toUInt32).toInt32) p1)), .val (.int (own_pk ((p0.toUInt32 >>> ((4 : Int32) &&& 31).toUInt32).toInt32) p2)), .val (.int (own_pk ((p0.toUInt32 >>> ((5 : Int32) &&& 31).toUInt32).toInt32) p3)), .val (.ref b106), .val (.int (p0 &&& (7 : Int32))), .val (.ref o120), .val .null, .val .null] [(.int (1 : Int32))])) _
                      refine XS.goto X148.here hx rfl (pc0 := 266) (pc' := 270) rfl (hb hby at_266) (by decide) (by decide) ?_
                      exact k)
                  obtain ⟨fs, hr, hrun, hended, w1, w2, w3, w4⟩ := X148.leaveW (s := s) (vm₁ := T8.vm) Sn8 (by rw [e148]; exact (Nat.le_trans (Nat.le_trans (Nat.le_trans (Nat.le_trans (Nat.le_trans (Nat.le_trans (Nat.le_refl _) E106.1) E109.1) (Keep.of_wr W112).1) (Keep.of_wr W115).1) K117.1) K120.1)) (v := (some (.int (1 : Int32)))) (fun h => by rw [Bd.returns] at h; cases h)
                  refine ⟨_, _, k154 _ ?_, hrun, hended, _, _, rfl, ?_, w1, w2, w3, w4.mono (by decide) (by decide)⟩
                  · exact retN X148 hx (t := .boolean) Bd.returns (by simp) (hb hby at_270) hr
                  · show Q0 Z p0 p1 p2 p3 wv cl w_ZH w_EN c_ZH t_ZH c_EN t_EN k_ZH k_EN w_EMPTY G1 G3 h0 n0 _ T148.heap _
                    rw [e148]
                    exact ⟨rfl, N148⟩
          · have k155 : ∀ t, Steps p.tables e below (T8.setTop (mkF m 139 #[.val (.int p0), .val (.int p1), .val (.int p2), .val (.int p3), .val (.int (p0 &&& (7 : Int32))), .val (.int (own_pk ((p0.toUInt32 >>> ((3 : Int32) &&& 31).toUInt32).toInt32) p1)), .val (.int (own_pk ((p0.toUInt32 >>> ((4 : Int32) &&& 31).toUInt32).toInt32) p2)), .val (.int (own_pk ((p0.toUInt32 >>> ((5 : Int32) &&& 31).toUInt32).toInt32) p3)), .unset, .val (.int (p0 &&& (7 : Int32))), .unset, .unset, .unset] [])) t → Steps p.tables e below (s₁.setTop (entryFrame m #[(.int p0), (.int p1), (.int p2), (.int p3)] maxLocals)) t := fun t k => k104 t (by
                show Steps p.tables e below (T8.setTop (mkF m 111 #[.val (.int p0), .val (.int p1), .val (.int p2), .val (.int p3), .val (.int (p0 &&& (7 : Int32))), .val (.int (own_pk ((p0.toUInt32 >>> ((3 : Int32) &&& 31).toUInt32).toInt32) p1)), .val (.int (own_pk ((p0.toUInt32 >>> ((4 : Int32) &&& 31).toUInt32).toInt32) p2)), .val (.int (own_pk ((p0.toUInt32 >>> ((5 : Int32) &&& 31).toUInt32).toInt32) p3)), .unset, .val (.int (p0 &&& (7 : Int32))), .unset, .unset, .unset] [(.int (2 : Int32)), (.int (p0 &&& (7 : Int32)))])) _
                refine XS.icmpYes X8.here hx rfl (pc0 := 111) (pc' := 139) rfl (hb hby at_111) rfl (feq hc111).2 (by decide) (by decide) ?_
                exact k)
            obtain ⟨T156, h156, X156, e156, E156, A156, D156, -, st156⟩ := newO X8 hx hZ8 hown8 (hw _ (List.mem_of_getElem? (i := 4) rfl)) (hw _ (List.mem_of_getElem? (i := 5) rfl)) (hw _ (List.mem_of_getElem? (i := 6) rfl)) rfl (g := (mkF m 139 #[.val (.int p0), .val (.int p1), .val (.int p2), .val (.int p3), .val (.int (p0 &&& (7 : Int32))), .val (.int (own_pk ((p0.toUInt32 >>> ((3 : Int32) &&& 31).toUInt32).toInt32) p1)), .val (.int (own_pk ((p0.toUInt32 >>> ((4 : Int32) &&& 31).toUInt32).toInt32) p2)), .val (.int (own_pk ((p0.toUInt32 >>> ((5 : Int32) &&& 31).toUInt32).toInt32) p3)), .unset, .val (.int (p0 &&& (7 : Int32))), .unset, .unset, .unset] [])) rfl (hb hby at_139) (by decide) (by decide)
            obtain ⟨b156, g156⟩ : ∃ z, z = T8.heap.size := ⟨_, rfl⟩
            rw [← g156] at A156 D156 st156
            have sz_b156 : h0.size ≤ b156 := Nat.le_trans ((((Keep.refl h0 []).ext Ex2).ext Ex5).ext Ex8).1 (Nat.le_of_eq g156.symm)
            have F_value_b156 : Fld Z h156 b156 "java/lang/String" "value" "[B" .null := D156 (Or.inr (hw _ (List.mem_of_getElem? (i := 20) rfl))) (ty := (.array .byte)) (by decide)
            have F_coder_b156 : Fld Z h156 b156 "java/lang/String" "coder" "B" (.int (0 : Int32)) := D156 (Or.inr (hw _ (List.mem_of_getElem? (i := 21) rfl))) (ty := .byte) (by decide)
            have g_b156 : n0 ≤ b156 := Nat.le_trans Zs8 (Nat.le_of_eq g156.symm)
            have Zs156 : n0 ≤ h156.size := Nat.le_trans Zs8 E156.1
            have k157 : ∀ t, Steps p.tables e below (T156.setTop (mkF m 142 #[.val (.int p0), .val (.int p1), .val (.int p2), .val (.int p3), .val (.int (p0 &&& (7 : Int32))), .val (.int (own_pk ((p0.toUInt32 >>> ((3 : Int32) &&& 31).toUInt32).toInt32) p1)), .val (.int (own_pk ((p0.toUInt32 >>> ((4 : Int32) &&& 31).toUInt32).toInt32) p2)), .val (.int (own_pk ((p0.toUInt32 >>> ((5 : Int32) &&& 31).toUInt32).toInt32) p3)), .unset, .val (.int (p0 &&& (7 : Int32))), .unset, .unset, .unset] [(.ref b156)])) t → Steps p.tables e below (s₁.setTop (entryFrame m #[(.int p0), (.int p1), (.int p2), (.int p3)] maxLocals)) t := fun t k => k155 t (st156 _ k)
            have k158 : ∀ t, Steps p.tables e below (T156.setTop (mkF m 144 #[.val (.int p0), .val (.int p1), .val (.int p2), .val (.int p3), .val (.int (p0 &&& (7 : Int32))), .val (.int (own_pk ((p0.toUInt32 >>> ((3 : Int32) &&& 31).toUInt32).toInt32) p1)), .val (.int (own_pk ((p0.toUInt32 >>> ((4 : Int32) &&& 31).toUInt32).toInt32) p2)), .val (.int (own_pk ((p0.toUInt32 >>> ((5 : Int32) &&& 31).toUInt32).toInt32) p3)), .unset, .val (.int (p0 &&& (7 : Int32))), .unset, .unset, .unset] [(.int (3 : Int32)), (.ref b156), (.ref b156)])) t → Steps p.tables e below (s₁.setTop (entryFrame m #[(.int p0), (.int p1), (.int p2), (.int p3)] maxLocals)) t := fun t k => k157 t (by
                show Steps p.tables e below (T156.setTop (mkF m 142 #[.val (.int p0), .val (.int p1), .val (.int p2), .val (.int p3), .val (.int (p0 &&& (7 : Int32))), .val (.int (own_pk ((p0.toUInt32 >>> ((3 : Int32) &&& 31).toUInt32).toInt32) p1)), .val (.int (own_pk ((p0.toUInt32 >>> ((4 : Int32) &&& 31).toUInt32).toInt32) p2)), .val (.int (own_pk ((p0.toUInt32 >>> ((5 : Int32) &&& 31).toUInt32).toInt32) p3)), .unset, .val (.int (p0 &&& (7 : Int32))), .unset, .unset, .unset] [(.ref b156)])) _
                refine XS.dup X156.here hx rfl (hb hby at_142) rfl rfl ?_
                show Steps p.tables e below (T156.setTop (mkF m 143 #[.val (.int p0), .val (.int p1), .val (.int p2), .val (.int p3), .val (.int (p0 &&& (7 : Int32))), .val (.int (own_pk ((p0.toUInt32 >>> ((3 : Int32) &&& 31).toUInt32).toInt32) p1)), .val (.int (own_pk ((p0.toUInt32 >>> ((4 : Int32) &&& 31).toUInt32).toInt32) p2)), .val (.int (own_pk ((p0.toUInt32 >>> ((5 : Int32) &&& 31).toUInt32).toInt32) p3)), .unset, .val (.int (p0 &&& (7 : Int32))), .unset, .unset, .unset] [(.ref b156), (.ref b156)])) _
                refine XS.iconst X156.here hx rfl (hb hby at_143) ?_
                exact k)
            obtain ⟨T159, h159, ka159, X159, e159, E159, A159, st159⟩ := newP X156 hx hZ8 (hw _ (List.mem_of_getElem? (i := 7) rfl)) e156 (g := (mkF m 144 #[.val (.int p0), .val (.int p1), .val (.int p2), .val (.int p3), .val (.int (p0 &&& (7 : Int32))), .val (.int (own_pk ((p0.toUInt32 >>> ((3 : Int32) &&& 31).toUInt32).toInt32) p1)), .val (.int (own_pk ((p0.toUInt32 >>> ((4 : Int32) &&& 31).toUInt32).toInt32) p2)), .val (.int (own_pk ((p0.toUInt32 >>> ((5 : Int32) &&& 31).toUInt32).toInt32) p3)), .unset, .val (.int (p0 &&& (7 : Int32))), .unset, .unset, .unset] [(.int (3 : Int32)), (.ref b156), (.ref b156)])) rfl (hb hby at_144) rfl (by decide) (cap := 3) (by decide) (by decide) (by decide) (by decide)
            obtain ⟨b159, g159⟩ : ∃ z, z = h156.size := ⟨_, rfl⟩
            rw [← g159] at A159 st159
            have ne_b156_b159 : b156 ≠ b159 := Nat.ne_of_lt (Nat.lt_of_lt_of_le F_value_b156.lt (Nat.le_of_eq g159.symm))
            have V_b159 : Arv Z h159 b159 ka159 .char (3 : Int32) [(.int (0 : Int32)), (.int (0 : Int32)), (.int (0 : Int32))] (.int (0 : Int32)) := (Arv.new A159 (by decide)).pad (pad_rep [] (.int (0 : Int32)) 3)
            have g_b159 : n0 ≤ b159 := Nat.le_trans Zs156 (Nat.le_of_eq g159.symm)
            have sz_b159 : h0.size ≤ b159 := Nat.le_trans (((((Keep.refl h0 []).ext Ex2).ext Ex5).ext Ex8).ext E156).1 (Nat.le_of_eq g159.symm)
            have Zs159 : n0 ≤ h159.size := Nat.le_trans Zs156 E159.1
            have k160 : ∀ t, Steps p.tables e below (T159.setTop (mkF m 146 #[.val (.int p0), .val (.int p1), .val (.int p2), .val (.int p3), .val (.int (p0 &&& (7 : Int32))), .val (.int (own_pk ((p0.toUInt32 >>> ((3 : Int32) &&& 31).toUInt32).toInt32) p1)), .val (.int (own_pk ((p0.toUInt32 >>> ((4 : Int32) &&& 31).toUInt32).toInt32) p2)), .val (.int (own_pk ((p0.toUInt32 >>> ((5 : Int32) &&& 31).toUInt32).toInt32) p3)), .unset, .val (.int (p0 &&& (7 : Int32))), .unset, .unset, .unset] [(.ref b159), (.ref b156), (.ref b156)])) t → Steps p.tables e below (s₁.setTop (entryFrame m #[(.int p0), (.int p1), (.int p2), (.int p3)] maxLocals)) t := fun t k => k158 t (st159 _ k)
            have k161 : ∀ t, Steps p.tables e below (T159.setTop (mkF m 150 #[.val (.int p0), .val (.int p1), .val (.int p2), .val (.int p3), .val (.int (p0 &&& (7 : Int32))), .val (.int (own_pk ((p0.toUInt32 >>> ((3 : Int32) &&& 31).toUInt32).toInt32) p1)), .val (.int (own_pk ((p0.toUInt32 >>> ((4 : Int32) &&& 31).toUInt32).toInt32) p2)), .val (.int (own_pk ((p0.toUInt32 >>> ((5 : Int32) &&& 31).toUInt32).toInt32) p3)), .unset, .val (.int (p0 &&& (7 : Int32))), .unset, .unset, .unset] [(.int (own_pk ((p0.toUInt32 >>> ((3 : Int32) &&& 31).toUInt32).toInt32) p1)), (.int (0 : Int32)), (.ref b159), (.ref b159), (.ref b156), (.ref b156)])) t → Steps p.tables e below (s₁.setTop (entryFrame m #[(.int p0), (.int p1), (.int p2), (.int p3)] maxLocals)) t := fun t k => k160 t (by
                show Steps p.tables e below (T159.setTop (mkF m 146 #[.val (.int p0), .val (.int p1), .val (.int p2), .val (.int p3), .val (.int (p0 &&& (7 : Int32))), .val (.int (own_pk ((p0.toUInt32 >>> ((3 : Int32) &&& 31).toUInt32).toInt32) p1)), .val (.int (own_pk ((p0.toUInt32 >>> ((4 : Int32) &&& 31).toUInt32).toInt32) p2)), .val (.int (own_pk ((p0.toUInt32 >>> ((5 : Int32) &&& 31).toUInt32).toInt32) p3)), .unset, .val (.int (p0 &&& (7 : Int32))), .unset, .unset, .unset] [(.ref b159), (.ref b156), (.ref b156)])) _
                refine XS.dup X159.here hx rfl (hb hby at_146) rfl rfl ?_
                show Steps p.tables e below (T159.setTop (mkF m 147 #[.val (.int p0), .val (.int p1), .val (.int p2), .val (.int p3), .val (.int (p0 &&& (7 : Int32))), .val (.int (own_pk ((p0.toUInt32 >>> ((3 : Int32) &&& 31).toUInt32).toInt32) p1)), .val (.int (own_pk ((p0.toUInt32 >>> ((4 : Int32) &&& 31).toUInt32).toInt32) p2)), .val (.int (own_pk ((p0.toUInt32 >>> ((5 : Int32) &&& 31).toUInt32).toInt32) p3)), .unset, .val (.int (p0 &&& (7 : Int32))), .unset, .unset, .unset] [(.ref b159), (.ref b159), (.ref b156), (.ref b156)])) _
                refine XS.iconst X159.here hx rfl (hb hby at_147) ?_
                show Steps p.tables e below (T159.setTop (mkF m 148 #[.val (.int p0), .val (.int p1), .val (.int p2), .val (.int p3), .val (.int (p0 &&& (7 : Int32))), .val (.int (own_pk ((p0.toUInt32 >>> ((3 : Int32) &&& 31).toUInt32).toInt32) p1)), .val (.int (own_pk ((p0.toUInt32 >>> ((4 : Int32) &&& 31).toUInt32).toInt32) p2)), .val (.int (own_pk ((p0.toUInt32 >>> ((5 : Int32) &&& 31).toUInt32).toInt32) p3)), .unset, .val (.int (p0 &&& (7 : Int32))), .unset, .unset, .unset] [(.int (0 : Int32)), (.ref b159), (.ref b159), (.ref b156), (.ref b156)])) _
                refine XS.iload X159.here hx rfl (hb hby at_148) rfl ?_
                exact k)
            obtain ⟨cl_b159_150, Ar_b159_150, q_b159_150, S_b159_150, N_b159_150, H_b159_150, G_b159_150⟩ := V_b159
            have hin_b159_150 : ¬ ((0 : Int32) < 0 ∨ cl_b159_150.slots.size ≤ ((0 : Int32)).toNatClampNeg) := inb_of S_b159_150 ⟨by decide, by decide⟩
            obtain ⟨T162, h162, X162, e162, W162, st162⟩ := stC X159 hx hZ8 e159 Ar_b159_150 (j := (0 : Int32)) hin_b159_150 (g := (mkF m 150 #[.val (.int p0), .val (.int p1), .val (.int p2), .val (.int p3), .val (.int (p0 &&& (7 : Int32))), .val (.int (own_pk ((p0.toUInt32 >>> ((3 : Int32) &&& 31).toUInt32).toInt32) p1)), .val (.int (own_pk ((p0.toUInt32 >>> ((4 : Int32) &&& 31).toUInt32).toInt32) p2)), .val (.int (own_pk ((p0.toUInt32 >>> ((5 : Int32) &&& 31).toUInt32).toInt32) p3)), .unset, .val (.int (p0 &&& (7 : Int32))), .unset, .unset, .unset] [(.int (own_pk ((p0.toUInt32 >>> ((3 : Int32) &&& 31).toUInt32).toInt32) p1)), (.int (0 : Int32)), (.ref b159), (.ref b159), (.ref b156), (.ref b156)])) rfl rfl (hb hby at_150)
            have V_b159_150 : Arv Z h162 b159 ka159 .char (3 : Int32) [(.int (nar .char (own_pk ((p0.toUInt32 >>> ((3 : Int32) &&& 31).toUInt32).toInt32) p1))), (.int (0 : Int32)), (.int (0 : Int32))] (.int (0 : Int32)) := Arv.set Ar_b159_150 q_b159_150 S_b159_150 N_b159_150 H_b159_150 G_b159_150 (fits_nar_char _) W162 0 rfl (Nat.le_of_ble_eq_true rfl)
            have N162 := Fr.snoc X162 N8 g_b159
            have Zs162 : n0 ≤ h162.size := Nat.le_trans Zs159 (Keep.of_wr W162).1
            have k163 : ∀ t, Steps p.tables e below (T162.setTop (mkF m 151 #[.val (.int p0), .val (.int p1), .val (.int p2), .val (.int p3), .val (.int (p0 &&& (7 : Int32))), .val (.int (own_pk ((p0.toUInt32 >>> ((3 : Int32) &&& 31).toUInt32).toInt32) p1)), .val (.int (own_pk ((p0.toUInt32 >>> ((4 : Int32) &&& 31).toUInt32).toInt32) p2)), .val (.int (own_pk ((p0.toUInt32 >>> ((5 : Int32) &&& 31).toUInt32).toInt32) p3)), .unset, .val (.int (p0 &&& (7 : Int32))), .unset, .unset, .unset] [(.ref b159), (.ref b156), (.ref b156)])) t → Steps p.tables e below (s₁.setTop (entryFrame m #[(.int p0), (.int p1), (.int p2), (.int p3)] maxLocals)) t := fun t k => k161 t (st162 _ k)
            have k164 : ∀ t, Steps p.tables e below (T162.setTop (mkF m 155 #[.val (.int p0), .val (.int p1), .val (.int p2), .val (.int p3), .val (.int (p0 &&& (7 : Int32))), .val (.int (own_pk ((p0.toUInt32 >>> ((3 : Int32) &&& 31).toUInt32).toInt32) p1)), .val (.int (own_pk ((p0.toUInt32 >>> ((4 : Int32) &&& 31).toUInt32).toInt32) p2)), .val (.int (own_pk ((p0.toUInt32 >>> ((5 : Int32) &&& 31).toUInt32).toInt32) p3)), .unset, .val (.int (p0 &&& (7 : Int32))), .unset, .unset, .unset] [(.int (own_pk ((p0.toUInt32 >>> ((4 : Int32) &&& 31).toUInt32).toInt32) p2)), (.int (1 : Int32)), (.ref b159), (.ref b159), (.ref b156), (.ref b156)])) t → Steps p.tables e below (s₁.setTop (entryFrame m #[(.int p0), (.int p1), (.int p2), (.int p3)] maxLocals)) t := fun t k => k163 t (by
                show Steps p.tables e below (T162.setTop (mkF m 151 #[.val (.int p0), .val (.int p1), .val (.int p2), .val (.int p3), .val (.int (p0 &&& (7 : Int32))), .val (.int (own_pk ((p0.toUInt32 >>> ((3 : Int32) &&& 31).toUInt32).toInt32) p1)), .val (.int (own_pk ((p0.toUInt32 >>> ((4 : Int32) &&& 31).toUInt32).toInt32) p2)), .val (.int (own_pk ((p0.toUInt32 >>> ((5 : Int32) &&& 31).toUInt32).toInt32) p3)), .unset, .val (.int (p0 &&& (7 : Int32))), .unset, .unset, .unset] [(.ref b159), (.ref b156), (.ref b156)])) _
                refine XS.dup X162.here hx rfl (hb hby at_151) rfl rfl ?_
                show Steps p.tables e below (T162.setTop (mkF m 152 #[.val (.int p0), .val (.int p1), .val (.int p2), .val (.int p3), .val (.int (p0 &&& (7 : Int32))), .val (.int (own_pk ((p0.toUInt32 >>> ((3 : Int32) &&& 31).toUInt32).toInt32) p1)), .val (.int (own_pk ((p0.toUInt32 >>> ((4 : Int32) &&& 31).toUInt32).toInt32) p2)), .val (.int (own_pk ((p0.toUInt32 >>> ((5 : Int32) &&& 31).toUInt32).toInt32) p3)), .unset, .val (.int (p0 &&& (7 : Int32))), .unset, .unset, .unset] [(.ref b159), (.ref b159), (.ref b156), (.ref b156)])) _
                refine XS.iconst X162.here hx rfl (hb hby at_152) ?_
                show Steps p.tables e below (T162.setTop (mkF m 153 #[.val (.int p0), .val (.int p1), .val (.int p2), .val (.int p3), .val (.int (p0 &&& (7 : Int32))), .val (.int (own_pk ((p0.toUInt32 >>> ((3 : Int32) &&& 31).toUInt32).toInt32) p1)), .val (.int (own_pk ((p0.toUInt32 >>> ((4 : Int32) &&& 31).toUInt32).toInt32) p2)), .val (.int (own_pk ((p0.toUInt32 >>> ((5 : Int32) &&& 31).toUInt32).toInt32) p3)), .unset, .val (.int (p0 &&& (7 : Int32))), .unset, .unset, .unset] [(.int (1 : Int32)), (.ref b159), (.ref b159), (.ref b156), (.ref b156)])) _
                refine XS.iload X162.here hx rfl (hb hby at_153) rfl ?_
                exact k)
            obtain ⟨cl_b159_155, Ar_b159_155, q_b159_155, S_b159_155, N_b159_155, H_b159_155, G_b159_155⟩ := V_b159_150
            have hin_b159_155 : ¬ ((1 : Int32) < 0 ∨ cl_b159_155.slots.size ≤ ((1 : Int32)).toNatClampNeg) := inb_of S_b159_155 ⟨by decide, by decide⟩
            obtain ⟨T165, h165, X165, e165, W165, st165⟩ := stC X162 hx hZ8 e162 Ar_b159_155 (j := (1 : Int32)) hin_b159_155 (g := (mkF m 155 #[.val (.int p0), .val (.int p1), .val (.int p2), .val (.int p3), .val (.int (p0 &&& (7 : Int32))), .val (.int (own_pk ((p0.toUInt32 >>> ((3 : Int32) &&& 31).toUInt32).toInt32) p1)), .val (.int (own_pk ((p0.toUInt32 >>> ((4 : Int32) &&& 31).toUInt32).toInt32) p2)), .val (.int (own_pk ((p0.toUInt32 >>> ((5 : Int32) &&& 31).toUInt32).toInt32) p3)), .unset, .val (.int (p0 &&& (7 : Int32))), .unset, .unset, .unset] [(.int (own_pk ((p0.toUInt32 >>> ((4 : Int32) &&& 31).toUInt32).toInt32) p2)), (.int (1 : Int32)), (.ref b159), (.ref b159), (.ref b156), (.ref b156)])) rfl rfl (hb hby at_155)
            have V_b159_155 : Arv Z h165 b159 ka159 .char (3 : Int32) [(.int (nar .char (own_pk ((p0.toUInt32 >>> ((3 : Int32) &&& 31).toUInt32).toInt32) p1))), (.int (nar .char (own_pk ((p0.toUInt32 >>> ((4 : Int32) &&& 31).toUInt32).toInt32) p2))), (.int (0 : Int32))] (.int (0 : Int32)) := Arv.set Ar_b159_155 q_b159_155 S_b159_155 N_b159_155 H_b159_155 G_b159_155 (fits_nar_char _) W165 1 rfl (Nat.le_of_ble_eq_true rfl)
            have N165 := Fr.snoc X165 N162 g_b159
            have Zs165 : n0 ≤ h165.size := Nat.le_trans Zs162 (Keep.of_wr W165).1
            have k166 : ∀ t, Steps p.tables e below (T165.setTop (mkF m 156 #[.val (.int p0), .val (.int p1), .val (.int p2), .val (.int p3), .val (.int (p0 &&& (7 : Int32))), .val (.int (own_pk ((p0.toUInt32 >>> ((3 : Int32) &&& 31).toUInt32).toInt32) p1)), .val (.int (own_pk ((p0.toUInt32 >>> ((4 : Int32) &&& 31).toUInt32).toInt32) p2)), .val (.int (own_pk ((p0.toUInt32 >>> ((5 : Int32) &&& 31).toUInt32).toInt32) p3)), .unset, .val (.int (p0 &&& (7 : Int32))), .unset, .unset, .unset] [(.ref b159), (.ref b156), (.ref b156)])) t → Steps p.tables e below (s₁.setTop (entryFrame m #[(.int p0), (.int p1), (.int p2), (.int p3)] maxLocals)) t := fun t k => k164 t (st165 _ k)
            have k167 : ∀ t, Steps p.tables e below (T165.setTop (mkF m 160 #[.val (.int p0), .val (.int p1), .val (.int p2), .val (.int p3), .val (.int (p0 &&& (7 : Int32))), .val (.int (own_pk ((p0.toUInt32 >>> ((3 : Int32) &&& 31).toUInt32).toInt32) p1)), .val (.int (own_pk ((p0.toUInt32 >>> ((4 : Int32) &&& 31).toUInt32).toInt32) p2)), .val (.int (own_pk ((p0.toUInt32 >>> ((5 : Int32) &&& 31).toUInt32).toInt32) p3)), .unset, .val (.int (p0 &&& (7 : Int32))), .unset, .unset, .unset] [(.int (own_pk ((p0.toUInt32 >>> ((5 : Int32) &&& 31).toUInt32).toInt32) p3)), (.int (2 : Int32)), (.ref b159), (.ref b159), (.ref b156), (.ref b156)])) t → Steps p.tables e below (s₁.setTop (entryFrame m #[(.int p0), (.int p1), (.int p2), (.int p3)] maxLocals)) t := fun t k => k166 t (by
                show Steps p.tables e below (T165.setTop (mkF m 156 #[.val (.int p0), .val (.int p1), .val (.int p2), .val (.int p3), .val (.int (p0 &&& (7 : Int32))), .val (.int (own_pk ((p0.toUInt32 >>> ((3 : Int32) &&& 31).toUInt32).toInt32) p1)), .val (.int (own_pk ((p0.toUInt32 >>> ((4 : Int32) &&& 31).toUInt32).toInt32) p2)), .val (.int (own_pk ((p0.toUInt32 >>> ((5 : Int32) &&& 31).toUInt32).toInt32) p3)), .unset, .val (.int (p0 &&& (7 : Int32))), .unset, .unset, .unset] [(.ref b159), (.ref b156), (.ref b156)])) _
                refine XS.dup X165.here hx rfl (hb hby at_156) rfl rfl ?_
                show Steps p.tables e below (T165.setTop (mkF m 157 #[.val (.int p0), .val (.int p1), .val (.int p2), .val (.int p3), .val (.int (p0 &&& (7 : Int32))), .val (.int (own_pk ((p0.toUInt32 >>> ((3 : Int32) &&& 31).toUInt32).toInt32) p1)), .val (.int (own_pk ((p0.toUInt32 >>> ((4 : Int32) &&& 31).toUInt32).toInt32) p2)), .val (.int (own_pk ((p0.toUInt32 >>> ((5 : Int32) &&& 31).toUInt32).toInt32) p3)), .unset, .val (.int (p0 &&& (7 : Int32))), .unset, .unset, .unset] [(.ref b159), (.ref b159), (.ref b156), (.ref b156)])) _
                refine XS.iconst X165.here hx rfl (hb hby at_157) ?_
                show Steps p.tables e below (T165.setTop (mkF m 158 #[.val (.int p0), .val (.int p1), .val (.int p2), .val (.int p3), .val (.int (p0 &&& (7 : Int32))), .val (.int (own_pk ((p0.toUInt32 >>> ((3 : Int32) &&& 31).toUInt32).toInt32) p1)), .val (.int (own_pk ((p0.toUInt32 >>> ((4 : Int32) &&& 31).toUInt32).toInt32) p2)), .val (.int (own_pk ((p0.toUInt32 >>> ((5 : Int32) &&& 31).toUInt32).toInt32) p3)), .unset, .val (.int (p0 &&& (7 : Int32))), .unset, .unset, .unset] [(.int (2 : Int32)), (.ref b159), (.ref b159), (.ref b156), (.ref b156)])) _
                refine XS.iload X165.here hx rfl (hb hby at_158) rfl ?_
                exact k)
            obtain ⟨cl_b159_160, Ar_b159_160, q_b159_160, S_b159_160, N_b159_160, H_b159_160, G_b159_160⟩ := V_b159_155
            have hin_b159_160 : ¬ ((2 : Int32) < 0 ∨ cl_b159_160.slots.size ≤ ((2 : Int32)).toNatClampNeg) := inb_of S_b159_160 ⟨by decide, by decide⟩
            obtain ⟨T168, h168, X168, e168, W168, st168⟩ := stC X165 hx hZ8 e165 Ar_b159_160 (j := (2 : Int32)) hin_b159_160 (g := (mkF m 160 #[.val (.int p0), .val (.int p1), .val (.int p2), .val (.int p3), .val (.int (p0 &&& (7 : Int32))), .val (.int (own_pk ((p0.toUInt32 >>> ((3 : Int32) &&& 31).toUInt32).toInt32) p1)), .val (.int (own_pk ((p0.toUInt32 >>> ((4 : Int32) &&& 31).toUInt32).toInt32) p2)), .val (.int (own_pk ((p0.toUInt32 >>> ((5 : Int32) &&& 31).toUInt32).toInt32) p3)), .unset, .val (.int (p0 &&& (7 : Int32))), .unset, .unset, .unset] [(.int (own_pk ((p0.toUInt32 >>> ((5 : Int32) &&& 31).toUInt32).toInt32) p3)), (.int (2 : Int32)), (.ref b159), (.ref b159), (.ref b156), (.ref b156)])) rfl rfl (hb hby at_160)
            have V_b159_160 : Arv Z h168 b159 ka159 .char (3 : Int32) [(.int (nar .char (own_pk ((p0.toUInt32 >>> ((3 : Int32) &&& 31).toUInt32).toInt32) p1))), (.int (nar .char (own_pk ((p0.toUInt32 >>> ((4 : Int32) &&& 31).toUInt32).toInt32) p2))), (.int (nar .char (own_pk ((p0.toUInt32 >>> ((5 : Int32) &&& 31).toUInt32).toInt32) p3)))] (.int (0 : Int32)) := Arv.set Ar_b159_160 q_b159_160 S_b159_160 N_b159_160 H_b159_160 G_b159_160 (fits_nar_char _) W168 2 rfl (Nat.le_of_ble_eq_true rfl)
            have N168 := Fr.snoc X168 N165 g_b159
            have Zs168 : n0 ≤ h168.size := Nat.le_trans Zs165 (Keep.of_wr W168).1
            have k169 : ∀ t, Steps p.tables e below (T168.setTop (mkF m 161 #[.val (.int p0), .val (.int p1), .val (.int p2), .val (.int p3), .val (.int (p0 &&& (7 : Int32))), .val (.int (own_pk ((p0.toUInt32 >>> ((3 : Int32) &&& 31).toUInt32).toInt32) p1)), .val (.int (own_pk ((p0.toUInt32 >>> ((4 : Int32) &&& 31).toUInt32).toInt32) p2)), .val (.int (own_pk ((p0.toUInt32 >>> ((5 : Int32) &&& 31).toUInt32).toInt32) p3)), .unset, .val (.int (p0 &&& (7 : Int32))), .unset, .unset, .unset] [(.ref b159), (.ref b156), (.ref b156)])) t → Steps p.tables e below (s₁.setTop (entryFrame m #[(.int p0), (.int p1), (.int p2), (.int p3)] maxLocals)) t := fun t k => k167 t (st168 _ k)
            have hp170 : ∀ c ∈ ([(nar .char (own_pk ((p0.toUInt32 >>> ((3 : Int32) &&& 31).toUInt32).toInt32) p1)), (nar .char (own_pk ((p0.toUInt32 >>> ((4 : Int32) &&& 31).toUInt32).toInt32) p2)), (nar .char (own_pk ((p0.toUInt32 >>> ((5 : Int32) &&& 31).toUInt32).toInt32) p3))] : List Int32), ¬ c < 0 ∧ ¬ (255 : Int32) < c := by
              intro c hc
              simp only [List.mem_cons, List.not_mem_nil, or_false] at hc
              rcases hc with rfl | rfl | rfl
              · exact own_pk_ok _ _
              · exact own_pk_ok _ _
              · exact own_pk_ok _ _
            obtain ⟨_, _, ⟨T170, L170, kq170, n170⟩, -, X170, ⟨Lc170, hQ170, l170, y170, z170⟩, st170⟩ := X168.specialBack hx (y := (⟨"java/lang/String", "<init>", "([C)V"⟩ : MethodName)) rfl hown8 (mvT hZ8 (hw _ (List.mem_of_getElem? (i := 8) rfl))) (mvT hZ8 (hw _ (List.mem_of_getElem? (i := 9) rfl))) (mvT hZ8 (hw _ (List.mem_of_getElem? (i := 10) rfl))) (by decide) (StrChars.Road.backV (W := 1) hZ8 hws (kI := 4) (hw _ (List.mem_of_getElem? (i := 5) rfl)) (cs := ([(nar .char (own_pk ((p0.toUInt32 >>> ((3 : Int32) &&& 31).toUInt32).toInt32) p1)), (nar .char (own_pk ((p0.toUInt32 >>> ((4 : Int32) &&& 31).toUInt32).toInt32) p2)), (nar .char (own_pk ((p0.toUInt32 >>> ((5 : Int32) &&& 31).toUInt32).toInt32) p3))] : List Int32)) (bs := (([(nar .char (own_pk ((p0.toUInt32 >>> ((3 : Int32) &&& 31).toUInt32).toInt32) p1)), (nar .char (own_pk ((p0.toUInt32 >>> ((4 : Int32) &&& 31).toUInt32).toInt32) p2)), (nar .char (own_pk ((p0.toUInt32 >>> ((5 : Int32) &&& 31).toUInt32).toInt32) p3))] : List Int32)).map (fun c => c.toInt8.toInt32)) (n := 3) g_b156 Zs168 ((((A156.ext E159).wr W162).wr W165).wr W168) ((((F_value_b156.ext E159).other W162 (Or.inl ne_b156_b159)).other W165 (Or.inl ne_b156_b159)).other W168 (Or.inl ne_b156_b159)) ((((F_coder_b156.ext E159).other W162 (Or.inl ne_b156_b159)).other W165 (Or.inl ne_b156_b159)).other W168 (Or.inl ne_b156_b159)) V_b159_160 (O2.ext ((((((((X00.ext Ex2).ext Ex5).ext Ex8).ext E156).ext E159).wr W162 g_b159).wr W165 g_b159).wr W168 g_b159).2) P5 rfl rfl (by decide) (by decide) hp170 rfl (by decide) (by decide)) (g := (mkF m 161 #[.val (.int p0), .val (.int p1), .val (.int p2), .val (.int p3), .val (.int (p0 &&& (7 : Int32))), .val (.int (own_pk ((p0.toUInt32 >>> ((3 : Int32) &&& 31).toUInt32).toInt32) p1)), .val (.int (own_pk ((p0.toUInt32 >>> ((4 : Int32) &&& 31).toUInt32).toInt32) p2)), .val (.int (own_pk ((p0.toUInt32 >>> ((5 : Int32) &&& 31).toUInt32).toInt32) p3)), .unset, .val (.int (p0 &&& (7 : Int32))), .unset, .unset, .unset] [(.ref b159), (.ref b156), (.ref b156)])) rfl (by rw [hml]; rfl) (Steps.refl _) (a := b156) (argsL := [(.ref b159)]) (rest := [(.ref b156)]) (lenOf pd_11 rfl) rfl (by show 2 * 0 + _ ≤ _; exact Nat.le_of_eq rfl) (hb hby at_161) (fun _ _ => ⟨rfl, e168, (by decide : 8 + 1 ≤ _), (by decide : 67 + 3 ≤ _)⟩)
            dsimp only [Pt.U, Pt.locs, Pt.cells, Pt.slots] at X170 l170 y170 z170 st170 hQ170
            subst l170 y170 z170
            obtain ⟨rfl, N170q, K170, Ex170, Cx170, t170, kb170, gt170, zt170, nt170, Vx170, Ax170⟩ := hQ170
            have N170 := Fr.app N168 N170q
            have od171 := (((((((((X00.ext Ex2).ext Ex5).ext Ex8).ext E156).ext E159).wr W162 g_b159).wr W165 g_b159).wr W168 g_b159).keep K170 (allS g_b156 all0))
            have Zs170 : n0 ≤ T170.heap.size := Nat.le_trans Zs168 K170.1
            have k172 : ∀ t, Steps p.tables e below (T170.setTop (mkF m 164 #[.val (.int p0), .val (.int p1), .val (.int p2), .val (.int p3), .val (.int (p0 &&& (7 : Int32))), .val (.int (own_pk ((p0.toUInt32 >>> ((3 : Int32) &&& 31).toUInt32).toInt32) p1)), .val (.int (own_pk ((p0.toUInt32 >>> ((4 : Int32) &&& 31).toUInt32).toInt32) p2)), .val (.int (own_pk ((p0.toUInt32 >>> ((5 : Int32) &&& 31).toUInt32).toInt32) p3)), .unset, .val (.int (p0 &&& (7 : Int32))), .unset, .unset, .unset] [(.ref b156)])) t → Steps p.tables e below (s₁.setTop (entryFrame m #[(.int p0), (.int p1), (.int p2), (.int p3)] maxLocals)) t := fun t k => k169 t (st170.trans k)
            have k173 : ∀ t, Steps p.tables e below (T170.setTop (mkF m 168 #[.val (.int p0), .val (.int p1), .val (.int p2), .val (.int p3), .val (.int (p0 &&& (7 : Int32))), .val (.int (own_pk ((p0.toUInt32 >>> ((3 : Int32) &&& 31).toUInt32).toInt32) p1)), .val (.int (own_pk ((p0.toUInt32 >>> ((4 : Int32) &&& 31).toUInt32).toInt32) p2)), .val (.int (own_pk ((p0.toUInt32 >>> ((5 : Int32) &&& 31).toUInt32).toInt32) p3)), .val (.ref b156), .val (.int (p0 &&& (7 : Int32))), .unset, .unset, .unset] [(.ref b156)])) t → Steps p.tables e below (s₁.setTop (entryFrame m #[(.int p0), (.int p1), (.int p2), (.int p3)] maxLocals)) t := fun t k => k172 t (by
                show Steps p.tables e below (T170.setTop (mkF m 164 #[.val (.int p0), .val (.int p1), .val (.int p2), .val (.int p3), .val (.int (p0 &&& (7 : Int32))), .val (.int (own_pk ((p0.toUInt32 >>> ((3 : Int32) &&& 31).toUInt32).toInt32) p1)), .val (.int (own_pk ((p0.toUInt32 >>> ((4 : Int32) &&& 31).toUInt32).toInt32) p2)), .val (.int (own_pk ((p0.toUInt32 >>> ((5 : Int32) &&& 31).toUInt32).toInt32) p3)), .unset, .val (.int (p0 &&& (7 : Int32))), .unset, .unset, .unset] [(.ref b156)])) _
                refine XS.astore X170.here hx rfl (hb hby at_164) rfl rfl (l' := #[.val (.int p0), .val (.int p1), .val (.int p2), .val (.int p3), .val (.int (p0 &&& (7 : Int32))), .val (.int (own_pk ((p0.toUInt32 >>> ((3 : Int32) &&& 31).toUInt32).toInt32) p1)), .val (.int (own_pk ((p0.toUInt32 >>> ((4 : Int32) &&& 31).toUInt32).toInt32) p2)), .val (.int (own_pk ((p0.toUInt32 >>> ((5 : Int32) &&& 31).toUInt32).toInt32) p3)), .val (.ref b156), .val (.int (p0 &&& (7 : Int32))), .unset, .unset, .unset]) rfl ?_
                show Steps p.tables e below (T170.setTop (mkF m 166 #[.val (.int p0), .val (.int p1), .val (.int p2), .val (.int p3), .val (.int (p0 &&& (7 : Int32))), .val (.int (own_pk ((p0.toUInt32 >>> ((3 : Int32) &&& 31).toUInt32).toInt32) p1)), .val (.int (own_pk ((p0.toUInt32 >>> ((4 : Int32) &&& 31).toUInt32).toInt32) p2)), .val (.int (own_pk ((p0.toUInt32 >>> ((5 : Int32) &&& 31).toUInt32).toInt32) p3)), .val (.ref b156), .val (.int (p0 &&& (7 : Int32))), .unset, .unset, .unset] [])) _
                refine XS.aload X170.here hx rfl (hb hby at_166) rfl rfl ?_
                exact k)
            obtain ⟨_, _, ⟨T174, L174, kq174, n174⟩, -, X174, ⟨Lc174, hQ174, l174, y174, z174⟩, st174⟩ := Jvm.LawKit.callS X170 hx (y := (⟨"com/example/mediawarden/mediawarden/engine/Lang", "of", "(Ljava/lang/String;)Ljava/util/Optional;"⟩ : MethodName)) hown8 (mvT hZ8 (hw _ (List.mem_of_getElem? (i := 26) rfl))) (mvT hZ8 (hw _ (List.mem_of_getElem? (i := 27) rfl))) (mvT hZ8 (hw _ (List.mem_of_getElem? (i := 28) rfl))) (mvT hZ8 (hw _ (List.mem_of_getElem? (i := 29) rfl))) (by decide) (backOf (W := 0) (rm5s l Z a0 hw [] b156 wv cl w_ZH w_EN c_ZH t_ZH c_EN t_EN k_ZH k_EN w_EMPTY G1 t170 kb170 ([(nar .char (own_pk ((p0.toUInt32 >>> ((3 : Int32) &&& 31).toUInt32).toInt32) p1)), (nar .char (own_pk ((p0.toUInt32 >>> ((4 : Int32) &&& 31).toUInt32).toInt32) p2)), (nar .char (own_pk ((p0.toUInt32 >>> ((5 : Int32) &&& 31).toUInt32).toInt32) p3))] : List Int32) (3 : Int32) T170.heap n0 Zs170 (S_V.ext od171.2) (Arv_.ext od171.2) (E_V.ext od171.2) hsz hat0 hat1 (F_code_w_ZH.ext od171.2) (E_c_ZH.ext od171.2) (F_value_c_ZH.ext od171.2) (F_coder_c_ZH.ext od171.2) (V_t_ZH.ext od171.2) (F_code_w_EN.ext od171.2) (E_c_EN.ext od171.2) (F_value_c_EN.ext od171.2) (F_coder_c_EN.ext od171.2) (V_t_EN.ext od171.2) Ex170 Vx170 Cx170 Ax170 S_EMPTY E_w_EMPTY F_value_w_EMPTY O2 P5 od171 (StrChars.Road.codOf (n := 3) rfl (fun c hc => (hp170 c hc).2)) (own_up _ hp170) (Nat.le_of_ble_eq_true rfl)) hZ8 (hw _ (List.mem_of_getElem? (i := 29) rfl)) (hw _ (List.mem_of_getElem? (i := 28) rfl)) (by decide) (by decide)) (g := (mkF m 168 #[.val (.int p0), .val (.int p1), .val (.int p2), .val (.int p3), .val (.int (p0 &&& (7 : Int32))), .val (.int (own_pk ((p0.toUInt32 >>> ((3 : Int32) &&& 31).toUInt32).toInt32) p1)), .val (.int (own_pk ((p0.toUInt32 >>> ((4 : Int32) &&& 31).toUInt32).toInt32) p2)), .val (.int (own_pk ((p0.toUInt32 >>> ((5 : Int32) &&& 31).toUInt32).toInt32) p3)), .val (.ref b156), .val (.int (p0 &&& (7 : Int32))), .unset, .unset, .unset] [(.ref b156)])) rfl (by rw [hml]; rfl) (argsL := [(.ref b156)]) (rest := []) (lenOf pd_9 rfl) rfl (by show 2 * 0 + _ ≤ _; exact Nat.le_of_eq rfl) (hb hby at_168) (fun _ _ => ⟨rfl, rfl, (by decide : 9 + 2 ≤ _), (by decide : 70 + 3 ≤ _)⟩)
            dsimp only [Pt.U, Pt.locs, Pt.cells, Pt.slots] at X174 l174 y174 z174 st174 hQ174
            subst l174 y174 z174
            obtain ⟨o174, val, rfl, N174q, K174, Ex174, Fx174, hcs⟩ := hQ174
            have N174 := Fr.app N170 N174q
            have Zs174 : n0 ≤ T174.heap.size := Nat.le_trans Zs170 K174.1
            have k175 : ∀ t, Steps p.tables e below (T174.setTop (mkF m 171 #[.val (.int p0), .val (.int p1), .val (.int p2), .val (.int p3), .val (.int (p0 &&& (7 : Int32))), .val (.int (own_pk ((p0.toUInt32 >>> ((3 : Int32) &&& 31).toUInt32).toInt32) p1)), .val (.int (own_pk ((p0.toUInt32 >>> ((4 : Int32) &&& 31).toUInt32).toInt32) p2)), .val (.int (own_pk ((p0.toUInt32 >>> ((5 : Int32) &&& 31).toUInt32).toInt32) p3)), .val (.ref b156), .val (.int (p0 &&& (7 : Int32))), .unset, .unset, .unset] [(.ref o174)])) t → Steps p.tables e below (s₁.setTop (entryFrame m #[(.int p0), (.int p1), (.int p2), (.int p3)] maxLocals)) t := fun t k => k173 t (st174 _ k)
            obtain rfl : val = .null := by rcases hcs with ⟨q, -⟩ | ⟨-, q, -⟩ | ⟨-, -, q⟩ <;> first | exact q | exact absurd (congrArg List.length q) (by simp)
            have k176 : ∀ t, Steps p.tables e below (T174.setTop (mkF m 182 #[.val (.int p0), .val (.int p1), .val (.int p2), .val (.int p3), .val (.int (p0 &&& (7 : Int32))), .val (.int (own_pk ((p0.toUInt32 >>> ((3 : Int32) &&& 31).toUInt32).toInt32) p1)), .val (.int (own_pk ((p0.toUInt32 >>> ((4 : Int32) &&& 31).toUInt32).toInt32) p2)), .val (.int (own_pk ((p0.toUInt32 >>> ((5 : Int32) &&& 31).toUInt32).toInt32) p3)), .val (.ref b156), .val (.int (p0 &&& (7 : Int32))), .val (.ref o174), .unset, .unset] [(.ref o174)])) t → Steps p.tables e below (s₁.setTop (entryFrame m #[(.int p0), (.int p1), (.int p2), (.int p3)] maxLocals)) t := fun t k => k175 t (by
                show Steps p.tables e below (T174.setTop (mkF m 171 #[.val (.int p0), .val (.int p1), .val (.int p2), .val (.int p3), .val (.int (p0 &&& (7 : Int32))), .val (.int (own_pk ((p0.toUInt32 >>> ((3 : Int32) &&& 31).toUInt32).toInt32) p1)), .val (.int (own_pk ((p0.toUInt32 >>> ((4 : Int32) &&& 31).toUInt32).toInt32) p2)), .val (.int (own_pk ((p0.toUInt32 >>> ((5 : Int32) &&& 31).toUInt32).toInt32) p3)), .val (.ref b156), .val (.int (p0 &&& (7 : Int32))), .unset, .unset, .unset] [(.ref o174)])) _
                refine XS.astore X174.here hx rfl (hb hby at_171) rfl rfl (l' := #[.val (.int p0), .val (.int p1), .val (.int p2), .val (.int p3), .val (.int (p0 &&& (7 : Int32))), .val (.int (own_pk ((p0.toUInt32 >>> ((3 : Int32) &&& 31).toUInt32).toInt32) p1)), .val (.int (own_pk ((p0.toUInt32 >>> ((4 : Int32) &&& 31).toUInt32).toInt32) p2)), .val (.int (own_pk ((p0.toUInt32 >>> ((5 : Int32) &&& 31).toUInt32).toInt32) p3)), .val (.ref b156), .val (.int (p0 &&& (7 : Int32))), .val (.ref o174), .unset, .unset]) rfl ?_
                show Steps p.tables e below (T174.setTop (mkF m 173 #[.val (.int p0), .val (.int p1), .val (.int p2), .val (.int p3), .val (.int (p0 &&& (7 : Int32))), .val (.int (own_pk ((p0.toUInt32 >>> ((3 : Int32) &&& 31).toUInt32).toInt32) p1)), .val (.int (own_pk ((p0.toUInt32 >>> ((4 : Int32) &&& 31).toUInt32).toInt32) p2)), .val (.int (own_pk ((p0.toUInt32 >>> ((5 : Int32) &&& 31).toUInt32).toInt32) p3)), .val (.ref b156), .val (.int (p0 &&& (7 : Int32))), .val (.ref o174), .unset, .unset] [])) _
                refine XS.aload X174.here hx rfl (hb hby at_173) rfl rfl ?_
                show Steps p.tables e below (T174.setTop (mkF m 175 #[.val (.int p0), .val (.int p1), .val (.int p2), .val (.int p3), .val (.int (p0 &&& (7 : Int32))), .val (.int (own_pk ((p0.toUInt32 >>> ((3 : Int32) &&& 31).toUInt32).toInt32) p1)), .val (.int (own_pk ((p0.toUInt32 >>> ((4 : Int32) &&& 31).toUInt32).toInt32) p2)), .val (.int (own_pk ((p0.toUInt32 >>> ((5 : Int32) &&& 31).toUInt32).toInt32) p3)), .val (.ref b156), .val (.int (p0 &&& (7 : Int32))), .val (.ref o174), .unset, .unset] [(.ref o174)])) _
                refine XS.ifnonnullYes X174.here hx rfl (pc0 := 175) (pc' := 180) rfl (hb hby at_175) rfl (by decide) (by decide) ?_
                show Steps p.tables e below (T174.setTop (mkF m 180 #[.val (.int p0), .val (.int p1), .val (.int p2), .val (.int p3), .val (.int (p0 &&& (7 : Int32))), .val (.int (own_pk ((p0.toUInt32 >>> ((3 : Int32) &&& 31).toUInt32).toInt32) p1)), .val (.int (own_pk ((p0.toUInt32 >>> ((4 : Int32) &&& 31).toUInt32).toInt32) p2)), .val (.int (own_pk ((p0.toUInt32 >>> ((5 : Int32) &&& 31).toUInt32).toInt32) p3)), .val (.ref b156), .val (.int (p0 &&& (7 : Int32))), .val (.ref o174), .unset, .unset] [])) _
                refine XS.aload X174.here hx rfl (hb hby at_180) rfl rfl ?_
                exact k)
            obtain ⟨cq177, kcq177, q177a, q177b, q177c⟩ := isOf hZ8 rfl Ex174
            obtain ⟨_, _, ⟨T177, L177, kq177, n177⟩, -, X177, ⟨Lc177, hQ177, l177, y177, z177⟩, st177⟩ := X174.virtualBack hx (y := (⟨"java/util/Optional", "isPresent", "()Z"⟩ : MethodName)) (z := (⟨"java/util/Optional", "isPresent", "()Z"⟩ : MethodName)) hown8 (mvT hZ8 (hw _ (List.mem_of_getElem? (i := 65) rfl))) (mvT hZ8 (hw _ (List.mem_of_getElem? (i := 66) rfl))) (notFace_of_selects (args := #[]) (mvT hZ8 (hw _ (List.mem_of_getElem? (i := 68) rfl)))) (mvT hZ8 (hw _ (List.mem_of_getElem? (i := 68) rfl))) (mvT hZ8 (hw _ (List.mem_of_getElem? (i := 67) rfl))) (by decide) (backOf (W := 0) (rm10n l Z a0 hw [] o174 T174.heap n0 Zs174 Fx174) hZ8 (hw _ (List.mem_of_getElem? (i := 69) rfl)) (hw _ (List.mem_of_getElem? (i := 62) rfl)) (by decide) (by decide)) q177a q177c (g := (mkF m 182 #[.val (.int p0), .val (.int p1), .val (.int p2), .val (.int p3), .val (.int (p0 &&& (7 : Int32))), .val (.int (own_pk ((p0.toUInt32 >>> ((3 : Int32) &&& 31).toUInt32).toInt32) p1)), .val (.int (own_pk ((p0.toUInt32 >>> ((4 : Int32) &&& 31).toUInt32).toInt32) p2)), .val (.int (own_pk ((p0.toUInt32 >>> ((5 : Int32) &&& 31).toUInt32).toInt32) p3)), .val (.ref b156), .val (.int (p0 &&& (7 : Int32))), .val (.ref o174), .unset, .unset] [(.ref o174)])) rfl (by rw [hml]; rfl) (Steps.refl _) (argsL := []) (rest := []) (lenOf pd_10 rfl) rfl (by show 2 * 0 + _ ≤ _; exact Nat.le_of_eq rfl) (hb hby at_182) (fun _ _ => ⟨rfl, rfl, (by decide : 11 + 0 ≤ _), (by decide : 73 + 0 ≤ _)⟩)
            dsimp only [Pt.U, Pt.locs, Pt.cells, Pt.slots] at X177 l177 y177 z177 st177 hQ177
            subst l177 y177 z177
            obtain ⟨rfl, N177q, e177⟩ := hQ177
            have N177 := Fr.app N174 N177q
            have k178 : ∀ t, Steps p.tables e below (T177.setTop (mkF m 185 #[.val (.int p0), .val (.int p1), .val (.int p2), .val (.int p3), .val (.int (p0 &&& (7 : Int32))), .val (.int (own_pk ((p0.toUInt32 >>> ((3 : Int32) &&& 31).toUInt32).toInt32) p1)), .val (.int (own_pk ((p0.toUInt32 >>> ((4 : Int32) &&& 31).toUInt32).toInt32) p2)), .val (.int (own_pk ((p0.toUInt32 >>> ((5 : Int32) &&& 31).toUInt32).toInt32) p3)), .val (.ref b156), .val (.int (p0 &&& (7 : Int32))), .val (.ref o174), .unset, .unset] [(.int (0 : Int32))])) t → Steps p.tables e below (s₁.setTop (entryFrame m #[(.int p0), (.int p1), (.int p2), (.int p3)] maxLocals)) t := fun t k => k176 t (st177.trans k)
            have hc185 : (0 : Int32) = (0 : Int32) := by decide
            have hc208 : ¬ ((p0 &&& (7 : Int32)) = (2 : Int32)) := hc111
            have hc236 : ¬ ((p0 &&& (7 : Int32)) = (2 : Int32)) := hc111
            have k179 : ∀ t, Steps p.tables e below (T177.setTop (mkF m 270 #[.val (.int p0), .val (.int p1), .val (.int p2), .val (.int p3), .val (.int (p0 &&& (7 : Int32))), .val (.int (own_pk ((p0.toUInt32 >>> ((3 : Int32) &&& 31).toUInt32).toInt32) p1)), .val (.int (own_pk ((p0.toUInt32 >>> ((4 : Int32) &&& 31).toUInt32).toInt32) p2)), .val (.int (own_pk ((p0.toUInt32 >>> ((5 : Int32) &&& 31).toUInt32).toInt32) p3)), .val (.ref b156), .val (.int (p0 &&& (7 : Int32))), .val (.ref o174), .val .null, .val .null] [(.int (1 : Int32))])) t → Steps p.tables e below (s₁.setTop (entryFrame m #[(.int p0), (.int p1), (.int p2), (.int p3)] maxLocals)) t := fun t k => k178 t (by
                show Steps p.tables e below (T177.setTop (mkF m 185 #[.val (.int p0), .val (.int p1), .val (.int p2), .val (.int p3), .val (.int (p0 &&& (7 : Int32))), .val (.int (own_pk ((p0.toUInt32 >>> ((3 : Int32) &&& 31).toUInt32).toInt32) p1)), .val (.int (own_pk ((p0.toUInt32 >>> ((4 : Int32) &&& 31).toUInt32).toInt32) p2)), .val (.int (own_pk ((p0.toUInt32 >>> ((5 : Int32) &&& 31).toUInt32).toInt32) p3)), .val (.ref b156), .val (.int (p0 &&& (7 : Int32))), .val (.ref o174), .unset, .unset] [(.int (0 : Int32))])) _
                refine XS.ifYes X177.here hx rfl (pc0 := 185) (pc' := 199) rfl (hb hby at_185) rfl ((if0 _ _).trans (teq hc185).1) (by decide) (by decide) ?_
                show Steps p.tables e below (T177.setTop (mkF m 199 #[.val (.int p0), .val (.int p1), .val (.int p2), .val (.int p3), .val (.int (p0 &&& (7 : Int32))), .val (.int (own_pk ((p0.toUInt32 >>> ((3 : Int32) &&& 31).toUInt32).toInt32) p1)), .val (.int (own_pk ((p0.toUInt32 >>> ((4 : Int32) &&& 31).toUInt32).toInt32) p2)), .val (.int (own_pk ((p0.toUInt32 >>> ((5 : Int32) &&& 31).toUInt32).toInt32) p3)), .val (.ref b156), .val (.int (p0 &&& (7 : Int32))), .val (.ref o174), .unset, .unset] [])) _
                refine XS.aconstNull X177.here hx rfl (hb hby at_199) ?_
                show Steps p.tables e below (T177.setTop (mkF m 200 #[.val (.int p0), .val (.int p1), .val (.int p2), .val (.int p3), .val (.int (p0 &&& (7 : Int32))), .val (.int (own_pk ((p0.toUInt32 >>> ((3 : Int32) &&& 31).toUInt32).toInt32) p1)), .val (.int (own_pk ((p0.toUInt32 >>> ((4 : Int32) &&& 31).toUInt32).toInt32) p2)), .val (.int (own_pk ((p0.toUInt32 >>> ((5 : Int32) &&& 31).toUInt32).toInt32) p3)), .val (.ref b156), .val (.int (p0 &&& (7 : Int32))), .val (.ref o174), .unset, .unset] [.null])) _
                refine XS.astore X177.here hx rfl (hb hby at_200) rfl rfl (l' := #[.val (.int p0), .val (.int p1), .val (.int p2), .val (.int p3), .val (.int (p0 &&& (7 : Int32))), .val (.int (own_pk ((p0.toUInt32 >>> ((3 : Int32) &&& 31).toUInt32).toInt32) p1)), .val (.int (own_pk ((p0.toUInt32 >>> ((4 : Int32) &&& 31).toUInt32).toInt32) p2)), .val (.int (own_pk ((p0.toUInt32 >>> ((5 : Int32) &&& 31).toUInt32).toInt32) p3)), .val (.ref b156), .val (.int (p0 &&& (7 : Int32))), .val (.ref o174), .val .null, .unset]) rfl ?_
                show Steps p.tables e below (T177.setTop (mkF m 202 #[.val (.int p0), .val (.int p1), .val (.int p2), .val (.int p3), .val (.int (p0 &&& (7 : Int32))), .val (.int (own_pk ((p0.toUInt32 >>> ((3 : Int32) &&& 31).toUInt32).toInt32) p1)), .val (.int (own_pk ((p0.toUInt32 >>> ((4 : Int32) &&& 31).toUInt32).toInt32) p2)), .val (.int (own_pk ((p0.toUInt32 >>> ((5 : Int32) &&& 31).toUInt32).toInt32) p3)), .val (.ref b156), .val (.int (p0 &&& (7 : Int32))), .val (.ref o174), .val .null, .unset] [])) _
                refine XS.aconstNull X177.here hx rfl (hb hby at_202) ?_
                show Steps p.tables e below (T177.setTop (mkF m 203 #[.val (.int p0), .val (.int p1), .val (.int p2), .val (.int p3), .val (.int (p0 &&& (7 : Int32))), .val (.int (own_pk ((p0.toUInt32 >>> ((3 : Int32) &&& 31).toUInt32).toInt32) p1)), .val (.int (own_pk ((p0.toUInt32 >>> ((4 : Int32) &&& 31).toUInt32).toInt32) p2)), .val (.int (own_pk ((p0.toUInt32 >>> ((5 : Int32) &&& 31).toUInt32).toInt32) p3)), .val (.ref b156), .val (.int (p0 &&& (7 : Int32))), .val (.ref o174), .val .null, .unset] [.null])) _
                refine XS.astore X177.here hx rfl (hb hby at_203) rfl rfl (l' := #[.val (.int p0), .val (.int p1), .val (.int p2), .val (.int p3), .val (.int (p0 &&& (7 : Int32))), .val (.int (own_pk ((p0.toUInt32 >>> ((3 : Int32) &&& 31).toUInt32).toInt32) p1)), .val (.int (own_pk ((p0.toUInt32 >>> ((4 : Int32) &&& 31).toUInt32).toInt32) p2)), .val (.int (own_pk ((p0.toUInt32 >>> ((5 : Int32) &&& 31).toUInt32).toInt32) p3)), .val (.ref b156), .val (.int (p0 &&& (7 : Int32))), .val (.ref o174), .val .null, .val .null]) rfl ?_
                show Steps p.tables e below (T177.setTop (mkF m 205 #[.val (.int p0), .val (.int p1), .val (.int p2), .val (.int p3), .val (.int (p0 &&& (7 : Int32))), .val (.int (own_pk ((p0.toUInt32 >>> ((3 : Int32) &&& 31).toUInt32).toInt32) p1)), .val (.int (own_pk ((p0.toUInt32 >>> ((4 : Int32) &&& 31).toUInt32).toInt32) p2)), .val (.int (own_pk ((p0.toUInt32 >>> ((5 : Int32) &&& 31).toUInt32).toInt32) p3)), .val (.ref b156), .val (.int (p0 &&& (7 : Int32))), .val (.ref o174), .val .null, .val .null] [])) _
                refine XS.iload X177.here hx rfl (hb hby at_205) rfl ?_
                show Steps p.tables e below (T177.setTop (mkF m 207 #[.val (.int p0), .val (.int p1), .val (.int p2), .val (.int p3), .val (.int (p0 &&& (7 : Int32))), .val (.int (own_pk ((p0.toUInt32 >>> ((3 : Int32) &&& 31).toUInt32).toInt32) p1)), .val (.int (own_pk ((p0.toUInt32 >>> ((4 : Int32) &&& 31).toUInt32).toInt32) p2)), .val (.int (own_pk ((p0.toUInt32 >>> ((5 : Int32) &&& 31).toUInt32).toInt32) p3)), .val (.ref b156), .val (.int (p0 &&& (7 : Int32))), .val (.ref o174), .val .null, .val .null] [(.int (p0 &&& (7 : Int32)))])) _
                refine XS.iconst X177.here hx rfl (hb hby at_207) ?_
                show Steps p.tables e below (T177.setTop (mkF m 208 #[.val (.int p0), .val (.int p1), .val (.int p2), .val (.int p3), .val (.int (p0 &&& (7 : Int32))), .val (.int (own_pk ((p0.toUInt32 >>> ((3 : Int32) &&& 31).toUInt32).toInt32) p1)), .val (.int (own_pk ((p0.toUInt32 >>> ((4 : Int32) &&& 31).toUInt32).toInt32) p2)), .val (.int (own_pk ((p0.toUInt32 >>> ((5 : Int32) &&& 31).toUInt32).toInt32) p3)), .val (.ref b156), .val (.int (p0 &&& (7 : Int32))), .val (.ref o174), .val .null, .val .null] [(.int (2 : Int32)), (.int (p0 &&& (7 : Int32)))])) _
                refine XS.icmpYes X177.here hx rfl (pc0 := 208) (pc' := 233) rfl (hb hby at_208) rfl (feq hc208).2 (by decide) (by decide) ?_
                show Steps p.tables e below (T177.setTop (mkF m 233 #[.val (.int p0), .val (.int p1), .val (.int p2), .val (.int p3), .val (.int (p0 &&& (7 : Int32))), .val (.int (own_pk ((p0.toUInt32 >>> ((3 : Int32) &&& 31).toUInt32).toInt32) p1)), .val (.int (own_pk ((p0.toUInt32 >>> ((4 : Int32) &&& 31).toUInt32).toInt32) p2)), .val (.int (own_pk ((p0.toUInt32 >>> ((5 : Int32) &&& 31).toUInt32).toInt32) p3)), .val (.ref b156), .val (.int (p0 &&& (7 : Int32))), .val (.ref o174), .val .null, .val .null] [])) _
                refine XS.iload X177.here hx rfl (hb hby at_233) rfl ?_
                show Steps p.tables e below (T177.setTop (mkF m 235 #[.val (.int p0), .val (.int p1), .val (.int p2), .val (.int p3), .val (.int (p0 &&& (7 : Int32))), .val (.int (own_pk ((p0.toUInt32 >>> ((3 : Int32) &&& 31).toUInt32).toInt32) p1)), .val (.int (own_pk ((p0.toUInt32 >>> ((4 : Int32) &&& 31).toUInt32).toInt32) p2)), .val (.int (own_pk ((p0.toUInt32 >>> ((5 : Int32) &&& 31).toUInt32).toInt32) p3)), .val (.ref b156), .val (.int (p0 &&& (7 : Int32))), .val (.ref o174), .val .null, .val .null] [(.int (p0 &&& (7 : Int32)))])) _
                refine XS.iconst X177.here hx rfl (hb hby at_235) ?_
                show Steps p.tables e below (T177.setTop (mkF m 236 #[.val (.int p0), .val (.int p1), .val (.int p2), .val (.int p3), .val (.int (p0 &&& (7 : Int32))), .val (.int (own_pk ((p0.toUInt32 >>> ((3 : Int32) &&& 31).toUInt32).toInt32) p1)), .val (.int (own_pk ((p0.toUInt32 >>> ((4 : Int32) &&& 31).toUInt32).toInt32) p2)), .val (.int (own_pk ((p0.toUInt32 >>> ((5 : Int32) &&& 31).toUInt32).toInt32) p3)), .val (.ref b156), .val (.int (p0 &&& (7 : Int32))), .val (.ref o174), .val .null, .val .null] [(.int (2 : Int32)), (.int (p0 &&& (7 : Int32)))])) _
                refine XS.icmpYes X177.here hx rfl (pc0 := 236) (pc' := 258) rfl (hb hby at_236) rfl (feq hc236).2 (by decide) (by decide) ?_
                show Steps p.tables e below (T177.setTop (mkF m 258 #[.val (.int p0), .val (.int p1), .val (.int p2), .val (.int p3), .val (.int (p0 &&& (7 : Int32))), .val (.int (own_pk ((p0.toUInt32 >>> ((3 : Int32) &&& 31).toUInt32).toInt32) p1)), .val (.int (own_pk ((p0.toUInt32 >>> ((4 : Int32) &&& 31).toUInt32).toInt32) p2)), .val (.int (own_pk ((p0.toUInt32 >>> ((5 : Int32) &&& 31).toUInt32).toInt32) p3)), .val (.ref b156), .val (.int (p0 &&& (7 : Int32))), .val (.ref o174), .val .null, .val .null] [])) _
                refine XS.aload X177.here hx rfl (hb hby at_258) rfl rfl ?_
                show Steps p.tables e below (T177.setTop (mkF m 260 #[.val (.int p0), .val (.int p1), .val (.int p2), .val (.int p3), .val (.int (p0 &&& (7 : Int32))), .val (.int (own_pk ((p0.toUInt32 >>> ((3 : Int32) &&& 31).toUInt32).toInt32) p1)), .val (.int (own_pk ((p0.toUInt32 >>> ((4 : Int32) &&& 31).toUInt32).toInt32) p2)), .val (.int (own_pk ((p0.toUInt32 >>> ((5 : Int32) &&& 31).toUInt32).toInt32) p3)), .val (.ref b156), .val (.int (p0 &&& (7 : Int32))), .val (.ref o174), .val .null, .val .null] [.null])) _
                refine XS.aload X177.here hx rfl (hb hby at_260) rfl rfl ?_
                show Steps p.tables e below (T177.setTop (mkF m 262 #[.val (.int p0), .val (.int p1), .val (.int p2), .val (.int p3), .val (.int (p0 &&& (7 : Int32))), .val (.int (own_pk ((p0.toUInt32 >>> ((3 : Int32) &&& 31).toUInt32).toInt32) p1)), .val (.int (own_pk ((p0.toUInt32 >>> ((4 : Int32) &&& 31).toUInt32).toInt32) p2)), .val (.int (own_pk ((p0.toUInt32 >>> ((5 : Int32) &&& 31).toUInt32).toInt32) p3)), .val (.ref b156), .val (.int (p0 &&& (7 : Int32))), .val (.ref o174), .val .null, .val .null] [.null, .null])) _
                refine Jvm.RoadKit.acmp (g := (mkF m 262 #[.val (.int p0), .val (.int p1), .val (.int p2), .val (.int p3), .val (.int (p0 &&& (7 : Int32))), .val (.int (own_pk ((p0.toUInt32 >>> ((3 : Int32) &&& 31).toUInt32).toInt32) p1)), .val (.int (own_pk ((p0.toUInt32 >>> ((4 : Int32) &&& 31).toUInt32).toInt32) p2)), .val (.int (own_pk ((p0.toUInt32 >>> ((5 : Int32) &&& 31).toUInt32).toInt32) p3)), .val (.ref b156), .val (.int (p0 &&& (7 : Int32))), .val (.ref o174), .val .null, .val .null] [.null, .null])) X177 hx rfl rfl rfl (pc0 := 262) (pc' := 265) (same := true) rfl (hb hby at_262) rfl (decide_eq_true rfl) (by decide) (by decide) ?_
                show Steps p.tables e below (T177.setTop (mkF m 265 #[.val (.int p0), .val (.int p1), .val (.int p2), .val (.int p3), .val (.int (p0 &&& (7 : Int32))), .val (.int (own_pk ((p0.toUInt32 >>> ((3 : Int32) &&& 31).toUInt32).toInt32) p1)), .val (.int (own_pk ((p0.toUInt32 >>> ((4 : Int32) &&& 31).toUInt32).toInt32) p2)), .val (.int (own_pk ((p0.toUInt32 >>> ((5 : Int32) &&& 31).toUInt32).toInt32) p3)), .val (.ref b156), .val (.int (p0 &&& (7 : Int32))), .val (.ref o174), .val .null, .val .null] [])) _
                refine XS.iconst X177.here hx rfl (hb hby at_265) ?_
                show Steps p.tables e below (T177.setTop (mkF m 266 #[.val (.int p0), .val (.int p1), .val (.int p2), .val (.int p3), .val (.int (p0 &&& (7 : Int32))), .val (.int (own_pk ((p0.toUInt32 >>> ((3 : Int32) &&& 31).toUInt32).toInt32) p1)), .val (.int (own_pk ((p0.toUInt32 >>> ((4 : Int32) &&& 31).toUInt32).toInt32) p2)), .val (.int (own_pk ((p0.toUInt32 >>> ((5 : Int32) &&& 31).toUInt32).toInt32) p3)), .val (.ref b156), .val (.int (p0 &&& (7 : Int32))), .val (.ref o174), .val .null, .val .null] [(.int (1 : Int32))])) _
                refine XS.goto X177.here hx rfl (pc0 := 266) (pc' := 270) rfl (hb hby at_266) (by decide) (by decide) ?_
                exact k)
            obtain ⟨fs, hr, hrun, hended, w1, w2, w3, w4⟩ := X177.leaveW (s := s) (vm₁ := T8.vm) Sn8 (by rw [e177]; exact (Nat.le_trans (Nat.le_trans (Nat.le_trans (Nat.le_trans (Nat.le_trans (Nat.le_trans (Nat.le_trans (Nat.le_refl _) E156.1) E159.1) (Keep.of_wr W162).1) (Keep.of_wr W165).1) (Keep.of_wr W168).1) K170.1) K174.1)) (v := (some (.int (1 : Int32)))) (fun h => by rw [Bd.returns] at h; cases h)
            refine ⟨_, _, k179 _ ?_, hrun, hended, _, _, rfl, ?_, w1, w2, w3, w4.mono (by decide) (by decide)⟩
            · exact retN X177 hx (t := .boolean) Bd.returns (by simp) (hb hby at_270) hr
            · show Q0 Z p0 p1 p2 p3 wv cl w_ZH w_EN c_ZH t_ZH c_EN t_EN k_ZH k_EN w_EMPTY G1 G3 h0 n0 _ T177.heap _
              rw [e177]
              exact ⟨rfl, N177⟩
theorem own_fi {args : Array Value} {s : State} {t : Term} {C n d : String} {a : Addr} {i : Int32} (e : t.eval args s none [] s = some (.ref a)) (h : (Jvm.Cond.eq (.field t C n d) (.int i)).value args s none s [] = some true) : s.fieldOf? a C n d = some (.int i) := by
  obtain ⟨x, y, hx, hy, k1, k2⟩ := cmp_v (Or.inl h)
  have hy' : y = .int i := Option.some.inj (hy.symm.trans (Term.int_eval i))
  subst hy'
  obtain ⟨z, rfl⟩ := k2
  have q : z = i := gotT (Cond.eq_ints hx (Term.int_eval i)) h
  rw [fld_at e] at hx
  rw [hx, q]
theorem own_ne {args : Array Value} {s : State} {t u : Term} {C n d : String} {a b : Addr} {i j : Int32} (e1 : t.eval args s none [] s = some (.ref a)) (e2 : u.eval args s none [] s = some (.ref b)) (h1 : (Jvm.Cond.eq (.field t C n d) (.int i)).value args s none s [] = some true) (h2 : (Jvm.Cond.eq (.field u C n d) (.int j)).value args s none s [] = some true) (hij : i ≠ j) : a ≠ b := by
  intro q; subst q
  have g1 := own_fi e1 h1
  have g2 := own_fi e2 h2
  rw [g1] at g2
  exact hij (Value.int.inj (Option.some.inj g2))
theorem own_fr2 {args : Array Value} {s : State} {t u : Term} {b : Addr} (e2 : u.eval args s none [] s = some (.ref b)) (h : (Jvm.Cond.eq t u).value args s none s [] = some true) : t.eval args s none [] s = some (.ref b) := by
  obtain ⟨x, y, hx, hy, k1, k2⟩ := cmp_v (Or.inl h)
  have hy' : y = .ref b := Option.some.inj (hy.symm.trans e2)
  subst hy'
  have k3 : x.isRef = true := by cases x <;> simp [Kin, Value.isRef] at k2 ⊢
  have q : x = .ref b := gotT (eq_R hx hy k3 rfl) h
  rw [hx, q]
theorem own_ei {args : Array Value} {s : State} {t : Term} {i : Int32} (h : (Jvm.Cond.eq t (.int i)).value args s none s [] = some true) : t.eval args s none [] s = some (.int i) := by
  obtain ⟨x, y, hx, hy, k1, k2⟩ := cmp_v (Or.inl h)
  have hy' : y = .int i := Option.some.inj (hy.symm.trans (Term.int_eval i))
  subst hy'
  obtain ⟨z, rfl⟩ := k2
  have q : z = i := gotT (Cond.eq_ints hx (Term.int_eval i)) h
  rw [hx, q]
theorem own_len {args : Array Value} {s : State} {t : Term} {a : Addr} {cl : Cell} {z : Int32} (e : t.eval args s none [] s = some (.ref a)) (hA : s.arrayAt? a = some cl) (h : (Term.length t).eval args s none [] s = some (.int z)) : cl.slots.size < 2 ^ 31 ∧ cl.slots.size.toInt32 = z := by
  by_cases q : cl.slots.size < 2 ^ 31
  · exact ⟨q, Value.int.inj (Option.some.inj ((len_f e hA q).symm.trans h))⟩
  · exfalso
    have q' : ¬ cl.slots.size < 2147483648 := q
    simp [Term.eval, e, hA, q'] at h
theorem own_two {n : Nat} (q : n < 2 ^ 31) (e : n.toInt32 = (2 : Int32)) : n = 2 := by
  have e' := congrArg Int32.toInt e
  rw [len_toInt q] at e'
  have : (2 : Int32).toInt = 2 := rfl
  omega
set_option maxRecDepth 65536 in
set_option maxHeartbeats 40000000 in
theorem comes_1 {Post : Tables → Env → Array Value → State → Outcome → State → Prop} (hpost : ∀ tb e args s v u, (limb_1_1.after args s (.returned v) u = true ∧ limb_1_2.after args s (.returned v) u = true ∧ True) → ReturnedEndW s (.returned v) u (Jvm.fieldLocs frame_1_writes args s ++ Jvm.arrayLocs frame_1_arrays args s ++ Jvm.staticLocs frame_1_statics s) 24 2176 → Post tb e args s (.returned v) u) :
    ArmFor flags0 classFile x code maxLocals ret World_1 tables_1 room_1 Calls_1 rest_1 Pre_1 Post := by
  intro l hfl _ _ p e ha hc hk s m args below hf hA hF happ hP
  obtain ⟨hcalls, hrest, hpre⟩ := hP
  obtain ⟨-, -, -, hnamed, -, -, -, hat⟩ := (Spec.applies_iff hf).mp happ
  obtain ⟨hg, hn⟩ := and_e (Cond.before_iff.mp (show (Jvm.Cond.and given_1 narrow_1).before args s = true from hpre))
  obtain ⟨hcount, hgs⟩ := and_e hg
  obtain ⟨w0, w1, w2, w3, rfl⟩ : ∃ w0 w1 w2 w3 : Value, args = #[w0, w1, w2, w3] := by
    have hs : args.size = 4 := by simpa [Cond.value, given_1] using hcount
    obtain ⟨L⟩ := args
    match L, hs with
    | [w0, w1, w2, w3], _ => exact ⟨w0, w1, w2, w3, rfl⟩
  have hw := fun d (hd : d ∈ tables_1) => atoms_spec (ws := Jvm.Cond.code x code maxLocals ret :: tables_1) hat d (List.mem_cons_of_mem _ hd)
  obtain ⟨hg0, hgr0⟩ := and_e hgs
  obtain ⟨i0, ei0⟩ := is_v hg0
  obtain rfl : w0 = (.int i0) := Option.some.inj ei0
  obtain ⟨hg1, hgr1⟩ := and_e hgr0
  obtain ⟨i1, ei1⟩ := is_v hg1
  obtain rfl : w1 = (.int i1) := Option.some.inj ei1
  obtain ⟨hg2, hgr2⟩ := and_e hgr1
  obtain ⟨i2, ei2⟩ := is_v hg2
  obtain rfl : w2 = (.int i2) := Option.some.inj ei2
  obtain ⟨i3, ei3⟩ := is_v hgr2
  obtain rfl : w3 = (.int i3) := Option.some.inj ei3
  obtain ⟨hn1, hn2⟩ := and_e hn
  obtain ⟨hn3, hn4⟩ := and_e hn2
  obtain ⟨hn5, hn6⟩ := and_e hn4
  obtain ⟨hn7, hn8⟩ := and_e hn6
  obtain ⟨hn9, hn10⟩ := and_e hn8
  obtain ⟨hn11, hn12⟩ := and_e hn10
  obtain ⟨hn13, hn14⟩ := and_e hn12
  obtain ⟨hn15, hn16⟩ := and_e hn14
  obtain ⟨hn17, hn18⟩ := and_e hn16
  obtain ⟨hn19, hn20⟩ := and_e hn18
  obtain ⟨hn21, hn22⟩ := and_e hn20
  obtain ⟨hn23, hn24⟩ := and_e hn22
  obtain ⟨hn25, hn26⟩ := and_e hn24
  obtain ⟨hn27, hn28⟩ := and_e hn26
  obtain ⟨hn29, hn30⟩ := and_e hn28
  obtain ⟨hn31, hn32⟩ := and_e hn30
  obtain ⟨hn33, hn34⟩ := and_e hn32
  obtain ⟨hn35, hn36⟩ := and_e hn34
  obtain ⟨w_ZH, es_ZH⟩ := exa_v hn7
  have S_ZH := Sta.start es_ZH (Or.inr ⟨(hw _ (List.mem_of_getElem? (i := 28) rfl)), (hw _ (List.mem_of_getElem? (i := 42) rfl))⟩)
  have E_w_ZH := Exa.start es_ZH hn7
  obtain ⟨w_EN, es_EN⟩ := exa_v hn11
  have S_EN := Sta.start es_EN (Or.inr ⟨(hw _ (List.mem_of_getElem? (i := 28) rfl)), (hw _ (List.mem_of_getElem? (i := 43) rfl))⟩)
  have E_w_EN := Exa.start es_EN hn11
  have hfit : Fit s := fun {y c} hc i hi => by
    obtain ⟨ha, rfl⟩ := Array.getElem?_eq_some_iff.mp hc
    have q := List.all_eq_true.mp ((Array.all_eq_true_iff_forall_mem.mp hF) _ (Array.getElem_mem ha)) i (List.mem_range.mpr hi)
    simpa [Array.getElem?_eq_getElem hi] using q
  obtain ⟨c_ZH, ec_ZH⟩ := exa_v hn15
  have E_c_ZH := Exa.start ec_ZH hn15
  have F_code_w_ZH := Fld.start ((fld_at es_ZH).symm.trans ec_ZH)
  have F_coder_c_ZH := Fld.start (own_fi ec_ZH hn17)
  obtain ⟨t_ZH, et_ZH⟩ := arr_v hn19
  have F_value_c_ZH := Fld.start ((fld_at ec_ZH).symm.trans et_ZH)
  obtain ⟨cl_ZH, Ar_ZH⟩ := Arr.start et_ZH hn19
  obtain ⟨q_ZH, z_ZH⟩ := own_len et_ZH (Ar_ZH.fin (Vm.Alike.refl _)) (own_ei hn21)
  have b0_ZH : cl_ZH.slots[0]? = some (.int (122 : Int32)) := (elem_in (own_ei hn31) et_ZH (Term.int_eval (0 : Int32)) Ar_ZH.1).2
  have b1_ZH : cl_ZH.slots[1]? = some (.int (104 : Int32)) := (elem_in (own_ei hn36) et_ZH (Term.int_eval (1 : Int32)) Ar_ZH.1).2
  have V_t_ZH : Arv s s.heap t_ZH cl_ZH.cls .byte (2 : Int32) ((([122, 104] : List Int32).map (fun c => c.toInt8.toInt32)).map Value.int) (.int (0 : Int32)) := Arv.start hfit Ar_ZH q_ZH z_ZH (by decide) rfl ⟨b0_ZH, b1_ZH, trivial⟩
  obtain ⟨c_EN, ec_EN⟩ := exa_v hn23
  have E_c_EN := Exa.start ec_EN hn23
  have F_code_w_EN := Fld.start ((fld_at es_EN).symm.trans ec_EN)
  have F_coder_c_EN := Fld.start (own_fi ec_EN hn25)
  obtain ⟨t_EN, et_EN⟩ := arr_v hn27
  have F_value_c_EN := Fld.start ((fld_at ec_EN).symm.trans et_EN)
  obtain ⟨cl_EN, Ar_EN⟩ := Arr.start et_EN hn27
  obtain ⟨q_EN, z_EN⟩ := own_len et_EN (Ar_EN.fin (Vm.Alike.refl _)) (own_ei hn29)
  have b0_EN : cl_EN.slots[0]? = some (.int (101 : Int32)) := (elem_in (own_ei hn33) et_EN (Term.int_eval (0 : Int32)) Ar_EN.1).2
  have b1_EN : cl_EN.slots[1]? = some (.int (110 : Int32)) := (elem_in (own_ei hn35) et_EN (Term.int_eval (1 : Int32)) Ar_EN.1).2
  have V_t_EN : Arv s s.heap t_EN cl_EN.cls .byte (2 : Int32) ((([101, 110] : List Int32).map (fun c => c.toInt8.toInt32)).map Value.int) (.int (0 : Int32)) := Arv.start hfit Ar_EN q_EN z_EN (by decide) rfl ⟨b0_EN, b1_EN, trivial⟩
  obtain ⟨wv, es_V⟩ := arr_v hn1
  have S_V := Sta.start es_V (Or.inl (hw _ (List.mem_of_getElem? (i := 44) rfl)))
  have E_V := Exa.start es_V hn3
  obtain ⟨cl, Ar⟩ := Arr.start es_V hn1
  obtain ⟨q_V, z_V⟩ := own_len es_V (Ar.fin (Vm.Alike.refl _)) (own_ei hn5)
  have hsz := own_two q_V z_V
  have hat0 : cl.slots[0]? = some (.ref w_ZH) := (elem_in (own_fr2 es_ZH hn9) es_V (Term.int_eval (0 : Int32)) Ar.1).2
  have hat1 : cl.slots[1]? = some (.ref w_EN) := (elem_in (own_fr2 es_EN hn13) es_V (Term.int_eval (1 : Int32)) Ar.1).2
  obtain ⟨hsets, hown0⟩ := atoms_of _ (rest_1_c_eq ▸ (show rest_1_c.before _ s = true from hrest))
  have n5 := not_v (Cond.before_iff.mp (hsets _ (List.mem_of_getElem? (i := 2) rfl)))
  obtain ⟨G1, eG1⟩ := is_v (Cond.before_iff.mp (hsets _ (List.mem_of_getElem? (i := 1) rfl)))
  have O2 : Sta s s.heap "java/lang/String" "COMPACT_STRINGS" "Z" (.int G1) := Sta.start eG1 (Or.inl (hsets _ (List.mem_of_getElem? (i := 0) rfl)))
  have P5 : ¬ (G1 = (0 : Int32)) := gotF (Cond.eq_ints eG1 (Term.int_eval (0))) n5
  obtain ⟨G3, eG3, rG3⟩ := isR_v (Cond.before_iff.mp (hsets _ (List.mem_of_getElem? (i := 8) rfl)))
  have O4 : Sta s s.heap "jdk/internal/util/Preconditions" "SIOOBE_FORMATTER" "Ljava/util/function/BiFunction;" G3 := Sta.start eG3 (Or.inl (hsets _ (List.mem_of_getElem? (i := 7) rfl)))
  have hE11 := Cond.before_iff.mp (hsets _ (List.mem_of_getElem? (i := 11) rfl))
  obtain ⟨w_EMPTY, eE⟩ := exa_v hE11
  have S_EMPTY := Sta.start eE (Or.inl (hsets _ (List.mem_of_getElem? (i := 10) rfl)))
  have E_w_EMPTY := Exa.start eE hE11
  have F_value_w_EMPTY := Fld.start ((fld_at eE).symm.trans (null_v (Cond.before_iff.mp (hsets _ (List.mem_of_getElem? (i := 12) rfl)))))
  have hELs : EW s #[(.int i0), (.int i1), (.int i2), (.int i3)] own_EL := EW.cons (text := "zhen") (hw _ (List.mem_of_getElem? (i := 72) rfl)) (by decide) (EW.cons (text := "") (hw _ (List.mem_of_getElem? (i := 18) rfl)) (by decide) EW.nil)
  have hCH : CHv s own_EL s.vm s.heap := CHv.start hELs (fun p hp => hcalls.1 p hp) (hsets _ (List.mem_of_getElem? (i := 2) rfl)) (hw _ (List.mem_of_getElem? (i := 19) rfl)) (hw _ (List.mem_of_getElem? (i := 5) rfl))
  obtain ⟨n, o, h1, h2, h3, _, L, rfl, ⟨rfl, N⟩, hq⟩ := rm0 l s _ hw tables_1 i0 i1 i2 i3 wv cl w_ZH w_EN c_ZH t_ZH c_EN t_EN cl_ZH.cls cl_EN.cls w_EMPTY G1 G3 s.heap s.heap.size (Nat.le_refl _) S_V Ar E_V hsz hat0 hat1 F_code_w_ZH E_c_ZH F_value_c_ZH F_coder_c_ZH V_t_ZH F_code_w_EN E_c_EN F_value_c_EN F_coder_c_EN V_t_EN S_EMPTY E_w_EMPTY F_value_w_EMPTY S_ZH S_EN E_w_ZH E_w_EN O2 P5 O4 rG3 (Old.start s) p e ha hc hk s m _ below hf ((Spec.applies_iff_loose hf).mp happ).1 ⟨rfl, State.Warmed39.refl s, rfl, hCH⟩ trivial
  refine ⟨n, _, h1, h2, h3, hpost _ _ _ _ _ _ ⟨Cond.after_iff.mpr rfl, Cond.after_iff.mpr (eq_i res_at (Term.int_eval (1)) rfl), trivial⟩ ⟨hq.1, hq.2.1, hq.2.2.1, (hq.2.2.2.sift fun y hy => Or.inr (N y hy)).mono (by decide) (by decide)⟩⟩
theorem main_1_1 : Claimed_1_1 := comes_1 fun _ _ _ _ _ _ h hF => ⟨h.1, hF⟩
theorem main_1_2 : Claimed_1_2 := comes_1 fun _ _ _ _ _ _ h hF => ⟨h.2.1, hF⟩
end Jvm.Pilot.@@N@@
namespace Jvm.Pilot.@@N@@
open Jvm Jvm.ClassFile Sem Op Lib Jvm.Free Jvm.Stand Jvm.Pilot.@@N@@.Jvm.D
/-! MADE BY PROGRAM (witnessworld.py) out of the Statement's table words and the real class files: 24 classes; the members and pool entries that the words name. The judged class is class 1, her method 2. -/
namespace start1
open Jvm.ClassFile
def u (s : String) : CpInfo := .utf8 (stringToUtf16 s)
/-- a pool by its gaps: so many unusable entries, then the entry; so many at the end -/
def gap : Nat → List CpInfo → List CpInfo
  | 0, r => r
  | n + 1, r => .unusable :: gap n r
def poolList (es : List (Nat × CpInfo)) (last : Nat) : List CpInfo := es.foldr (fun e r => gap e.1 (e.2 :: r)) (gap last [])
def pool (es : List (Nat × CpInfo)) (last : Nat) : Array CpInfo := ⟨poolList es last⟩
def fileOf (pool : Array CpInfo) (this : Nat) (attrs : Array Attribute := #[]) (ms : Array MethodInfo := #[]) (fl : Nat := 33) (sup : Nat := 0) (ifs : Array Nat := #[]) (fds : Array FieldInfo := #[]) : ClassFile where
  minorVersion := 0
  majorVersion := 65
  constantPool := pool
  accessFlags := fl
  thisClass := this
  superClass := sup
  interfaces := ifs
  fields := fds
  methods := ms
  attributes := attrs
def plain (name : String) (sup : Option ClassId) : Class where
  name := name
  kind := .ordinary
  loader := none
  accessFlags := 33
  super := sup
  interfaces := #[]
  cf := none
  fields := #[]
  methods := #[]
  instanceTypes := #[]
  staticTypes := #[]
  resolved := #[]
  callSites := []
  init := .initialized
  statics := none
  mirror := none

def pool0 : Array CpInfo := pool [(5, u "<init>"), (0, u "()V"), (1, .class_ 10), (1, u "java/lang/Object"), (85, u "clone"), (0, u "()Ljava/lang/Object;")] 26

def k0c0 : Code := { maxStack := 0, maxLocals := 1, code := object_method_1_code, exceptionTable := #[], attributes := #[] }
def k0m0 : Method := { name := "<init>", desc := "()V", sig := { parameters := [], returnType := none }, accessFlags := 1, code := some k0c0 }
def k0m1 : Method := { name := "clone", desc := "()Ljava/lang/Object;", sig := { parameters := [], returnType := some (.object "java/lang/Object") }, accessFlags := 260, code := none }
/-- java/lang/Object -/
def k0 : Class := { plain "java/lang/Object" none with
  accessFlags := 33
  interfaces := #[]
  cf := some (fileOf pool0 8 #[] #[{ accessFlags := 1, nameIndex := 5, descriptorIndex := 6, attributes := #[] }, { accessFlags := 260, nameIndex := 96, descriptorIndex := 97, attributes := #[] }] 33 0 #[] #[])
  fields := #[]
  methods := #[k0m0, k0m1]
  instanceTypes := #[]
  staticTypes := #[]
  resolved := Array.replicate 124 none
  statics := none }

def pool1 : Array CpInfo := pool [(2, .class_ 4), (1, u "java/lang/Object"), (0, u "<init>"), (0, u "()V"), (0, .string 8), (0, u "zhen"), (0, .methodref 10 11), (0, .class_ 12), (0, .nameAndType 13 14), (0, u "java/lang/String"), (0, u "charAt"), (0, u "(I)C"), (0, .methodref 16 17), (0, .class_ 18), (0, .nameAndType 19 20), (0, u "com/example/mediawarden/mediawarden/engine/LangOfPinLaw"), (0, u "pick"), (0, u "(II)C"), (0, .methodref 10 22), (0, .nameAndType 5 23), (0, u "([C)V"), (0, .methodref 25 26), (0, .class_ 27), (0, .nameAndType 28 29), (0, u "com/example/mediawarden/mediawarden/engine/Lang"), (0, u "of"), (0, u "(Ljava/lang/String;)Ljava/util/Optional;"), (0, .methodref 31 32), (0, .class_ 33), (0, .nameAndType 34 35), (0, u "java/util/Optional"), (0, u "isPresent"), (0, u "()Z"), (0, .methodref 31 37), (0, .nameAndType 38 39), (0, u "get"), (0, u "()Ljava/lang/Object;"), (0, .fieldref 25 41), (0, .nameAndType 42 43), (0, u "ZH"), (0, u "Lcom/example/mediawarden/mediawarden/engine/Lang;"), (0, .fieldref 25 45), (0, .nameAndType 46 43), (0, u "EN"), (3, u "law"), (0, u "(IIII)Z")] 2

def k1m0 : Method := { name := "<init>", desc := "()V", sig := { parameters := [], returnType := none }, accessFlags := 2, code := none }
def k1c1 : Code := { maxStack := 3, maxLocals := 2, code := method_2_code, exceptionTable := #[], attributes := #[] }
def k1m1 : Method := { name := "pick", desc := "(II)C", sig := { parameters := [.int, .int], returnType := some .char }, accessFlags := 10, code := some k1c1 }
def k1c2 : Code := { maxStack := 6, maxLocals := 13, code := code, exceptionTable := #[], attributes := #[] }
def k1m2 : Method := { name := "law", desc := "(IIII)Z", sig := { parameters := [.int, .int, .int, .int], returnType := some .boolean }, accessFlags := 9, code := some k1c2 }
/-- com/example/mediawarden/mediawarden/engine/LangOfPinLaw -/
def k1 : Class := { plain "com/example/mediawarden/mediawarden/engine/LangOfPinLaw" (some 0) with
  accessFlags := 49
  interfaces := #[]
  cf := some (fileOf pool1 16 #[] #[{ accessFlags := 2, nameIndex := 5, descriptorIndex := 6, attributes := #[] }, { accessFlags := 10, nameIndex := 19, descriptorIndex := 20, attributes := #[] }, { accessFlags := 9, nameIndex := 50, descriptorIndex := 51, attributes := #[] }] 49 2 #[] #[])
  fields := #[]
  methods := #[k1m0, k1m1, k1m2]
  instanceTypes := #[]
  staticTypes := #[]
  resolved := Array.replicate 54 none
  statics := none }

def pool2 : Array CpInfo := pool [(1, .class_ 2), (0, u "java/io/Serializable"), (0, .class_ 4), (0, u "java/lang/Object")] 2

/-- java/io/Serializable -/
def k2 : Class := { plain "java/io/Serializable" (some 0) with
  accessFlags := 1537
  interfaces := #[]
  cf := some (fileOf pool2 1 #[] #[] 1537 3 #[] #[])
  fields := #[]
  methods := #[]
  instanceTypes := #[]
  staticTypes := #[]
  resolved := Array.replicate 7 none
  statics := none }

def pool3 : Array CpInfo := pool [(1, .class_ 2), (0, u "java/lang/Comparable"), (0, .class_ 4), (0, u "java/lang/Object")] 7

/-- java/lang/Comparable -/
def k3 : Class := { plain "java/lang/Comparable" (some 0) with
  accessFlags := 1537
  interfaces := #[]
  cf := some (fileOf pool3 1 #[] #[] 1537 3 #[] #[])
  fields := #[]
  methods := #[]
  instanceTypes := #[]
  staticTypes := #[]
  resolved := Array.replicate 12 none
  statics := none }

def pool4 : Array CpInfo := pool [(2, .class_ 4), (1, u "java/lang/CharSequence"), (42, .class_ 48), (0, u "java/lang/CharSequence$1CodePointIterator"), (10, .class_ 60), (0, u "java/lang/CharSequence$1CharIterator"), (5, .class_ 67), (0, u "java/lang/Object")] 63

/-- java/lang/CharSequence -/
def k4 : Class := { plain "java/lang/CharSequence" (some 0) with
  accessFlags := 1537
  interfaces := #[]
  cf := some (fileOf pool4 2 #[.nestMembers #[47, 59]] #[] 1537 66 #[] #[])
  fields := #[]
  methods := #[]
  instanceTypes := #[]
  staticTypes := #[]
  resolved := Array.replicate 131 none
  statics := none }

def pool5 : Array CpInfo := pool [(1, .class_ 2), (0, u "java/lang/constant/Constable"), (0, .class_ 4), (0, u "java/lang/Object")] 6

/-- java/lang/constant/Constable -/
def k5 : Class := { plain "java/lang/constant/Constable" (some 0) with
  accessFlags := 1537
  interfaces := #[]
  cf := some (fileOf pool5 1 #[] #[] 1537 3 #[] #[])
  fields := #[]
  methods := #[]
  instanceTypes := #[]
  staticTypes := #[]
  resolved := Array.replicate 11 none
  statics := none }

def pool6 : Array CpInfo := pool [(1, .class_ 2), (0, u "java/lang/constant/ConstantDesc"), (0, .class_ 4), (0, u "java/lang/Object")] 32

/-- java/lang/constant/ConstantDesc -/
def k6 : Class := { plain "java/lang/constant/ConstantDesc" (some 0) with
  accessFlags := 1537
  interfaces := #[]
  cf := some (fileOf pool6 1 #[] #[] 1537 3 #[] #[])
  fields := #[]
  methods := #[]
  instanceTypes := #[]
  staticTypes := #[]
  resolved := Array.replicate 37 none
  statics := none }

def pool7 : Array CpInfo := pool [(1, .methodref 2 3), (0, .class_ 4), (0, .nameAndType 5 6), (0, u "java/lang/Object"), (0, u "<init>"), (0, u "()V"), (0, .string 8), (0, u ""), (0, .fieldref 10 11), (0, .class_ 12), (0, .nameAndType 13 14), (0, u "java/lang/String"), (0, u "value"), (0, u "[B"), (0, .fieldref 10 16), (0, .nameAndType 17 18), (0, u "coder"), (0, u "B"), (2, u "hash"), (0, u "I"), (2, u "hashIsZero"), (0, u "Z"), (0, .methodref 10 28), (0, .nameAndType 5 29), (0, u "([CIILjava/lang/Void;)V"), (8, .fieldref 10 39), (0, .nameAndType 40 26), (0, u "COMPACT_STRINGS"), (1, .class_ 44), (1, u "java/lang/StringUTF16"), (0, u "compress"), (1, .methodref 42 48), (0, .nameAndType 49 50), (0, u "coderFromArrayLen"), (0, u "([BI)B"), (56, .class_ 109), (1, u "java/lang/StringLatin1"), (32, u "()Z"), (34, .methodref 42 178), (0, .nameAndType 45 179), (0, u "([CII)[B"), (183, u "([BI)C"), (27, u "(II)V"), (35, u "(I)C"), (64, .methodref 10 493), (0, .nameAndType 494 142), (0, u "isLatin1"), (0, .methodref 107 496), (0, .nameAndType 497 363), (0, u "charAt"), (3, u "checkIndex"), (39, .methodref 107 542), (0, .nameAndType 543 544), (0, u "equals"), (0, u "([B[B)Z"), (28, u "(Ljava/lang/Object;)Z"), (1, .class_ 576), (0, u "java/lang/CharSequence"), (22, u "CASE_INSENSITIVE_ORDER"), (0, u "Ljava/util/Comparator;"), (409, u "([C)V"), (42, .fieldref 1054 1055), (0, .class_ 1056), (0, .nameAndType 1057 1058), (0, u "jdk/internal/util/Preconditions"), (0, u "SIOOBE_FORMATTER"), (0, u "Ljava/util/function/BiFunction;"), (0, .methodref 1054 1060), (0, .nameAndType 501 1061), (0, u "(IILjava/util/function/BiFunction;)I"), (39, u "serialPersistentFields"), (0, u "[Ljava/io/ObjectStreamField;"), (0, .class_ 1104), (0, u "java/lang/String$CaseInsensitiveComparator"), (1, .class_ 1107), (0, u "java/io/Serializable"), (0, .class_ 1109), (0, u "java/lang/Comparable"), (0, .class_ 1111), (0, u "java/lang/constant/Constable"), (0, .class_ 1113), (0, u "java/lang/constant/ConstantDesc"), (2, u "serialVersionUID"), (0, u "J"), (3, u "REPL"), (0, u "C"), (2, u "LATIN1"), (1, u "UTF16")] 323

def k7m0 : Method := { name := "<init>", desc := "()V", sig := { parameters := [], returnType := none }, accessFlags := 1, code := none }
def k7c1 : Code := { maxStack := 5, maxLocals := 2, code := jdk_42_method_3_code, exceptionTable := #[], attributes := #[] }
def k7m1 : Method := { name := "<init>", desc := "([C)V", sig := { parameters := [(.array .char)], returnType := none }, accessFlags := 1, code := some k7c1 }
def k7c2 : Code := { maxStack := 2, maxLocals := 2, code := jdk_42_method_56_code, exceptionTable := #[], attributes := #[] }
def k7m2 : Method := { name := "charAt", desc := "(I)C", sig := { parameters := [.int], returnType := some .char }, accessFlags := 1, code := some k7c2 }
def k7c3 : Code := { maxStack := 2, maxLocals := 3, code := jdk_42_method_66_code, exceptionTable := #[], attributes := #[] }
def k7m3 : Method := { name := "equals", desc := "(Ljava/lang/Object;)Z", sig := { parameters := [(.object "java/lang/Object")], returnType := some .boolean }, accessFlags := 1, code := some k7c3 }
def k7c4 : Code := { maxStack := 4, maxLocals := 6, code := jdk_42_method_149_code, exceptionTable := #[], attributes := #[] }
def k7m4 : Method := { name := "<init>", desc := "([CIILjava/lang/Void;)V", sig := { parameters := [(.array .char), .int, .int, (.object "java/lang/Void")], returnType := none }, accessFlags := 2, code := some k7c4 }
def k7c5 : Code := { maxStack := 1, maxLocals := 1, code := jdk_42_method_154_code, exceptionTable := #[], attributes := #[] }
def k7m5 : Method := { name := "isLatin1", desc := "()Z", sig := { parameters := [], returnType := some .boolean }, accessFlags := 0, code := some k7c5 }
def k7c6 : Code := { maxStack := 3, maxLocals := 2, code := jdk_42_method_155_code, exceptionTable := #[], attributes := #[] }
def k7m6 : Method := { name := "checkIndex", desc := "(II)V", sig := { parameters := [.int, .int], returnType := none }, accessFlags := 8, code := some k7c6 }
/-- java/lang/String -/
def k7 : Class := { plain "java/lang/String" (some 0) with
  accessFlags := 49
  interfaces := #[2, 3, 4, 5, 6]
  cf := some (fileOf pool7 10 #[.nestMembers #[1103]] #[{ accessFlags := 1, nameIndex := 5, descriptorIndex := 6, attributes := #[] }, { accessFlags := 1, nameIndex := 5, descriptorIndex := 1010, attributes := #[] }, { accessFlags := 1, nameIndex := 497, descriptorIndex := 427, attributes := #[] }, { accessFlags := 1, nameIndex := 543, descriptorIndex := 573, attributes := #[] }, { accessFlags := 2, nameIndex := 5, descriptorIndex := 29, attributes := #[] }, { accessFlags := 0, nameIndex := 494, descriptorIndex := 142, attributes := #[] }, { accessFlags := 8, nameIndex := 501, descriptorIndex := 391, attributes := #[] }] 49 2 #[1106, 1108, 575, 1110, 1112] #[{ accessFlags := 18, nameIndex := 13, descriptorIndex := 14, attributes := #[] }, { accessFlags := 18, nameIndex := 17, descriptorIndex := 18, attributes := #[] }, { accessFlags := 2, nameIndex := 21, descriptorIndex := 22, attributes := #[] }, { accessFlags := 2, nameIndex := 25, descriptorIndex := 26, attributes := #[] }, { accessFlags := 26, nameIndex := 1116, descriptorIndex := 1117, attributes := #[] }, { accessFlags := 24, nameIndex := 40, descriptorIndex := 26, attributes := #[] }, { accessFlags := 26, nameIndex := 1101, descriptorIndex := 1102, attributes := #[] }, { accessFlags := 26, nameIndex := 1121, descriptorIndex := 1122, attributes := #[] }, { accessFlags := 25, nameIndex := 599, descriptorIndex := 600, attributes := #[] }, { accessFlags := 24, nameIndex := 1125, descriptorIndex := 18, attributes := #[] }, { accessFlags := 24, nameIndex := 1127, descriptorIndex := 18, attributes := #[] }])
  fields := #[{ name := "value", type := (.array .byte), accessFlags := 18, slot := 0, constantValue := 0 }, { name := "coder", type := .byte, accessFlags := 18, slot := 1, constantValue := 0 }, { name := "hash", type := .int, accessFlags := 2, slot := 2, constantValue := 0 }, { name := "hashIsZero", type := .boolean, accessFlags := 2, slot := 3, constantValue := 0 }, { name := "serialVersionUID", type := .long, accessFlags := 26, slot := 0, constantValue := 0 }, { name := "COMPACT_STRINGS", type := .boolean, accessFlags := 24, slot := 1, constantValue := 0 }, { name := "serialPersistentFields", type := (.array (.object "java/io/ObjectStreamField")), accessFlags := 26, slot := 2, constantValue := 0 }, { name := "REPL", type := .char, accessFlags := 26, slot := 3, constantValue := 0 }, { name := "CASE_INSENSITIVE_ORDER", type := (.object "java/util/Comparator"), accessFlags := 25, slot := 4, constantValue := 0 }, { name := "LATIN1", type := .byte, accessFlags := 24, slot := 5, constantValue := 0 }, { name := "UTF16", type := .byte, accessFlags := 24, slot := 6, constantValue := 0 }]
  methods := #[k7m0, k7m1, k7m2, k7m3, k7m4, k7m5, k7m6]
  instanceTypes := #[(.array .byte), .byte, .int, .boolean]
  staticTypes := #[.long, .boolean, (.array (.object "java/io/ObjectStreamField")), .char, (.object "java/util/Comparator"), .byte, .byte]
  resolved := Array.replicate 1451 none
  statics := some 0 }

def pool8 : Array CpInfo := pool [(2, .class_ 4), (1, u "java/lang/Enum"), (0, u "name"), (0, u "Ljava/lang/String;"), (2, u "ordinal"), (0, u "I"), (1, .class_ 14), (1, u "java/lang/Object"), (4, u "hash"), (86, .class_ 108), (1, u "java/lang/Enum$EnumDesc"), (2, .class_ 112), (0, u "java/lang/constant/Constable"), (0, .class_ 114), (0, u "java/lang/Comparable"), (0, .class_ 116), (0, u "java/io/Serializable")] 87

/-- java/lang/Enum -/
def k8 : Class := { plain "java/lang/Enum" (some 0) with
  accessFlags := 1057
  interfaces := #[5, 3, 2]
  cf := some (fileOf pool8 2 #[.nestMembers #[106]] #[] 1057 12 #[111, 113, 115] #[{ accessFlags := 18, nameIndex := 5, descriptorIndex := 6, attributes := #[] }, { accessFlags := 18, nameIndex := 9, descriptorIndex := 10, attributes := #[] }, { accessFlags := 2, nameIndex := 19, descriptorIndex := 10, attributes := #[] }])
  fields := #[{ name := "name", type := (.object "java/lang/String"), accessFlags := 18, slot := 0, constantValue := 0 }, { name := "ordinal", type := .int, accessFlags := 18, slot := 1, constantValue := 0 }, { name := "hash", type := .int, accessFlags := 2, slot := 2, constantValue := 0 }]
  methods := #[]
  instanceTypes := #[(.object "java/lang/String"), .int, .int]
  staticTypes := #[]
  resolved := Array.replicate 204 none
  statics := none }

def pool9 : Array CpInfo := pool [(1, .class_ 2), (0, u "com/example/mediawarden/mediawarden/engine/Lang"), (2, u "ZH"), (0, u "Lcom/example/mediawarden/mediawarden/engine/Lang;"), (2, u "EN"), (0, .fieldref 1 11), (0, .nameAndType 12 13), (0, u "$VALUES"), (0, u "[Lcom/example/mediawarden/mediawarden/engine/Lang;"), (0, .methodref 15 16), (0, .class_ 13), (0, .nameAndType 17 18), (0, u "clone"), (0, u "()Ljava/lang/Object;"), (1, .class_ 22), (1, u "java/lang/Enum"), (6, .fieldref 1 30), (0, .nameAndType 31 32), (0, u "code"), (0, u "Ljava/lang/String;"), (0, .methodref 1 34), (0, .nameAndType 35 36), (0, u "values"), (0, u "()[Lcom/example/mediawarden/mediawarden/engine/Lang;"), (0, .methodref 38 39), (0, .class_ 40), (0, .nameAndType 41 42), (0, u "java/lang/String"), (0, u "equals"), (0, u "(Ljava/lang/Object;)Z"), (0, .methodref 44 45), (0, .class_ 46), (0, .nameAndType 47 48), (0, u "java/util/Optional"), (0, u "of"), (0, u "(Ljava/lang/Object;)Ljava/util/Optional;"), (0, .methodref 44 50), (0, .nameAndType 51 52), (0, u "empty"), (0, u "()Ljava/util/Optional;"), (18, u "(Ljava/lang/String;)Ljava/util/Optional;")] 8

def k9c0 : Code := { maxStack := 1, maxLocals := 0, code := prog_28_method_1_code, exceptionTable := #[], attributes := #[] }
def k9m0 : Method := { name := "values", desc := "()[Lcom/example/mediawarden/mediawarden/engine/Lang;", sig := { parameters := [], returnType := some (.array (.object "com/example/mediawarden/mediawarden/engine/Lang")) }, accessFlags := 9, code := some k9c0 }
def k9c1 : Code := { maxStack := 2, maxLocals := 5, code := prog_28_method_4_code, exceptionTable := #[], attributes := #[] }
def k9m1 : Method := { name := "of", desc := "(Ljava/lang/String;)Ljava/util/Optional;", sig := { parameters := [(.object "java/lang/String")], returnType := some (.object "java/util/Optional") }, accessFlags := 9, code := some k9c1 }
/-- com/example/mediawarden/mediawarden/engine/Lang -/
def k9 : Class := { plain "com/example/mediawarden/mediawarden/engine/Lang" (some 8) with
  accessFlags := 16433
  interfaces := #[]
  cf := some (fileOf pool9 1 #[] #[{ accessFlags := 9, nameIndex := 35, descriptorIndex := 36, attributes := #[] }, { accessFlags := 9, nameIndex := 47, descriptorIndex := 71, attributes := #[] }] 16433 20 #[] #[{ accessFlags := 16409, nameIndex := 5, descriptorIndex := 6, attributes := #[] }, { accessFlags := 16409, nameIndex := 9, descriptorIndex := 6, attributes := #[] }, { accessFlags := 18, nameIndex := 31, descriptorIndex := 32, attributes := #[] }, { accessFlags := 4122, nameIndex := 12, descriptorIndex := 13, attributes := #[] }])
  fields := #[{ name := "ZH", type := (.object "com/example/mediawarden/mediawarden/engine/Lang"), accessFlags := 16409, slot := 0, constantValue := 0 }, { name := "EN", type := (.object "com/example/mediawarden/mediawarden/engine/Lang"), accessFlags := 16409, slot := 1, constantValue := 0 }, { name := "code", type := (.object "java/lang/String"), accessFlags := 18, slot := 3, constantValue := 0 }, { name := "$VALUES", type := (.array (.object "com/example/mediawarden/mediawarden/engine/Lang")), accessFlags := 4122, slot := 2, constantValue := 0 }]
  methods := #[k9m0, k9m1]
  instanceTypes := #[(.object "java/lang/String"), .int, .int, (.object "java/lang/String")]
  staticTypes := #[(.object "com/example/mediawarden/mediawarden/engine/Lang"), (.object "com/example/mediawarden/mediawarden/engine/Lang"), (.array (.object "com/example/mediawarden/mediawarden/engine/Lang"))]
  resolved := Array.replicate 80 none
  statics := some 1 }

def pool10 : Array CpInfo := pool [(1, .class_ 2), (0, u "java/lang/Cloneable"), (0, .class_ 4), (0, u "java/lang/Object")] 2

/-- java/lang/Cloneable -/
def k10 : Class := { plain "java/lang/Cloneable" (some 0) with
  accessFlags := 1537
  interfaces := #[]
  cf := some (fileOf pool10 1 #[] #[] 1537 3 #[] #[])
  fields := #[]
  methods := #[]
  instanceTypes := #[]
  staticTypes := #[]
  resolved := Array.replicate 7 none
  statics := none }

def pool11 : Array CpInfo := pool [(1, .class_ 2), (0, u "java/lang/String"), (1, .class_ 6), (1, u "java/lang/Object"), (0, u "<init>"), (0, u "()V"), (0, .methodref 1 10), (0, .nameAndType 11 12), (0, u "checkIndex"), (0, u "(II)V"), (1, .class_ 16), (1, u "java/lang/StringLatin1"), (36, u "([BI)C"), (67, u "$assertionsDisabled"), (0, u "Z"), (98, .class_ 223), (1, u "java/lang/StringLatin1$LinesSpliterator"), (28, u "charAt"), (28, u "equals"), (0, u "([B[B)Z"), (107, .class_ 391), (0, u "java/lang/StringLatin1$CharsSpliterator")] 3

def k11m0 : Method := { name := "<init>", desc := "()V", sig := { parameters := [], returnType := none }, accessFlags := 0, code := none }
def k11c1 : Code := { maxStack := 2, maxLocals := 2, code := jdk_43_method_2_code, exceptionTable := #[], attributes := #[] }
def k11m1 : Method := { name := "charAt", desc := "([BI)C", sig := { parameters := [(.array .byte), .int], returnType := some .char }, accessFlags := 9, code := some k11c1 }
def k11c2 : Code := { maxStack := 3, maxLocals := 3, code := jdk_43_method_13_code, exceptionTable := #[], attributes := #[] }
def k11m2 : Method := { name := "equals", desc := "([B[B)Z", sig := { parameters := [(.array .byte), (.array .byte)], returnType := some .boolean }, accessFlags := 9, code := some k11c2 }
/-- java/lang/StringLatin1 -/
def k11 : Class := { plain "java/lang/StringLatin1" (some 0) with
  accessFlags := 48
  interfaces := #[]
  cf := some (fileOf pool11 14 #[.nestMembers #[390, 221]] #[{ accessFlags := 0, nameIndex := 7, descriptorIndex := 8, attributes := #[] }, { accessFlags := 9, nameIndex := 252, descriptorIndex := 53, attributes := #[] }, { accessFlags := 9, nameIndex := 281, descriptorIndex := 282, attributes := #[] }] 48 4 #[] #[{ accessFlags := 4120, nameIndex := 121, descriptorIndex := 122, attributes := #[] }])
  fields := #[{ name := "$assertionsDisabled", type := .boolean, accessFlags := 4120, slot := 0, constantValue := 0 }]
  methods := #[k11m0, k11m1, k11m2]
  instanceTypes := #[]
  staticTypes := #[.boolean]
  resolved := Array.replicate 395 none
  statics := none }

def pool12 : Array CpInfo := pool [(1, .fieldref 2 3), (0, .class_ 4), (0, .nameAndType 5 6), (0, u "java/util/Optional"), (0, u "EMPTY"), (0, u "Ljava/util/Optional;"), (0, .methodref 8 9), (0, .class_ 10), (0, .nameAndType 11 12), (0, u "java/lang/Object"), (0, u "<init>"), (0, u "()V"), (0, .fieldref 2 14), (0, .nameAndType 15 16), (0, u "value"), (0, u "Ljava/lang/Object;"), (0, .methodref 18 19), (0, .class_ 20), (0, .nameAndType 21 22), (0, u "java/util/Objects"), (0, u "requireNonNull"), (0, u "(Ljava/lang/Object;)Ljava/lang/Object;"), (0, .methodref 2 24), (0, .nameAndType 11 25), (0, u "(Ljava/lang/Object;)V"), (20, u "()Z"), (8, u "empty"), (0, u "()Ljava/util/Optional;"), (8, u "(Ljava/lang/Object;)Ljava/util/Optional;"), (2, u "isPresent"), (4, u "get"), (0, u "()Ljava/lang/Object;"), (7, u "of")] 104

def k12c0 : Code := { maxStack := 1, maxLocals := 1, code := jdk_32_method_1_code, exceptionTable := #[], attributes := #[] }
def k12m0 : Method := { name := "empty", desc := "()Ljava/util/Optional;", sig := { parameters := [], returnType := some (.object "java/util/Optional") }, accessFlags := 9, code := some k12c0 }
def k12c1 : Code := { maxStack := 2, maxLocals := 2, code := jdk_32_method_2_code, exceptionTable := #[], attributes := #[] }
def k12m1 : Method := { name := "<init>", desc := "(Ljava/lang/Object;)V", sig := { parameters := [(.object "java/lang/Object")], returnType := none }, accessFlags := 2, code := some k12c1 }
def k12c2 : Code := { maxStack := 3, maxLocals := 1, code := jdk_32_method_3_code, exceptionTable := #[], attributes := #[] }
def k12m2 : Method := { name := "of", desc := "(Ljava/lang/Object;)Ljava/util/Optional;", sig := { parameters := [(.object "java/lang/Object")], returnType := some (.object "java/util/Optional") }, accessFlags := 9, code := some k12c2 }
def k12c3 : Code := { maxStack := 3, maxLocals := 1, code := jdk_32_method_5_code, exceptionTable := #[], attributes := #[] }
def k12m3 : Method := { name := "get", desc := "()Ljava/lang/Object;", sig := { parameters := [], returnType := some (.object "java/lang/Object") }, accessFlags := 1, code := some k12c3 }
def k12c4 : Code := { maxStack := 1, maxLocals := 1, code := jdk_32_method_6_code, exceptionTable := #[], attributes := #[] }
def k12m4 : Method := { name := "isPresent", desc := "()Z", sig := { parameters := [], returnType := some .boolean }, accessFlags := 1, code := some k12c4 }
/-- java/util/Optional -/
def k12 : Class := { plain "java/util/Optional" (some 0) with
  accessFlags := 49
  interfaces := #[]
  cf := some (fileOf pool12 2 #[] #[{ accessFlags := 9, nameIndex := 55, descriptorIndex := 56, attributes := #[] }, { accessFlags := 2, nameIndex := 11, descriptorIndex := 25, attributes := #[] }, { accessFlags := 9, nameIndex := 82, descriptorIndex := 65, attributes := #[] }, { accessFlags := 1, nameIndex := 73, descriptorIndex := 74, attributes := #[] }, { accessFlags := 1, nameIndex := 68, descriptorIndex := 46, attributes := #[] }] 49 8 #[] #[{ accessFlags := 26, nameIndex := 5, descriptorIndex := 6, attributes := #[] }, { accessFlags := 18, nameIndex := 15, descriptorIndex := 16, attributes := #[] }])
  fields := #[{ name := "EMPTY", type := (.object "java/util/Optional"), accessFlags := 26, slot := 0, constantValue := 0 }, { name := "value", type := (.object "java/lang/Object"), accessFlags := 18, slot := 0, constantValue := 0 }]
  methods := #[k12m0, k12m1, k12m2, k12m3, k12m4]
  instanceTypes := #[(.object "java/lang/Object")]
  staticTypes := #[(.object "java/util/Optional")]
  resolved := Array.replicate 187 none
  statics := some 2 }

def pool13 : Array CpInfo := pool [(2, .class_ 4), (1, u "java/lang/Object"), (0, u "<init>"), (0, u "()V"), (17, .class_ 26), (1, u "jdk/internal/util/Preconditions"), (6, u "checkIndex"), (21, .class_ 56), (0, u "jdk/internal/util/Preconditions$4"), (57, .class_ 115), (0, u "jdk/internal/util/Preconditions$1"), (7, u "SIOOBE_FORMATTER"), (0, u "Ljava/util/function/BiFunction;"), (0, .class_ 126), (0, u "jdk/internal/util/Preconditions$2"), (3, u "AIOOBE_FORMATTER"), (0, .class_ 132), (0, u "jdk/internal/util/Preconditions$3"), (3, u "IOOBE_FORMATTER"), (41, u "(IILjava/util/function/BiFunction;)I")] 15

def k13m0 : Method := { name := "<init>", desc := "()V", sig := { parameters := [], returnType := none }, accessFlags := 1, code := none }
def k13c1 : Code := { maxStack := 3, maxLocals := 3, code := jdk_41_method_11_code, exceptionTable := #[], attributes := #[] }
def k13m1 : Method := { name := "checkIndex", desc := "(IILjava/util/function/BiFunction;)I", sig := { parameters := [.int, .int, (.object "java/util/function/BiFunction")], returnType := some .int }, accessFlags := 9, code := some k13c1 }
/-- jdk/internal/util/Preconditions -/
def k13 : Class := { plain "jdk/internal/util/Preconditions" (some 0) with
  accessFlags := 33
  interfaces := #[]
  cf := some (fileOf pool13 24 #[.nestMembers #[55, 131, 125, 114]] #[{ accessFlags := 1, nameIndex := 5, descriptorIndex := 6, attributes := #[] }, { accessFlags := 9, nameIndex := 33, descriptorIndex := 178, attributes := #[] }] 33 2 #[] #[{ accessFlags := 25, nameIndex := 123, descriptorIndex := 124, attributes := #[] }, { accessFlags := 25, nameIndex := 130, descriptorIndex := 124, attributes := #[] }, { accessFlags := 25, nameIndex := 136, descriptorIndex := 124, attributes := #[] }])
  fields := #[{ name := "SIOOBE_FORMATTER", type := (.object "java/util/function/BiFunction"), accessFlags := 25, slot := 0, constantValue := 0 }, { name := "AIOOBE_FORMATTER", type := (.object "java/util/function/BiFunction"), accessFlags := 25, slot := 1, constantValue := 0 }, { name := "IOOBE_FORMATTER", type := (.object "java/util/function/BiFunction"), accessFlags := 25, slot := 2, constantValue := 0 }]
  methods := #[k13m0, k13m1]
  instanceTypes := #[]
  staticTypes := #[(.object "java/util/function/BiFunction"), (.object "java/util/function/BiFunction"), (.object "java/util/function/BiFunction")]
  resolved := Array.replicate 194 none
  statics := some 3 }

def pool14 : Array CpInfo := pool [(6, .class_ 8), (1, u "java/lang/Object"), (0, u "<init>"), (0, u "()V"), (1, .class_ 14), (1, u "java/lang/StringUTF16"), (31, u "$assertionsDisabled"), (0, u "Z"), (13, u "HI_BYTE_SHIFT"), (0, u "I"), (2, u "LO_BYTE_SHIFT"), (49, .methodref 12 116), (0, .nameAndType 117 118), (0, u "compress"), (0, u "([CI[BII)I"), (3, u "([CII)[B"), (138, u "coderFromArrayLen"), (0, u "([BI)B"), (106, .class_ 371), (1, u "java/lang/StringUTF16$LinesSpliterator"), (58, u "MAX_LENGTH"), (196, .class_ 628), (0, u "java/lang/StringUTF16$CodePointsSpliterator"), (0, .class_ 630), (0, u "java/lang/StringUTF16$CharsSpliterator")] 4

def k14m0 : Method := { name := "<init>", desc := "()V", sig := { parameters := [], returnType := none }, accessFlags := 0, code := none }
def k14c1 : Code := { maxStack := 2, maxLocals := 2, code := jdk_52_method_15_code, exceptionTable := #[], attributes := #[] }
def k14m1 : Method := { name := "coderFromArrayLen", desc := "([BI)B", sig := { parameters := [(.array .byte), .int], returnType := some .byte }, accessFlags := 8, code := some k14c1 }
def k14c2 : Code := { maxStack := 5, maxLocals := 6, code := jdk_52_method_16_code, exceptionTable := #[], attributes := #[] }
def k14m2 : Method := { name := "compress", desc := "([CII)[B", sig := { parameters := [(.array .char), .int, .int], returnType := some (.array .byte) }, accessFlags := 9, code := some k14c2 }
def k14c3 : Code := { maxStack := 3, maxLocals := 7, code := jdk_52_method_21_code, exceptionTable := #[], attributes := #[] }
def k14m3 : Method := { name := "compress", desc := "([CI[BII)I", sig := { parameters := [(.array .char), .int, (.array .byte), .int, .int], returnType := some .int }, accessFlags := 9, code := some k14c3 }
/-- java/lang/StringUTF16 -/
def k14 : Class := { plain "java/lang/StringUTF16" (some 0) with
  accessFlags := 48
  interfaces := #[]
  cf := some (fileOf pool14 12 #[.nestMembers #[627, 629, 369]] #[{ accessFlags := 0, nameIndex := 9, descriptorIndex := 10, attributes := #[] }, { accessFlags := 8, nameIndex := 261, descriptorIndex := 262, attributes := #[] }, { accessFlags := 9, nameIndex := 117, descriptorIndex := 122, attributes := #[] }, { accessFlags := 9, nameIndex := 117, descriptorIndex := 118, attributes := #[] }] 48 6 #[] #[{ accessFlags := 26, nameIndex := 61, descriptorIndex := 62, attributes := #[] }, { accessFlags := 26, nameIndex := 65, descriptorIndex := 62, attributes := #[] }, { accessFlags := 24, nameIndex := 430, descriptorIndex := 62, attributes := #[] }, { accessFlags := 4120, nameIndex := 46, descriptorIndex := 47, attributes := #[] }])
  fields := #[{ name := "HI_BYTE_SHIFT", type := .int, accessFlags := 26, slot := 0, constantValue := 0 }, { name := "LO_BYTE_SHIFT", type := .int, accessFlags := 26, slot := 1, constantValue := 0 }, { name := "MAX_LENGTH", type := .int, accessFlags := 24, slot := 2, constantValue := 0 }, { name := "$assertionsDisabled", type := .boolean, accessFlags := 4120, slot := 3, constantValue := 0 }]
  methods := #[k14m0, k14m1, k14m2, k14m3]
  instanceTypes := #[]
  staticTypes := #[.int, .int, .int, .boolean]
  resolved := Array.replicate 635 none
  statics := none }

def pool15 : Array CpInfo := pool [(2, .class_ 4), (1, u "java/lang/Object"), (0, u "<init>"), (0, u "()V"), (35, .class_ 44), (1, u "java/util/Objects"), (0, u "requireNonNull"), (0, u "(Ljava/lang/Object;)Ljava/lang/Object;")] 137

def k15m0 : Method := { name := "<init>", desc := "()V", sig := { parameters := [], returnType := none }, accessFlags := 2, code := none }
def k15c1 : Code := { maxStack := 2, maxLocals := 1, code := jdk_31_method_10_code, exceptionTable := #[], attributes := #[] }
def k15m1 : Method := { name := "requireNonNull", desc := "(Ljava/lang/Object;)Ljava/lang/Object;", sig := { parameters := [(.object "java/lang/Object")], returnType := some (.object "java/lang/Object") }, accessFlags := 9, code := some k15c1 }
/-- java/util/Objects -/
def k15 : Class := { plain "java/util/Objects" (some 0) with
  accessFlags := 49
  interfaces := #[]
  cf := some (fileOf pool15 42 #[] #[{ accessFlags := 2, nameIndex := 5, descriptorIndex := 6, attributes := #[] }, { accessFlags := 9, nameIndex := 45, descriptorIndex := 46, attributes := #[] }] 49 2 #[] #[])
  fields := #[]
  methods := #[k15m0, k15m1]
  instanceTypes := #[]
  staticTypes := #[]
  resolved := Array.replicate 184 none
  statics := none }

def pool16 : Array CpInfo := pool [(9, u "<init>"), (6, .class_ 18), (1, u "java/lang/Object"), (0, u "()V"), (1, .class_ 23), (1, u "jdk/internal/util/ArraysSupport"), (0, u "LOG2_ARRAY_LONG_INDEX_SCALE"), (0, u "I"), (2, u "U"), (0, u "Ljdk/internal/misc/Unsafe;"), (8, u "BIG_ENDIAN"), (0, u "Z"), (8, u "LOG2_BYTE_BIT_SIZE"), (4, u "LOG2_ARRAY_INT_INDEX_SCALE"), (54, u "JLA"), (0, u "Ljdk/internal/access/JavaLangAccess;"), (11, u "LOG2_ARRAY_BOOLEAN_INDEX_SCALE"), (9, u "LOG2_ARRAY_BYTE_INDEX_SCALE"), (5, u "LOG2_ARRAY_CHAR_INDEX_SCALE"), (5, u "LOG2_ARRAY_SHORT_INDEX_SCALE"), (18, u "LOG2_ARRAY_FLOAT_INDEX_SCALE"), (24, u "LOG2_ARRAY_DOUBLE_INDEX_SCALE"), (89, u "T_BOOLEAN"), (2, u "T_CHAR"), (1, u "T_FLOAT"), (1, u "T_DOUBLE"), (1, u "T_BYTE"), (1, u "T_SHORT"), (1, u "T_INT"), (1, u "T_LONG"), (1, u "SOFT_MAX_ARRAY_LENGTH")] 83

def k16m0 : Method := { name := "<init>", desc := "()V", sig := { parameters := [], returnType := none }, accessFlags := 2, code := none }
/-- jdk/internal/util/ArraysSupport -/
def k16 : Class := { plain "jdk/internal/util/ArraysSupport" (some 0) with
  accessFlags := 33
  interfaces := #[]
  cf := some (fileOf pool16 21 #[] #[{ accessFlags := 2, nameIndex := 9, descriptorIndex := 19, attributes := #[] }] 33 16 #[] #[{ accessFlags := 24, nameIndex := 28, descriptorIndex := 29, attributes := #[] }, { accessFlags := 26, nameIndex := 38, descriptorIndex := 39, attributes := #[] }, { accessFlags := 25, nameIndex := 121, descriptorIndex := 25, attributes := #[] }, { accessFlags := 25, nameIndex := 131, descriptorIndex := 25, attributes := #[] }, { accessFlags := 25, nameIndex := 137, descriptorIndex := 25, attributes := #[] }, { accessFlags := 25, nameIndex := 143, descriptorIndex := 25, attributes := #[] }, { accessFlags := 25, nameIndex := 53, descriptorIndex := 25, attributes := #[] }, { accessFlags := 25, nameIndex := 24, descriptorIndex := 25, attributes := #[] }, { accessFlags := 25, nameIndex := 162, descriptorIndex := 25, attributes := #[] }, { accessFlags := 25, nameIndex := 187, descriptorIndex := 25, attributes := #[] }, { accessFlags := 26, nameIndex := 48, descriptorIndex := 25, attributes := #[] }, { accessFlags := 25, nameIndex := 277, descriptorIndex := 25, attributes := #[] }, { accessFlags := 25, nameIndex := 280, descriptorIndex := 25, attributes := #[] }, { accessFlags := 25, nameIndex := 282, descriptorIndex := 25, attributes := #[] }, { accessFlags := 25, nameIndex := 284, descriptorIndex := 25, attributes := #[] }, { accessFlags := 25, nameIndex := 286, descriptorIndex := 25, attributes := #[] }, { accessFlags := 25, nameIndex := 288, descriptorIndex := 25, attributes := #[] }, { accessFlags := 25, nameIndex := 290, descriptorIndex := 25, attributes := #[] }, { accessFlags := 25, nameIndex := 292, descriptorIndex := 25, attributes := #[] }, { accessFlags := 26, nameIndex := 108, descriptorIndex := 109, attributes := #[] }, { accessFlags := 25, nameIndex := 294, descriptorIndex := 25, attributes := #[] }])
  fields := #[{ name := "U", type := (.object "jdk/internal/misc/Unsafe"), accessFlags := 24, slot := 0, constantValue := 0 }, { name := "BIG_ENDIAN", type := .boolean, accessFlags := 26, slot := 1, constantValue := 0 }, { name := "LOG2_ARRAY_BOOLEAN_INDEX_SCALE", type := .int, accessFlags := 25, slot := 2, constantValue := 0 }, { name := "LOG2_ARRAY_BYTE_INDEX_SCALE", type := .int, accessFlags := 25, slot := 3, constantValue := 0 }, { name := "LOG2_ARRAY_CHAR_INDEX_SCALE", type := .int, accessFlags := 25, slot := 4, constantValue := 0 }, { name := "LOG2_ARRAY_SHORT_INDEX_SCALE", type := .int, accessFlags := 25, slot := 5, constantValue := 0 }, { name := "LOG2_ARRAY_INT_INDEX_SCALE", type := .int, accessFlags := 25, slot := 6, constantValue := 0 }, { name := "LOG2_ARRAY_LONG_INDEX_SCALE", type := .int, accessFlags := 25, slot := 7, constantValue := 0 }, { name := "LOG2_ARRAY_FLOAT_INDEX_SCALE", type := .int, accessFlags := 25, slot := 8, constantValue := 0 }, { name := "LOG2_ARRAY_DOUBLE_INDEX_SCALE", type := .int, accessFlags := 25, slot := 9, constantValue := 0 }, { name := "LOG2_BYTE_BIT_SIZE", type := .int, accessFlags := 26, slot := 10, constantValue := 0 }, { name := "T_BOOLEAN", type := .int, accessFlags := 25, slot := 11, constantValue := 0 }, { name := "T_CHAR", type := .int, accessFlags := 25, slot := 12, constantValue := 0 }, { name := "T_FLOAT", type := .int, accessFlags := 25, slot := 13, constantValue := 0 }, { name := "T_DOUBLE", type := .int, accessFlags := 25, slot := 14, constantValue := 0 }, { name := "T_BYTE", type := .int, accessFlags := 25, slot := 15, constantValue := 0 }, { name := "T_SHORT", type := .int, accessFlags := 25, slot := 16, constantValue := 0 }, { name := "T_INT", type := .int, accessFlags := 25, slot := 17, constantValue := 0 }, { name := "T_LONG", type := .int, accessFlags := 25, slot := 18, constantValue := 0 }, { name := "JLA", type := (.object "jdk/internal/access/JavaLangAccess"), accessFlags := 26, slot := 19, constantValue := 0 }, { name := "SOFT_MAX_ARRAY_LENGTH", type := .int, accessFlags := 25, slot := 20, constantValue := 0 }]
  methods := #[k16m0]
  instanceTypes := #[]
  staticTypes := #[(.object "jdk/internal/misc/Unsafe"), .boolean, .int, .int, .int, .int, .int, .int, .int, .int, .int, .int, .int, .int, .int, .int, .int, .int, .int, (.object "jdk/internal/access/JavaLangAccess"), .int]
  resolved := Array.replicate 378 none
  statics := none }

/-- the primitive byte -/
def k17 : Class := { plain "byte" none with kind := .primitive 'B', accessFlags := 0x411 }
/-- [B -/
def k18 : Class := { plain "[B" (some 0) with kind := .array 17 .byte, interfaces := #[10, 2], accessFlags := 1041 }

/-- the primitive char -/
def k19 : Class := { plain "char" none with kind := .primitive 'C', accessFlags := 0x411 }
/-- [C -/
def k20 : Class := { plain "[C" (some 0) with kind := .array 19 .char, interfaces := #[10, 2], accessFlags := 1041 }

/-- the primitive int -/
def k21 : Class := { plain "int" none with kind := .primitive 'I', accessFlags := 0x411 }
/-- [I -/
def k22 : Class := { plain "[I" (some 0) with kind := .array 21 .int, interfaces := #[10, 2], accessFlags := 1041 }

/-- [Lcom/example/mediawarden/mediawarden/engine/Lang; -/
def k23 : Class := { plain "[Lcom/example/mediawarden/mediawarden/engine/Lang;" (some 0) with kind := .array 9 (.object "com/example/mediawarden/mediawarden/engine/Lang"), interfaces := #[10, 2], accessFlags := 1041 }

def heap : Heap := #[{ cls := 7, slots := #[.long 0, .int 1, .null, .int 0, .null, .int 0, .int 0], vm := .statics 7 },
  { cls := 9, slots := #[.ref 5, .ref 6, .ref 4], vm := .statics 9 },
  { cls := 12, slots := #[.ref 11], vm := .statics 12 },
  { cls := 13, slots := #[.null, .null, .null], vm := .statics 13 },
  { cls := 23, slots := #[.ref 5, .ref 6], vm := .none },
  { cls := 9, slots := #[.null, .int 0, .int 0, .ref 7], vm := .none },
  { cls := 9, slots := #[.null, .int 1, .int 0, .ref 8], vm := .none },
  { cls := 7, slots := #[.ref 9, .int 0, .int 0, .int 0], vm := .none },
  { cls := 7, slots := #[.ref 10, .int 0, .int 0, .int 0], vm := .none },
  { cls := 18, slots := #[.int 122, .int 104], vm := .none },
  { cls := 18, slots := #[.int 101, .int 110], vm := .none },
  { cls := 12, slots := #[.null], vm := .none }]
def classes : Array Class := #[k0, k1, k2, k3, k4, k5, k6, k7, k8, k9, k10, k11, k12, k13, k14, k15, k16, k17, k18, k19, k20, k21, k22, k23]
def interned : List (Array UInt16 × Addr) := []
def slotsUsed : Nat := 37
def theMethod : MethodId := ⟨1, 2⟩
def args0 : Array Value := #[.int 5, .int 300, .int 7, .int 5]
def aboutOver (below : List Frame) : State where
  vm := { classes := classes, interned := interned.toArray }
  heap := heap
  slotsUsed := slotsUsed
  threads := #[{ frames := .invoking theMethod args0 :: below }]
def below0 : List Frame := [.native { method := ⟨0, 0⟩, args := #[] }]
def about1 : State := aboutOver below0
def p0 : Program := .bare "" "" ""
def e0 : Env := launch0.env 0 0 0
theorem w_frames : about1.frames = Frame.invoking theMethod args0 :: below0 := rfl
set_option maxRecDepth 65536 in
theorem w_args : argsFit about1.vm theMethod args0 = true := by decide +kernel
set_option maxRecDepth 65536 in
theorem w_heap : heapFits about1 = true := by decide +kernel
set_option maxRecDepth 65536 in
theorem w_runnable : about1.curStatus? = some .runnable := by decide +kernel
set_option maxRecDepth 65536 in
theorem w_alone : about1.alone = true := by decide +kernel
set_option maxRecDepth 65536 in
theorem w_named : about1.methodNamed? x = some theMethod := by decide +kernel
set_option maxRecDepth 65536 in
theorem w_hears : about1.hears theMethod below0 = true := by decide +kernel
set_option maxRecDepth 65536 in
theorem w_ripe : about1.ripe theMethod args0 below0 = true := by decide +kernel
theorem w_running : about1.status = .running := rfl
set_option maxRecDepth 65536 in
theorem w_room : about1.hasRoom e0.platform room_1 = true :=
  launch0.hasRoom_least _ room_1 (by decide +kernel) (by decide +kernel) (by decide +kernel) (by decide +kernel) (by decide +kernel) (by decide +kernel)
theorem allAtoms_all (ts : List Jvm.Cond) (a : Array Jvm.Value) (st : Jvm.State) : (allAtoms ts).before a st = ts.all (fun c => c.before a st) := by
  induction ts with
  | nil => rfl
  | cons c t ih =>
    show (Jvm.Cond.and c (allAtoms t)).before a st = _
    rw [Jvm.Cond.before_and, ih, List.all_cons]
def words1 : List Jvm.Cond := Jvm.Cond.code x code maxLocals ret :: tables_1
/-- a 'code' word, met by the world's own term for the bytes: nothing is compared byte by byte -/
theorem code_word {y : MethodName} {bytes : ByteArray} {mx : Nat} {rt : Option FieldType} {a : Array Value} {s : State} {m : MethodId} {meth : Method} {c : Code} (h1 : s.methodNamed? y = some m) (h2 : s.vm.method? m = some meth) (h3 : meth.code = some c) (h4 : c.code = bytes)
    (h5 : (c.maxLocals == mx && c.exceptionTable.isEmpty && decide (c.maxStack ≤ mostOperands) && decide (meth.sig.returnType = rt) && !meth.locks && decide (parseMethodDescriptor y.desc = some meth.sig)) = true) : (Jvm.Cond.code y bytes mx rt).before a s = true := by
  simp only [Bool.and_eq_true, beq_iff_eq, Bool.not_eq_true', decide_eq_true_eq] at h5
  obtain ⟨⟨⟨⟨⟨g1, g2⟩, g3⟩, g4⟩, g5⟩, g6⟩ := h5
  simp [Cond.before, Cond.holds, Cond.value, h1, h2, h3, h4, g1, g2, g3, g4, g5, g6]
def isCode : Jvm.Cond → Bool
  | .code _ _ _ _ => true
  | _ => false
theorem all_split {L : List Jvm.Cond} {P : Jvm.Cond → Bool} (h1 : L.all (fun c => isCode c || P c) = true) (h2 : ∀ c ∈ L.filter isCode, P c = true) : L.all P = true := by
  refine List.all_eq_true.mpr fun c hc => ?_
  have h := List.all_eq_true.mp h1 c hc
  rcases Bool.eq_false_or_eq_true (isCode c) with hi | hi
  · exact h2 c (List.mem_filter.mpr ⟨hc, hi⟩)
  · simpa [hi] using h
set_option maxRecDepth 65536 in
theorem w_c0 : (Jvm.Cond.code x code maxLocals ret).before args0 about1 = true := code_word (m := ⟨1, 2⟩) (meth := k1m2) (c := k1c2) (by decide +kernel) rfl rfl rfl (by decide +kernel)
set_option maxRecDepth 65536 in
theorem w_c1 : (Jvm.Cond.code ({ cls := "com/example/mediawarden/mediawarden/engine/LangOfPinLaw", name := "pick", desc := "(II)C" } : Jvm.MethodName) method_2_code (2 : Nat) (Option.some Jvm.ClassFile.FieldType.char)).before args0 about1 = true := code_word (m := ⟨1, 1⟩) (meth := k1m1) (c := k1c1) (by decide +kernel) rfl rfl rfl (by decide +kernel)
set_option maxRecDepth 65536 in
theorem w_c2 : (Jvm.Cond.code ({ cls := "java/lang/String", name := "<init>", desc := "([C)V" } : Jvm.MethodName) jdk_42_method_3_code (2 : Nat) (Option.none : Option Jvm.ClassFile.FieldType)).before args0 about1 = true := code_word (m := ⟨7, 1⟩) (meth := k7m1) (c := k7c1) (by decide +kernel) rfl rfl rfl (by decide +kernel)
set_option maxRecDepth 65536 in
theorem w_c3 : (Jvm.Cond.code ({ cls := "java/lang/String", name := "<init>", desc := "([CIILjava/lang/Void;)V" } : Jvm.MethodName) jdk_42_method_149_code (6 : Nat) (Option.none : Option Jvm.ClassFile.FieldType)).before args0 about1 = true := code_word (m := ⟨7, 4⟩) (meth := k7m4) (c := k7c4) (by decide +kernel) rfl rfl rfl (by decide +kernel)
set_option maxRecDepth 65536 in
theorem w_c4 : (Jvm.Cond.code ({ cls := "java/lang/Object", name := "<init>", desc := "()V" } : Jvm.MethodName) object_method_1_code (1 : Nat) (Option.none : Option Jvm.ClassFile.FieldType)).before args0 about1 = true := code_word (m := ⟨0, 0⟩) (meth := k0m0) (c := k0c0) (by decide +kernel) rfl rfl rfl (by decide +kernel)
set_option maxRecDepth 65536 in
theorem w_c5 : (Jvm.Cond.code ({ cls := "com/example/mediawarden/mediawarden/engine/Lang", name := "of", desc := "(Ljava/lang/String;)Ljava/util/Optional;" } : Jvm.MethodName) prog_28_method_4_code (5 : Nat) (Option.some (Jvm.ClassFile.FieldType.object "java/util/Optional"))).before args0 about1 = true := code_word (m := ⟨9, 1⟩) (meth := k9m1) (c := k9c1) (by decide +kernel) rfl rfl rfl (by decide +kernel)
set_option maxRecDepth 65536 in
theorem w_c6 : (Jvm.Cond.code ({ cls := "com/example/mediawarden/mediawarden/engine/Lang", name := "values", desc := "()[Lcom/example/mediawarden/mediawarden/engine/Lang;" } : Jvm.MethodName) prog_28_method_1_code (0 : Nat) (Option.some (Jvm.ClassFile.FieldType.array (Jvm.ClassFile.FieldType.object "com/example/mediawarden/mediawarden/engine/Lang")))).before args0 about1 = true := code_word (m := ⟨9, 0⟩) (meth := k9m0) (c := k9c0) (by decide +kernel) rfl rfl rfl (by decide +kernel)
set_option maxRecDepth 65536 in
theorem w_c7 : (Jvm.Cond.code ({ cls := "java/lang/String", name := "equals", desc := "(Ljava/lang/Object;)Z" } : Jvm.MethodName) jdk_42_method_66_code (3 : Nat) (Option.some Jvm.ClassFile.FieldType.boolean)).before args0 about1 = true := code_word (m := ⟨7, 3⟩) (meth := k7m3) (c := k7c3) (by decide +kernel) rfl rfl rfl (by decide +kernel)
set_option maxRecDepth 65536 in
theorem w_c8 : (Jvm.Cond.code ({ cls := "java/lang/StringLatin1", name := "equals", desc := "([B[B)Z" } : Jvm.MethodName) jdk_43_method_13_code (3 : Nat) (Option.some Jvm.ClassFile.FieldType.boolean)).before args0 about1 = true := code_word (m := ⟨11, 2⟩) (meth := k11m2) (c := k11c2) (by decide +kernel) rfl rfl rfl (by decide +kernel)
set_option maxRecDepth 65536 in
theorem w_c9 : (Jvm.Cond.code ({ cls := "java/util/Optional", name := "empty", desc := "()Ljava/util/Optional;" } : Jvm.MethodName) jdk_32_method_1_code (1 : Nat) (Option.some (Jvm.ClassFile.FieldType.object "java/util/Optional"))).before args0 about1 = true := code_word (m := ⟨12, 0⟩) (meth := k12m0) (c := k12c0) (by decide +kernel) rfl rfl rfl (by decide +kernel)
set_option maxRecDepth 65536 in
theorem w_c10 : (Jvm.Cond.code ({ cls := "java/util/Optional", name := "isPresent", desc := "()Z" } : Jvm.MethodName) jdk_32_method_6_code (1 : Nat) (Option.some Jvm.ClassFile.FieldType.boolean)).before args0 about1 = true := code_word (m := ⟨12, 4⟩) (meth := k12m4) (c := k12c4) (by decide +kernel) rfl rfl rfl (by decide +kernel)
set_option maxRecDepth 65536 in
theorem w_c11 : (Jvm.Cond.code ({ cls := "java/lang/String", name := "charAt", desc := "(I)C" } : Jvm.MethodName) jdk_42_method_56_code (2 : Nat) (Option.some Jvm.ClassFile.FieldType.char)).before args0 about1 = true := code_word (m := ⟨7, 2⟩) (meth := k7m2) (c := k7c2) (by decide +kernel) rfl rfl rfl (by decide +kernel)
set_option maxRecDepth 65536 in
theorem w_c12 : (Jvm.Cond.code ({ cls := "java/lang/String", name := "isLatin1", desc := "()Z" } : Jvm.MethodName) jdk_42_method_154_code (1 : Nat) (Option.some Jvm.ClassFile.FieldType.boolean)).before args0 about1 = true := code_word (m := ⟨7, 5⟩) (meth := k7m5) (c := k7c5) (by decide +kernel) rfl rfl rfl (by decide +kernel)
set_option maxRecDepth 65536 in
theorem w_c13 : (Jvm.Cond.code ({ cls := "java/lang/StringLatin1", name := "charAt", desc := "([BI)C" } : Jvm.MethodName) jdk_43_method_2_code (2 : Nat) (Option.some Jvm.ClassFile.FieldType.char)).before args0 about1 = true := code_word (m := ⟨11, 1⟩) (meth := k11m1) (c := k11c1) (by decide +kernel) rfl rfl rfl (by decide +kernel)
set_option maxRecDepth 65536 in
theorem w_c14 : (Jvm.Cond.code ({ cls := "java/lang/String", name := "checkIndex", desc := "(II)V" } : Jvm.MethodName) jdk_42_method_155_code (2 : Nat) (Option.none : Option Jvm.ClassFile.FieldType)).before args0 about1 = true := code_word (m := ⟨7, 6⟩) (meth := k7m6) (c := k7c6) (by decide +kernel) rfl rfl rfl (by decide +kernel)
set_option maxRecDepth 65536 in
theorem w_c15 : (Jvm.Cond.code ({ cls := "jdk/internal/util/Preconditions", name := "checkIndex", desc := "(IILjava/util/function/BiFunction;)I" } : Jvm.MethodName) jdk_41_method_11_code (3 : Nat) (Option.some Jvm.ClassFile.FieldType.int)).before args0 about1 = true := code_word (m := ⟨13, 1⟩) (meth := k13m1) (c := k13c1) (by decide +kernel) rfl rfl rfl (by decide +kernel)
set_option maxRecDepth 65536 in
theorem w_c16 : (Jvm.Cond.code ({ cls := "java/lang/StringUTF16", name := "compress", desc := "([CII)[B" } : Jvm.MethodName) jdk_52_method_16_code (6 : Nat) (Option.some (Jvm.ClassFile.FieldType.array Jvm.ClassFile.FieldType.byte))).before args0 about1 = true := code_word (m := ⟨14, 2⟩) (meth := k14m2) (c := k14c2) (by decide +kernel) rfl rfl rfl (by decide +kernel)
set_option maxRecDepth 65536 in
theorem w_c17 : (Jvm.Cond.code ({ cls := "java/lang/StringUTF16", name := "compress", desc := "([CI[BII)I" } : Jvm.MethodName) jdk_52_method_21_code (7 : Nat) (Option.some Jvm.ClassFile.FieldType.int)).before args0 about1 = true := code_word (m := ⟨14, 3⟩) (meth := k14m3) (c := k14c3) (by decide +kernel) rfl rfl rfl (by decide +kernel)
set_option maxRecDepth 65536 in
theorem w_c18 : (Jvm.Cond.code ({ cls := "java/lang/StringUTF16", name := "coderFromArrayLen", desc := "([BI)B" } : Jvm.MethodName) jdk_52_method_15_code (2 : Nat) (Option.some Jvm.ClassFile.FieldType.byte)).before args0 about1 = true := code_word (m := ⟨14, 1⟩) (meth := k14m1) (c := k14c1) (by decide +kernel) rfl rfl rfl (by decide +kernel)
set_option maxRecDepth 65536 in
theorem w_c19 : (Jvm.Cond.code ({ cls := "java/util/Optional", name := "of", desc := "(Ljava/lang/Object;)Ljava/util/Optional;" } : Jvm.MethodName) jdk_32_method_3_code (1 : Nat) (Option.some (Jvm.ClassFile.FieldType.object "java/util/Optional"))).before args0 about1 = true := code_word (m := ⟨12, 2⟩) (meth := k12m2) (c := k12c2) (by decide +kernel) rfl rfl rfl (by decide +kernel)
set_option maxRecDepth 65536 in
theorem w_c20 : (Jvm.Cond.code ({ cls := "java/util/Objects", name := "requireNonNull", desc := "(Ljava/lang/Object;)Ljava/lang/Object;" } : Jvm.MethodName) jdk_31_method_10_code (1 : Nat) (Option.some (Jvm.ClassFile.FieldType.object "java/lang/Object"))).before args0 about1 = true := code_word (m := ⟨15, 1⟩) (meth := k15m1) (c := k15c1) (by decide +kernel) rfl rfl rfl (by decide +kernel)
set_option maxRecDepth 65536 in
theorem w_c21 : (Jvm.Cond.code ({ cls := "java/util/Optional", name := "<init>", desc := "(Ljava/lang/Object;)V" } : Jvm.MethodName) jdk_32_method_2_code (2 : Nat) (Option.none : Option Jvm.ClassFile.FieldType)).before args0 about1 = true := code_word (m := ⟨12, 1⟩) (meth := k12m1) (c := k12c1) (by decide +kernel) rfl rfl rfl (by decide +kernel)
set_option maxRecDepth 65536 in
theorem w_c22 : (Jvm.Cond.code ({ cls := "java/util/Optional", name := "get", desc := "()Ljava/lang/Object;" } : Jvm.MethodName) jdk_32_method_5_code (1 : Nat) (Option.some (Jvm.ClassFile.FieldType.object "java/lang/Object"))).before args0 about1 = true := code_word (m := ⟨12, 3⟩) (meth := k12m3) (c := k12c3) (by decide +kernel) rfl rfl rfl (by decide +kernel)
def codes1 : List Jvm.Cond := [Jvm.Cond.code x code maxLocals ret, Jvm.Cond.code ({ cls := "com/example/mediawarden/mediawarden/engine/LangOfPinLaw", name := "pick", desc := "(II)C" } : Jvm.MethodName) method_2_code (2 : Nat) (Option.some Jvm.ClassFile.FieldType.char), Jvm.Cond.code ({ cls := "java/lang/String", name := "<init>", desc := "([C)V" } : Jvm.MethodName) jdk_42_method_3_code (2 : Nat) (Option.none : Option Jvm.ClassFile.FieldType), Jvm.Cond.code ({ cls := "java/lang/String", name := "<init>", desc := "([CIILjava/lang/Void;)V" } : Jvm.MethodName) jdk_42_method_149_code (6 : Nat) (Option.none : Option Jvm.ClassFile.FieldType), Jvm.Cond.code ({ cls := "java/lang/Object", name := "<init>", desc := "()V" } : Jvm.MethodName) object_method_1_code (1 : Nat) (Option.none : Option Jvm.ClassFile.FieldType), Jvm.Cond.code ({ cls := "com/example/mediawarden/mediawarden/engine/Lang", name := "of", desc := "(Ljava/lang/String;)Ljava/util/Optional;" } : Jvm.MethodName) prog_28_method_4_code (5 : Nat) (Option.some (Jvm.ClassFile.FieldType.object "java/util/Optional")), Jvm.Cond.code ({ cls := "com/example/mediawarden/mediawarden/engine/Lang", name := "values", desc := "()[Lcom/example/mediawarden/mediawarden/engine/Lang;" } : Jvm.MethodName) prog_28_method_1_code (0 : Nat) (Option.some (Jvm.ClassFile.FieldType.array (Jvm.ClassFile.FieldType.object "com/example/mediawarden/mediawarden/engine/Lang"))), Jvm.Cond.code ({ cls := "java/lang/String", name := "equals", desc := "(Ljava/lang/Object;)Z" } : Jvm.MethodName) jdk_42_method_66_code (3 : Nat) (Option.some Jvm.ClassFile.FieldType.boolean), Jvm.Cond.code ({ cls := "java/lang/StringLatin1", name := "equals", desc := "([B[B)Z" } : Jvm.MethodName) jdk_43_method_13_code (3 : Nat) (Option.some Jvm.ClassFile.FieldType.boolean), Jvm.Cond.code ({ cls := "java/util/Optional", name := "empty", desc := "()Ljava/util/Optional;" } : Jvm.MethodName) jdk_32_method_1_code (1 : Nat) (Option.some (Jvm.ClassFile.FieldType.object "java/util/Optional")), Jvm.Cond.code ({ cls := "java/util/Optional", name := "isPresent", desc := "()Z" } : Jvm.MethodName) jdk_32_method_6_code (1 : Nat) (Option.some Jvm.ClassFile.FieldType.boolean), Jvm.Cond.code ({ cls := "java/lang/String", name := "charAt", desc := "(I)C" } : Jvm.MethodName) jdk_42_method_56_code (2 : Nat) (Option.some Jvm.ClassFile.FieldType.char), Jvm.Cond.code ({ cls := "java/lang/String", name := "isLatin1", desc := "()Z" } : Jvm.MethodName) jdk_42_method_154_code (1 : Nat) (Option.some Jvm.ClassFile.FieldType.boolean), Jvm.Cond.code ({ cls := "java/lang/StringLatin1", name := "charAt", desc := "([BI)C" } : Jvm.MethodName) jdk_43_method_2_code (2 : Nat) (Option.some Jvm.ClassFile.FieldType.char), Jvm.Cond.code ({ cls := "java/lang/String", name := "checkIndex", desc := "(II)V" } : Jvm.MethodName) jdk_42_method_155_code (2 : Nat) (Option.none : Option Jvm.ClassFile.FieldType), Jvm.Cond.code ({ cls := "jdk/internal/util/Preconditions", name := "checkIndex", desc := "(IILjava/util/function/BiFunction;)I" } : Jvm.MethodName) jdk_41_method_11_code (3 : Nat) (Option.some Jvm.ClassFile.FieldType.int), Jvm.Cond.code ({ cls := "java/lang/StringUTF16", name := "compress", desc := "([CII)[B" } : Jvm.MethodName) jdk_52_method_16_code (6 : Nat) (Option.some (Jvm.ClassFile.FieldType.array Jvm.ClassFile.FieldType.byte)), Jvm.Cond.code ({ cls := "java/lang/StringUTF16", name := "compress", desc := "([CI[BII)I" } : Jvm.MethodName) jdk_52_method_21_code (7 : Nat) (Option.some Jvm.ClassFile.FieldType.int), Jvm.Cond.code ({ cls := "java/lang/StringUTF16", name := "coderFromArrayLen", desc := "([BI)B" } : Jvm.MethodName) jdk_52_method_15_code (2 : Nat) (Option.some Jvm.ClassFile.FieldType.byte), Jvm.Cond.code ({ cls := "java/util/Optional", name := "of", desc := "(Ljava/lang/Object;)Ljava/util/Optional;" } : Jvm.MethodName) jdk_32_method_3_code (1 : Nat) (Option.some (Jvm.ClassFile.FieldType.object "java/util/Optional")), Jvm.Cond.code ({ cls := "java/util/Objects", name := "requireNonNull", desc := "(Ljava/lang/Object;)Ljava/lang/Object;" } : Jvm.MethodName) jdk_31_method_10_code (1 : Nat) (Option.some (Jvm.ClassFile.FieldType.object "java/lang/Object")), Jvm.Cond.code ({ cls := "java/util/Optional", name := "<init>", desc := "(Ljava/lang/Object;)V" } : Jvm.MethodName) jdk_32_method_2_code (2 : Nat) (Option.none : Option Jvm.ClassFile.FieldType), Jvm.Cond.code ({ cls := "java/util/Optional", name := "get", desc := "()Ljava/lang/Object;" } : Jvm.MethodName) jdk_32_method_5_code (1 : Nat) (Option.some (Jvm.ClassFile.FieldType.object "java/lang/Object"))]
set_option maxRecDepth 65536 in
theorem codes_eq : words1.filter isCode = codes1 := rfl
theorem w_codes : ∀ c ∈ words1.filter isCode, c.before args0 about1 = true := by
  rw [codes_eq]
  intro c hc
  simp only [codes1, List.mem_cons, List.not_mem_nil, or_false] at hc
  rcases hc with rfl | rfl | rfl | rfl | rfl | rfl | rfl | rfl | rfl | rfl | rfl | rfl | rfl | rfl | rfl | rfl | rfl | rfl | rfl | rfl | rfl | rfl | rfl
  · exact w_c0
  · exact w_c1
  · exact w_c2
  · exact w_c3
  · exact w_c4
  · exact w_c5
  · exact w_c6
  · exact w_c7
  · exact w_c8
  · exact w_c9
  · exact w_c10
  · exact w_c11
  · exact w_c12
  · exact w_c13
  · exact w_c14
  · exact w_c15
  · exact w_c16
  · exact w_c17
  · exact w_c18
  · exact w_c19
  · exact w_c20
  · exact w_c21
  · exact w_c22
set_option maxRecDepth 65536 in
theorem w_t1 : (words1.take 24).all (fun c => isCode c || c.before args0 about1) = true := by decide +kernel
set_option maxRecDepth 65536 in
theorem w_t2 : ((words1.drop 24).take 24).all (fun c => isCode c || c.before args0 about1) = true := by decide +kernel
set_option maxRecDepth 65536 in
theorem w_t3 : (((words1.drop 24).drop 24).take 24).all (fun c => isCode c || c.before args0 about1) = true := by decide +kernel
set_option maxRecDepth 65536 in
theorem w_t4 : ((((words1.drop 24).drop 24).drop 24).take 24).all (fun c => isCode c || c.before args0 about1) = true := by decide +kernel
set_option maxRecDepth 65536 in
theorem w_t5 : (((((words1.drop 24).drop 24).drop 24).drop 24).take 24).all (fun c => isCode c || c.before args0 about1) = true := by decide +kernel
set_option maxRecDepth 65536 in
theorem w_t6 : (((((words1.drop 24).drop 24).drop 24).drop 24).drop 24).all (fun c => isCode c || c.before args0 about1) = true := by decide +kernel
theorem w_tables : (allAtoms (Jvm.Cond.code x code maxLocals ret :: tables_1)).before args0 about1 = true := by
  rw [allAtoms_all]
  show words1.all (fun c => c.before args0 about1) = true
  refine all_split ?_ w_codes
  rw [← List.take_append_drop 24 words1, List.all_append, w_t1, ← List.take_append_drop 24 (words1.drop 24), List.all_append, w_t2, ← List.take_append_drop 24 ((words1.drop 24).drop 24), List.all_append, w_t3, ← List.take_append_drop 24 (((words1.drop 24).drop 24).drop 24), List.all_append, w_t4, ← List.take_append_drop 24 ((((words1.drop 24).drop 24).drop 24).drop 24), List.all_append, w_t5, w_t6]
  rfl
set_option maxRecDepth 65536 in
theorem w_rest : rest_1_c.before args0 about1 = true := by decide +kernel
set_option maxRecDepth 65536 in
theorem w_case : (Jvm.Cond.and given_1 narrow_1).before args0 about1 = true := by decide +kernel
set_option maxRecDepth 65536 in
theorem w_consts : constsHeld consts_1 about1 := Jvm.Lit.constsHeldB_iff.mp (by decide +kernel)
theorem w_applies : (headSpec (Jvm.Cond.code x code maxLocals ret :: tables_1) room_1).applies x e0.platform about1 = true :=
  (Spec.applies_iff w_frames).mpr ⟨w_running, w_runnable, w_alone, w_named, w_hears, w_ripe, w_room, w_tables⟩
theorem atStart : AtStart classFile x code maxLocals ret World_1 tables_1 room_1 Calls_1 rest_1 Pre_1 launch0 p0 e0 about1 theMethod args0 below0 :=
  ⟨lists_1, trivial, launch0.admits_env _ _ _, launch0.least_env, fairChoices_fair.cas, fairChoices_fair.clock, w_frames, w_args, w_heap, w_applies, ⟨w_consts, trivial⟩, w_rest, w_case⟩
end start1
theorem witness_1 : WitnessClaimed_1 := ⟨start1.p0, start1.e0, start1.about1, start1.theMethod, start1.args0, start1.below0, start1.atStart⟩
end Jvm.Pilot.@@N@@
