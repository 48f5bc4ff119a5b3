import JvmDerived
import JvmDerived.Pilot.@@N@@Statement
import JvmDerived.Pilot.@@N@@Code
set_option linter.unusedVariables false
set_option linter.unusedSimpArgs false
namespace Jvm.Pilot.@@N@@
open Jvm Jvm.ClassFile Sem Op Lib Jvm.Free Jvm.Stand Jvm.LawKit Jvm.RoadKit Bundle Jvm.Pilot.@@N@@.Jvm.D
theorem own_fi {args : Array Value} {s : State} {t : Term} {C n d : String} {a : Addr} {i : Int32} (e : t.eval args s none [] s = some (.ref a)) (h : (Jvm.Cond.eq (.field t C n d) (.int i)).value args s none s [] = some true) : s.fieldOf? a C n d = some (.int i) := by
  obtain ⟨x, y, hx, hy, k1, k2⟩ := cmp_v (Or.inl h)
  have hy' : y = .int i := Option.some.inj (hy.symm.trans (Term.int_eval i))
  subst hy'
  obtain ⟨z, rfl⟩ := k2
  have q : z = i := gotT (Cond.eq_ints hx (Term.int_eval i)) h
  rw [fld_at e] at hx
  rw [hx, q]
theorem own_ne {args : Array Value} {s : State} {t u : Term} {C n d : String} {a b : Addr} {i j : Int32} (e1 : t.eval args s none [] s = some (.ref a)) (e2 : u.eval args s none [] s = some (.ref b)) (h1 : (Jvm.Cond.eq (.field t C n d) (.int i)).value args s none s [] = some true) (h2 : (Jvm.Cond.eq (.field u C n d) (.int j)).value args s none s [] = some true) (hij : i ≠ j) : a ≠ b := by
  intro q; subst q
  have g1 := own_fi e1 h1
  have g2 := own_fi e2 h2
  rw [g1] at g2
  exact hij (Value.int.inj (Option.some.inj g2))
theorem own_len {args : Array Value} {s : State} {t : Term} {a : Addr} {cl : Cell} {z : Int32} (e : t.eval args s none [] s = some (.ref a)) (hA : s.arrayAt? a = some cl) (h : (Term.length t).eval args s none [] s = some (.int z)) : cl.slots.size < 2 ^ 31 := by
  by_cases q : cl.slots.size < 2 ^ 31
  · exact q
  · exfalso
    have q' : ¬ cl.slots.size < 2147483648 := q
    simp [Term.eval, e, hA, q'] at h
theorem d2_0 : decode prog_61_method_1_code 0 = .ok (.getstatic 25, 3) := by decide +kernel
theorem d2_3 : decode prog_61_method_1_code 3 = .ok (.invokevirtual 29, 3) := by decide +kernel
theorem d2_6 : decode prog_61_method_1_code 6 = .ok (.checkcast 30, 3) := by decide +kernel
theorem d2_9 : decode prog_61_method_1_code 9 = .ok (.areturn, 1) := by decide +kernel
theorem own_fr2 {args : Array Value} {s : State} {t u : Term} {b : Addr} (e2 : u.eval args s none [] s = some (.ref b)) (h : (Jvm.Cond.eq t u).value args s none s [] = some true) : t.eval args s none [] s = some (.ref b) := by
  obtain ⟨x, y, hx, hy, k1, k2⟩ := cmp_v (Or.inl h)
  have hy' : y = .ref b := Option.some.inj (hy.symm.trans e2)
  subst hy'
  have k3 : x.isRef = true := by cases x <;> simp [Kin, Value.isRef] at k2 ⊢
  have q : x = .ref b := gotT (eq_R hx hy k3 rfl) h
  rw [hx, q]
theorem own_seven {P : Value → Prop} {cl : Cell} {v0 v1 v2 v3 v4 v5 v6 : Value} (hs : cl.slots.size = 7) (h0 : cl.slots[0]? = some v0) (h1 : cl.slots[1]? = some v1) (h2 : cl.slots[2]? = some v2) (h3 : cl.slots[3]? = some v3) (h4 : cl.slots[4]? = some v4) (h5 : cl.slots[5]? = some v5) (h6 : cl.slots[6]? = some v6)
    (p0 : P v0) (p1 : P v1) (p2 : P v2) (p3 : P v3) (p4 : P v4) (p5 : P v5) (p6 : P v6) : ∀ (i : Nat) (v : Value), cl.slots[i]? = some v → P v := by
  intro i v hv
  have hi : i < 7 := hs ▸ (Array.getElem?_eq_some_iff.mp hv).1
  have c : i = 0 ∨ i = 1 ∨ i = 2 ∨ i = 3 ∨ i = 4 ∨ i = 5 ∨ i = 6 := by omega
  rcases c with rfl | rfl | rfl | rfl | rfl | rfl | rfl
  · cases h0.symm.trans hv; exact p0
  · cases h1.symm.trans hv; exact p1
  · cases h2.symm.trans hv; exact p2
  · cases h3.symm.trans hv; exact p3
  · cases h4.symm.trans hv; exact p4
  · cases h5.symm.trans hv; exact p5
  · cases h6.symm.trans hv; exact p6
theorem own_push (h : Heap) (c : Cell) : Ext h (h.push c) := ⟨by simp, fun a c' q => by
  obtain ⟨ha, e⟩ := Array.getElem?_eq_some_iff.mp q
  rw [Array.getElem?_push_lt ha, e]⟩
theorem pn_0 : plainName "com/example/mediawarden/mediawarden/task/Code" = true := by first | (simp [plainName, overriddenIn]; done) | decide +kernel
def QV (Z : State) (cl : Cell) (h0 : Heap) (n0 : Nat) (v : Option Value) (h : Heap) (L : List Loc) : Prop := v = some (.ref h0.size) ∧ Fr n0 L ∧ Ext h0 h ∧ h[h0.size]? = some { cls := cl.cls, slots := cl.slots }
set_option maxRecDepth 65536 in
set_option maxHeartbeats 40000000 in
theorem rmV (l : Launch) (Z : State) (a0 : Array Value) (hw : ∀ d ∈ tables_1, d.before a0 Z = true) (ws : List Jvm.Cond) (wv : Addr) (cl : Cell) (w_SUCCESS w_PROCESSING w_RATE_LIMITED w_INVALID_PARAMETERS w_SERVICE_FAILURE w_DOWNLOAD_FAILED w_NO_PERMISSION : Addr) (h0 : Heap) (n0 : Nat) (Z0 : n0 ≤ h0.size) (S_V : Sta Z h0 "com/example/mediawarden/mediawarden/task/Code" "$VALUES" "[Lcom/example/mediawarden/mediawarden/task/Code;" (.ref wv)) (Arv_ : Arr Z h0 wv cl (.object "com/example/mediawarden/mediawarden/task/Code")) (E_V : Exa Z h0 wv "[Lcom/example/mediawarden/mediawarden/task/Code;") (hsz : cl.slots.size = 7) (hat0 : cl.slots[0]? = some (.ref w_SUCCESS)) (hat1 : cl.slots[1]? = some (.ref w_PROCESSING)) (hat2 : cl.slots[2]? = some (.ref w_RATE_LIMITED)) (hat3 : cl.slots[3]? = some (.ref w_INVALID_PARAMETERS)) (hat4 : cl.slots[4]? = some (.ref w_SERVICE_FAILURE)) (hat5 : cl.slots[5]? = some (.ref w_DOWNLOAD_FAILED)) (hat6 : cl.slots[6]? = some (.ref w_NO_PERMISSION)) :
    MetFree l (⟨"com/example/mediawarden/mediawarden/task/Code", "values", "()[Lcom/example/mediawarden/mediawarden/task/Code;"⟩ : MethodName) (head1 (Jvm.Cond.code (⟨"com/example/mediawarden/mediawarden/task/Code", "values", "()[Lcom/example/mediawarden/mediawarden/task/Code;"⟩ : MethodName) prog_61_method_1_code 0 (some (.array (.object "com/example/mediawarden/mediawarden/task/Code"))) :: ws) ({ frames := 1, cells := 1, slots := 7, locals := 14 } : Room)) (fun a U => a = #[] ∧ Z.Warmed39 U.vm ∧ U.heap = h0) (fun _ _ _ _ _ => True) (fun _ U o U' => ∃ v L, o = .returned v ∧ QV Z cl h0 n0 v U'.heap L ∧ FrameEnd U o U' L ({ frames := 1, cells := 1, slots := 7, locals := 14 } : Room).cells ({ frames := 1, cells := 1, slots := 7, locals := 14 } : Room).slots) := by
  refine MetFree.of_bodySF (plainFor_of_name pn_0) hisR ?_
  intro p e s m args below meth c s₁ Bd hml0 hP hK
  obtain ⟨rfl, hZ, hh⟩ := hP
  have hx := Bd.exec
  have hby := Bd.bytes
  have hml : c.maxLocals = 0 := hml0
  have hown : s.vm.findClass "com/example/mediawarden/mediawarden/task/Code" = some m.cls := findClass_of_methodNamed Bd.named
  have X0 : Stand p l e ({ frames := 1, cells := 1, slots := 7, locals := 14 } : Room) s m #[] below meth c s₁ [] 0 0 := Stand.of_body Bd
  have e0 : s₁.heap = h0 := by rw [← hh, Bd.state]; rfl
  have N0 := Fr.nil n0
  have k0 : ∀ t, Steps p.tables e below (s₁.setTop (mkF m 0 #[] [])) t → Steps p.tables e below (s₁.setTop (entryFrame m #[] 0)) t := fun t k => castTop (by first | rfl | simp [entryFrame, mkF, argsToLocals]) k
  obtain ⟨T1, X1, e1, st1⟩ := getS2 X0 hx hZ hown (host := "") (Or.inl (hw _ (List.mem_of_getElem? (i := 10) rfl))) Via.refl e0 S_V (g := (mkF m 0 #[] [])) rfl (hb hby d2_0)
  obtain ⟨cV, kV, v1, v2, v3, v4, -⟩ := E_V
  cases Arv_.1.symm.trans v1
  obtain ⟨c1, c2, g1, g2, g3⟩ := Cond.castable_spec (hw _ (List.mem_of_getElem? (i := 18) rfl))
  cases v2.symm.trans g1
  obtain ⟨hst, kA, hkA, comp, hkind⟩ := Arv_.2.1
  obtain ⟨kT, hkT, ekT⟩ := (hZ.alike.trans X1.warmed.alike).2.2 _ _ hkA
  have hkindT : kT.kind = .array comp (.object "com/example/mediawarden/mediawarden/task/Code") := by rw [ekT]; exact hkind
  obtain ⟨kS, hkS, ekS⟩ := hZ.alike.2.2 _ _ hkA
  have hkindS : kS.kind = .array comp (.object "com/example/mediawarden/mediawarden/task/Code") := by rw [ekS]; exact hkind
  have hfit : ∀ i v, cl.slots[i]? = some v → T1.fitsSlot cl.cls .none i v = true := fun i v hv => by
    obtain ⟨w, rfl⟩ := own_seven (P := fun v => ∃ w, v = Value.ref w) hsz hat0 hat1 hat2 hat3 hat4 hat5 hat6 ⟨_, rfl⟩ ⟨_, rfl⟩ ⟨_, rfl⟩ ⟨_, rfl⟩ ⟨_, rfl⟩ ⟨_, rfl⟩ ⟨_, rfl⟩ i v hv
    simp [State.fitsSlot, State.slotType?, hkT, hkindT, fits]
  obtain ⟨vm2, X2, st2⟩ := X1.cloneArray hx (own := "com/example/mediawarden/mediawarden/task/Code") (ad := "[Lcom/example/mediawarden/mediawarden/task/Code;") (index := 29) hown (mvT hZ (hw _ (List.mem_of_getElem? (i := 12) rfl))) (mvT hZ (hw _ (List.mem_of_getElem? (i := 13) rfl))) (mvT hZ (hw _ (List.mem_of_getElem? (i := 17) rfl))) (mvT hZ (hw _ (List.mem_of_getElem? (i := 15) rfl))) (mvT hZ (hw _ (List.mem_of_getElem? (i := 16) rfl))) (a := wv) (cell := cl) (cC := c2) (by rw [e1]; exact Arv_.1) hst Arv_.2.2 (by rw [hZ.alike.findClass]; exact v2) (by rw [hZ.alike.findClass]; exact g2) (by rw [hZ.alike.assignable]; exact g3) hfit (g := (mkF m 3 #[] [(.ref wv)])) rfl (by rw [hml]; rfl) (rest := []) rfl (hb hby d2_3) (by decide) (by show 2 * 0 + 0 + 14 ≤ 14; decide) (by decide) (by show 0 + cl.slots.size ≤ 7; omega) (Vm.clonesLoader_of_array hkS hkindS)
  have e2 : ((T1.setVm vm2).pushCell { cls := cl.cls, slots := cl.slots }).heap = h0.push { cls := cl.cls, slots := cl.slots } := by show T1.heap.push _ = _; rw [e1]
  generalize hT2 : (T1.setVm vm2).pushCell { cls := cl.cls, slots := cl.slots } = T2 at X2 st2 e2
  rw [e1] at st2
  have F2 : Ins Z (h0.push { cls := cl.cls, slots := cl.slots }) h0.size "[Lcom/example/mediawarden/mediawarden/task/Code;" true := ⟨{ cls := cl.cls, slots := cl.slots }, cl.cls, by simp, v2, by simp [Vm.assignable_self, VmData.isStatics]⟩
  obtain ⟨T3, X3, e3, st3⟩ := castY X2 hx hZ hown (hw _ (List.mem_of_getElem? (i := 26) rfl)) e2 F2 (g := (mkF m 6 #[] [(.ref h0.size)])) rfl rfl (hb hby d2_6)
  rw [hsz] at X3
  obtain ⟨fs, hr, hrun, hended, hW, hsame⟩ := X3.leave (v := (some (.ref h0.size))) (fun h => by rw [Bd.returns] at h; cases h)
  refine ⟨_, _, k0 _ (st1 _ (st2 _ (st3 _ ?_))), hrun, hended, _, _, rfl, ?_, ⟨_, rfl⟩, hW, hsame.mono (by decide) (by decide)⟩
  · exact retOut X3 hx Bd.returns rfl (Or.inr (Or.inr (Or.inr (Or.inr ⟨rfl, rfl, rfl⟩)))) (hb hby d2_9) hr
  · show QV Z cl h0 n0 _ T3.heap _
    rw [e3]
    exact ⟨rfl, N0, own_push _ _, by simp⟩
theorem d1_0 : decode prog_61_method_4_code 0 = .ok (.invokestatic 52, 3) := by decide +kernel
theorem d1_3 : decode prog_61_method_4_code 3 = .ok (.astore_n 1, 1) := by decide +kernel
theorem d1_4 : decode prog_61_method_4_code 4 = .ok (.aload_n 1, 1) := by decide +kernel
theorem d1_5 : decode prog_61_method_4_code 5 = .ok (.arraylength, 1) := by decide +kernel
theorem d1_6 : decode prog_61_method_4_code 6 = .ok (.istore_n 2, 1) := by decide +kernel
theorem d1_7 : decode prog_61_method_4_code 7 = .ok (.iconst 0, 1) := by decide +kernel
theorem d1_8 : decode prog_61_method_4_code 8 = .ok (.istore_n 3, 1) := by decide +kernel
theorem d1_9 : decode prog_61_method_4_code 9 = .ok (.iload_n 3, 1) := by decide +kernel
theorem d1_10 : decode prog_61_method_4_code 10 = .ok (.iload_n 2, 1) := by decide +kernel
theorem d1_11 : decode prog_61_method_4_code 11 = .ok (.if_icmp .ge 26, 3) := by decide +kernel
theorem d1_14 : decode prog_61_method_4_code 14 = .ok (.aload_n 1, 1) := by decide +kernel
theorem d1_15 : decode prog_61_method_4_code 15 = .ok (.iload_n 3, 1) := by decide +kernel
theorem d1_16 : decode prog_61_method_4_code 16 = .ok (.aaload, 1) := by decide +kernel
theorem d1_17 : decode prog_61_method_4_code 17 = .ok (.astore 4, 2) := by decide +kernel
theorem d1_19 : decode prog_61_method_4_code 19 = .ok (.aload 4, 2) := by decide +kernel
theorem d1_21 : decode prog_61_method_4_code 21 = .ok (.getfield 44, 3) := by decide +kernel
theorem d1_24 : decode prog_61_method_4_code 24 = .ok (.iload_n 0, 1) := by decide +kernel
theorem d1_25 : decode prog_61_method_4_code 25 = .ok (.if_icmp .ne 6, 3) := by decide +kernel
theorem d1_28 : decode prog_61_method_4_code 28 = .ok (.aload 4, 2) := by decide +kernel
theorem d1_30 : decode prog_61_method_4_code 30 = .ok (.areturn, 1) := by decide +kernel
theorem d1_31 : decode prog_61_method_4_code 31 = .ok (.iinc 3 1, 3) := by decide +kernel
theorem d1_34 : decode prog_61_method_4_code 34 = .ok (.goto (-25), 3) := by decide +kernel
theorem d1_37 : decode prog_61_method_4_code 37 = .ok (.new 56, 3) := by decide +kernel
theorem d1_40 : decode prog_61_method_4_code 40 = .ok (.dup, 1) := by decide +kernel
theorem d1_41 : decode prog_61_method_4_code 41 = .ok (.iload_n 0, 1) := by decide +kernel
theorem d1_47 : decode prog_61_method_4_code 47 = .ok (.invokespecial 62, 3) := by decide +kernel
theorem d1_50 : decode prog_61_method_4_code 50 = .ok (.athrow, 1) := by decide +kernel
theorem ef_1_SUCCESS (m : MethodId) (x0 : Int32) : entryFrame m #[(.int x0)] 5 = mkF m 0 #[.val (.int x0), .unset, .unset, .unset, .unset] [] := by first | (simp [entryFrame, mkF, argsToLocals, Value.category]; done) | rfl
theorem pd_0 : parseMethodDescriptor "()[Lcom/example/mediawarden/mediawarden/task/Code;" = some ⟨[], some (.array (.object "com/example/mediawarden/mediawarden/task/Code"))⟩ := by decide +kernel
def Q1_SUCCESS (Z : State) (wv : Addr) (cl : Cell) (w_SUCCESS : Addr) (w_PROCESSING : Addr) (w_RATE_LIMITED : Addr) (w_INVALID_PARAMETERS : Addr) (w_SERVICE_FAILURE : Addr) (w_DOWNLOAD_FAILED : Addr) (w_NO_PERMISSION : Addr) (h0 : Heap) (n0 : Nat) (v : Option Value) (h : Heap) (L : List Loc) : Prop := v = some (.ref w_SUCCESS) ∧ Fr n0 L ∧ Ext h0 h
set_option maxRecDepth 65536 in
set_option maxHeartbeats 40000000 in
theorem rm1_SUCCESS (l : Launch) (Z : State) (a0 : Array Value) (hw : ∀ d ∈ tables_1, d.before a0 Z = true) (ws : List Jvm.Cond) (wv : Addr) (cl : Cell) (w_SUCCESS : Addr) (w_PROCESSING : Addr) (w_RATE_LIMITED : Addr) (w_INVALID_PARAMETERS : Addr) (w_SERVICE_FAILURE : Addr) (w_DOWNLOAD_FAILED : Addr) (w_NO_PERMISSION : Addr) (h0 : Heap) (n0 : Nat) (Z0 : n0 ≤ h0.size) (S_V : Sta Z h0 "com/example/mediawarden/mediawarden/task/Code" "$VALUES" "[Lcom/example/mediawarden/mediawarden/task/Code;" (.ref wv)) (Arv_ : Arr Z h0 wv cl (.object "com/example/mediawarden/mediawarden/task/Code")) (E_V : Exa Z h0 wv "[Lcom/example/mediawarden/mediawarden/task/Code;") (hsz : cl.slots.size = 7) (hat0 : cl.slots[0]? = some (.ref w_SUCCESS)) (hat1 : cl.slots[1]? = some (.ref w_PROCESSING)) (hat2 : cl.slots[2]? = some (.ref w_RATE_LIMITED)) (hat3 : cl.slots[3]? = some (.ref w_INVALID_PARAMETERS)) (hat4 : cl.slots[4]? = some (.ref w_SERVICE_FAILURE)) (hat5 : cl.slots[5]? = some (.ref w_DOWNLOAD_FAILED)) (hat6 : cl.slots[6]? = some (.ref w_NO_PERMISSION)) (F_number_w_SUCCESS : Fld Z h0 w_SUCCESS "com/example/mediawarden/mediawarden/task/Code" "number" "I" (.int (1100 : Int32))) (F_number_w_PROCESSING : Fld Z h0 w_PROCESSING "com/example/mediawarden/mediawarden/task/Code" "number" "I" (.int (1101 : Int32))) (F_number_w_RATE_LIMITED : Fld Z h0 w_RATE_LIMITED "com/example/mediawarden/mediawarden/task/Code" "number" "I" (.int (1901 : Int32))) (F_number_w_INVALID_PARAMETERS : Fld Z h0 w_INVALID_PARAMETERS "com/example/mediawarden/mediawarden/task/Code" "number" "I" (.int (1902 : Int32))) (F_number_w_SERVICE_FAILURE : Fld Z h0 w_SERVICE_FAILURE "com/example/mediawarden/mediawarden/task/Code" "number" "I" (.int (1903 : Int32))) (F_number_w_DOWNLOAD_FAILED : Fld Z h0 w_DOWNLOAD_FAILED "com/example/mediawarden/mediawarden/task/Code" "number" "I" (.int (1911 : Int32))) (F_number_w_NO_PERMISSION : Fld Z h0 w_NO_PERMISSION "com/example/mediawarden/mediawarden/task/Code" "number" "I" (.int (9101 : Int32))) :
    MetFree l (⟨"com/example/mediawarden/mediawarden/task/Code", "of", "(I)Lcom/example/mediawarden/mediawarden/task/Code;"⟩ : MethodName) (head1 (Jvm.Cond.code (⟨"com/example/mediawarden/mediawarden/task/Code", "of", "(I)Lcom/example/mediawarden/mediawarden/task/Code;"⟩ : MethodName) prog_61_method_4_code 5 (some (.object "com/example/mediawarden/mediawarden/task/Code")) :: ws) ({ frames := 2, cells := 1, slots := 7, locals := 25 } : Room)) (fun a U => a = #[(.int (1100 : Int32))] ∧ Z.Warmed39 U.vm ∧ U.heap = h0) (fun _ _ _ _ _ => True) (fun _ U o U' => ∃ v L, o = .returned v ∧ Q1_SUCCESS Z wv cl w_SUCCESS w_PROCESSING w_RATE_LIMITED w_INVALID_PARAMETERS w_SERVICE_FAILURE w_DOWNLOAD_FAILED w_NO_PERMISSION h0 n0 v U'.heap L ∧ FrameEnd U o U' L ({ frames := 2, cells := 1, slots := 7, locals := 25 } : Room).cells ({ frames := 2, cells := 1, slots := 7, locals := 25 } : Room).slots) := by
  refine MetFree.of_bodySF (plainFor_of_name pn_0) hisR ?_
  intro p e s m args below meth c s₁ Bd hml0 hP hK
  obtain ⟨rfl, hZ, hh⟩ := hP
  have hx := Bd.exec
  have hby := Bd.bytes
  have hml : c.maxLocals = 5 := hml0
  have hown : s.vm.findClass "com/example/mediawarden/mediawarden/task/Code" = some m.cls := findClass_of_methodNamed Bd.named
  have hnm := (name_of_methodNamed Bd.named Bd.method).1
  have X0 : Stand p l e ({ frames := 2, cells := 1, slots := 7, locals := 25 } : Room) s m #[(.int (1100 : Int32))] below meth c s₁ [] 0 0 := Stand.of_body Bd
  have e0 : s₁.heap = h0 := by rw [← hh, Bd.state]; rfl
  have N0 := Fr.nil n0
  have k0 : ∀ t, Steps p.tables e below (s₁.setTop (mkF m 0 #[.val (.int (1100 : Int32)), .unset, .unset, .unset, .unset] [])) t → Steps p.tables e below (s₁.setTop (entryFrame m #[(.int (1100 : Int32))] 5)) t := fun t k => castTop (ef_1_SUCCESS m (1100 : Int32)) k
  obtain ⟨_, _, ⟨T1, L1, kq1, n1⟩, -, X1, ⟨Lc1, hQ1, l1, y1, z1⟩, st1⟩ := Jvm.LawKit.callS X0 hx (y := (⟨"com/example/mediawarden/mediawarden/task/Code", "values", "()[Lcom/example/mediawarden/mediawarden/task/Code;"⟩ : MethodName)) hown (mvT hZ (hw _ (List.mem_of_getElem? (i := 7) rfl))) (mvT hZ (hw _ (List.mem_of_getElem? (i := 8) rfl))) (mvT hZ (hw _ (List.mem_of_getElem? (i := 2) rfl))) (mvT hZ (hw _ (List.mem_of_getElem? (i := 9) rfl))) (by decide) (backOf (W := 0) (rmV l Z a0 hw [] wv cl w_SUCCESS w_PROCESSING w_RATE_LIMITED w_INVALID_PARAMETERS w_SERVICE_FAILURE w_DOWNLOAD_FAILED w_NO_PERMISSION h0 n0 Z0 S_V Arv_ E_V hsz hat0 hat1 hat2 hat3 hat4 hat5 hat6) hZ (hw _ (List.mem_of_getElem? (i := 9) rfl)) (hw _ (List.mem_of_getElem? (i := 2) rfl)) (by decide) (by decide)) (g := (mkF m 0 #[.val (.int (1100 : Int32)), .unset, .unset, .unset, .unset] [])) rfl (by rw [hml]; rfl) (argsL := []) (rest := []) (lenOf pd_0 rfl) rfl (by show 2 * 0 + _ ≤ _; exact Nat.le_of_eq rfl) (hb hby d1_0) (fun _ _ => ⟨rfl, e0, (by decide : 0 + 1 ≤ _), (by decide : 0 + 7 ≤ _)⟩)
  dsimp only [Pt.U, Pt.locs, Pt.cells, Pt.slots] at X1 l1 y1 z1 st1 hQ1
  subst l1 y1 z1
  obtain ⟨rfl, N1q, Ex1, hcell1⟩ := hQ1
  have N1 := Fr.app N0 N1q
  have Zs1 : n0 ≤ T1.heap.size := Nat.le_trans Z0 Ex1.1
  have Arn : Arr Z T1.heap h0.size { cls := cl.cls, slots := cl.slots } (.object "com/example/mediawarden/mediawarden/task/Code") := ⟨hcell1, ⟨(fun k q => by cases q), Arv_.2.1.2⟩, (fun q => by cases q)⟩
  have hlen : (cl.slots.size).toInt32 = (7 : Int32) := by rw [hsz]; rfl
  have k2 : ∀ t, Steps p.tables e below (T1.setTop (mkF m 3 #[.val (.int (1100 : Int32)), .unset, .unset, .unset, .unset] [(.ref h0.size)])) t → Steps p.tables e below (s₁.setTop (entryFrame m #[(.int (1100 : Int32))] 5)) t := fun t k => k0 t (st1 _ k)
  have hc11 : (0 : Int32) < (7 : Int32) := by decide
  have k3 : ∀ t, Steps p.tables e below (T1.setTop (mkF m 21 #[.val (.int (1100 : Int32)), .val (.ref h0.size), .val (.int (7 : Int32)), .val (.int (0 : Int32)), .val (.ref w_SUCCESS)] [(.ref w_SUCCESS)])) t → Steps p.tables e below (s₁.setTop (entryFrame m #[(.int (1100 : Int32))] 5)) t := fun t k => k2 t (by
      show Steps p.tables e below (T1.setTop (mkF m 3 #[.val (.int (1100 : Int32)), .unset, .unset, .unset, .unset] [(.ref h0.size)])) _
      refine XS.astoreN X1.here hx rfl (hb hby d1_3) rfl rfl (l' := #[.val (.int (1100 : Int32)), .val (.ref h0.size), .unset, .unset, .unset]) rfl ?_
      show Steps p.tables e below (T1.setTop (mkF m 4 #[.val (.int (1100 : Int32)), .val (.ref h0.size), .unset, .unset, .unset] [])) _
      refine XS.aloadN X1.here hx rfl (hb hby d1_4) rfl rfl ?_
      show Steps p.tables e below (T1.setTop (mkF m 5 #[.val (.int (1100 : Int32)), .val (.ref h0.size), .unset, .unset, .unset] [(.ref h0.size)])) _
      refine X1.arraylength hx Arn.1 (State.isArrayOf_alike hZ.alike Arn.2.1) (g := (mkF m 5 #[.val (.int (1100 : Int32)), .val (.ref h0.size), .unset, .unset, .unset] [(.ref h0.size)])) rfl rfl (hb hby d1_5) _ ?_
      rw [hlen]
      show Steps p.tables e below (T1.setTop (mkF m 6 #[.val (.int (1100 : Int32)), .val (.ref h0.size), .unset, .unset, .unset] [(.int (7 : Int32))])) _
      refine XS.istoreN X1.here hx rfl (hb hby d1_6) rfl (l' := #[.val (.int (1100 : Int32)), .val (.ref h0.size), .val (.int (7 : Int32)), .unset, .unset]) rfl ?_
      show Steps p.tables e below (T1.setTop (mkF m 7 #[.val (.int (1100 : Int32)), .val (.ref h0.size), .val (.int (7 : Int32)), .unset, .unset] [])) _
      refine XS.iconst X1.here hx rfl (hb hby d1_7) ?_
      show Steps p.tables e below (T1.setTop (mkF m 8 #[.val (.int (1100 : Int32)), .val (.ref h0.size), .val (.int (7 : Int32)), .unset, .unset] [(.int (0 : Int32))])) _
      refine XS.istoreN X1.here hx rfl (hb hby d1_8) rfl (l' := #[.val (.int (1100 : Int32)), .val (.ref h0.size), .val (.int (7 : Int32)), .val (.int (0 : Int32)), .unset]) rfl ?_
      show Steps p.tables e below (T1.setTop (mkF m 9 #[.val (.int (1100 : Int32)), .val (.ref h0.size), .val (.int (7 : Int32)), .val (.int (0 : Int32)), .unset] [])) _
      refine XS.iloadN X1.here hx rfl (hb hby d1_9) rfl ?_
      show Steps p.tables e below (T1.setTop (mkF m 10 #[.val (.int (1100 : Int32)), .val (.ref h0.size), .val (.int (7 : Int32)), .val (.int (0 : Int32)), .unset] [(.int (0 : Int32))])) _
      refine XS.iloadN X1.here hx rfl (hb hby d1_10) rfl ?_
      show Steps p.tables e below (T1.setTop (mkF m 11 #[.val (.int (1100 : Int32)), .val (.ref h0.size), .val (.int (7 : Int32)), .val (.int (0 : Int32)), .unset] [(.int (7 : Int32)), (.int (0 : Int32))])) _
      refine XS.icmpNo X1.here hx rfl (hb hby d1_11) rfl (tlt hc11).2.1 ?_
      show Steps p.tables e below (T1.setTop (mkF m 14 #[.val (.int (1100 : Int32)), .val (.ref h0.size), .val (.int (7 : Int32)), .val (.int (0 : Int32)), .unset] [])) _
      refine XS.aloadN X1.here hx rfl (hb hby d1_14) rfl rfl ?_
      show Steps p.tables e below (T1.setTop (mkF m 15 #[.val (.int (1100 : Int32)), .val (.ref h0.size), .val (.int (7 : Int32)), .val (.int (0 : Int32)), .unset] [(.ref h0.size)])) _
      refine XS.iloadN X1.here hx rfl (hb hby d1_15) rfl ?_
      show Steps p.tables e below (T1.setTop (mkF m 16 #[.val (.int (1100 : Int32)), .val (.ref h0.size), .val (.int (7 : Int32)), .val (.int (0 : Int32)), .unset] [(.int (0 : Int32)), (.ref h0.size)])) _
      refine X1.aaload hx (j := (0 : Int32)) (v := .ref w_SUCCESS) Arn.1 (State.isArrayOf_alike hZ.alike Arn.2.1) rfl Arn.2.2 (fun q => q.elim (by decide) (fun q => by have q' : cl.slots.size ≤ 0 := q; omega)) hat0 (g := (mkF m 16 #[.val (.int (1100 : Int32)), .val (.ref h0.size), .val (.int (7 : Int32)), .val (.int (0 : Int32)), .unset] [(.int (0 : Int32)), (.ref h0.size)])) rfl rfl (hb hby d1_16) _ ?_
      show Steps p.tables e below (T1.setTop (mkF m 17 #[.val (.int (1100 : Int32)), .val (.ref h0.size), .val (.int (7 : Int32)), .val (.int (0 : Int32)), .unset] [(.ref w_SUCCESS)])) _
      refine XS.astore X1.here hx rfl (hb hby d1_17) rfl rfl (l' := #[.val (.int (1100 : Int32)), .val (.ref h0.size), .val (.int (7 : Int32)), .val (.int (0 : Int32)), .val (.ref w_SUCCESS)]) rfl ?_
      show Steps p.tables e below (T1.setTop (mkF m 19 #[.val (.int (1100 : Int32)), .val (.ref h0.size), .val (.int (7 : Int32)), .val (.int (0 : Int32)), .val (.ref w_SUCCESS)] [])) _
      refine XS.aload X1.here hx rfl (hb hby d1_19) rfl rfl ?_
      exact k)
  obtain ⟨T4, X4, e4, st4⟩ := getF X1 hx hZ hown (host := "") (Or.inl (hw _ (List.mem_of_getElem? (i := 28) rfl))) Via.refl rfl (F_number_w_SUCCESS.ext Ex1) (g := (mkF m 21 #[.val (.int (1100 : Int32)), .val (.ref h0.size), .val (.int (7 : Int32)), .val (.int (0 : Int32)), .val (.ref w_SUCCESS)] [(.ref w_SUCCESS)])) rfl rfl (hb hby d1_21)
  have k5 : ∀ t, Steps p.tables e below (T4.setTop (mkF m 24 #[.val (.int (1100 : Int32)), .val (.ref h0.size), .val (.int (7 : Int32)), .val (.int (0 : Int32)), .val (.ref w_SUCCESS)] [(.int (1100 : Int32))])) t → Steps p.tables e below (s₁.setTop (entryFrame m #[(.int (1100 : Int32))] 5)) t := fun t k => k3 t (st4 _ k)
  have hc25 : (1100 : Int32) = (1100 : Int32) := by decide
  have k6 : ∀ t, Steps p.tables e below (T4.setTop (mkF m 30 #[.val (.int (1100 : Int32)), .val (.ref h0.size), .val (.int (7 : Int32)), .val (.int (0 : Int32)), .val (.ref w_SUCCESS)] [(.ref w_SUCCESS)])) t → Steps p.tables e below (s₁.setTop (entryFrame m #[(.int (1100 : Int32))] 5)) t := fun t k => k5 t (by
      show Steps p.tables e below (T4.setTop (mkF m 24 #[.val (.int (1100 : Int32)), .val (.ref h0.size), .val (.int (7 : Int32)), .val (.int (0 : Int32)), .val (.ref w_SUCCESS)] [(.int (1100 : Int32))])) _
      refine XS.iloadN X4.here hx rfl (hb hby d1_24) rfl ?_
      show Steps p.tables e below (T4.setTop (mkF m 25 #[.val (.int (1100 : Int32)), .val (.ref h0.size), .val (.int (7 : Int32)), .val (.int (0 : Int32)), .val (.ref w_SUCCESS)] [(.int (1100 : Int32)), (.int (1100 : Int32))])) _
      refine XS.icmpNo X4.here hx rfl (hb hby d1_25) rfl (teq hc25).2 ?_
      show Steps p.tables e below (T4.setTop (mkF m 28 #[.val (.int (1100 : Int32)), .val (.ref h0.size), .val (.int (7 : Int32)), .val (.int (0 : Int32)), .val (.ref w_SUCCESS)] [])) _
      refine XS.aload X4.here hx rfl (hb hby d1_28) rfl rfl ?_
      exact k)
  obtain ⟨fs, hr, hrun, hended, hW, hsame⟩ := X4.leave (v := (some (.ref w_SUCCESS))) (fun h => by rw [Bd.returns] at h; cases h)
  refine ⟨_, _, k6 _ ?_, hrun, hended, _, _, rfl, ?_, ⟨_, rfl⟩, hW, hsame.mono (by decide) (by decide)⟩
  · exact retOut X4 hx Bd.returns rfl (Or.inr (Or.inr (Or.inr (Or.inr ⟨rfl, rfl, rfl⟩)))) (hb hby d1_30) hr
  · show Q1_SUCCESS Z wv cl w_SUCCESS w_PROCESSING w_RATE_LIMITED w_INVALID_PARAMETERS w_SERVICE_FAILURE w_DOWNLOAD_FAILED w_NO_PERMISSION h0 n0 _ T4.heap _
    rw [e4]
    exact ⟨rfl, N1, Ex1⟩
theorem ef_1_PROCESSING (m : MethodId) (x0 : Int32) : entryFrame m #[(.int x0)] 5 = mkF m 0 #[.val (.int x0), .unset, .unset, .unset, .unset] [] := by first | (simp [entryFrame, mkF, argsToLocals, Value.category]; done) | rfl
def Q1_PROCESSING (Z : State) (wv : Addr) (cl : Cell) (w_SUCCESS : Addr) (w_PROCESSING : Addr) (w_RATE_LIMITED : Addr) (w_INVALID_PARAMETERS : Addr) (w_SERVICE_FAILURE : Addr) (w_DOWNLOAD_FAILED : Addr) (w_NO_PERMISSION : Addr) (h0 : Heap) (n0 : Nat) (v : Option Value) (h : Heap) (L : List Loc) : Prop := v = some (.ref w_PROCESSING) ∧ Fr n0 L ∧ Ext h0 h
set_option maxRecDepth 65536 in
set_option maxHeartbeats 40000000 in
theorem rm1_PROCESSING (l : Launch) (Z : State) (a0 : Array Value) (hw : ∀ d ∈ tables_1, d.before a0 Z = true) (ws : List Jvm.Cond) (wv : Addr) (cl : Cell) (w_SUCCESS : Addr) (w_PROCESSING : Addr) (w_RATE_LIMITED : Addr) (w_INVALID_PARAMETERS : Addr) (w_SERVICE_FAILURE : Addr) (w_DOWNLOAD_FAILED : Addr) (w_NO_PERMISSION : Addr) (h0 : Heap) (n0 : Nat) (Z0 : n0 ≤ h0.size) (S_V : Sta Z h0 "com/example/mediawarden/mediawarden/task/Code" "$VALUES" "[Lcom/example/mediawarden/mediawarden/task/Code;" (.ref wv)) (Arv_ : Arr Z h0 wv cl (.object "com/example/mediawarden/mediawarden/task/Code")) (E_V : Exa Z h0 wv "[Lcom/example/mediawarden/mediawarden/task/Code;") (hsz : cl.slots.size = 7) (hat0 : cl.slots[0]? = some (.ref w_SUCCESS)) (hat1 : cl.slots[1]? = some (.ref w_PROCESSING)) (hat2 : cl.slots[2]? = some (.ref w_RATE_LIMITED)) (hat3 : cl.slots[3]? = some (.ref w_INVALID_PARAMETERS)) (hat4 : cl.slots[4]? = some (.ref w_SERVICE_FAILURE)) (hat5 : cl.slots[5]? = some (.ref w_DOWNLOAD_FAILED)) (hat6 : cl.slots[6]? = some (.ref w_NO_PERMISSION)) (F_number_w_SUCCESS : Fld Z h0 w_SUCCESS "com/example/mediawarden/mediawarden/task/Code" "number" "I" (.int (1100 : Int32))) (F_number_w_PROCESSING : Fld Z h0 w_PROCESSING "com/example/mediawarden/mediawarden/task/Code" "number" "I" (.int (1101 : Int32))) (F_number_w_RATE_LIMITED : Fld Z h0 w_RATE_LIMITED "com/example/mediawarden/mediawarden/task/Code" "number" "I" (.int (1901 : Int32))) (F_number_w_INVALID_PARAMETERS : Fld Z h0 w_INVALID_PARAMETERS "com/example/mediawarden/mediawarden/task/Code" "number" "I" (.int (1902 : Int32))) (F_number_w_SERVICE_FAILURE : Fld Z h0 w_SERVICE_FAILURE "com/example/mediawarden/mediawarden/task/Code" "number" "I" (.int (1903 : Int32))) (F_number_w_DOWNLOAD_FAILED : Fld Z h0 w_DOWNLOAD_FAILED "com/example/mediawarden/mediawarden/task/Code" "number" "I" (.int (1911 : Int32))) (F_number_w_NO_PERMISSION : Fld Z h0 w_NO_PERMISSION "com/example/mediawarden/mediawarden/task/Code" "number" "I" (.int (9101 : Int32))) :
    MetFree l (⟨"com/example/mediawarden/mediawarden/task/Code", "of", "(I)Lcom/example/mediawarden/mediawarden/task/Code;"⟩ : MethodName) (head1 (Jvm.Cond.code (⟨"com/example/mediawarden/mediawarden/task/Code", "of", "(I)Lcom/example/mediawarden/mediawarden/task/Code;"⟩ : MethodName) prog_61_method_4_code 5 (some (.object "com/example/mediawarden/mediawarden/task/Code")) :: ws) ({ frames := 2, cells := 1, slots := 7, locals := 25 } : Room)) (fun a U => a = #[(.int (1101 : Int32))] ∧ Z.Warmed39 U.vm ∧ U.heap = h0) (fun _ _ _ _ _ => True) (fun _ U o U' => ∃ v L, o = .returned v ∧ Q1_PROCESSING Z wv cl w_SUCCESS w_PROCESSING w_RATE_LIMITED w_INVALID_PARAMETERS w_SERVICE_FAILURE w_DOWNLOAD_FAILED w_NO_PERMISSION h0 n0 v U'.heap L ∧ FrameEnd U o U' L ({ frames := 2, cells := 1, slots := 7, locals := 25 } : Room).cells ({ frames := 2, cells := 1, slots := 7, locals := 25 } : Room).slots) := by
  refine MetFree.of_bodySF (plainFor_of_name pn_0) hisR ?_
  intro p e s m args below meth c s₁ Bd hml0 hP hK
  obtain ⟨rfl, hZ, hh⟩ := hP
  have hx := Bd.exec
  have hby := Bd.bytes
  have hml : c.maxLocals = 5 := hml0
  have hown : s.vm.findClass "com/example/mediawarden/mediawarden/task/Code" = some m.cls := findClass_of_methodNamed Bd.named
  have hnm := (name_of_methodNamed Bd.named Bd.method).1
  have X0 : Stand p l e ({ frames := 2, cells := 1, slots := 7, locals := 25 } : Room) s m #[(.int (1101 : Int32))] below meth c s₁ [] 0 0 := Stand.of_body Bd
  have e0 : s₁.heap = h0 := by rw [← hh, Bd.state]; rfl
  have N0 := Fr.nil n0
  have k0 : ∀ t, Steps p.tables e below (s₁.setTop (mkF m 0 #[.val (.int (1101 : Int32)), .unset, .unset, .unset, .unset] [])) t → Steps p.tables e below (s₁.setTop (entryFrame m #[(.int (1101 : Int32))] 5)) t := fun t k => castTop (ef_1_PROCESSING m (1101 : Int32)) k
  obtain ⟨_, _, ⟨T1, L1, kq1, n1⟩, -, X1, ⟨Lc1, hQ1, l1, y1, z1⟩, st1⟩ := Jvm.LawKit.callS X0 hx (y := (⟨"com/example/mediawarden/mediawarden/task/Code", "values", "()[Lcom/example/mediawarden/mediawarden/task/Code;"⟩ : MethodName)) hown (mvT hZ (hw _ (List.mem_of_getElem? (i := 7) rfl))) (mvT hZ (hw _ (List.mem_of_getElem? (i := 8) rfl))) (mvT hZ (hw _ (List.mem_of_getElem? (i := 2) rfl))) (mvT hZ (hw _ (List.mem_of_getElem? (i := 9) rfl))) (by decide) (backOf (W := 0) (rmV l Z a0 hw [] wv cl w_SUCCESS w_PROCESSING w_RATE_LIMITED w_INVALID_PARAMETERS w_SERVICE_FAILURE w_DOWNLOAD_FAILED w_NO_PERMISSION h0 n0 Z0 S_V Arv_ E_V hsz hat0 hat1 hat2 hat3 hat4 hat5 hat6) hZ (hw _ (List.mem_of_getElem? (i := 9) rfl)) (hw _ (List.mem_of_getElem? (i := 2) rfl)) (by decide) (by decide)) (g := (mkF m 0 #[.val (.int (1101 : Int32)), .unset, .unset, .unset, .unset] [])) rfl (by rw [hml]; rfl) (argsL := []) (rest := []) (lenOf pd_0 rfl) rfl (by show 2 * 0 + _ ≤ _; exact Nat.le_of_eq rfl) (hb hby d1_0) (fun _ _ => ⟨rfl, e0, (by decide : 0 + 1 ≤ _), (by decide : 0 + 7 ≤ _)⟩)
  dsimp only [Pt.U, Pt.locs, Pt.cells, Pt.slots] at X1 l1 y1 z1 st1 hQ1
  subst l1 y1 z1
  obtain ⟨rfl, N1q, Ex1, hcell1⟩ := hQ1
  have N1 := Fr.app N0 N1q
  have Zs1 : n0 ≤ T1.heap.size := Nat.le_trans Z0 Ex1.1
  have Arn : Arr Z T1.heap h0.size { cls := cl.cls, slots := cl.slots } (.object "com/example/mediawarden/mediawarden/task/Code") := ⟨hcell1, ⟨(fun k q => by cases q), Arv_.2.1.2⟩, (fun q => by cases q)⟩
  have hlen : (cl.slots.size).toInt32 = (7 : Int32) := by rw [hsz]; rfl
  have k2 : ∀ t, Steps p.tables e below (T1.setTop (mkF m 3 #[.val (.int (1101 : Int32)), .unset, .unset, .unset, .unset] [(.ref h0.size)])) t → Steps p.tables e below (s₁.setTop (entryFrame m #[(.int (1101 : Int32))] 5)) t := fun t k => k0 t (st1 _ k)
  have hc11 : (0 : Int32) < (7 : Int32) := by decide
  have k3 : ∀ t, Steps p.tables e below (T1.setTop (mkF m 21 #[.val (.int (1101 : Int32)), .val (.ref h0.size), .val (.int (7 : Int32)), .val (.int (0 : Int32)), .val (.ref w_SUCCESS)] [(.ref w_SUCCESS)])) t → Steps p.tables e below (s₁.setTop (entryFrame m #[(.int (1101 : Int32))] 5)) t := fun t k => k2 t (by
      show Steps p.tables e below (T1.setTop (mkF m 3 #[.val (.int (1101 : Int32)), .unset, .unset, .unset, .unset] [(.ref h0.size)])) _
      refine XS.astoreN X1.here hx rfl (hb hby d1_3) rfl rfl (l' := #[.val (.int (1101 : Int32)), .val (.ref h0.size), .unset, .unset, .unset]) rfl ?_
      show Steps p.tables e below (T1.setTop (mkF m 4 #[.val (.int (1101 : Int32)), .val (.ref h0.size), .unset, .unset, .unset] [])) _
      refine XS.aloadN X1.here hx rfl (hb hby d1_4) rfl rfl ?_
      show Steps p.tables e below (T1.setTop (mkF m 5 #[.val (.int (1101 : Int32)), .val (.ref h0.size), .unset, .unset, .unset] [(.ref h0.size)])) _
      refine X1.arraylength hx Arn.1 (State.isArrayOf_alike hZ.alike Arn.2.1) (g := (mkF m 5 #[.val (.int (1101 : Int32)), .val (.ref h0.size), .unset, .unset, .unset] [(.ref h0.size)])) rfl rfl (hb hby d1_5) _ ?_
      rw [hlen]
      show Steps p.tables e below (T1.setTop (mkF m 6 #[.val (.int (1101 : Int32)), .val (.ref h0.size), .unset, .unset, .unset] [(.int (7 : Int32))])) _
      refine XS.istoreN X1.here hx rfl (hb hby d1_6) rfl (l' := #[.val (.int (1101 : Int32)), .val (.ref h0.size), .val (.int (7 : Int32)), .unset, .unset]) rfl ?_
      show Steps p.tables e below (T1.setTop (mkF m 7 #[.val (.int (1101 : Int32)), .val (.ref h0.size), .val (.int (7 : Int32)), .unset, .unset] [])) _
      refine XS.iconst X1.here hx rfl (hb hby d1_7) ?_
      show Steps p.tables e below (T1.setTop (mkF m 8 #[.val (.int (1101 : Int32)), .val (.ref h0.size), .val (.int (7 : Int32)), .unset, .unset] [(.int (0 : Int32))])) _
      refine XS.istoreN X1.here hx rfl (hb hby d1_8) rfl (l' := #[.val (.int (1101 : Int32)), .val (.ref h0.size), .val (.int (7 : Int32)), .val (.int (0 : Int32)), .unset]) rfl ?_
      show Steps p.tables e below (T1.setTop (mkF m 9 #[.val (.int (1101 : Int32)), .val (.ref h0.size), .val (.int (7 : Int32)), .val (.int (0 : Int32)), .unset] [])) _
      refine XS.iloadN X1.here hx rfl (hb hby d1_9) rfl ?_
      show Steps p.tables e below (T1.setTop (mkF m 10 #[.val (.int (1101 : Int32)), .val (.ref h0.size), .val (.int (7 : Int32)), .val (.int (0 : Int32)), .unset] [(.int (0 : Int32))])) _
      refine XS.iloadN X1.here hx rfl (hb hby d1_10) rfl ?_
      show Steps p.tables e below (T1.setTop (mkF m 11 #[.val (.int (1101 : Int32)), .val (.ref h0.size), .val (.int (7 : Int32)), .val (.int (0 : Int32)), .unset] [(.int (7 : Int32)), (.int (0 : Int32))])) _
      refine XS.icmpNo X1.here hx rfl (hb hby d1_11) rfl (tlt hc11).2.1 ?_
      show Steps p.tables e below (T1.setTop (mkF m 14 #[.val (.int (1101 : Int32)), .val (.ref h0.size), .val (.int (7 : Int32)), .val (.int (0 : Int32)), .unset] [])) _
      refine XS.aloadN X1.here hx rfl (hb hby d1_14) rfl rfl ?_
      show Steps p.tables e below (T1.setTop (mkF m 15 #[.val (.int (1101 : Int32)), .val (.ref h0.size), .val (.int (7 : Int32)), .val (.int (0 : Int32)), .unset] [(.ref h0.size)])) _
      refine XS.iloadN X1.here hx rfl (hb hby d1_15) rfl ?_
      show Steps p.tables e below (T1.setTop (mkF m 16 #[.val (.int (1101 : Int32)), .val (.ref h0.size), .val (.int (7 : Int32)), .val (.int (0 : Int32)), .unset] [(.int (0 : Int32)), (.ref h0.size)])) _
      refine X1.aaload hx (j := (0 : Int32)) (v := .ref w_SUCCESS) Arn.1 (State.isArrayOf_alike hZ.alike Arn.2.1) rfl Arn.2.2 (fun q => q.elim (by decide) (fun q => by have q' : cl.slots.size ≤ 0 := q; omega)) hat0 (g := (mkF m 16 #[.val (.int (1101 : Int32)), .val (.ref h0.size), .val (.int (7 : Int32)), .val (.int (0 : Int32)), .unset] [(.int (0 : Int32)), (.ref h0.size)])) rfl rfl (hb hby d1_16) _ ?_
      show Steps p.tables e below (T1.setTop (mkF m 17 #[.val (.int (1101 : Int32)), .val (.ref h0.size), .val (.int (7 : Int32)), .val (.int (0 : Int32)), .unset] [(.ref w_SUCCESS)])) _
      refine XS.astore X1.here hx rfl (hb hby d1_17) rfl rfl (l' := #[.val (.int (1101 : Int32)), .val (.ref h0.size), .val (.int (7 : Int32)), .val (.int (0 : Int32)), .val (.ref w_SUCCESS)]) rfl ?_
      show Steps p.tables e below (T1.setTop (mkF m 19 #[.val (.int (1101 : Int32)), .val (.ref h0.size), .val (.int (7 : Int32)), .val (.int (0 : Int32)), .val (.ref w_SUCCESS)] [])) _
      refine XS.aload X1.here hx rfl (hb hby d1_19) rfl rfl ?_
      exact k)
  obtain ⟨T4, X4, e4, st4⟩ := getF X1 hx hZ hown (host := "") (Or.inl (hw _ (List.mem_of_getElem? (i := 28) rfl))) Via.refl rfl (F_number_w_SUCCESS.ext Ex1) (g := (mkF m 21 #[.val (.int (1101 : Int32)), .val (.ref h0.size), .val (.int (7 : Int32)), .val (.int (0 : Int32)), .val (.ref w_SUCCESS)] [(.ref w_SUCCESS)])) rfl rfl (hb hby d1_21)
  have k5 : ∀ t, Steps p.tables e below (T4.setTop (mkF m 24 #[.val (.int (1101 : Int32)), .val (.ref h0.size), .val (.int (7 : Int32)), .val (.int (0 : Int32)), .val (.ref w_SUCCESS)] [(.int (1100 : Int32))])) t → Steps p.tables e below (s₁.setTop (entryFrame m #[(.int (1101 : Int32))] 5)) t := fun t k => k3 t (st4 _ k)
  have hc25 : ¬ ((1100 : Int32) = (1101 : Int32)) := by decide
  have hc11_6 : (1 : Int32) < (7 : Int32) := by decide
  have k7 : ∀ t, Steps p.tables e below (T4.setTop (mkF m 21 #[.val (.int (1101 : Int32)), .val (.ref h0.size), .val (.int (7 : Int32)), .val (.int (1 : Int32)), .val (.ref w_PROCESSING)] [(.ref w_PROCESSING)])) t → Steps p.tables e below (s₁.setTop (entryFrame m #[(.int (1101 : Int32))] 5)) t := fun t k => k5 t (by
      show Steps p.tables e below (T4.setTop (mkF m 24 #[.val (.int (1101 : Int32)), .val (.ref h0.size), .val (.int (7 : Int32)), .val (.int (0 : Int32)), .val (.ref w_SUCCESS)] [(.int (1100 : Int32))])) _
      refine XS.iloadN X4.here hx rfl (hb hby d1_24) rfl ?_
      show Steps p.tables e below (T4.setTop (mkF m 25 #[.val (.int (1101 : Int32)), .val (.ref h0.size), .val (.int (7 : Int32)), .val (.int (0 : Int32)), .val (.ref w_SUCCESS)] [(.int (1101 : Int32)), (.int (1100 : Int32))])) _
      refine XS.icmpYes X4.here hx rfl (pc0 := 25) (pc' := 31) rfl (hb hby d1_25) rfl (feq hc25).2 (by decide) (by decide) ?_
      show Steps p.tables e below (T4.setTop (mkF m 31 #[.val (.int (1101 : Int32)), .val (.ref h0.size), .val (.int (7 : Int32)), .val (.int (0 : Int32)), .val (.ref w_SUCCESS)] [])) _
      refine XS.iinc X4.here hx rfl (hb hby d1_31) rfl (l' := #[.val (.int (1101 : Int32)), .val (.ref h0.size), .val (.int (7 : Int32)), .val (.int (1 : Int32)), .val (.ref w_SUCCESS)]) rfl ?_
      show Steps p.tables e below (T4.setTop (mkF m 34 #[.val (.int (1101 : Int32)), .val (.ref h0.size), .val (.int (7 : Int32)), .val (.int (1 : Int32)), .val (.ref w_SUCCESS)] [])) _
      refine XS.goto X4.here hx rfl (pc0 := 34) (pc' := 9) rfl (hb hby d1_34) (by decide) (by decide) ?_
      show Steps p.tables e below (T4.setTop (mkF m 9 #[.val (.int (1101 : Int32)), .val (.ref h0.size), .val (.int (7 : Int32)), .val (.int (1 : Int32)), .val (.ref w_SUCCESS)] [])) _
      refine XS.iloadN X4.here hx rfl (hb hby d1_9) rfl ?_
      show Steps p.tables e below (T4.setTop (mkF m 10 #[.val (.int (1101 : Int32)), .val (.ref h0.size), .val (.int (7 : Int32)), .val (.int (1 : Int32)), .val (.ref w_SUCCESS)] [(.int (1 : Int32))])) _
      refine XS.iloadN X4.here hx rfl (hb hby d1_10) rfl ?_
      show Steps p.tables e below (T4.setTop (mkF m 11 #[.val (.int (1101 : Int32)), .val (.ref h0.size), .val (.int (7 : Int32)), .val (.int (1 : Int32)), .val (.ref w_SUCCESS)] [(.int (7 : Int32)), (.int (1 : Int32))])) _
      refine XS.icmpNo X4.here hx rfl (hb hby d1_11) rfl (tlt hc11_6).2.1 ?_
      show Steps p.tables e below (T4.setTop (mkF m 14 #[.val (.int (1101 : Int32)), .val (.ref h0.size), .val (.int (7 : Int32)), .val (.int (1 : Int32)), .val (.ref w_SUCCESS)] [])) _
      refine XS.aloadN X4.here hx rfl (hb hby d1_14) rfl rfl ?_
      show Steps p.tables e below (T4.setTop (mkF m 15 #[.val (.int (1101 : Int32)), .val (.ref h0.size), .val (.int (7 : Int32)), .val (.int (1 : Int32)), .val (.ref w_SUCCESS)] [(.ref h0.size)])) _
      refine XS.iloadN X4.here hx rfl (hb hby d1_15) rfl ?_
      show Steps p.tables e below (T4.setTop (mkF m 16 #[.val (.int (1101 : Int32)), .val (.ref h0.size), .val (.int (7 : Int32)), .val (.int (1 : Int32)), .val (.ref w_SUCCESS)] [(.int (1 : Int32)), (.ref h0.size)])) _
      refine X4.aaload hx (j := (1 : Int32)) (v := .ref w_PROCESSING) (by rw [e4]; exact Arn.1) (State.isArrayOf_alike hZ.alike Arn.2.1) rfl Arn.2.2 (fun q => q.elim (by decide) (fun q => by have q' : cl.slots.size ≤ 1 := q; omega)) hat1 (g := (mkF m 16 #[.val (.int (1101 : Int32)), .val (.ref h0.size), .val (.int (7 : Int32)), .val (.int (1 : Int32)), .val (.ref w_SUCCESS)] [(.int (1 : Int32)), (.ref h0.size)])) rfl rfl (hb hby d1_16) _ ?_
      show Steps p.tables e below (T4.setTop (mkF m 17 #[.val (.int (1101 : Int32)), .val (.ref h0.size), .val (.int (7 : Int32)), .val (.int (1 : Int32)), .val (.ref w_SUCCESS)] [(.ref w_PROCESSING)])) _
      refine XS.astore X4.here hx rfl (hb hby d1_17) rfl rfl (l' := #[.val (.int (1101 : Int32)), .val (.ref h0.size), .val (.int (7 : Int32)), .val (.int (1 : Int32)), .val (.ref w_PROCESSING)]) rfl ?_
      show Steps p.tables e below (T4.setTop (mkF m 19 #[.val (.int (1101 : Int32)), .val (.ref h0.size), .val (.int (7 : Int32)), .val (.int (1 : Int32)), .val (.ref w_PROCESSING)] [])) _
      refine XS.aload X4.here hx rfl (hb hby d1_19) rfl rfl ?_
      exact k)
  obtain ⟨T8, X8, e8, st8⟩ := getF X4 hx hZ hown (host := "") (Or.inl (hw _ (List.mem_of_getElem? (i := 28) rfl))) Via.refl e4 (F_number_w_PROCESSING.ext Ex1) (g := (mkF m 21 #[.val (.int (1101 : Int32)), .val (.ref h0.size), .val (.int (7 : Int32)), .val (.int (1 : Int32)), .val (.ref w_PROCESSING)] [(.ref w_PROCESSING)])) rfl rfl (hb hby d1_21)
  have k9 : ∀ t, Steps p.tables e below (T8.setTop (mkF m 24 #[.val (.int (1101 : Int32)), .val (.ref h0.size), .val (.int (7 : Int32)), .val (.int (1 : Int32)), .val (.ref w_PROCESSING)] [(.int (1101 : Int32))])) t → Steps p.tables e below (s₁.setTop (entryFrame m #[(.int (1101 : Int32))] 5)) t := fun t k => k7 t (st8 _ k)
  have hc25_10 : (1101 : Int32) = (1101 : Int32) := by decide
  have k11 : ∀ t, Steps p.tables e below (T8.setTop (mkF m 30 #[.val (.int (1101 : Int32)), .val (.ref h0.size), .val (.int (7 : Int32)), .val (.int (1 : Int32)), .val (.ref w_PROCESSING)] [(.ref w_PROCESSING)])) t → Steps p.tables e below (s₁.setTop (entryFrame m #[(.int (1101 : Int32))] 5)) t := fun t k => k9 t (by
      show Steps p.tables e below (T8.setTop (mkF m 24 #[.val (.int (1101 : Int32)), .val (.ref h0.size), .val (.int (7 : Int32)), .val (.int (1 : Int32)), .val (.ref w_PROCESSING)] [(.int (1101 : Int32))])) _
      refine XS.iloadN X8.here hx rfl (hb hby d1_24) rfl ?_
      show Steps p.tables e below (T8.setTop (mkF m 25 #[.val (.int (1101 : Int32)), .val (.ref h0.size), .val (.int (7 : Int32)), .val (.int (1 : Int32)), .val (.ref w_PROCESSING)] [(.int (1101 : Int32)), (.int (1101 : Int32))])) _
      refine XS.icmpNo X8.here hx rfl (hb hby d1_25) rfl (teq hc25_10).2 ?_
      show Steps p.tables e below (T8.setTop (mkF m 28 #[.val (.int (1101 : Int32)), .val (.ref h0.size), .val (.int (7 : Int32)), .val (.int (1 : Int32)), .val (.ref w_PROCESSING)] [])) _
      refine XS.aload X8.here hx rfl (hb hby d1_28) rfl rfl ?_
      exact k)
  obtain ⟨fs, hr, hrun, hended, hW, hsame⟩ := X8.leave (v := (some (.ref w_PROCESSING))) (fun h => by rw [Bd.returns] at h; cases h)
  refine ⟨_, _, k11 _ ?_, hrun, hended, _, _, rfl, ?_, ⟨_, rfl⟩, hW, hsame.mono (by decide) (by decide)⟩
  · exact retOut X8 hx Bd.returns rfl (Or.inr (Or.inr (Or.inr (Or.inr ⟨rfl, rfl, rfl⟩)))) (hb hby d1_30) hr
  · show Q1_PROCESSING Z wv cl w_SUCCESS w_PROCESSING w_RATE_LIMITED w_INVALID_PARAMETERS w_SERVICE_FAILURE w_DOWNLOAD_FAILED w_NO_PERMISSION h0 n0 _ T8.heap _
    rw [e8]
    exact ⟨rfl, N1, Ex1⟩
theorem ef_1_RATE_LIMITED (m : MethodId) (x0 : Int32) : entryFrame m #[(.int x0)] 5 = mkF m 0 #[.val (.int x0), .unset, .unset, .unset, .unset] [] := by first | (simp [entryFrame, mkF, argsToLocals, Value.category]; done) | rfl
def Q1_RATE_LIMITED (Z : State) (wv : Addr) (cl : Cell) (w_SUCCESS : Addr) (w_PROCESSING : Addr) (w_RATE_LIMITED : Addr) (w_INVALID_PARAMETERS : Addr) (w_SERVICE_FAILURE : Addr) (w_DOWNLOAD_FAILED : Addr) (w_NO_PERMISSION : Addr) (h0 : Heap) (n0 : Nat) (v : Option Value) (h : Heap) (L : List Loc) : Prop := v = some (.ref w_RATE_LIMITED) ∧ Fr n0 L ∧ Ext h0 h
set_option maxRecDepth 65536 in
set_option maxHeartbeats 40000000 in
theorem rm1_RATE_LIMITED (l : Launch) (Z : State) (a0 : Array Value) (hw : ∀ d ∈ tables_1, d.before a0 Z = true) (ws : List Jvm.Cond) (wv : Addr) (cl : Cell) (w_SUCCESS : Addr) (w_PROCESSING : Addr) (w_RATE_LIMITED : Addr) (w_INVALID_PARAMETERS : Addr) (w_SERVICE_FAILURE : Addr) (w_DOWNLOAD_FAILED : Addr) (w_NO_PERMISSION : Addr) (h0 : Heap) (n0 : Nat) (Z0 : n0 ≤ h0.size) (S_V : Sta Z h0 "com/example/mediawarden/mediawarden/task/Code" "$VALUES" "[Lcom/example/mediawarden/mediawarden/task/Code;" (.ref wv)) (Arv_ : Arr Z h0 wv cl (.object "com/example/mediawarden/mediawarden/task/Code")) (E_V : Exa Z h0 wv "[Lcom/example/mediawarden/mediawarden/task/Code;") (hsz : cl.slots.size = 7) (hat0 : cl.slots[0]? = some (.ref w_SUCCESS)) (hat1 : cl.slots[1]? = some (.ref w_PROCESSING)) (hat2 : cl.slots[2]? = some (.ref w_RATE_LIMITED)) (hat3 : cl.slots[3]? = some (.ref w_INVALID_PARAMETERS)) (hat4 : cl.slots[4]? = some (.ref w_SERVICE_FAILURE)) (hat5 : cl.slots[5]? = some (.ref w_DOWNLOAD_FAILED)) (hat6 : cl.slots[6]? = some (.ref w_NO_PERMISSION)) (F_number_w_SUCCESS : Fld Z h0 w_SUCCESS "com/example/mediawarden/mediawarden/task/Code" "number" "I" (.int (1100 : Int32))) (F_number_w_PROCESSING : Fld Z h0 w_PROCESSING "com/example/mediawarden/mediawarden/task/Code" "number" "I" (.int (1101 : Int32))) (F_number_w_RATE_LIMITED : Fld Z h0 w_RATE_LIMITED "com/example/mediawarden/mediawarden/task/Code" "number" "I" (.int (1901 : Int32))) (F_number_w_INVALID_PARAMETERS : Fld Z h0 w_INVALID_PARAMETERS "com/example/mediawarden/mediawarden/task/Code" "number" "I" (.int (1902 : Int32))) (F_number_w_SERVICE_FAILURE : Fld Z h0 w_SERVICE_FAILURE "com/example/mediawarden/mediawarden/task/Code" "number" "I" (.int (1903 : Int32))) (F_number_w_DOWNLOAD_FAILED : Fld Z h0 w_DOWNLOAD_FAILED "com/example/mediawarden/mediawarden/task/Code" "number" "I" (.int (1911 : Int32))) (F_number_w_NO_PERMISSION : Fld Z h0 w_NO_PERMISSION "com/example/mediawarden/mediawarden/task/Code" "number" "I" (.int (9101 : Int32))) :
    MetFree l (⟨"com/example/mediawarden/mediawarden/task/Code", "of", "(I)Lcom/example/mediawarden/mediawarden/task/Code;"⟩ : MethodName) (head1 (Jvm.Cond.code (⟨"com/example/mediawarden/mediawarden/task/Code", "of", "(I)Lcom/example/mediawarden/mediawarden/task/Code;"⟩ : MethodName) prog_61_method_4_code 5 (some (.object "com/example/mediawarden/mediawarden/task/Code")) :: ws) ({ frames := 2, cells := 1, slots := 7, locals := 25 } : Room)) (fun a U => a = #[(.int (1901 : Int32))] ∧ Z.Warmed39 U.vm ∧ U.heap = h0) (fun _ _ _ _ _ => True) (fun _ U o U' => ∃ v L, o = .returned v ∧ Q1_RATE_LIMITED Z wv cl w_SUCCESS w_PROCESSING w_RATE_LIMITED w_INVALID_PARAMETERS w_SERVICE_FAILURE w_DOWNLOAD_FAILED w_NO_PERMISSION h0 n0 v U'.heap L ∧ FrameEnd U o U' L ({ frames := 2, cells := 1, slots := 7, locals := 25 } : Room).cells ({ frames := 2, cells := 1, slots := 7, locals := 25 } : Room).slots) := by
  refine MetFree.of_bodySF (plainFor_of_name pn_0) hisR ?_
  intro p e s m args below meth c s₁ Bd hml0 hP hK
  obtain ⟨rfl, hZ, hh⟩ := hP
  have hx := Bd.exec
  have hby := Bd.bytes
  have hml : c.maxLocals = 5 := hml0
  have hown : s.vm.findClass "com/example/mediawarden/mediawarden/task/Code" = some m.cls := findClass_of_methodNamed Bd.named
  have hnm := (name_of_methodNamed Bd.named Bd.method).1
  have X0 : Stand p l e ({ frames := 2, cells := 1, slots := 7, locals := 25 } : Room) s m #[(.int (1901 : Int32))] below meth c s₁ [] 0 0 := Stand.of_body Bd
  have e0 : s₁.heap = h0 := by rw [← hh, Bd.state]; rfl
  have N0 := Fr.nil n0
  have k0 : ∀ t, Steps p.tables e below (s₁.setTop (mkF m 0 #[.val (.int (1901 : Int32)), .unset, .unset, .unset, .unset] [])) t → Steps p.tables e below (s₁.setTop (entryFrame m #[(.int (1901 : Int32))] 5)) t := fun t k => castTop (ef_1_RATE_LIMITED m (1901 : Int32)) k
  obtain ⟨_, _, ⟨T1, L1, kq1, n1⟩, -, X1, ⟨Lc1, hQ1, l1, y1, z1⟩, st1⟩ := Jvm.LawKit.callS X0 hx (y := (⟨"com/example/mediawarden/mediawarden/task/Code", "values", "()[Lcom/example/mediawarden/mediawarden/task/Code;"⟩ : MethodName)) hown (mvT hZ (hw _ (List.mem_of_getElem? (i := 7) rfl))) (mvT hZ (hw _ (List.mem_of_getElem? (i := 8) rfl))) (mvT hZ (hw _ (List.mem_of_getElem? (i := 2) rfl))) (mvT hZ (hw _ (List.mem_of_getElem? (i := 9) rfl))) (by decide) (backOf (W := 0) (rmV l Z a0 hw [] wv cl w_SUCCESS w_PROCESSING w_RATE_LIMITED w_INVALID_PARAMETERS w_SERVICE_FAILURE w_DOWNLOAD_FAILED w_NO_PERMISSION h0 n0 Z0 S_V Arv_ E_V hsz hat0 hat1 hat2 hat3 hat4 hat5 hat6) hZ (hw _ (List.mem_of_getElem? (i := 9) rfl)) (hw _ (List.mem_of_getElem? (i := 2) rfl)) (by decide) (by decide)) (g := (mkF m 0 #[.val (.int (1901 : Int32)), .unset, .unset, .unset, .unset] [])) rfl (by rw [hml]; rfl) (argsL := []) (rest := []) (lenOf pd_0 rfl) rfl (by show 2 * 0 + _ ≤ _; exact Nat.le_of_eq rfl) (hb hby d1_0) (fun _ _ => ⟨rfl, e0, (by decide : 0 + 1 ≤ _), (by decide : 0 + 7 ≤ _)⟩)
  dsimp only [Pt.U, Pt.locs, Pt.cells, Pt.slots] at X1 l1 y1 z1 st1 hQ1
  subst l1 y1 z1
  obtain ⟨rfl, N1q, Ex1, hcell1⟩ := hQ1
  have N1 := Fr.app N0 N1q
  have Zs1 : n0 ≤ T1.heap.size := Nat.le_trans Z0 Ex1.1
  have Arn : Arr Z T1.heap h0.size { cls := cl.cls, slots := cl.slots } (.object "com/example/mediawarden/mediawarden/task/Code") := ⟨hcell1, ⟨(fun k q => by cases q), Arv_.2.1.2⟩, (fun q => by cases q)⟩
  have hlen : (cl.slots.size).toInt32 = (7 : Int32) := by rw [hsz]; rfl
  have k2 : ∀ t, Steps p.tables e below (T1.setTop (mkF m 3 #[.val (.int (1901 : Int32)), .unset, .unset, .unset, .unset] [(.ref h0.size)])) t → Steps p.tables e below (s₁.setTop (entryFrame m #[(.int (1901 : Int32))] 5)) t := fun t k => k0 t (st1 _ k)
  have hc11 : (0 : Int32) < (7 : Int32) := by decide
  have k3 : ∀ t, Steps p.tables e below (T1.setTop (mkF m 21 #[.val (.int (1901 : Int32)), .val (.ref h0.size), .val (.int (7 : Int32)), .val (.int (0 : Int32)), .val (.ref w_SUCCESS)] [(.ref w_SUCCESS)])) t → Steps p.tables e below (s₁.setTop (entryFrame m #[(.int (1901 : Int32))] 5)) t := fun t k => k2 t (by
      show Steps p.tables e below (T1.setTop (mkF m 3 #[.val (.int (1901 : Int32)), .unset, .unset, .unset, .unset] [(.ref h0.size)])) _
      refine XS.astoreN X1.here hx rfl (hb hby d1_3) rfl rfl (l' := #[.val (.int (1901 : Int32)), .val (.ref h0.size), .unset, .unset, .unset]) rfl ?_
      show Steps p.tables e below (T1.setTop (mkF m 4 #[.val (.int (1901 : Int32)), .val (.ref h0.size), .unset, .unset, .unset] [])) _
      refine XS.aloadN X1.here hx rfl (hb hby d1_4) rfl rfl ?_
      show Steps p.tables e below (T1.setTop (mkF m 5 #[.val (.int (1901 : Int32)), .val (.ref h0.size), .unset, .unset, .unset] [(.ref h0.size)])) _
      refine X1.arraylength hx Arn.1 (State.isArrayOf_alike hZ.alike Arn.2.1) (g := (mkF m 5 #[.val (.int (1901 : Int32)), .val (.ref h0.size), .unset, .unset, .unset] [(.ref h0.size)])) rfl rfl (hb hby d1_5) _ ?_
      rw [hlen]
      show Steps p.tables e below (T1.setTop (mkF m 6 #[.val (.int (1901 : Int32)), .val (.ref h0.size), .unset, .unset, .unset] [(.int (7 : Int32))])) _
      refine XS.istoreN X1.here hx rfl (hb hby d1_6) rfl (l' := #[.val (.int (1901 : Int32)), .val (.ref h0.size), .val (.int (7 : Int32)), .unset, .unset]) rfl ?_
      show Steps p.tables e below (T1.setTop (mkF m 7 #[.val (.int (1901 : Int32)), .val (.ref h0.size), .val (.int (7 : Int32)), .unset, .unset] [])) _
      refine XS.iconst X1.here hx rfl (hb hby d1_7) ?_
      show Steps p.tables e below (T1.setTop (mkF m 8 #[.val (.int (1901 : Int32)), .val (.ref h0.size), .val (.int (7 : Int32)), .unset, .unset] [(.int (0 : Int32))])) _
      refine XS.istoreN X1.here hx rfl (hb hby d1_8) rfl (l' := #[.val (.int (1901 : Int32)), .val (.ref h0.size), .val (.int (7 : Int32)), .val (.int (0 : Int32)), .unset]) rfl ?_
      show Steps p.tables e below (T1.setTop (mkF m 9 #[.val (.int (1901 : Int32)), .val (.ref h0.size), .val (.int (7 : Int32)), .val (.int (0 : Int32)), .unset] [])) _
      refine XS.iloadN X1.here hx rfl (hb hby d1_9) rfl ?_
      show Steps p.tables e below (T1.setTop (mkF m 10 #[.val (.int (1901 : Int32)), .val (.ref h0.size), .val (.int (7 : Int32)), .val (.int (0 : Int32)), .unset] [(.int (0 : Int32))])) _
      refine XS.iloadN X1.here hx rfl (hb hby d1_10) rfl ?_
      show Steps p.tables e below (T1.setTop (mkF m 11 #[.val (.int (1901 : Int32)), .val (.ref h0.size), .val (.int (7 : Int32)), .val (.int (0 : Int32)), .unset] [(.int (7 : Int32)), (.int (0 : Int32))])) _
      refine XS.icmpNo X1.here hx rfl (hb hby d1_11) rfl (tlt hc11).2.1 ?_
      show Steps p.tables e below (T1.setTop (mkF m 14 #[.val (.int (1901 : Int32)), .val (.ref h0.size), .val (.int (7 : Int32)), .val (.int (0 : Int32)), .unset] [])) _
      refine XS.aloadN X1.here hx rfl (hb hby d1_14) rfl rfl ?_
      show Steps p.tables e below (T1.setTop (mkF m 15 #[.val (.int (1901 : Int32)), .val (.ref h0.size), .val (.int (7 : Int32)), .val (.int (0 : Int32)), .unset] [(.ref h0.size)])) _
      refine XS.iloadN X1.here hx rfl (hb hby d1_15) rfl ?_
      show Steps p.tables e below (T1.setTop (mkF m 16 #[.val (.int (1901 : Int32)), .val (.ref h0.size), .val (.int (7 : Int32)), .val (.int (0 : Int32)), .unset] [(.int (0 : Int32)), (.ref h0.size)])) _
      refine X1.aaload hx (j := (0 : Int32)) (v := .ref w_SUCCESS) Arn.1 (State.isArrayOf_alike hZ.alike Arn.2.1) rfl Arn.2.2 (fun q => q.elim (by decide) (fun q => by have q' : cl.slots.size ≤ 0 := q; omega)) hat0 (g := (mkF m 16 #[.val (.int (1901 : Int32)), .val (.ref h0.size), .val (.int (7 : Int32)), .val (.int (0 : Int32)), .unset] [(.int (0 : Int32)), (.ref h0.size)])) rfl rfl (hb hby d1_16) _ ?_
      show Steps p.tables e below (T1.setTop (mkF m 17 #[.val (.int (1901 : Int32)), .val (.ref h0.size), .val (.int (7 : Int32)), .val (.int (0 : Int32)), .unset] [(.ref w_SUCCESS)])) _
      refine XS.astore X1.here hx rfl (hb hby d1_17) rfl rfl (l' := #[.val (.int (1901 : Int32)), .val (.ref h0.size), .val (.int (7 : Int32)), .val (.int (0 : Int32)), .val (.ref w_SUCCESS)]) rfl ?_
      show Steps p.tables e below (T1.setTop (mkF m 19 #[.val (.int (1901 : Int32)), .val (.ref h0.size), .val (.int (7 : Int32)), .val (.int (0 : Int32)), .val (.ref w_SUCCESS)] [])) _
      refine XS.aload X1.here hx rfl (hb hby d1_19) rfl rfl ?_
      exact k)
  obtain ⟨T4, X4, e4, st4⟩ := getF X1 hx hZ hown (host := "") (Or.inl (hw _ (List.mem_of_getElem? (i := 28) rfl))) Via.refl rfl (F_number_w_SUCCESS.ext Ex1) (g := (mkF m 21 #[.val (.int (1901 : Int32)), .val (.ref h0.size), .val (.int (7 : Int32)), .val (.int (0 : Int32)), .val (.ref w_SUCCESS)] [(.ref w_SUCCESS)])) rfl rfl (hb hby d1_21)
  have k5 : ∀ t, Steps p.tables e below (T4.setTop (mkF m 24 #[.val (.int (1901 : Int32)), .val (.ref h0.size), .val (.int (7 : Int32)), .val (.int (0 : Int32)), .val (.ref w_SUCCESS)] [(.int (1100 : Int32))])) t → Steps p.tables e below (s₁.setTop (entryFrame m #[(.int (1901 : Int32))] 5)) t := fun t k => k3 t (st4 _ k)
  have hc25 : ¬ ((1100 : Int32) = (1901 : Int32)) := by decide
  have hc11_6 : (1 : Int32) < (7 : Int32) := by decide
  have k7 : ∀ t, Steps p.tables e below (T4.setTop (mkF m 21 #[.val (.int (1901 : Int32)), .val (.ref h0.size), .val (.int (7 : Int32)), .val (.int (1 : Int32)), .val (.ref w_PROCESSING)] [(.ref w_PROCESSING)])) t → Steps p.tables e below (s₁.setTop (entryFrame m #[(.int (1901 : Int32))] 5)) t := fun t k => k5 t (by
      show Steps p.tables e below (T4.setTop (mkF m 24 #[.val (.int (1901 : Int32)), .val (.ref h0.size), .val (.int (7 : Int32)), .val (.int (0 : Int32)), .val (.ref w_SUCCESS)] [(.int (1100 : Int32))])) _
      refine XS.iloadN X4.here hx rfl (hb hby d1_24) rfl ?_
      show Steps p.tables e below (T4.setTop (mkF m 25 #[.val (.int (1901 : Int32)), .val (.ref h0.size), .val (.int (7 : Int32)), .val (.int (0 : Int32)), .val (.ref w_SUCCESS)] [(.int (1901 : Int32)), (.int (1100 : Int32))])) _
      refine XS.icmpYes X4.here hx rfl (pc0 := 25) (pc' := 31) rfl (hb hby d1_25) rfl (feq hc25).2 (by decide) (by decide) ?_
      show Steps p.tables e below (T4.setTop (mkF m 31 #[.val (.int (1901 : Int32)), .val (.ref h0.size), .val (.int (7 : Int32)), .val (.int (0 : Int32)), .val (.ref w_SUCCESS)] [])) _
      refine XS.iinc X4.here hx rfl (hb hby d1_31) rfl (l' := #[.val (.int (1901 : Int32)), .val (.ref h0.size), .val (.int (7 : Int32)), .val (.int (1 : Int32)), .val (.ref w_SUCCESS)]) rfl ?_
      show Steps p.tables e below (T4.setTop (mkF m 34 #[.val (.int (1901 : Int32)), .val (.ref h0.size), .val (.int (7 : Int32)), .val (.int (1 : Int32)), .val (.ref w_SUCCESS)] [])) _
      refine XS.goto X4.here hx rfl (pc0 := 34) (pc' := 9) rfl (hb hby d1_34) (by decide) (by decide) ?_
      show Steps p.tables e below (T4.setTop (mkF m 9 #[.val (.int (1901 : Int32)), .val (.ref h0.size), .val (.int (7 : Int32)), .val (.int (1 : Int32)), .val (.ref w_SUCCESS)] [])) _
      refine XS.iloadN X4.here hx rfl (hb hby d1_9) rfl ?_
      show Steps p.tables e below (T4.setTop (mkF m 10 #[.val (.int (1901 : Int32)), .val (.ref h0.size), .val (.int (7 : Int32)), .val (.int (1 : Int32)), .val (.ref w_SUCCESS)] [(.int (1 : Int32))])) _
      refine XS.iloadN X4.here hx rfl (hb hby d1_10) rfl ?_
      show Steps p.tables e below (T4.setTop (mkF m 11 #[.val (.int (1901 : Int32)), .val (.ref h0.size), .val (.int (7 : Int32)), .val (.int (1 : Int32)), .val (.ref w_SUCCESS)] [(.int (7 : Int32)), (.int (1 : Int32))])) _
      refine XS.icmpNo X4.here hx rfl (hb hby d1_11) rfl (tlt hc11_6).2.1 ?_
      show Steps p.tables e below (T4.setTop (mkF m 14 #[.val (.int (1901 : Int32)), .val (.ref h0.size), .val (.int (7 : Int32)), .val (.int (1 : Int32)), .val (.ref w_SUCCESS)] [])) _
      refine XS.aloadN X4.here hx rfl (hb hby d1_14) rfl rfl ?_
      show Steps p.tables e below (T4.setTop (mkF m 15 #[.val (.int (1901 : Int32)), .val (.ref h0.size), .val (.int (7 : Int32)), .val (.int (1 : Int32)), .val (.ref w_SUCCESS)] [(.ref h0.size)])) _
      refine XS.iloadN X4.here hx rfl (hb hby d1_15) rfl ?_
      show Steps p.tables e below (T4.setTop (mkF m 16 #[.val (.int (1901 : Int32)), .val (.ref h0.size), .val (.int (7 : Int32)), .val (.int (1 : Int32)), .val (.ref w_SUCCESS)] [(.int (1 : Int32)), (.ref h0.size)])) _
      refine X4.aaload hx (j := (1 : Int32)) (v := .ref w_PROCESSING) (by rw [e4]; exact Arn.1) (State.isArrayOf_alike hZ.alike Arn.2.1) rfl Arn.2.2 (fun q => q.elim (by decide) (fun q => by have q' : cl.slots.size ≤ 1 := q; omega)) hat1 (g := (mkF m 16 #[.val (.int (1901 : Int32)), .val (.ref h0.size), .val (.int (7 : Int32)), .val (.int (1 : Int32)), .val (.ref w_SUCCESS)] [(.int (1 : Int32)), (.ref h0.size)])) rfl rfl (hb hby d1_16) _ ?_
      show Steps p.tables e below (T4.setTop (mkF m 17 #[.val (.int (1901 : Int32)), .val (.ref h0.size), .val (.int (7 : Int32)), .val (.int (1 : Int32)), .val (.ref w_SUCCESS)] [(.ref w_PROCESSING)])) _
      refine XS.astore X4.here hx rfl (hb hby d1_17) rfl rfl (l' := #[.val (.int (1901 : Int32)), .val (.ref h0.size), .val (.int (7 : Int32)), .val (.int (1 : Int32)), .val (.ref w_PROCESSING)]) rfl ?_
      show Steps p.tables e below (T4.setTop (mkF m 19 #[.val (.int (1901 : Int32)), .val (.ref h0.size), .val (.int (7 : Int32)), .val (.int (1 : Int32)), .val (.ref w_PROCESSING)] [])) _
      refine XS.aload X4.here hx rfl (hb hby d1_19) rfl rfl ?_
      exact k)
  obtain ⟨T8, X8, e8, st8⟩ := getF X4 hx hZ hown (host := "") (Or.inl (hw _ (List.mem_of_getElem? (i := 28) rfl))) Via.refl e4 (F_number_w_PROCESSING.ext Ex1) (g := (mkF m 21 #[.val (.int (1901 : Int32)), .val (.ref h0.size), .val (.int (7 : Int32)), .val (.int (1 : Int32)), .val (.ref w_PROCESSING)] [(.ref w_PROCESSING)])) rfl rfl (hb hby d1_21)
  have k9 : ∀ t, Steps p.tables e below (T8.setTop (mkF m 24 #[.val (.int (1901 : Int32)), .val (.ref h0.size), .val (.int (7 : Int32)), .val (.int (1 : Int32)), .val (.ref w_PROCESSING)] [(.int (1101 : Int32))])) t → Steps p.tables e below (s₁.setTop (entryFrame m #[(.int (1901 : Int32))] 5)) t := fun t k => k7 t (st8 _ k)
  have hc25_10 : ¬ ((1101 : Int32) = (1901 : Int32)) := by decide
  have hc11_11 : (2 : Int32) < (7 : Int32) := by decide
  have k12 : ∀ t, Steps p.tables e below (T8.setTop (mkF m 21 #[.val (.int (1901 : Int32)), .val (.ref h0.size), .val (.int (7 : Int32)), .val (.int (2 : Int32)), .val (.ref w_RATE_LIMITED)] [(.ref w_RATE_LIMITED)])) t → Steps p.tables e below (s₁.setTop (entryFrame m #[(.int (1901 : Int32))] 5)) t := fun t k => k9 t (by
      show Steps p.tables e below (T8.setTop (mkF m 24 #[.val (.int (1901 : Int32)), .val (.ref h0.size), .val (.int (7 : Int32)), .val (.int (1 : Int32)), .val (.ref w_PROCESSING)] [(.int (1101 : Int32))])) _
      refine XS.iloadN X8.here hx rfl (hb hby d1_24) rfl ?_
      show Steps p.tables e below (T8.setTop (mkF m 25 #[.val (.int (1901 : Int32)), .val (.ref h0.size), .val (.int (7 : Int32)), .val (.int (1 : Int32)), .val (.ref w_PROCESSING)] [(.int (1901 : Int32)), (.int (1101 : Int32))])) _
      refine XS.icmpYes X8.here hx rfl (pc0 := 25) (pc' := 31) rfl (hb hby d1_25) rfl (feq hc25_10).2 (by decide) (by decide) ?_
      show Steps p.tables e below (T8.setTop (mkF m 31 #[.val (.int (1901 : Int32)), .val (.ref h0.size), .val (.int (7 : Int32)), .val (.int (1 : Int32)), .val (.ref w_PROCESSING)] [])) _
      refine XS.iinc X8.here hx rfl (hb hby d1_31) rfl (l' := #[.val (.int (1901 : Int32)), .val (.ref h0.size), .val (.int (7 : Int32)), .val (.int (2 : Int32)), .val (.ref w_PROCESSING)]) rfl ?_
      show Steps p.tables e below (T8.setTop (mkF m 34 #[.val (.int (1901 : Int32)), .val (.ref h0.size), .val (.int (7 : Int32)), .val (.int (2 : Int32)), .val (.ref w_PROCESSING)] [])) _
      refine XS.goto X8.here hx rfl (pc0 := 34) (pc' := 9) rfl (hb hby d1_34) (by decide) (by decide) ?_
      show Steps p.tables e below (T8.setTop (mkF m 9 #[.val (.int (1901 : Int32)), .val (.ref h0.size), .val (.int (7 : Int32)), .val (.int (2 : Int32)), .val (.ref w_PROCESSING)] [])) _
      refine XS.iloadN X8.here hx rfl (hb hby d1_9) rfl ?_
      show Steps p.tables e below (T8.setTop (mkF m 10 #[.val (.int (1901 : Int32)), .val (.ref h0.size), .val (.int (7 : Int32)), .val (.int (2 : Int32)), .val (.ref w_PROCESSING)] [(.int (2 : Int32))])) _
      refine XS.iloadN X8.here hx rfl (hb hby d1_10) rfl ?_
      show Steps p.tables e below (T8.setTop (mkF m 11 #[.val (.int (1901 : Int32)), .val (.ref h0.size), .val (.int (7 : Int32)), .val (.int (2 : Int32)), .val (.ref w_PROCESSING)] [(.int (7 : Int32)), (.int (2 : Int32))])) _
      refine XS.icmpNo X8.here hx rfl (hb hby d1_11) rfl (tlt hc11_11).2.1 ?_
      show Steps p.tables e below (T8.setTop (mkF m 14 #[.val (.int (1901 : Int32)), .val (.ref h0.size), .val (.int (7 : Int32)), .val (.int (2 : Int32)), .val (.ref w_PROCESSING)] [])) _
      refine XS.aloadN X8.here hx rfl (hb hby d1_14) rfl rfl ?_
      show Steps p.tables e below (T8.setTop (mkF m 15 #[.val (.int (1901 : Int32)), .val (.ref h0.size), .val (.int (7 : Int32)), .val (.int (2 : Int32)), .val (.ref w_PROCESSING)] [(.ref h0.size)])) _
      refine XS.iloadN X8.here hx rfl (hb hby d1_15) rfl ?_
      show Steps p.tables e below (T8.setTop (mkF m 16 #[.val (.int (1901 : Int32)), .val (.ref h0.size), .val (.int (7 : Int32)), .val (.int (2 : Int32)), .val (.ref w_PROCESSING)] [(.int (2 : Int32)), (.ref h0.size)])) _
      refine X8.aaload hx (j := (2 : Int32)) (v := .ref w_RATE_LIMITED) (by rw [e8]; exact Arn.1) (State.isArrayOf_alike hZ.alike Arn.2.1) rfl Arn.2.2 (fun q => q.elim (by decide) (fun q => by have q' : cl.slots.size ≤ 2 := q; omega)) hat2 (g := (mkF m 16 #[.val (.int (1901 : Int32)), .val (.ref h0.size), .val (.int (7 : Int32)), .val (.int (2 : Int32)), .val (.ref w_PROCESSING)] [(.int (2 : Int32)), (.ref h0.size)])) rfl rfl (hb hby d1_16) _ ?_
      show Steps p.tables e below (T8.setTop (mkF m 17 #[.val (.int (1901 : Int32)), .val (.ref h0.size), .val (.int (7 : Int32)), .val (.int (2 : Int32)), .val (.ref w_PROCESSING)] [(.ref w_RATE_LIMITED)])) _
      refine XS.astore X8.here hx rfl (hb hby d1_17) rfl rfl (l' := #[.val (.int (1901 : Int32)), .val (.ref h0.size), .val (.int (7 : Int32)), .val (.int (2 : Int32)), .val (.ref w_RATE_LIMITED)]) rfl ?_
      show Steps p.tables e below (T8.setTop (mkF m 19 #[.val (.int (1901 : Int32)), .val (.ref h0.size), .val (.int (7 : Int32)), .val (.int (2 : Int32)), .val (.ref w_RATE_LIMITED)] [])) _
      refine XS.aload X8.here hx rfl (hb hby d1_19) rfl rfl ?_
      exact k)
  obtain ⟨T13, X13, e13, st13⟩ := getF X8 hx hZ hown (host := "") (Or.inl (hw _ (List.mem_of_getElem? (i := 28) rfl))) Via.refl e8 (F_number_w_RATE_LIMITED.ext Ex1) (g := (mkF m 21 #[.val (.int (1901 : Int32)), .val (.ref h0.size), .val (.int (7 : Int32)), .val (.int (2 : Int32)), .val (.ref w_RATE_LIMITED)] [(.ref w_RATE_LIMITED)])) rfl rfl (hb hby d1_21)
  have k14 : ∀ t, Steps p.tables e below (T13.setTop (mkF m 24 #[.val (.int (1901 : Int32)), .val (.ref h0.size), .val (.int (7 : Int32)), .val (.int (2 : Int32)), .val (.ref w_RATE_LIMITED)] [(.int (1901 : Int32))])) t → Steps p.tables e below (s₁.setTop (entryFrame m #[(.int (1901 : Int32))] 5)) t := fun t k => k12 t (st13 _ k)
  have hc25_15 : (1901 : Int32) = (1901 : Int32) := by decide
  have k16 : ∀ t, Steps p.tables e below (T13.setTop (mkF m 30 #[.val (.int (1901 : Int32)), .val (.ref h0.size), .val (.int (7 : Int32)), .val (.int (2 : Int32)), .val (.ref w_RATE_LIMITED)] [(.ref w_RATE_LIMITED)])) t → Steps p.tables e below (s₁.setTop (entryFrame m #[(.int (1901 : Int32))] 5)) t := fun t k => k14 t (by
      show Steps p.tables e below (T13.setTop (mkF m 24 #[.val (.int (1901 : Int32)), .val (.ref h0.size), .val (.int (7 : Int32)), .val (.int (2 : Int32)), .val (.ref w_RATE_LIMITED)] [(.int (1901 : Int32))])) _
      refine XS.iloadN X13.here hx rfl (hb hby d1_24) rfl ?_
      show Steps p.tables e below (T13.setTop (mkF m 25 #[.val (.int (1901 : Int32)), .val (.ref h0.size), .val (.int (7 : Int32)), .val (.int (2 : Int32)), .val (.ref w_RATE_LIMITED)] [(.int (1901 : Int32)), (.int (1901 : Int32))])) _
      refine XS.icmpNo X13.here hx rfl (hb hby d1_25) rfl (teq hc25_15).2 ?_
      show Steps p.tables e below (T13.setTop (mkF m 28 #[.val (.int (1901 : Int32)), .val (.ref h0.size), .val (.int (7 : Int32)), .val (.int (2 : Int32)), .val (.ref w_RATE_LIMITED)] [])) _
      refine XS.aload X13.here hx rfl (hb hby d1_28) rfl rfl ?_
      exact k)
  obtain ⟨fs, hr, hrun, hended, hW, hsame⟩ := X13.leave (v := (some (.ref w_RATE_LIMITED))) (fun h => by rw [Bd.returns] at h; cases h)
  refine ⟨_, _, k16 _ ?_, hrun, hended, _, _, rfl, ?_, ⟨_, rfl⟩, hW, hsame.mono (by decide) (by decide)⟩
  · exact retOut X13 hx Bd.returns rfl (Or.inr (Or.inr (Or.inr (Or.inr ⟨rfl, rfl, rfl⟩)))) (hb hby d1_30) hr
  · show Q1_RATE_LIMITED Z wv cl w_SUCCESS w_PROCESSING w_RATE_LIMITED w_INVALID_PARAMETERS w_SERVICE_FAILURE w_DOWNLOAD_FAILED w_NO_PERMISSION h0 n0 _ T13.heap _
    rw [e13]
    exact ⟨rfl, N1, Ex1⟩
theorem ef_1_INVALID_PARAMETERS (m : MethodId) (x0 : Int32) : entryFrame m #[(.int x0)] 5 = mkF m 0 #[.val (.int x0), .unset, .unset, .unset, .unset] [] := by first | (simp [entryFrame, mkF, argsToLocals, Value.category]; done) | rfl
def Q1_INVALID_PARAMETERS (Z : State) (wv : Addr) (cl : Cell) (w_SUCCESS : Addr) (w_PROCESSING : Addr) (w_RATE_LIMITED : Addr) (w_INVALID_PARAMETERS : Addr) (w_SERVICE_FAILURE : Addr) (w_DOWNLOAD_FAILED : Addr) (w_NO_PERMISSION : Addr) (h0 : Heap) (n0 : Nat) (v : Option Value) (h : Heap) (L : List Loc) : Prop := v = some (.ref w_INVALID_PARAMETERS) ∧ Fr n0 L ∧ Ext h0 h
set_option maxRecDepth 65536 in
set_option maxHeartbeats 40000000 in
theorem rm1_INVALID_PARAMETERS (l : Launch) (Z : State) (a0 : Array Value) (hw : ∀ d ∈ tables_1, d.before a0 Z = true) (ws : List Jvm.Cond) (wv : Addr) (cl : Cell) (w_SUCCESS : Addr) (w_PROCESSING : Addr) (w_RATE_LIMITED : Addr) (w_INVALID_PARAMETERS : Addr) (w_SERVICE_FAILURE : Addr) (w_DOWNLOAD_FAILED : Addr) (w_NO_PERMISSION : Addr) (h0 : Heap) (n0 : Nat) (Z0 : n0 ≤ h0.size) (S_V : Sta Z h0 "com/example/mediawarden/mediawarden/task/Code" "$VALUES" "[Lcom/example/mediawarden/mediawarden/task/Code;" (.ref wv)) (Arv_ : Arr Z h0 wv cl (.object "com/example/mediawarden/mediawarden/task/Code")) (E_V : Exa Z h0 wv "[Lcom/example/mediawarden/mediawarden/task/Code;") (hsz : cl.slots.size = 7) (hat0 : cl.slots[0]? = some (.ref w_SUCCESS)) (hat1 : cl.slots[1]? = some (.ref w_PROCESSING)) (hat2 : cl.slots[2]? = some (.ref w_RATE_LIMITED)) (hat3 : cl.slots[3]? = some (.ref w_INVALID_PARAMETERS)) (hat4 : cl.slots[4]? = some (.ref w_SERVICE_FAILURE)) (hat5 : cl.slots[5]? = some (.ref w_DOWNLOAD_FAILED)) (hat6 : cl.slots[6]? = some (.ref w_NO_PERMISSION)) (F_number_w_SUCCESS : Fld Z h0 w_SUCCESS "com/example/mediawarden/mediawarden/task/Code" "number" "I" (.int (1100 : Int32))) (F_number_w_PROCESSING : Fld Z h0 w_PROCESSING "com/example/mediawarden/mediawarden/task/Code" "number" "I" (.int (1101 : Int32))) (F_number_w_RATE_LIMITED : Fld Z h0 w_RATE_LIMITED "com/example/mediawarden/mediawarden/task/Code" "number" "I" (.int (1901 : Int32))) (F_number_w_INVALID_PARAMETERS : Fld Z h0 w_INVALID_PARAMETERS "com/example/mediawarden/mediawarden/task/Code" "number" "I" (.int (1902 : Int32))) (F_number_w_SERVICE_FAILURE : Fld Z h0 w_SERVICE_FAILURE "com/example/mediawarden/mediawarden/task/Code" "number" "I" (.int (1903 : Int32))) (F_number_w_DOWNLOAD_FAILED : Fld Z h0 w_DOWNLOAD_FAILED "com/example/mediawarden/mediawarden/task/Code" "number" "I" (.int (1911 : Int32))) (F_number_w_NO_PERMISSION : Fld Z h0 w_NO_PERMISSION "com/example/mediawarden/mediawarden/task/Code" "number" "I" (.int (9101 : Int32))) :
    MetFree l (⟨"com/example/mediawarden/mediawarden/task/Code", "of", "(I)Lcom/example/mediawarden/mediawarden/task/Code;"⟩ : MethodName) (head1 (Jvm.Cond.code (⟨"com/example/mediawarden/mediawarden/task/Code", "of", "(I)Lcom/example/mediawarden/mediawarden/task/Code;"⟩ : MethodName) prog_61_method_4_code 5 (some (.object "com/example/mediawarden/mediawarden/task/Code")) :: ws) ({ frames := 2, cells := 1, slots := 7, locals := 25 } : Room)) (fun a U => a = #[(.int (1902 : Int32))] ∧ Z.Warmed39 U.vm ∧ U.heap = h0) (fun _ _ _ _ _ => True) (fun _ U o U' => ∃ v L, o = .returned v ∧ Q1_INVALID_PARAMETERS Z wv cl w_SUCCESS w_PROCESSING w_RATE_LIMITED w_INVALID_PARAMETERS w_SERVICE_FAILURE w_DOWNLOAD_FAILED w_NO_PERMISSION h0 n0 v U'.heap L ∧ FrameEnd U o U' L ({ frames := 2, cells := 1, slots := 7, locals := 25 } : Room).cells ({ frames := 2, cells := 1, slots := 7, locals := 25 } : Room).slots) := by
  refine MetFree.of_bodySF (plainFor_of_name pn_0) hisR ?_
  intro p e s m args below meth c s₁ Bd hml0 hP hK
  obtain ⟨rfl, hZ, hh⟩ := hP
  have hx := Bd.exec
  have hby := Bd.bytes
  have hml : c.maxLocals = 5 := hml0
  have hown : s.vm.findClass "com/example/mediawarden/mediawarden/task/Code" = some m.cls := findClass_of_methodNamed Bd.named
  have hnm := (name_of_methodNamed Bd.named Bd.method).1
  have X0 : Stand p l e ({ frames := 2, cells := 1, slots := 7, locals := 25 } : Room) s m #[(.int (1902 : Int32))] below meth c s₁ [] 0 0 := Stand.of_body Bd
  have e0 : s₁.heap = h0 := by rw [← hh, Bd.state]; rfl
  have N0 := Fr.nil n0
  have k0 : ∀ t, Steps p.tables e below (s₁.setTop (mkF m 0 #[.val (.int (1902 : Int32)), .unset, .unset, .unset, .unset] [])) t → Steps p.tables e below (s₁.setTop (entryFrame m #[(.int (1902 : Int32))] 5)) t := fun t k => castTop (ef_1_INVALID_PARAMETERS m (1902 : Int32)) k
  obtain ⟨_, _, ⟨T1, L1, kq1, n1⟩, -, X1, ⟨Lc1, hQ1, l1, y1, z1⟩, st1⟩ := Jvm.LawKit.callS X0 hx (y := (⟨"com/example/mediawarden/mediawarden/task/Code", "values", "()[Lcom/example/mediawarden/mediawarden/task/Code;"⟩ : MethodName)) hown (mvT hZ (hw _ (List.mem_of_getElem? (i := 7) rfl))) (mvT hZ (hw _ (List.mem_of_getElem? (i := 8) rfl))) (mvT hZ (hw _ (List.mem_of_getElem? (i := 2) rfl))) (mvT hZ (hw _ (List.mem_of_getElem? (i := 9) rfl))) (by decide) (backOf (W := 0) (rmV l Z a0 hw [] wv cl w_SUCCESS w_PROCESSING w_RATE_LIMITED w_INVALID_PARAMETERS w_SERVICE_FAILURE w_DOWNLOAD_FAILED w_NO_PERMISSION h0 n0 Z0 S_V Arv_ E_V hsz hat0 hat1 hat2 hat3 hat4 hat5 hat6) hZ (hw _ (List.mem_of_getElem? (i := 9) rfl)) (hw _ (List.mem_of_getElem? (i := 2) rfl)) (by decide) (by decide)) (g := (mkF m 0 #[.val (.int (1902 : Int32)), .unset, .unset, .unset, .unset] [])) rfl (by rw [hml]; rfl) (argsL := []) (rest := []) (lenOf pd_0 rfl) rfl (by show 2 * 0 + _ ≤ _; exact Nat.le_of_eq rfl) (hb hby d1_0) (fun _ _ => ⟨rfl, e0, (by decide : 0 + 1 ≤ _), (by decide : 0 + 7 ≤ _)⟩)
  dsimp only [Pt.U, Pt.locs, Pt.cells, Pt.slots] at X1 l1 y1 z1 st1 hQ1
  subst l1 y1 z1
  obtain ⟨rfl, N1q, Ex1, hcell1⟩ := hQ1
  have N1 := Fr.app N0 N1q
  have Zs1 : n0 ≤ T1.heap.size := Nat.le_trans Z0 Ex1.1
  have Arn : Arr Z T1.heap h0.size { cls := cl.cls, slots := cl.slots } (.object "com/example/mediawarden/mediawarden/task/Code") := ⟨hcell1, ⟨(fun k q => by cases q), Arv_.2.1.2⟩, (fun q => by cases q)⟩
  have hlen : (cl.slots.size).toInt32 = (7 : Int32) := by rw [hsz]; rfl
  have k2 : ∀ t, Steps p.tables e below (T1.setTop (mkF m 3 #[.val (.int (1902 : Int32)), .unset, .unset, .unset, .unset] [(.ref h0.size)])) t → Steps p.tables e below (s₁.setTop (entryFrame m #[(.int (1902 : Int32))] 5)) t := fun t k => k0 t (st1 _ k)
  have hc11 : (0 : Int32) < (7 : Int32) := by decide
  have k3 : ∀ t, Steps p.tables e below (T1.setTop (mkF m 21 #[.val (.int (1902 : Int32)), .val (.ref h0.size), .val (.int (7 : Int32)), .val (.int (0 : Int32)), .val (.ref w_SUCCESS)] [(.ref w_SUCCESS)])) t → Steps p.tables e below (s₁.setTop (entryFrame m #[(.int (1902 : Int32))] 5)) t := fun t k => k2 t (by
      show Steps p.tables e below (T1.setTop (mkF m 3 #[.val (.int (1902 : Int32)), .unset, .unset, .unset, .unset] [(.ref h0.size)])) _
      refine XS.astoreN X1.here hx rfl (hb hby d1_3) rfl rfl (l' := #[.val (.int (1902 : Int32)), .val (.ref h0.size), .unset, .unset, .unset]) rfl ?_
      show Steps p.tables e below (T1.setTop (mkF m 4 #[.val (.int (1902 : Int32)), .val (.ref h0.size), .unset, .unset, .unset] [])) _
      refine XS.aloadN X1.here hx rfl (hb hby d1_4) rfl rfl ?_
      show Steps p.tables e below (T1.setTop (mkF m 5 #[.val (.int (1902 : Int32)), .val (.ref h0.size), .unset, .unset, .unset] [(.ref h0.size)])) _
      refine X1.arraylength hx Arn.1 (State.isArrayOf_alike hZ.alike Arn.2.1) (g := (mkF m 5 #[.val (.int (1902 : Int32)), .val (.ref h0.size), .unset, .unset, .unset] [(.ref h0.size)])) rfl rfl (hb hby d1_5) _ ?_
      rw [hlen]
      show Steps p.tables e below (T1.setTop (mkF m 6 #[.val (.int (1902 : Int32)), .val (.ref h0.size), .unset, .unset, .unset] [(.int (7 : Int32))])) _
      refine XS.istoreN X1.here hx rfl (hb hby d1_6) rfl (l' := #[.val (.int (1902 : Int32)), .val (.ref h0.size), .val (.int (7 : Int32)), .unset, .unset]) rfl ?_
      show Steps p.tables e below (T1.setTop (mkF m 7 #[.val (.int (1902 : Int32)), .val (.ref h0.size), .val (.int (7 : Int32)), .unset, .unset] [])) _
      refine XS.iconst X1.here hx rfl (hb hby d1_7) ?_
      show Steps p.tables e below (T1.setTop (mkF m 8 #[.val (.int (1902 : Int32)), .val (.ref h0.size), .val (.int (7 : Int32)), .unset, .unset] [(.int (0 : Int32))])) _
      refine XS.istoreN X1.here hx rfl (hb hby d1_8) rfl (l' := #[.val (.int (1902 : Int32)), .val (.ref h0.size), .val (.int (7 : Int32)), .val (.int (0 : Int32)), .unset]) rfl ?_
      show Steps p.tables e below (T1.setTop (mkF m 9 #[.val (.int (1902 : Int32)), .val (.ref h0.size), .val (.int (7 : Int32)), .val (.int (0 : Int32)), .unset] [])) _
      refine XS.iloadN X1.here hx rfl (hb hby d1_9) rfl ?_
      show Steps p.tables e below (T1.setTop (mkF m 10 #[.val (.int (1902 : Int32)), .val (.ref h0.size), .val (.int (7 : Int32)), .val (.int (0 : Int32)), .unset] [(.int (0 : Int32))])) _
      refine XS.iloadN X1.here hx rfl (hb hby d1_10) rfl ?_
      show Steps p.tables e below (T1.setTop (mkF m 11 #[.val (.int (1902 : Int32)), .val (.ref h0.size), .val (.int (7 : Int32)), .val (.int (0 : Int32)), .unset] [(.int (7 : Int32)), (.int (0 : Int32))])) _
      refine XS.icmpNo X1.here hx rfl (hb hby d1_11) rfl (tlt hc11).2.1 ?_
      show Steps p.tables e below (T1.setTop (mkF m 14 #[.val (.int (1902 : Int32)), .val (.ref h0.size), .val (.int (7 : Int32)), .val (.int (0 : Int32)), .unset] [])) _
      refine XS.aloadN X1.here hx rfl (hb hby d1_14) rfl rfl ?_
      show Steps p.tables e below (T1.setTop (mkF m 15 #[.val (.int (1902 : Int32)), .val (.ref h0.size), .val (.int (7 : Int32)), .val (.int (0 : Int32)), .unset] [(.ref h0.size)])) _
      refine XS.iloadN X1.here hx rfl (hb hby d1_15) rfl ?_
      show Steps p.tables e below (T1.setTop (mkF m 16 #[.val (.int (1902 : Int32)), .val (.ref h0.size), .val (.int (7 : Int32)), .val (.int (0 : Int32)), .unset] [(.int (0 : Int32)), (.ref h0.size)])) _
      refine X1.aaload hx (j := (0 : Int32)) (v := .ref w_SUCCESS) Arn.1 (State.isArrayOf_alike hZ.alike Arn.2.1) rfl Arn.2.2 (fun q => q.elim (by decide) (fun q => by have q' : cl.slots.size ≤ 0 := q; omega)) hat0 (g := (mkF m 16 #[.val (.int (1902 : Int32)), .val (.ref h0.size), .val (.int (7 : Int32)), .val (.int (0 : Int32)), .unset] [(.int (0 : Int32)), (.ref h0.size)])) rfl rfl (hb hby d1_16) _ ?_
      show Steps p.tables e below (T1.setTop (mkF m 17 #[.val (.int (1902 : Int32)), .val (.ref h0.size), .val (.int (7 : Int32)), .val (.int (0 : Int32)), .unset] [(.ref w_SUCCESS)])) _
      refine XS.astore X1.here hx rfl (hb hby d1_17) rfl rfl (l' := #[.val (.int (1902 : Int32)), .val (.ref h0.size), .val (.int (7 : Int32)), .val (.int (0 : Int32)), .val (.ref w_SUCCESS)]) rfl ?_
      show Steps p.tables e below (T1.setTop (mkF m 19 #[.val (.int (1902 : Int32)), .val (.ref h0.size), .val (.int (7 : Int32)), .val (.int (0 : Int32)), .val (.ref w_SUCCESS)] [])) _
      refine XS.aload X1.here hx rfl (hb hby d1_19) rfl rfl ?_
      exact k)
  obtain ⟨T4, X4, e4, st4⟩ := getF X1 hx hZ hown (host := "") (Or.inl (hw _ (List.mem_of_getElem? (i := 28) rfl))) Via.refl rfl (F_number_w_SUCCESS.ext Ex1) (g := (mkF m 21 #[.val (.int (1902 : Int32)), .val (.ref h0.size), .val (.int (7 : Int32)), .val (.int (0 : Int32)), .val (.ref w_SUCCESS)] [(.ref w_SUCCESS)])) rfl rfl (hb hby d1_21)
  have k5 : ∀ t, Steps p.tables e below (T4.setTop (mkF m 24 #[.val (.int (1902 : Int32)), .val (.ref h0.size), .val (.int (7 : Int32)), .val (.int (0 : Int32)), .val (.ref w_SUCCESS)] [(.int (1100 : Int32))])) t → Steps p.tables e below (s₁.setTop (entryFrame m #[(.int (1902 : Int32))] 5)) t := fun t k => k3 t (st4 _ k)
  have hc25 : ¬ ((1100 : Int32) = (1902 : Int32)) := by decide
  have hc11_6 : (1 : Int32) < (7 : Int32) := by decide
  have k7 : ∀ t, Steps p.tables e below (T4.setTop (mkF m 21 #[.val (.int (1902 : Int32)), .val (.ref h0.size), .val (.int (7 : Int32)), .val (.int (1 : Int32)), .val (.ref w_PROCESSING)] [(.ref w_PROCESSING)])) t → Steps p.tables e below (s₁.setTop (entryFrame m #[(.int (1902 : Int32))] 5)) t := fun t k => k5 t (by
      show Steps p.tables e below (T4.setTop (mkF m 24 #[.val (.int (1902 : Int32)), .val (.ref h0.size), .val (.int (7 : Int32)), .val (.int (0 : Int32)), .val (.ref w_SUCCESS)] [(.int (1100 : Int32))])) _
      refine XS.iloadN X4.here hx rfl (hb hby d1_24) rfl ?_
      show Steps p.tables e below (T4.setTop (mkF m 25 #[.val (.int (1902 : Int32)), .val (.ref h0.size), .val (.int (7 : Int32)), .val (.int (0 : Int32)), .val (.ref w_SUCCESS)] [(.int (1902 : Int32)), (.int (1100 : Int32))])) _
      refine XS.icmpYes X4.here hx rfl (pc0 := 25) (pc' := 31) rfl (hb hby d1_25) rfl (feq hc25).2 (by decide) (by decide) ?_
      show Steps p.tables e below (T4.setTop (mkF m 31 #[.val (.int (1902 : Int32)), .val (.ref h0.size), .val (.int (7 : Int32)), .val (.int (0 : Int32)), .val (.ref w_SUCCESS)] [])) _
      refine XS.iinc X4.here hx rfl (hb hby d1_31) rfl (l' := #[.val (.int (1902 : Int32)), .val (.ref h0.size), .val (.int (7 : Int32)), .val (.int (1 : Int32)), .val (.ref w_SUCCESS)]) rfl ?_
      show Steps p.tables e below (T4.setTop (mkF m 34 #[.val (.int (1902 : Int32)), .val (.ref h0.size), .val (.int (7 : Int32)), .val (.int (1 : Int32)), .val (.ref w_SUCCESS)] [])) _
      refine XS.goto X4.here hx rfl (pc0 := 34) (pc' := 9) rfl (hb hby d1_34) (by decide) (by decide) ?_
      show Steps p.tables e below (T4.setTop (mkF m 9 #[.val (.int (1902 : Int32)), .val (.ref h0.size), .val (.int (7 : Int32)), .val (.int (1 : Int32)), .val (.ref w_SUCCESS)] [])) _
      refine XS.iloadN X4.here hx rfl (hb hby d1_9) rfl ?_
      show Steps p.tables e below (T4.setTop (mkF m 10 #[.val (.int (1902 : Int32)), .val (.ref h0.size), .val (.int (7 : Int32)), .val (.int (1 : Int32)), .val (.ref w_SUCCESS)] [(.int (1 : Int32))])) _
      refine XS.iloadN X4.here hx rfl (hb hby d1_10) rfl ?_
      show Steps p.tables e below (T4.setTop (mkF m 11 #[.val (.int (1902 : Int32)), .val (.ref h0.size), .val (.int (7 : Int32)), .val (.int (1 : Int32)), .val (.ref w_SUCCESS)] [(.int (7 : Int32)), (.int (1 : Int32))])) _
      refine XS.icmpNo X4.here hx rfl (hb hby d1_11) rfl (tlt hc11_6).2.1 ?_
      show Steps p.tables e below (T4.setTop (mkF m 14 #[.val (.int (1902 : Int32)), .val (.ref h0.size), .val (.int (7 : Int32)), .val (.int (1 : Int32)), .val (.ref w_SUCCESS)] [])) _
      refine XS.aloadN X4.here hx rfl (hb hby d1_14) rfl rfl ?_
      show Steps p.tables e below (T4.setTop (mkF m 15 #[.val (.int (1902 : Int32)), .val (.ref h0.size), .val (.int (7 : Int32)), .val (.int (1 : Int32)), .val (.ref w_SUCCESS)] [(.ref h0.size)])) _
      refine XS.iloadN X4.here hx rfl (hb hby d1_15) rfl ?_
      show Steps p.tables e below (T4.setTop (mkF m 16 #[.val (.int (1902 : Int32)), .val (.ref h0.size), .val (.int (7 : Int32)), .val (.int (1 : Int32)), .val (.ref w_SUCCESS)] [(.int (1 : Int32)), (.ref h0.size)])) _
      refine X4.aaload hx (j := (1 : Int32)) (v := .ref w_PROCESSING) (by rw [e4]; exact Arn.1) (State.isArrayOf_alike hZ.alike Arn.2.1) rfl Arn.2.2 (fun q => q.elim (by decide) (fun q => by have q' : cl.slots.size ≤ 1 := q; omega)) hat1 (g := (mkF m 16 #[.val (.int (1902 : Int32)), .val (.ref h0.size), .val (.int (7 : Int32)), .val (.int (1 : Int32)), .val (.ref w_SUCCESS)] [(.int (1 : Int32)), (.ref h0.size)])) rfl rfl (hb hby d1_16) _ ?_
      show Steps p.tables e below (T4.setTop (mkF m 17 #[.val (.int (1902 : Int32)), .val (.ref h0.size), .val (.int (7 : Int32)), .val (.int (1 : Int32)), .val (.ref w_SUCCESS)] [(.ref w_PROCESSING)])) _
      refine XS.astore X4.here hx rfl (hb hby d1_17) rfl rfl (l' := #[.val (.int (1902 : Int32)), .val (.ref h0.size), .val (.int (7 : Int32)), .val (.int (1 : Int32)), .val (.ref w_PROCESSING)]) rfl ?_
      show Steps p.tables e below (T4.setTop (mkF m 19 #[.val (.int (1902 : Int32)), .val (.ref h0.size), .val (.int (7 : Int32)), .val (.int (1 : Int32)), .val (.ref w_PROCESSING)] [])) _
      refine XS.aload X4.here hx rfl (hb hby d1_19) rfl rfl ?_
      exact k)
  obtain ⟨T8, X8, e8, st8⟩ := getF X4 hx hZ hown (host := "") (Or.inl (hw _ (List.mem_of_getElem? (i := 28) rfl))) Via.refl e4 (F_number_w_PROCESSING.ext Ex1) (g := (mkF m 21 #[.val (.int (1902 : Int32)), .val (.ref h0.size), .val (.int (7 : Int32)), .val (.int (1 : Int32)), .val (.ref w_PROCESSING)] [(.ref w_PROCESSING)])) rfl rfl (hb hby d1_21)
  have k9 : ∀ t, Steps p.tables e below (T8.setTop (mkF m 24 #[.val (.int (1902 : Int32)), .val (.ref h0.size), .val (.int (7 : Int32)), .val (.int (1 : Int32)), .val (.ref w_PROCESSING)] [(.int (1101 : Int32))])) t → Steps p.tables e below (s₁.setTop (entryFrame m #[(.int (1902 : Int32))] 5)) t := fun t k => k7 t (st8 _ k)
  have hc25_10 : ¬ ((1101 : Int32) = (1902 : Int32)) := by decide
  have hc11_11 : (2 : Int32) < (7 : Int32) := by decide
  have k12 : ∀ t, Steps p.tables e below (T8.setTop (mkF m 21 #[.val (.int (1902 : Int32)), .val (.ref h0.size), .val (.int (7 : Int32)), .val (.int (2 : Int32)), .val (.ref w_RATE_LIMITED)] [(.ref w_RATE_LIMITED)])) t → Steps p.tables e below (s₁.setTop (entryFrame m #[(.int (1902 : Int32))] 5)) t := fun t k => k9 t (by
      show Steps p.tables e below (T8.setTop (mkF m 24 #[.val (.int (1902 : Int32)), .val (.ref h0.size), .val (.int (7 : Int32)), .val (.int (1 : Int32)), .val (.ref w_PROCESSING)] [(.int (1101 : Int32))])) _
      refine XS.iloadN X8.here hx rfl (hb hby d1_24) rfl ?_
      show Steps p.tables e below (T8.setTop (mkF m 25 #[.val (.int (1902 : Int32)), .val (.ref h0.size), .val (.int (7 : Int32)), .val (.int (1 : Int32)), .val (.ref w_PROCESSING)] [(.int (1902 : Int32)), (.int (1101 : Int32))])) _
      refine XS.icmpYes X8.here hx rfl (pc0 := 25) (pc' := 31) rfl (hb hby d1_25) rfl (feq hc25_10).2 (by decide) (by decide) ?_
      show Steps p.tables e below (T8.setTop (mkF m 31 #[.val (.int (1902 : Int32)), .val (.ref h0.size), .val (.int (7 : Int32)), .val (.int (1 : Int32)), .val (.ref w_PROCESSING)] [])) _
      refine XS.iinc X8.here hx rfl (hb hby d1_31) rfl (l' := #[.val (.int (1902 : Int32)), .val (.ref h0.size), .val (.int (7 : Int32)), .val (.int (2 : Int32)), .val (.ref w_PROCESSING)]) rfl ?_
      show Steps p.tables e below (T8.setTop (mkF m 34 #[.val (.int (1902 : Int32)), .val (.ref h0.size), .val (.int (7 : Int32)), .val (.int (2 : Int32)), .val (.ref w_PROCESSING)] [])) _
      refine XS.goto X8.here hx rfl (pc0 := 34) (pc' := 9) rfl (hb hby d1_34) (by decide) (by decide) ?_
      show Steps p.tables e below (T8.setTop (mkF m 9 #[.val (.int (1902 : Int32)), .val (.ref h0.size), .val (.int (7 : Int32)), .val (.int (2 : Int32)), .val (.ref w_PROCESSING)] [])) _
      refine XS.iloadN X8.here hx rfl (hb hby d1_9) rfl ?_
      show Steps p.tables e below (T8.setTop (mkF m 10 #[.val (.int (1902 : Int32)), .val (.ref h0.size), .val (.int (7 : Int32)), .val (.int (2 : Int32)), .val (.ref w_PROCESSING)] [(.int (2 : Int32))])) _
      refine XS.iloadN X8.here hx rfl (hb hby d1_10) rfl ?_
      show Steps p.tables e below (T8.setTop (mkF m 11 #[.val (.int (1902 : Int32)), .val (.ref h0.size), .val (.int (7 : Int32)), .val (.int (2 : Int32)), .val (.ref w_PROCESSING)] [(.int (7 : Int32)), (.int (2 : Int32))])) _
      refine XS.icmpNo X8.here hx rfl (hb hby d1_11) rfl (tlt hc11_11).2.1 ?_
      show Steps p.tables e below (T8.setTop (mkF m 14 #[.val (.int (1902 : Int32)), .val (.ref h0.size), .val (.int (7 : Int32)), .val (.int (2 : Int32)), .val (.ref w_PROCESSING)] [])) _
      refine XS.aloadN X8.here hx rfl (hb hby d1_14) rfl rfl ?_
      show Steps p.tables e below (T8.setTop (mkF m 15 #[.val (.int (1902 : Int32)), .val (.ref h0.size), .val (.int (7 : Int32)), .val (.int (2 : Int32)), .val (.ref w_PROCESSING)] [(.ref h0.size)])) _
      refine XS.iloadN X8.here hx rfl (hb hby d1_15) rfl ?_
      show Steps p.tables e below (T8.setTop (mkF m 16 #[.val (.int (1902 : Int32)), .val (.ref h0.size), .val (.int (7 : Int32)), .val (.int (2 : Int32)), .val (.ref w_PROCESSING)] [(.int (2 : Int32)), (.ref h0.size)])) _
      refine X8.aaload hx (j := (2 : Int32)) (v := .ref w_RATE_LIMITED) (by rw [e8]; exact Arn.1) (State.isArrayOf_alike hZ.alike Arn.2.1) rfl Arn.2.2 (fun q => q.elim (by decide) (fun q => by have q' : cl.slots.size ≤ 2 := q; omega)) hat2 (g := (mkF m 16 #[.val (.int (1902 : Int32)), .val (.ref h0.size), .val (.int (7 : Int32)), .val (.int (2 : Int32)), .val (.ref w_PROCESSING)] [(.int (2 : Int32)), (.ref h0.size)])) rfl rfl (hb hby d1_16) _ ?_
      show Steps p.tables e below (T8.setTop (mkF m 17 #[.val (.int (1902 : Int32)), .val (.ref h0.size), .val (.int (7 : Int32)), .val (.int (2 : Int32)), .val (.ref w_PROCESSING)] [(.ref w_RATE_LIMITED)])) _
      refine XS.astore X8.here hx rfl (hb hby d1_17) rfl rfl (l' := #[.val (.int (1902 : Int32)), .val (.ref h0.size), .val (.int (7 : Int32)), .val (.int (2 : Int32)), .val (.ref w_RATE_LIMITED)]) rfl ?_
      show Steps p.tables e below (T8.setTop (mkF m 19 #[.val (.int (1902 : Int32)), .val (.ref h0.size), .val (.int (7 : Int32)), .val (.int (2 : Int32)), .val (.ref w_RATE_LIMITED)] [])) _
      refine XS.aload X8.here hx rfl (hb hby d1_19) rfl rfl ?_
      exact k)
  obtain ⟨T13, X13, e13, st13⟩ := getF X8 hx hZ hown (host := "") (Or.inl (hw _ (List.mem_of_getElem? (i := 28) rfl))) Via.refl e8 (F_number_w_RATE_LIMITED.ext Ex1) (g := (mkF m 21 #[.val (.int (1902 : Int32)), .val (.ref h0.size), .val (.int (7 : Int32)), .val (.int (2 : Int32)), .val (.ref w_RATE_LIMITED)] [(.ref w_RATE_LIMITED)])) rfl rfl (hb hby d1_21)
  have k14 : ∀ t, Steps p.tables e below (T13.setTop (mkF m 24 #[.val (.int (1902 : Int32)), .val (.ref h0.size), .val (.int (7 : Int32)), .val (.int (2 : Int32)), .val (.ref w_RATE_LIMITED)] [(.int (1901 : Int32))])) t → Steps p.tables e below (s₁.setTop (entryFrame m #[(.int (1902 : Int32))] 5)) t := fun t k => k12 t (st13 _ k)
  have hc25_15 : ¬ ((1901 : Int32) = (1902 : Int32)) := by decide
  have hc11_16 : (3 : Int32) < (7 : Int32) := by decide
  have k17 : ∀ t, Steps p.tables e below (T13.setTop (mkF m 21 #[.val (.int (1902 : Int32)), .val (.ref h0.size), .val (.int (7 : Int32)), .val (.int (3 : Int32)), .val (.ref w_INVALID_PARAMETERS)] [(.ref w_INVALID_PARAMETERS)])) t → Steps p.tables e below (s₁.setTop (entryFrame m #[(.int (1902 : Int32))] 5)) t := fun t k => k14 t (by
      show Steps p.tables e below (T13.setTop (mkF m 24 #[.val (.int (1902 : Int32)), .val (.ref h0.size), .val (.int (7 : Int32)), .val (.int (2 : Int32)), .val (.ref w_RATE_LIMITED)] [(.int (1901 : Int32))])) _
      refine XS.iloadN X13.here hx rfl (hb hby d1_24) rfl ?_
      show Steps p.tables e below (T13.setTop (mkF m 25 #[.val (.int (1902 : Int32)), .val (.ref h0.size), .val (.int (7 : Int32)), .val (.int (2 : Int32)), .val (.ref w_RATE_LIMITED)] [(.int (1902 : Int32)), (.int (1901 : Int32))])) _
      refine XS.icmpYes X13.here hx rfl (pc0 := 25) (pc' := 31) rfl (hb hby d1_25) rfl (feq hc25_15).2 (by decide) (by decide) ?_
      show Steps p.tables e below (T13.setTop (mkF m 31 #[.val (.int (1902 : Int32)), .val (.ref h0.size), .val (.int (7 : Int32)), .val (.int (2 : Int32)), .val (.ref w_RATE_LIMITED)] [])) _
      refine XS.iinc X13.here hx rfl (hb hby d1_31) rfl (l' := #[.val (.int (1902 : Int32)), .val (.ref h0.size), .val (.int (7 : Int32)), .val (.int (3 : Int32)), .val (.ref w_RATE_LIMITED)]) rfl ?_
      show Steps p.tables e below (T13.setTop (mkF m 34 #[.val (.int (1902 : Int32)), .val (.ref h0.size), .val (.int (7 : Int32)), .val (.int (3 : Int32)), .val (.ref w_RATE_LIMITED)] [])) _
      refine XS.goto X13.here hx rfl (pc0 := 34) (pc' := 9) rfl (hb hby d1_34) (by decide) (by decide) ?_
      show Steps p.tables e below (T13.setTop (mkF m 9 #[.val (.int (1902 : Int32)), .val (.ref h0.size), .val (.int (7 : Int32)), .val (.int (3 : Int32)), .val (.ref w_RATE_LIMITED)] [])) _
      refine XS.iloadN X13.here hx rfl (hb hby d1_9) rfl ?_
      show Steps p.tables e below (T13.setTop (mkF m 10 #[.val (.int (1902 : Int32)), .val (.ref h0.size), .val (.int (7 : Int32)), .val (.int (3 : Int32)), .val (.ref w_RATE_LIMITED)] [(.int (3 : Int32))])) _
      refine XS.iloadN X13.here hx rfl (hb hby d1_10) rfl ?_
      show Steps p.tables e below (T13.setTop (mkF m 11 #[.val (.int (1902 : Int32)), .val (.ref h0.size), .val (.int (7 : Int32)), .val (.int (3 : Int32)), .val (.ref w_RATE_LIMITED)] [(.int (7 : Int32)), (.int (3 : Int32))])) _
      refine XS.icmpNo X13.here hx rfl (hb hby d1_11) rfl (tlt hc11_16).2.1 ?_
      show Steps p.tables e below (T13.setTop (mkF m 14 #[.val (.int (1902 : Int32)), .val (.ref h0.size), .val (.int (7 : Int32)), .val (.int (3 : Int32)), .val (.ref w_RATE_LIMITED)] [])) _
      refine XS.aloadN X13.here hx rfl (hb hby d1_14) rfl rfl ?_
      show Steps p.tables e below (T13.setTop (mkF m 15 #[.val (.int (1902 : Int32)), .val (.ref h0.size), .val (.int (7 : Int32)), .val (.int (3 : Int32)), .val (.ref w_RATE_LIMITED)] [(.ref h0.size)])) _
      refine XS.iloadN X13.here hx rfl (hb hby d1_15) rfl ?_
      show Steps p.tables e below (T13.setTop (mkF m 16 #[.val (.int (1902 : Int32)), .val (.ref h0.size), .val (.int (7 : Int32)), .val (.int (3 : Int32)), .val (.ref w_RATE_LIMITED)] [(.int (3 : Int32)), (.ref h0.size)])) _
      refine X13.aaload hx (j := (3 : Int32)) (v := .ref w_INVALID_PARAMETERS) (by rw [e13]; exact Arn.1) (State.isArrayOf_alike hZ.alike Arn.2.1) rfl Arn.2.2 (fun q => q.elim (by decide) (fun q => by have q' : cl.slots.size ≤ 3 := q; omega)) hat3 (g := (mkF m 16 #[.val (.int (1902 : Int32)), .val (.ref h0.size), .val (.int (7 : Int32)), .val (.int (3 : Int32)), .val (.ref w_RATE_LIMITED)] [(.int (3 : Int32)), (.ref h0.size)])) rfl rfl (hb hby d1_16) _ ?_
      show Steps p.tables e below (T13.setTop (mkF m 17 #[.val (.int (1902 : Int32)), .val (.ref h0.size), .val (.int (7 : Int32)), .val (.int (3 : Int32)), .val (.ref w_RATE_LIMITED)] [(.ref w_INVALID_PARAMETERS)])) _
      refine XS.astore X13.here hx rfl (hb hby d1_17) rfl rfl (l' := #[.val (.int (1902 : Int32)), .val (.ref h0.size), .val (.int (7 : Int32)), .val (.int (3 : Int32)), .val (.ref w_INVALID_PARAMETERS)]) rfl ?_
      show Steps p.tables e below (T13.setTop (mkF m 19 #[.val (.int (1902 : Int32)), .val (.ref h0.size), .val (.int (7 : Int32)), .val (.int (3 : Int32)), .val (.ref w_INVALID_PARAMETERS)] [])) _
      refine XS.aload X13.here hx rfl (hb hby d1_19) rfl rfl ?_
      exact k)
  obtain ⟨T18, X18, e18, st18⟩ := getF X13 hx hZ hown (host := "") (Or.inl (hw _ (List.mem_of_getElem? (i := 28) rfl))) Via.refl e13 (F_number_w_INVALID_PARAMETERS.ext Ex1) (g := (mkF m 21 #[.val (.int (1902 : Int32)), .val (.ref h0.size), .val (.int (7 : Int32)), .val (.int (3 : Int32)), .val (.ref w_INVALID_PARAMETERS)] [(.ref w_INVALID_PARAMETERS)])) rfl rfl (hb hby d1_21)
  have k19 : ∀ t, Steps p.tables e below (T18.setTop (mkF m 24 #[.val (.int (1902 : Int32)), .val (.ref h0.size), .val (.int (7 : Int32)), .val (.int (3 : Int32)), .val (.ref w_INVALID_PARAMETERS)] [(.int (1902 : Int32))])) t → Steps p.tables e below (s₁.setTop (entryFrame m #[(.int (1902 : Int32))] 5)) t := fun t k => k17 t (st18 _ k)
  have hc25_20 : (1902 : Int32) = (1902 : Int32) := by decide
  have k21 : ∀ t, Steps p.tables e below (T18.setTop (mkF m 30 #[.val (.int (1902 : Int32)), .val (.ref h0.size), .val (.int (7 : Int32)), .val (.int (3 : Int32)), .val (.ref w_INVALID_PARAMETERS)] [(.ref w_INVALID_PARAMETERS)])) t → Steps p.tables e below (s₁.setTop (entryFrame m #[(.int (1902 : Int32))] 5)) t := fun t k => k19 t (by
      show Steps p.tables e below (T18.setTop (mkF m 24 #[.val (.int (1902 : Int32)), .val (.ref h0.size), .val (.int (7 : Int32)), .val (.int (3 : Int32)), .val (.ref w_INVALID_PARAMETERS)] [(.int (1902 : Int32))])) _
      refine XS.iloadN X18.here hx rfl (hb hby d1_24) rfl ?_
      show Steps p.tables e below (T18.setTop (mkF m 25 #[.val (.int (1902 : Int32)), .val (.ref h0.size), .val (.int (7 : Int32)), .val (.int (3 : Int32)), .val (.ref w_INVALID_PARAMETERS)] [(.int (1902 : Int32)), (.int (1902 : Int32))])) _
      refine XS.icmpNo X18.here hx rfl (hb hby d1_25) rfl (teq hc25_20).2 ?_
      show Steps p.tables e below (T18.setTop (mkF m 28 #[.val (.int (1902 : Int32)), .val (.ref h0.size), .val (.int (7 : Int32)), .val (.int (3 : Int32)), .val (.ref w_INVALID_PARAMETERS)] [])) _
      refine XS.aload X18.here hx rfl (hb hby d1_28) rfl rfl ?_
      exact k)
  obtain ⟨fs, hr, hrun, hended, hW, hsame⟩ := X18.leave (v := (some (.ref w_INVALID_PARAMETERS))) (fun h => by rw [Bd.returns] at h; cases h)
  refine ⟨_, _, k21 _ ?_, hrun, hended, _, _, rfl, ?_, ⟨_, rfl⟩, hW, hsame.mono (by decide) (by decide)⟩
  · exact retOut X18 hx Bd.returns rfl (Or.inr (Or.inr (Or.inr (Or.inr ⟨rfl, rfl, rfl⟩)))) (hb hby d1_30) hr
  · show Q1_INVALID_PARAMETERS Z wv cl w_SUCCESS w_PROCESSING w_RATE_LIMITED w_INVALID_PARAMETERS w_SERVICE_FAILURE w_DOWNLOAD_FAILED w_NO_PERMISSION h0 n0 _ T18.heap _
    rw [e18]
    exact ⟨rfl, N1, Ex1⟩
theorem ef_1_SERVICE_FAILURE (m : MethodId) (x0 : Int32) : entryFrame m #[(.int x0)] 5 = mkF m 0 #[.val (.int x0), .unset, .unset, .unset, .unset] [] := by first | (simp [entryFrame, mkF, argsToLocals, Value.category]; done) | rfl
def Q1_SERVICE_FAILURE (Z : State) (wv : Addr) (cl : Cell) (w_SUCCESS : Addr) (w_PROCESSING : Addr) (w_RATE_LIMITED : Addr) (w_INVALID_PARAMETERS : Addr) (w_SERVICE_FAILURE : Addr) (w_DOWNLOAD_FAILED : Addr) (w_NO_PERMISSION : Addr) (h0 : Heap) (n0 : Nat) (v : Option Value) (h : Heap) (L : List Loc) : Prop := v = some (.ref w_SERVICE_FAILURE) ∧ Fr n0 L ∧ Ext h0 h
set_option maxRecDepth 65536 in
set_option maxHeartbeats 40000000 in
theorem rm1_SERVICE_FAILURE (l : Launch) (Z : State) (a0 : Array Value) (hw : ∀ d ∈ tables_1, d.before a0 Z = true) (ws : List Jvm.Cond) (wv : Addr) (cl : Cell) (w_SUCCESS : Addr) (w_PROCESSING : Addr) (w_RATE_LIMITED : Addr) (w_INVALID_PARAMETERS : Addr) (w_SERVICE_FAILURE : Addr) (w_DOWNLOAD_FAILED : Addr) (w_NO_PERMISSION : Addr) (h0 : Heap) (n0 : Nat) (Z0 : n0 ≤ h0.size) (S_V : Sta Z h0 "com/example/mediawarden/mediawarden/task/Code" "$VALUES" "[Lcom/example/mediawarden/mediawarden/task/Code;" (.ref wv)) (Arv_ : Arr Z h0 wv cl (.object "com/example/mediawarden/mediawarden/task/Code")) (E_V : Exa Z h0 wv "[Lcom/example/mediawarden/mediawarden/task/Code;") (hsz : cl.slots.size = 7) (hat0 : cl.slots[0]? = some (.ref w_SUCCESS)) (hat1 : cl.slots[1]? = some (.ref w_PROCESSING)) (hat2 : cl.slots[2]? = some (.ref w_RATE_LIMITED)) (hat3 : cl.slots[3]? = some (.ref w_INVALID_PARAMETERS)) (hat4 : cl.slots[4]? = some (.ref w_SERVICE_FAILURE)) (hat5 : cl.slots[5]? = some (.ref w_DOWNLOAD_FAILED)) (hat6 : cl.slots[6]? = some (.ref w_NO_PERMISSION)) (F_number_w_SUCCESS : Fld Z h0 w_SUCCESS "com/example/mediawarden/mediawarden/task/Code" "number" "I" (.int (1100 : Int32))) (F_number_w_PROCESSING : Fld Z h0 w_PROCESSING "com/example/mediawarden/mediawarden/task/Code" "number" "I" (.int (1101 : Int32))) (F_number_w_RATE_LIMITED : Fld Z h0 w_RATE_LIMITED "com/example/mediawarden/mediawarden/task/Code" "number" "I" (.int (1901 : Int32))) (F_number_w_INVALID_PARAMETERS : Fld Z h0 w_INVALID_PARAMETERS "com/example/mediawarden/mediawarden/task/Code" "number" "I" (.int (1902 : Int32))) (F_number_w_SERVICE_FAILURE : Fld Z h0 w_SERVICE_FAILURE "com/example/mediawarden/mediawarden/task/Code" "number" "I" (.int (1903 : Int32))) (F_number_w_DOWNLOAD_FAILED : Fld Z h0 w_DOWNLOAD_FAILED "com/example/mediawarden/mediawarden/task/Code" "number" "I" (.int (1911 : Int32))) (F_number_w_NO_PERMISSION : Fld Z h0 w_NO_PERMISSION "com/example/mediawarden/mediawarden/task/Code" "number" "I" (.int (9101 : Int32))) :
    MetFree l (⟨"com/example/mediawarden/mediawarden/task/Code", "of", "(I)Lcom/example/mediawarden/mediawarden/task/Code;"⟩ : MethodName) (head1 (Jvm.Cond.code (⟨"com/example/mediawarden/mediawarden/task/Code", "of", "(I)Lcom/example/mediawarden/mediawarden/task/Code;"⟩ : MethodName) prog_61_method_4_code 5 (some (.object "com/example/mediawarden/mediawarden/task/Code")) :: ws) ({ frames := 2, cells := 1, slots := 7, locals := 25 } : Room)) (fun a U => a = #[(.int (1903 : Int32))] ∧ Z.Warmed39 U.vm ∧ U.heap = h0) (fun _ _ _ _ _ => True) (fun _ U o U' => ∃ v L, o = .returned v ∧ Q1_SERVICE_FAILURE Z wv cl w_SUCCESS w_PROCESSING w_RATE_LIMITED w_INVALID_PARAMETERS w_SERVICE_FAILURE w_DOWNLOAD_FAILED w_NO_PERMISSION h0 n0 v U'.heap L ∧ FrameEnd U o U' L ({ frames := 2, cells := 1, slots := 7, locals := 25 } : Room).cells ({ frames := 2, cells := 1, slots := 7, locals := 25 } : Room).slots) := by
  refine MetFree.of_bodySF (plainFor_of_name pn_0) hisR ?_
  intro p e s m args below meth c s₁ Bd hml0 hP hK
  obtain ⟨rfl, hZ, hh⟩ := hP
  have hx := Bd.exec
  have hby := Bd.bytes
  have hml : c.maxLocals = 5 := hml0
  have hown : s.vm.findClass "com/example/mediawarden/mediawarden/task/Code" = some m.cls := findClass_of_methodNamed Bd.named
  have hnm := (name_of_methodNamed Bd.named Bd.method).1
  have X0 : Stand p l e ({ frames := 2, cells := 1, slots := 7, locals := 25 } : Room) s m #[(.int (1903 : Int32))] below meth c s₁ [] 0 0 := Stand.of_body Bd
  have e0 : s₁.heap = h0 := by rw [← hh, Bd.state]; rfl
  have N0 := Fr.nil n0
  have k0 : ∀ t, Steps p.tables e below (s₁.setTop (mkF m 0 #[.val (.int (1903 : Int32)), .unset, .unset, .unset, .unset] [])) t → Steps p.tables e below (s₁.setTop (entryFrame m #[(.int (1903 : Int32))] 5)) t := fun t k => castTop (ef_1_SERVICE_FAILURE m (1903 : Int32)) k
  obtain ⟨_, _, ⟨T1, L1, kq1, n1⟩, -, X1, ⟨Lc1, hQ1, l1, y1, z1⟩, st1⟩ := Jvm.LawKit.callS X0 hx (y := (⟨"com/example/mediawarden/mediawarden/task/Code", "values", "()[Lcom/example/mediawarden/mediawarden/task/Code;"⟩ : MethodName)) hown (mvT hZ (hw _ (List.mem_of_getElem? (i := 7) rfl))) (mvT hZ (hw _ (List.mem_of_getElem? (i := 8) rfl))) (mvT hZ (hw _ (List.mem_of_getElem? (i := 2) rfl))) (mvT hZ (hw _ (List.mem_of_getElem? (i := 9) rfl))) (by decide) (backOf (W := 0) (rmV l Z a0 hw [] wv cl w_SUCCESS w_PROCESSING w_RATE_LIMITED w_INVALID_PARAMETERS w_SERVICE_FAILURE w_DOWNLOAD_FAILED w_NO_PERMISSION h0 n0 Z0 S_V Arv_ E_V hsz hat0 hat1 hat2 hat3 hat4 hat5 hat6) hZ (hw _ (List.mem_of_getElem? (i := 9) rfl)) (hw _ (List.mem_of_getElem? (i := 2) rfl)) (by decide) (by decide)) (g := (mkF m 0 #[.val (.int (1903 : Int32)), .unset, .unset, .unset, .unset] [])) rfl (by rw [hml]; rfl) (argsL := []) (rest := []) (lenOf pd_0 rfl) rfl (by show 2 * 0 + _ ≤ _; exact Nat.le_of_eq rfl) (hb hby d1_0) (fun _ _ => ⟨rfl, e0, (by decide : 0 + 1 ≤ _), (by decide : 0 + 7 ≤ _)⟩)
  dsimp only [Pt.U, Pt.locs, Pt.cells, Pt.slots] at X1 l1 y1 z1 st1 hQ1
  subst l1 y1 z1
  obtain ⟨rfl, N1q, Ex1, hcell1⟩ := hQ1
  have N1 := Fr.app N0 N1q
  have Zs1 : n0 ≤ T1.heap.size := Nat.le_trans Z0 Ex1.1
  have Arn : Arr Z T1.heap h0.size { cls := cl.cls, slots := cl.slots } (.object "com/example/mediawarden/mediawarden/task/Code") := ⟨hcell1, ⟨(fun k q => by cases q), Arv_.2.1.2⟩, (fun q => by cases q)⟩
  have hlen : (cl.slots.size).toInt32 = (7 : Int32) := by rw [hsz]; rfl
  have k2 : ∀ t, Steps p.tables e below (T1.setTop (mkF m 3 #[.val (.int (1903 : Int32)), .unset, .unset, .unset, .unset] [(.ref h0.size)])) t → Steps p.tables e below (s₁.setTop (entryFrame m #[(.int (1903 : Int32))] 5)) t := fun t k => k0 t (st1 _ k)
  have hc11 : (0 : Int32) < (7 : Int32) := by decide
  have k3 : ∀ t, Steps p.tables e below (T1.setTop (mkF m 21 #[.val (.int (1903 : Int32)), .val (.ref h0.size), .val (.int (7 : Int32)), .val (.int (0 : Int32)), .val (.ref w_SUCCESS)] [(.ref w_SUCCESS)])) t → Steps p.tables e below (s₁.setTop (entryFrame m #[(.int (1903 : Int32))] 5)) t := fun t k => k2 t (by
      show Steps p.tables e below (T1.setTop (mkF m 3 #[.val (.int (1903 : Int32)), .unset, .unset, .unset, .unset] [(.ref h0.size)])) _
      refine XS.astoreN X1.here hx rfl (hb hby d1_3) rfl rfl (l' := #[.val (.int (1903 : Int32)), .val (.ref h0.size), .unset, .unset, .unset]) rfl ?_
      show Steps p.tables e below (T1.setTop (mkF m 4 #[.val (.int (1903 : Int32)), .val (.ref h0.size), .unset, .unset, .unset] [])) _
      refine XS.aloadN X1.here hx rfl (hb hby d1_4) rfl rfl ?_
      show Steps p.tables e below (T1.setTop (mkF m 5 #[.val (.int (1903 : Int32)), .val (.ref h0.size), .unset, .unset, .unset] [(.ref h0.size)])) _
      refine X1.arraylength hx Arn.1 (State.isArrayOf_alike hZ.alike Arn.2.1) (g := (mkF m 5 #[.val (.int (1903 : Int32)), .val (.ref h0.size), .unset, .unset, .unset] [(.ref h0.size)])) rfl rfl (hb hby d1_5) _ ?_
      rw [hlen]
      show Steps p.tables e below (T1.setTop (mkF m 6 #[.val (.int (1903 : Int32)), .val (.ref h0.size), .unset, .unset, .unset] [(.int (7 : Int32))])) _
      refine XS.istoreN X1.here hx rfl (hb hby d1_6) rfl (l' := #[.val (.int (1903 : Int32)), .val (.ref h0.size), .val (.int (7 : Int32)), .unset, .unset]) rfl ?_
      show Steps p.tables e below (T1.setTop (mkF m 7 #[.val (.int (1903 : Int32)), .val (.ref h0.size), .val (.int (7 : Int32)), .unset, .unset] [])) _
      refine XS.iconst X1.here hx rfl (hb hby d1_7) ?_
      show Steps p.tables e below (T1.setTop (mkF m 8 #[.val (.int (1903 : Int32)), .val (.ref h0.size), .val (.int (7 : Int32)), .unset, .unset] [(.int (0 : Int32))])) _
      refine XS.istoreN X1.here hx rfl (hb hby d1_8) rfl (l' := #[.val (.int (1903 : Int32)), .val (.ref h0.size), .val (.int (7 : Int32)), .val (.int (0 : Int32)), .unset]) rfl ?_
      show Steps p.tables e below (T1.setTop (mkF m 9 #[.val (.int (1903 : Int32)), .val (.ref h0.size), .val (.int (7 : Int32)), .val (.int (0 : Int32)), .unset] [])) _
      refine XS.iloadN X1.here hx rfl (hb hby d1_9) rfl ?_
      show Steps p.tables e below (T1.setTop (mkF m 10 #[.val (.int (1903 : Int32)), .val (.ref h0.size), .val (.int (7 : Int32)), .val (.int (0 : Int32)), .unset] [(.int (0 : Int32))])) _
      refine XS.iloadN X1.here hx rfl (hb hby d1_10) rfl ?_
      show Steps p.tables e below (T1.setTop (mkF m 11 #[.val (.int (1903 : Int32)), .val (.ref h0.size), .val (.int (7 : Int32)), .val (.int (0 : Int32)), .unset] [(.int (7 : Int32)), (.int (0 : Int32))])) _
      refine XS.icmpNo X1.here hx rfl (hb hby d1_11) rfl (tlt hc11).2.1 ?_
      show Steps p.tables e below (T1.setTop (mkF m 14 #[.val (.int (1903 : Int32)), .val (.ref h0.size), .val (.int (7 : Int32)), .val (.int (0 : Int32)), .unset] [])) _
      refine XS.aloadN X1.here hx rfl (hb hby d1_14) rfl rfl ?_
      show Steps p.tables e below (T1.setTop (mkF m 15 #[.val (.int (1903 : Int32)), .val (.ref h0.size), .val (.int (7 : Int32)), .val (.int (0 : Int32)), .unset] [(.ref h0.size)])) _
      refine XS.iloadN X1.here hx rfl (hb hby d1_15) rfl ?_
      show Steps p.tables e below (T1.setTop (mkF m 16 #[.val (.int (1903 : Int32)), .val (.ref h0.size), .val (.int (7 : Int32)), .val (.int (0 : Int32)), .unset] [(.int (0 : Int32)), (.ref h0.size)])) _
      refine X1.aaload hx (j := (0 : Int32)) (v := .ref w_SUCCESS) Arn.1 (State.isArrayOf_alike hZ.alike Arn.2.1) rfl Arn.2.2 (fun q => q.elim (by decide) (fun q => by have q' : cl.slots.size ≤ 0 := q; omega)) hat0 (g := (mkF m 16 #[.val (.int (1903 : Int32)), .val (.ref h0.size), .val (.int (7 : Int32)), .val (.int (0 : Int32)), .unset] [(.int (0 : Int32)), (.ref h0.size)])) rfl rfl (hb hby d1_16) _ ?_
      show Steps p.tables e below (T1.setTop (mkF m 17 #[.val (.int (1903 : Int32)), .val (.ref h0.size), .val (.int (7 : Int32)), .val (.int (0 : Int32)), .unset] [(.ref w_SUCCESS)])) _
      refine XS.astore X1.here hx rfl (hb hby d1_17) rfl rfl (l' := #[.val (.int (1903 : Int32)), .val (.ref h0.size), .val (.int (7 : Int32)), .val (.int (0 : Int32)), .val (.ref w_SUCCESS)]) rfl ?_
      show Steps p.tables e below (T1.setTop (mkF m 19 #[.val (.int (1903 : Int32)), .val (.ref h0.size), .val (.int (7 : Int32)), .val (.int (0 : Int32)), .val (.ref w_SUCCESS)] [])) _
      refine XS.aload X1.here hx rfl (hb hby d1_19) rfl rfl ?_
      exact k)
  obtain ⟨T4, X4, e4, st4⟩ := getF X1 hx hZ hown (host := "") (Or.inl (hw _ (List.mem_of_getElem? (i := 28) rfl))) Via.refl rfl (F_number_w_SUCCESS.ext Ex1) (g := (mkF m 21 #[.val (.int (1903 : Int32)), .val (.ref h0.size), .val (.int (7 : Int32)), .val (.int (0 : Int32)), .val (.ref w_SUCCESS)] [(.ref w_SUCCESS)])) rfl rfl (hb hby d1_21)
  have k5 : ∀ t, Steps p.tables e below (T4.setTop (mkF m 24 #[.val (.int (1903 : Int32)), .val (.ref h0.size), .val (.int (7 : Int32)), .val (.int (0 : Int32)), .val (.ref w_SUCCESS)] [(.int (1100 : Int32))])) t → Steps p.tables e below (s₁.setTop (entryFrame m #[(.int (1903 : Int32))] 5)) t := fun t k => k3 t (st4 _ k)
  have hc25 : ¬ ((1100 : Int32) = (1903 : Int32)) := by decide
  have hc11_6 : (1 : Int32) < (7 : Int32) := by decide
  have k7 : ∀ t, Steps p.tables e below (T4.setTop (mkF m 21 #[.val (.int (1903 : Int32)), .val (.ref h0.size), .val (.int (7 : Int32)), .val (.int (1 : Int32)), .val (.ref w_PROCESSING)] [(.ref w_PROCESSING)])) t → Steps p.tables e below (s₁.setTop (entryFrame m #[(.int (1903 : Int32))] 5)) t := fun t k => k5 t (by
      show Steps p.tables e below (T4.setTop (mkF m 24 #[.val (.int (1903 : Int32)), .val (.ref h0.size), .val (.int (7 : Int32)), .val (.int (0 : Int32)), .val (.ref w_SUCCESS)] [(.int (1100 : Int32))])) _
      refine XS.iloadN X4.here hx rfl (hb hby d1_24) rfl ?_
      show Steps p.tables e below (T4.setTop (mkF m 25 #[.val (.int (1903 : Int32)), .val (.ref h0.size), .val (.int (7 : Int32)), .val (.int (0 : Int32)), .val (.ref w_SUCCESS)] [(.int (1903 : Int32)), (.int (1100 : Int32))])) _
      refine XS.icmpYes X4.here hx rfl (pc0 := 25) (pc' := 31) rfl (hb hby d1_25) rfl (feq hc25).2 (by decide) (by decide) ?_
      show Steps p.tables e below (T4.setTop (mkF m 31 #[.val (.int (1903 : Int32)), .val (.ref h0.size), .val (.int (7 : Int32)), .val (.int (0 : Int32)), .val (.ref w_SUCCESS)] [])) _
      refine XS.iinc X4.here hx rfl (hb hby d1_31) rfl (l' := #[.val (.int (1903 : Int32)), .val (.ref h0.size), .val (.int (7 : Int32)), .val (.int (1 : Int32)), .val (.ref w_SUCCESS)]) rfl ?_
      show Steps p.tables e below (T4.setTop (mkF m 34 #[.val (.int (1903 : Int32)), .val (.ref h0.size), .val (.int (7 : Int32)), .val (.int (1 : Int32)), .val (.ref w_SUCCESS)] [])) _
      refine XS.goto X4.here hx rfl (pc0 := 34) (pc' := 9) rfl (hb hby d1_34) (by decide) (by decide) ?_
      show Steps p.tables e below (T4.setTop (mkF m 9 #[.val (.int (1903 : Int32)), .val (.ref h0.size), .val (.int (7 : Int32)), .val (.int (1 : Int32)), .val (.ref w_SUCCESS)] [])) _
      refine XS.iloadN X4.here hx rfl (hb hby d1_9) rfl ?_
      show Steps p.tables e below (T4.setTop (mkF m 10 #[.val (.int (1903 : Int32)), .val (.ref h0.size), .val (.int (7 : Int32)), .val (.int (1 : Int32)), .val (.ref w_SUCCESS)] [(.int (1 : Int32))])) _
      refine XS.iloadN X4.here hx rfl (hb hby d1_10) rfl ?_
      show Steps p.tables e below (T4.setTop (mkF m 11 #[.val (.int (1903 : Int32)), .val (.ref h0.size), .val (.int (7 : Int32)), .val (.int (1 : Int32)), .val (.ref w_SUCCESS)] [(.int (7 : Int32)), (.int (1 : Int32))])) _
      refine XS.icmpNo X4.here hx rfl (hb hby d1_11) rfl (tlt hc11_6).2.1 ?_
      show Steps p.tables e below (T4.setTop (mkF m 14 #[.val (.int (1903 : Int32)), .val (.ref h0.size), .val (.int (7 : Int32)), .val (.int (1 : Int32)), .val (.ref w_SUCCESS)] [])) _
      refine XS.aloadN X4.here hx rfl (hb hby d1_14) rfl rfl ?_
      show Steps p.tables e below (T4.setTop (mkF m 15 #[.val (.int (1903 : Int32)), .val (.ref h0.size), .val (.int (7 : Int32)), .val (.int (1 : Int32)), .val (.ref w_SUCCESS)] [(.ref h0.size)])) _
      refine XS.iloadN X4.here hx rfl (hb hby d1_15) rfl ?_
      show Steps p.tables e below (T4.setTop (mkF m 16 #[.val (.int (1903 : Int32)), .val (.ref h0.size), .val (.int (7 : Int32)), .val (.int (1 : Int32)), .val (.ref w_SUCCESS)] [(.int (1 : Int32)), (.ref h0.size)])) _
      refine X4.aaload hx (j := (1 : Int32)) (v := .ref w_PROCESSING) (by rw [e4]; exact Arn.1) (State.isArrayOf_alike hZ.alike Arn.2.1) rfl Arn.2.2 (fun q => q.elim (by decide) (fun q => by have q' : cl.slots.size ≤ 1 := q; omega)) hat1 (g := (mkF m 16 #[.val (.int (1903 : Int32)), .val (.ref h0.size), .val (.int (7 : Int32)), .val (.int (1 : Int32)), .val (.ref w_SUCCESS)] [(.int (1 : Int32)), (.ref h0.size)])) rfl rfl (hb hby d1_16) _ ?_
      show Steps p.tables e below (T4.setTop (mkF m 17 #[.val (.int (1903 : Int32)), .val (.ref h0.size), .val (.int (7 : Int32)), .val (.int (1 : Int32)), .val (.ref w_SUCCESS)] [(.ref w_PROCESSING)])) _
      refine XS.astore X4.here hx rfl (hb hby d1_17) rfl rfl (l' := #[.val (.int (1903 : Int32)), .val (.ref h0.size), .val (.int (7 : Int32)), .val (.int (1 : Int32)), .val (.ref w_PROCESSING)]) rfl ?_
      show Steps p.tables e below (T4.setTop (mkF m 19 #[.val (.int (1903 : Int32)), .val (.ref h0.size), .val (.int (7 : Int32)), .val (.int (1 : Int32)), .val (.ref w_PROCESSING)] [])) _
      refine XS.aload X4.here hx rfl (hb hby d1_19) rfl rfl ?_
      exact k)
  obtain ⟨T8, X8, e8, st8⟩ := getF X4 hx hZ hown (host := "") (Or.inl (hw _ (List.mem_of_getElem? (i := 28) rfl))) Via.refl e4 (F_number_w_PROCESSING.ext Ex1) (g := (mkF m 21 #[.val (.int (1903 : Int32)), .val (.ref h0.size), .val (.int (7 : Int32)), .val (.int (1 : Int32)), .val (.ref w_PROCESSING)] [(.ref w_PROCESSING)])) rfl rfl (hb hby d1_21)
  have k9 : ∀ t, Steps p.tables e below (T8.setTop (mkF m 24 #[.val (.int (1903 : Int32)), .val (.ref h0.size), .val (.int (7 : Int32)), .val (.int (1 : Int32)), .val (.ref w_PROCESSING)] [(.int (1101 : Int32))])) t → Steps p.tables e below (s₁.setTop (entryFrame m #[(.int (1903 : Int32))] 5)) t := fun t k => k7 t (st8 _ k)
  have hc25_10 : ¬ ((1101 : Int32) = (1903 : Int32)) := by decide
  have hc11_11 : (2 : Int32) < (7 : Int32) := by decide
  have k12 : ∀ t, Steps p.tables e below (T8.setTop (mkF m 21 #[.val (.int (1903 : Int32)), .val (.ref h0.size), .val (.int (7 : Int32)), .val (.int (2 : Int32)), .val (.ref w_RATE_LIMITED)] [(.ref w_RATE_LIMITED)])) t → Steps p.tables e below (s₁.setTop (entryFrame m #[(.int (1903 : Int32))] 5)) t := fun t k => k9 t (by
      show Steps p.tables e below (T8.setTop (mkF m 24 #[.val (.int (1903 : Int32)), .val (.ref h0.size), .val (.int (7 : Int32)), .val (.int (1 : Int32)), .val (.ref w_PROCESSING)] [(.int (1101 : Int32))])) _
      refine XS.iloadN X8.here hx rfl (hb hby d1_24) rfl ?_
      show Steps p.tables e below (T8.setTop (mkF m 25 #[.val (.int (1903 : Int32)), .val (.ref h0.size), .val (.int (7 : Int32)), .val (.int (1 : Int32)), .val (.ref w_PROCESSING)] [(.int (1903 : Int32)), (.int (1101 : Int32))])) _
      refine XS.icmpYes X8.here hx rfl (pc0 := 25) (pc' := 31) rfl (hb hby d1_25) rfl (feq hc25_10).2 (by decide) (by decide) ?_
      show Steps p.tables e below (T8.setTop (mkF m 31 #[.val (.int (1903 : Int32)), .val (.ref h0.size), .val (.int (7 : Int32)), .val (.int (1 : Int32)), .val (.ref w_PROCESSING)] [])) _
      refine XS.iinc X8.here hx rfl (hb hby d1_31) rfl (l' := #[.val (.int (1903 : Int32)), .val (.ref h0.size), .val (.int (7 : Int32)), .val (.int (2 : Int32)), .val (.ref w_PROCESSING)]) rfl ?_
      show Steps p.tables e below (T8.setTop (mkF m 34 #[.val (.int (1903 : Int32)), .val (.ref h0.size), .val (.int (7 : Int32)), .val (.int (2 : Int32)), .val (.ref w_PROCESSING)] [])) _
      refine XS.goto X8.here hx rfl (pc0 := 34) (pc' := 9) rfl (hb hby d1_34) (by decide) (by decide) ?_
      show Steps p.tables e below (T8.setTop (mkF m 9 #[.val (.int (1903 : Int32)), .val (.ref h0.size), .val (.int (7 : Int32)), .val (.int (2 : Int32)), .val (.ref w_PROCESSING)] [])) _
      refine XS.iloadN X8.here hx rfl (hb hby d1_9) rfl ?_
      show Steps p.tables e below (T8.setTop (mkF m 10 #[.val (.int (1903 : Int32)), .val (.ref h0.size), .val (.int (7 : Int32)), .val (.int (2 : Int32)), .val (.ref w_PROCESSING)] [(.int (2 : Int32))])) _
      refine XS.iloadN X8.here hx rfl (hb hby d1_10) rfl ?_
      show Steps p.tables e below (T8.setTop (mkF m 11 #[.val (.int (1903 : Int32)), .val (.ref h0.size), .val (.int (7 : Int32)), .val (.int (2 : Int32)), .val (.ref w_PROCESSING)] [(.int (7 : Int32)), (.int (2 : Int32))])) _
      refine XS.icmpNo X8.here hx rfl (hb hby d1_11) rfl (tlt hc11_11).2.1 ?_
      show Steps p.tables e below (T8.setTop (mkF m 14 #[.val (.int (1903 : Int32)), .val (.ref h0.size), .val (.int (7 : Int32)), .val (.int (2 : Int32)), .val (.ref w_PROCESSING)] [])) _
      refine XS.aloadN X8.here hx rfl (hb hby d1_14) rfl rfl ?_
      show Steps p.tables e below (T8.setTop (mkF m 15 #[.val (.int (1903 : Int32)), .val (.ref h0.size), .val (.int (7 : Int32)), .val (.int (2 : Int32)), .val (.ref w_PROCESSING)] [(.ref h0.size)])) _
      refine XS.iloadN X8.here hx rfl (hb hby d1_15) rfl ?_
      show Steps p.tables e below (T8.setTop (mkF m 16 #[.val (.int (1903 : Int32)), .val (.ref h0.size), .val (.int (7 : Int32)), .val (.int (2 : Int32)), .val (.ref w_PROCESSING)] [(.int (2 : Int32)), (.ref h0.size)])) _
      refine X8.aaload hx (j := (2 : Int32)) (v := .ref w_RATE_LIMITED) (by rw [e8]; exact Arn.1) (State.isArrayOf_alike hZ.alike Arn.2.1) rfl Arn.2.2 (fun q => q.elim (by decide) (fun q => by have q' : cl.slots.size ≤ 2 := q; omega)) hat2 (g := (mkF m 16 #[.val (.int (1903 : Int32)), .val (.ref h0.size), .val (.int (7 : Int32)), .val (.int (2 : Int32)), .val (.ref w_PROCESSING)] [(.int (2 : Int32)), (.ref h0.size)])) rfl rfl (hb hby d1_16) _ ?_
      show Steps p.tables e below (T8.setTop (mkF m 17 #[.val (.int (1903 : Int32)), .val (.ref h0.size), .val (.int (7 : Int32)), .val (.int (2 : Int32)), .val (.ref w_PROCESSING)] [(.ref w_RATE_LIMITED)])) _
      refine XS.astore X8.here hx rfl (hb hby d1_17) rfl rfl (l' := #[.val (.int (1903 : Int32)), .val (.ref h0.size), .val (.int (7 : Int32)), .val (.int (2 : Int32)), .val (.ref w_RATE_LIMITED)]) rfl ?_
      show Steps p.tables e below (T8.setTop (mkF m 19 #[.val (.int (1903 : Int32)), .val (.ref h0.size), .val (.int (7 : Int32)), .val (.int (2 : Int32)), .val (.ref w_RATE_LIMITED)] [])) _
      refine XS.aload X8.here hx rfl (hb hby d1_19) rfl rfl ?_
      exact k)
  obtain ⟨T13, X13, e13, st13⟩ := getF X8 hx hZ hown (host := "") (Or.inl (hw _ (List.mem_of_getElem? (i := 28) rfl))) Via.refl e8 (F_number_w_RATE_LIMITED.ext Ex1) (g := (mkF m 21 #[.val (.int (1903 : Int32)), .val (.ref h0.size), .val (.int (7 : Int32)), .val (.int (2 : Int32)), .val (.ref w_RATE_LIMITED)] [(.ref w_RATE_LIMITED)])) rfl rfl (hb hby d1_21)
  have k14 : ∀ t, Steps p.tables e below (T13.setTop (mkF m 24 #[.val (.int (1903 : Int32)), .val (.ref h0.size), .val (.int (7 : Int32)), .val (.int (2 : Int32)), .val (.ref w_RATE_LIMITED)] [(.int (1901 : Int32))])) t → Steps p.tables e below (s₁.setTop (entryFrame m #[(.int (1903 : Int32))] 5)) t := fun t k => k12 t (st13 _ k)
  have hc25_15 : ¬ ((1901 : Int32) = (1903 : Int32)) := by decide
  have hc11_16 : (3 : Int32) < (7 : Int32) := by decide
  have k17 : ∀ t, Steps p.tables e below (T13.setTop (mkF m 21 #[.val (.int (1903 : Int32)), .val (.ref h0.size), .val (.int (7 : Int32)), .val (.int (3 : Int32)), .val (.ref w_INVALID_PARAMETERS)] [(.ref w_INVALID_PARAMETERS)])) t → Steps p.tables e below (s₁.setTop (entryFrame m #[(.int (1903 : Int32))] 5)) t := fun t k => k14 t (by
      show Steps p.tables e below (T13.setTop (mkF m 24 #[.val (.int (1903 : Int32)), .val (.ref h0.size), .val (.int (7 : Int32)), .val (.int (2 : Int32)), .val (.ref w_RATE_LIMITED)] [(.int (1901 : Int32))])) _
      refine XS.iloadN X13.here hx rfl (hb hby d1_24) rfl ?_
      show Steps p.tables e below (T13.setTop (mkF m 25 #[.val (.int (1903 : Int32)), .val (.ref h0.size), .val (.int (7 : Int32)), .val (.int (2 : Int32)), .val (.ref w_RATE_LIMITED)] [(.int (1903 : Int32)), (.int (1901 : Int32))])) _
      refine XS.icmpYes X13.here hx rfl (pc0 := 25) (pc' := 31) rfl (hb hby d1_25) rfl (feq hc25_15).2 (by decide) (by decide) ?_
      show Steps p.tables e below (T13.setTop (mkF m 31 #[.val (.int (1903 : Int32)), .val (.ref h0.size), .val (.int (7 : Int32)), .val (.int (2 : Int32)), .val (.ref w_RATE_LIMITED)] [])) _
      refine XS.iinc X13.here hx rfl (hb hby d1_31) rfl (l' := #[.val (.int (1903 : Int32)), .val (.ref h0.size), .val (.int (7 : Int32)), .val (.int (3 : Int32)), .val (.ref w_RATE_LIMITED)]) rfl ?_
      show Steps p.tables e below (T13.setTop (mkF m 34 #[.val (.int (1903 : Int32)), .val (.ref h0.size), .val (.int (7 : Int32)), .val (.int (3 : Int32)), .val (.ref w_RATE_LIMITED)] [])) _
      refine XS.goto X13.here hx rfl (pc0 := 34) (pc' := 9) rfl (hb hby d1_34) (by decide) (by decide) ?_
      show Steps p.tables e below (T13.setTop (mkF m 9 #[.val (.int (1903 : Int32)), .val (.ref h0.size), .val (.int (7 : Int32)), .val (.int (3 : Int32)), .val (.ref w_RATE_LIMITED)] [])) _
      refine XS.iloadN X13.here hx rfl (hb hby d1_9) rfl ?_
      show Steps p.tables e below (T13.setTop (mkF m 10 #[.val (.int (1903 : Int32)), .val (.ref h0.size), .val (.int (7 : Int32)), .val (.int (3 : Int32)), .val (.ref w_RATE_LIMITED)] [(.int (3 : Int32))])) _
      refine XS.iloadN X13.here hx rfl (hb hby d1_10) rfl ?_
      show Steps p.tables e below (T13.setTop (mkF m 11 #[.val (.int (1903 : Int32)), .val (.ref h0.size), .val (.int (7 : Int32)), .val (.int (3 : Int32)), .val (.ref w_RATE_LIMITED)] [(.int (7 : Int32)), (.int (3 : Int32))])) _
      refine XS.icmpNo X13.here hx rfl (hb hby d1_11) rfl (tlt hc11_16).2.1 ?_
      show Steps p.tables e below (T13.setTop (mkF m 14 #[.val (.int (1903 : Int32)), .val (.ref h0.size), .val (.int (7 : Int32)), .val (.int (3 : Int32)), .val (.ref w_RATE_LIMITED)] [])) _
      refine XS.aloadN X13.here hx rfl (hb hby d1_14) rfl rfl ?_
      show Steps p.tables e below (T13.setTop (mkF m 15 #[.val (.int (1903 : Int32)), .val (.ref h0.size), .val (.int (7 : Int32)), .val (.int (3 : Int32)), .val (.ref w_RATE_LIMITED)] [(.ref h0.size)])) _
      refine XS.iloadN X13.here hx rfl (hb hby d1_15) rfl ?_
      show Steps p.tables e below (T13.setTop (mkF m 16 #[.val (.int (1903 : Int32)), .val (.ref h0.size), .val (.int (7 : Int32)), .val (.int (3 : Int32)), .val (.ref w_RATE_LIMITED)] [(.int (3 : Int32)), (.ref h0.size)])) _
      refine X13.aaload hx (j := (3 : Int32)) (v := .ref w_INVALID_PARAMETERS) (by rw [e13]; exact Arn.1) (State.isArrayOf_alike hZ.alike Arn.2.1) rfl Arn.2.2 (fun q => q.elim (by decide) (fun q => by have q' : cl.slots.size ≤ 3 := q; omega)) hat3 (g := (mkF m 16 #[.val (.int (1903 : Int32)), .val (.ref h0.size), .val (.int (7 : Int32)), .val (.int (3 : Int32)), .val (.ref w_RATE_LIMITED)] [(.int (3 : Int32)), (.ref h0.size)])) rfl rfl (hb hby d1_16) _ ?_
      show Steps p.tables e below (T13.setTop (mkF m 17 #[.val (.int (1903 : Int32)), .val (.ref h0.size), .val (.int (7 : Int32)), .val (.int (3 : Int32)), .val (.ref w_RATE_LIMITED)] [(.ref w_INVALID_PARAMETERS)])) _
      refine XS.astore X13.here hx rfl (hb hby d1_17) rfl rfl (l' := #[.val (.int (1903 : Int32)), .val (.ref h0.size), .val (.int (7 : Int32)), .val (.int (3 : Int32)), .val (.ref w_INVALID_PARAMETERS)]) rfl ?_
      show Steps p.tables e below (T13.setTop (mkF m 19 #[.val (.int (1903 : Int32)), .val (.ref h0.size), .val (.int (7 : Int32)), .val (.int (3 : Int32)), .val (.ref w_INVALID_PARAMETERS)] [])) _
      refine XS.aload X13.here hx rfl (hb hby d1_19) rfl rfl ?_
      exact k)
  obtain ⟨T18, X18, e18, st18⟩ := getF X13 hx hZ hown (host := "") (Or.inl (hw _ (List.mem_of_getElem? (i := 28) rfl))) Via.refl e13 (F_number_w_INVALID_PARAMETERS.ext Ex1) (g := (mkF m 21 #[.val (.int (1903 : Int32)), .val (.ref h0.size), .val (.int (7 : Int32)), .val (.int (3 : Int32)), .val (.ref w_INVALID_PARAMETERS)] [(.ref w_INVALID_PARAMETERS)])) rfl rfl (hb hby d1_21)
  have k19 : ∀ t, Steps p.tables e below (T18.setTop (mkF m 24 #[.val (.int (1903 : Int32)), .val (.ref h0.size), .val (.int (7 : Int32)), .val (.int (3 : Int32)), .val (.ref w_INVALID_PARAMETERS)] [(.int (1902 : Int32))])) t → Steps p.tables e below (s₁.setTop (entryFrame m #[(.int (1903 : Int32))] 5)) t := fun t k => k17 t (st18 _ k)
  have hc25_20 : ¬ ((1902 : Int32) = (1903 : Int32)) := by decide
  have hc11_21 : (4 : Int32) < (7 : Int32) := by decide
  have k22 : ∀ t, Steps p.tables e below (T18.setTop (mkF m 21 #[.val (.int (1903 : Int32)), .val (.ref h0.size), .val (.int (7 : Int32)), .val (.int (4 : Int32)), .val (.ref w_SERVICE_FAILURE)] [(.ref w_SERVICE_FAILURE)])) t → Steps p.tables e below (s₁.setTop (entryFrame m #[(.int (1903 : Int32))] 5)) t := fun t k => k19 t (by
      show Steps p.tables e below (T18.setTop (mkF m 24 #[.val (.int (1903 : Int32)), .val (.ref h0.size), .val (.int (7 : Int32)), .val (.int (3 : Int32)), .val (.ref w_INVALID_PARAMETERS)] [(.int (1902 : Int32))])) _
      refine XS.iloadN X18.here hx rfl (hb hby d1_24) rfl ?_
      show Steps p.tables e below (T18.setTop (mkF m 25 #[.val (.int (1903 : Int32)), .val (.ref h0.size), .val (.int (7 : Int32)), .val (.int (3 : Int32)), .val (.ref w_INVALID_PARAMETERS)] [(.int (1903 : Int32)), (.int (1902 : Int32))])) _
      refine XS.icmpYes X18.here hx rfl (pc0 := 25) (pc' := 31) rfl (hb hby d1_25) rfl (feq hc25_20).2 (by decide) (by decide) ?_
      show Steps p.tables e below (T18.setTop (mkF m 31 #[.val (.int (1903 : Int32)), .val (.ref h0.size), .val (.int (7 : Int32)), .val (.int (3 : Int32)), .val (.ref w_INVALID_PARAMETERS)] [])) _
      refine XS.iinc X18.here hx rfl (hb hby d1_31) rfl (l' := #[.val (.int (1903 : Int32)), .val (.ref h0.size), .val (.int (7 : Int32)), .val (.int (4 : Int32)), .val (.ref w_INVALID_PARAMETERS)]) rfl ?_
      show Steps p.tables e below (T18.setTop (mkF m 34 #[.val (.int (1903 : Int32)), .val (.ref h0.size), .val (.int (7 : Int32)), .val (.int (4 : Int32)), .val (.ref w_INVALID_PARAMETERS)] [])) _
      refine XS.goto X18.here hx rfl (pc0 := 34) (pc' := 9) rfl (hb hby d1_34) (by decide) (by decide) ?_
      show Steps p.tables e below (T18.setTop (mkF m 9 #[.val (.int (1903 : Int32)), .val (.ref h0.size), .val (.int (7 : Int32)), .val (.int (4 : Int32)), .val (.ref w_INVALID_PARAMETERS)] [])) _
      refine XS.iloadN X18.here hx rfl (hb hby d1_9) rfl ?_
      show Steps p.tables e below (T18.setTop (mkF m 10 #[.val (.int (1903 : Int32)), .val (.ref h0.size), .val (.int (7 : Int32)), .val (.int (4 : Int32)), .val (.ref w_INVALID_PARAMETERS)] [(.int (4 : Int32))])) _
      refine XS.iloadN X18.here hx rfl (hb hby d1_10) rfl ?_
      show Steps p.tables e below (T18.setTop (mkF m 11 #[.val (.int (1903 : Int32)), .val (.ref h0.size), .val (.int (7 : Int32)), .val (.int (4 : Int32)), .val (.ref w_INVALID_PARAMETERS)] [(.int (7 : Int32)), (.int (4 : Int32))])) _
      refine XS.icmpNo X18.here hx rfl (hb hby d1_11) rfl (tlt hc11_21).2.1 ?_
      show Steps p.tables e below (T18.setTop (mkF m 14 #[.val (.int (1903 : Int32)), .val (.ref h0.size), .val (.int (7 : Int32)), .val (.int (4 : Int32)), .val (.ref w_INVALID_PARAMETERS)] [])) _
      refine XS.aloadN X18.here hx rfl (hb hby d1_14) rfl rfl ?_
      show Steps p.tables e below (T18.setTop (mkF m 15 #[.val (.int (1903 : Int32)), .val (.ref h0.size), .val (.int (7 : Int32)), .val (.int (4 : Int32)), .val (.ref w_INVALID_PARAMETERS)] [(.ref h0.size)])) _
      refine XS.iloadN X18.here hx rfl (hb hby d1_15) rfl ?_
      show Steps p.tables e below (T18.setTop (mkF m 16 #[.val (.int (1903 : Int32)), .val (.ref h0.size), .val (.int (7 : Int32)), .val (.int (4 : Int32)), .val (.ref w_INVALID_PARAMETERS)] [(.int (4 : Int32)), (.ref h0.size)])) _
      refine X18.aaload hx (j := (4 : Int32)) (v := .ref w_SERVICE_FAILURE) (by rw [e18]; exact Arn.1) (State.isArrayOf_alike hZ.alike Arn.2.1) rfl Arn.2.2 (fun q => q.elim (by decide) (fun q => by have q' : cl.slots.size ≤ 4 := q; omega)) hat4 (g := (mkF m 16 #[.val (.int (1903 : Int32)), .val (.ref h0.size), .val (.int (7 : Int32)), .val (.int (4 : Int32)), .val (.ref w_INVALID_PARAMETERS)] [(.int (4 : Int32)), (.ref h0.size)])) rfl rfl (hb hby d1_16) _ ?_
      show Steps p.tables e below (T18.setTop (mkF m 17 #[.val (.int (1903 : Int32)), .val (.ref h0.size), .val (.int (7 : Int32)), .val (.int (4 : Int32)), .val (.ref w_INVALID_PARAMETERS)] [(.ref w_SERVICE_FAILURE)])) _
      refine XS.astore X18.here hx rfl (hb hby d1_17) rfl rfl (l' := #[.val (.int (1903 : Int32)), .val (.ref h0.size), .val (.int (7 : Int32)), .val (.int (4 : Int32)), .val (.ref w_SERVICE_FAILURE)]) rfl ?_
      show Steps p.tables e below (T18.setTop (mkF m 19 #[.val (.int (1903 : Int32)), .val (.ref h0.size), .val (.int (7 : Int32)), .val (.int (4 : Int32)), .val (.ref w_SERVICE_FAILURE)] [])) _
      refine XS.aload X18.here hx rfl (hb hby d1_19) rfl rfl ?_
      exact k)
  obtain ⟨T23, X23, e23, st23⟩ := getF X18 hx hZ hown (host := "") (Or.inl (hw _ (List.mem_of_getElem? (i := 28) rfl))) Via.refl e18 (F_number_w_SERVICE_FAILURE.ext Ex1) (g := (mkF m 21 #[.val (.int (1903 : Int32)), .val (.ref h0.size), .val (.int (7 : Int32)), .val (.int (4 : Int32)), .val (.ref w_SERVICE_FAILURE)] [(.ref w_SERVICE_FAILURE)])) rfl rfl (hb hby d1_21)
  have k24 : ∀ t, Steps p.tables e below (T23.setTop (mkF m 24 #[.val (.int (1903 : Int32)), .val (.ref h0.size), .val (.int (7 : Int32)), .val (.int (4 : Int32)), .val (.ref w_SERVICE_FAILURE)] [(.int (1903 : Int32))])) t → Steps p.tables e below (s₁.setTop (entryFrame m #[(.int (1903 : Int32))] 5)) t := fun t k => k22 t (st23 _ k)
  have hc25_25 : (1903 : Int32) = (1903 : Int32) := by decide
  have k26 : ∀ t, Steps p.tables e below (T23.setTop (mkF m 30 #[.val (.int (1903 : Int32)), .val (.ref h0.size), .val (.int (7 : Int32)), .val (.int (4 : Int32)), .val (.ref w_SERVICE_FAILURE)] [(.ref w_SERVICE_FAILURE)])) t → Steps p.tables e below (s₁.setTop (entryFrame m #[(.int (1903 : Int32))] 5)) t := fun t k => k24 t (by
      show Steps p.tables e below (T23.setTop (mkF m 24 #[.val (.int (1903 : Int32)), .val (.ref h0.size), .val (.int (7 : Int32)), .val (.int (4 : Int32)), .val (.ref w_SERVICE_FAILURE)] [(.int (1903 : Int32))])) _
      refine XS.iloadN X23.here hx rfl (hb hby d1_24) rfl ?_
      show Steps p.tables e below (T23.setTop (mkF m 25 #[.val (.int (1903 : Int32)), .val (.ref h0.size), .val (.int (7 : Int32)), .val (.int (4 : Int32)), .val (.ref w_SERVICE_FAILURE)] [(.int (1903 : Int32)), (.int (1903 : Int32))])) _
      refine XS.icmpNo X23.here hx rfl (hb hby d1_25) rfl (teq hc25_25).2 ?_
      show Steps p.tables e below (T23.setTop (mkF m 28 #[.val (.int (1903 : Int32)), .val (.ref h0.size), .val (.int (7 : Int32)), .val (.int (4 : Int32)), .val (.ref w_SERVICE_FAILURE)] [])) _
      refine XS.aload X23.here hx rfl (hb hby d1_28) rfl rfl ?_
      exact k)
  obtain ⟨fs, hr, hrun, hended, hW, hsame⟩ := X23.leave (v := (some (.ref w_SERVICE_FAILURE))) (fun h => by rw [Bd.returns] at h; cases h)
  refine ⟨_, _, k26 _ ?_, hrun, hended, _, _, rfl, ?_, ⟨_, rfl⟩, hW, hsame.mono (by decide) (by decide)⟩
  · exact retOut X23 hx Bd.returns rfl (Or.inr (Or.inr (Or.inr (Or.inr ⟨rfl, rfl, rfl⟩)))) (hb hby d1_30) hr
  · show Q1_SERVICE_FAILURE Z wv cl w_SUCCESS w_PROCESSING w_RATE_LIMITED w_INVALID_PARAMETERS w_SERVICE_FAILURE w_DOWNLOAD_FAILED w_NO_PERMISSION h0 n0 _ T23.heap _
    rw [e23]
    exact ⟨rfl, N1, Ex1⟩
theorem ef_1_DOWNLOAD_FAILED (m : MethodId) (x0 : Int32) : entryFrame m #[(.int x0)] 5 = mkF m 0 #[.val (.int x0), .unset, .unset, .unset, .unset] [] := by first | (simp [entryFrame, mkF, argsToLocals, Value.category]; done) | rfl
def Q1_DOWNLOAD_FAILED (Z : State) (wv : Addr) (cl : Cell) (w_SUCCESS : Addr) (w_PROCESSING : Addr) (w_RATE_LIMITED : Addr) (w_INVALID_PARAMETERS : Addr) (w_SERVICE_FAILURE : Addr) (w_DOWNLOAD_FAILED : Addr) (w_NO_PERMISSION : Addr) (h0 : Heap) (n0 : Nat) (v : Option Value) (h : Heap) (L : List Loc) : Prop := v = some (.ref w_DOWNLOAD_FAILED) ∧ Fr n0 L ∧ Ext h0 h
set_option maxRecDepth 65536 in
set_option maxHeartbeats 40000000 in
theorem rm1_DOWNLOAD_FAILED (l : Launch) (Z : State) (a0 : Array Value) (hw : ∀ d ∈ tables_1, d.before a0 Z = true) (ws : List Jvm.Cond) (wv : Addr) (cl : Cell) (w_SUCCESS : Addr) (w_PROCESSING : Addr) (w_RATE_LIMITED : Addr) (w_INVALID_PARAMETERS : Addr) (w_SERVICE_FAILURE : Addr) (w_DOWNLOAD_FAILED : Addr) (w_NO_PERMISSION : Addr) (h0 : Heap) (n0 : Nat) (Z0 : n0 ≤ h0.size) (S_V : Sta Z h0 "com/example/mediawarden/mediawarden/task/Code" "$VALUES" "[Lcom/example/mediawarden/mediawarden/task/Code;" (.ref wv)) (Arv_ : Arr Z h0 wv cl (.object "com/example/mediawarden/mediawarden/task/Code")) (E_V : Exa Z h0 wv "[Lcom/example/mediawarden/mediawarden/task/Code;") (hsz : cl.slots.size = 7) (hat0 : cl.slots[0]? = some (.ref w_SUCCESS)) (hat1 : cl.slots[1]? = some (.ref w_PROCESSING)) (hat2 : cl.slots[2]? = some (.ref w_RATE_LIMITED)) (hat3 : cl.slots[3]? = some (.ref w_INVALID_PARAMETERS)) (hat4 : cl.slots[4]? = some (.ref w_SERVICE_FAILURE)) (hat5 : cl.slots[5]? = some (.ref w_DOWNLOAD_FAILED)) (hat6 : cl.slots[6]? = some (.ref w_NO_PERMISSION)) (F_number_w_SUCCESS : Fld Z h0 w_SUCCESS "com/example/mediawarden/mediawarden/task/Code" "number" "I" (.int (1100 : Int32))) (F_number_w_PROCESSING : Fld Z h0 w_PROCESSING "com/example/mediawarden/mediawarden/task/Code" "number" "I" (.int (1101 : Int32))) (F_number_w_RATE_LIMITED : Fld Z h0 w_RATE_LIMITED "com/example/mediawarden/mediawarden/task/Code" "number" "I" (.int (1901 : Int32))) (F_number_w_INVALID_PARAMETERS : Fld Z h0 w_INVALID_PARAMETERS "com/example/mediawarden/mediawarden/task/Code" "number" "I" (.int (1902 : Int32))) (F_number_w_SERVICE_FAILURE : Fld Z h0 w_SERVICE_FAILURE "com/example/mediawarden/mediawarden/task/Code" "number" "I" (.int (1903 : Int32))) (F_number_w_DOWNLOAD_FAILED : Fld Z h0 w_DOWNLOAD_FAILED "com/example/mediawarden/mediawarden/task/Code" "number" "I" (.int (1911 : Int32))) (F_number_w_NO_PERMISSION : Fld Z h0 w_NO_PERMISSION "com/example/mediawarden/mediawarden/task/Code" "number" "I" (.int (9101 : Int32))) :
    MetFree l (⟨"com/example/mediawarden/mediawarden/task/Code", "of", "(I)Lcom/example/mediawarden/mediawarden/task/Code;"⟩ : MethodName) (head1 (Jvm.Cond.code (⟨"com/example/mediawarden/mediawarden/task/Code", "of", "(I)Lcom/example/mediawarden/mediawarden/task/Code;"⟩ : MethodName) prog_61_method_4_code 5 (some (.object "com/example/mediawarden/mediawarden/task/Code")) :: ws) ({ frames := 2, cells := 1, slots := 7, locals := 25 } : Room)) (fun a U => a = #[(.int (1911 : Int32))] ∧ Z.Warmed39 U.vm ∧ U.heap = h0) (fun _ _ _ _ _ => True) (fun _ U o U' => ∃ v L, o = .returned v ∧ Q1_DOWNLOAD_FAILED Z wv cl w_SUCCESS w_PROCESSING w_RATE_LIMITED w_INVALID_PARAMETERS w_SERVICE_FAILURE w_DOWNLOAD_FAILED w_NO_PERMISSION h0 n0 v U'.heap L ∧ FrameEnd U o U' L ({ frames := 2, cells := 1, slots := 7, locals := 25 } : Room).cells ({ frames := 2, cells := 1, slots := 7, locals := 25 } : Room).slots) := by
  refine MetFree.of_bodySF (plainFor_of_name pn_0) hisR ?_
  intro p e s m args below meth c s₁ Bd hml0 hP hK
  obtain ⟨rfl, hZ, hh⟩ := hP
  have hx := Bd.exec
  have hby := Bd.bytes
  have hml : c.maxLocals = 5 := hml0
  have hown : s.vm.findClass "com/example/mediawarden/mediawarden/task/Code" = some m.cls := findClass_of_methodNamed Bd.named
  have hnm := (name_of_methodNamed Bd.named Bd.method).1
  have X0 : Stand p l e ({ frames := 2, cells := 1, slots := 7, locals := 25 } : Room) s m #[(.int (1911 : Int32))] below meth c s₁ [] 0 0 := Stand.of_body Bd
  have e0 : s₁.heap = h0 := by rw [← hh, Bd.state]; rfl
  have N0 := Fr.nil n0
  have k0 : ∀ t, Steps p.tables e below (s₁.setTop (mkF m 0 #[.val (.int (1911 : Int32)), .unset, .unset, .unset, .unset] [])) t → Steps p.tables e below (s₁.setTop (entryFrame m #[(.int (1911 : Int32))] 5)) t := fun t k => castTop (ef_1_DOWNLOAD_FAILED m (1911 : Int32)) k
  obtain ⟨_, _, ⟨T1, L1, kq1, n1⟩, -, X1, ⟨Lc1, hQ1, l1, y1, z1⟩, st1⟩ := Jvm.LawKit.callS X0 hx (y := (⟨"com/example/mediawarden/mediawarden/task/Code", "values", "()[Lcom/example/mediawarden/mediawarden/task/Code;"⟩ : MethodName)) hown (mvT hZ (hw _ (List.mem_of_getElem? (i := 7) rfl))) (mvT hZ (hw _ (List.mem_of_getElem? (i := 8) rfl))) (mvT hZ (hw _ (List.mem_of_getElem? (i := 2) rfl))) (mvT hZ (hw _ (List.mem_of_getElem? (i := 9) rfl))) (by decide) (backOf (W := 0) (rmV l Z a0 hw [] wv cl w_SUCCESS w_PROCESSING w_RATE_LIMITED w_INVALID_PARAMETERS w_SERVICE_FAILURE w_DOWNLOAD_FAILED w_NO_PERMISSION h0 n0 Z0 S_V Arv_ E_V hsz hat0 hat1 hat2 hat3 hat4 hat5 hat6) hZ (hw _ (List.mem_of_getElem? (i := 9) rfl)) (hw _ (List.mem_of_getElem? (i := 2) rfl)) (by decide) (by decide)) (g := (mkF m 0 #[.val (.int (1911 : Int32)), .unset, .unset, .unset, .unset] [])) rfl (by rw [hml]; rfl) (argsL := []) (rest := []) (lenOf pd_0 rfl) rfl (by show 2 * 0 + _ ≤ _; exact Nat.le_of_eq rfl) (hb hby d1_0) (fun _ _ => ⟨rfl, e0, (by decide : 0 + 1 ≤ _), (by decide : 0 + 7 ≤ _)⟩)
  dsimp only [Pt.U, Pt.locs, Pt.cells, Pt.slots] at X1 l1 y1 z1 st1 hQ1
  subst l1 y1 z1
  obtain ⟨rfl, N1q, Ex1, hcell1⟩ := hQ1
  have N1 := Fr.app N0 N1q
  have Zs1 : n0 ≤ T1.heap.size := Nat.le_trans Z0 Ex1.1
  have Arn : Arr Z T1.heap h0.size { cls := cl.cls, slots := cl.slots } (.object "com/example/mediawarden/mediawarden/task/Code") := ⟨hcell1, ⟨(fun k q => by cases q), Arv_.2.1.2⟩, (fun q => by cases q)⟩
  have hlen : (cl.slots.size).toInt32 = (7 : Int32) := by rw [hsz]; rfl
  have k2 : ∀ t, Steps p.tables e below (T1.setTop (mkF m 3 #[.val (.int (1911 : Int32)), .unset, .unset, .unset, .unset] [(.ref h0.size)])) t → Steps p.tables e below (s₁.setTop (entryFrame m #[(.int (1911 : Int32))] 5)) t := fun t k => k0 t (st1 _ k)
  have hc11 : (0 : Int32) < (7 : Int32) := by decide
  have k3 : ∀ t, Steps p.tables e below (T1.setTop (mkF m 21 #[.val (.int (1911 : Int32)), .val (.ref h0.size), .val (.int (7 : Int32)), .val (.int (0 : Int32)), .val (.ref w_SUCCESS)] [(.ref w_SUCCESS)])) t → Steps p.tables e below (s₁.setTop (entryFrame m #[(.int (1911 : Int32))] 5)) t := fun t k => k2 t (by
      show Steps p.tables e below (T1.setTop (mkF m 3 #[.val (.int (1911 : Int32)), .unset, .unset, .unset, .unset] [(.ref h0.size)])) _
      refine XS.astoreN X1.here hx rfl (hb hby d1_3) rfl rfl (l' := #[.val (.int (1911 : Int32)), .val (.ref h0.size), .unset, .unset, .unset]) rfl ?_
      show Steps p.tables e below (T1.setTop (mkF m 4 #[.val (.int (1911 : Int32)), .val (.ref h0.size), .unset, .unset, .unset] [])) _
      refine XS.aloadN X1.here hx rfl (hb hby d1_4) rfl rfl ?_
      show Steps p.tables e below (T1.setTop (mkF m 5 #[.val (.int (1911 : Int32)), .val (.ref h0.size), .unset, .unset, .unset] [(.ref h0.size)])) _
      refine X1.arraylength hx Arn.1 (State.isArrayOf_alike hZ.alike Arn.2.1) (g := (mkF m 5 #[.val (.int (1911 : Int32)), .val (.ref h0.size), .unset, .unset, .unset] [(.ref h0.size)])) rfl rfl (hb hby d1_5) _ ?_
      rw [hlen]
      show Steps p.tables e below (T1.setTop (mkF m 6 #[.val (.int (1911 : Int32)), .val (.ref h0.size), .unset, .unset, .unset] [(.int (7 : Int32))])) _
      refine XS.istoreN X1.here hx rfl (hb hby d1_6) rfl (l' := #[.val (.int (1911 : Int32)), .val (.ref h0.size), .val (.int (7 : Int32)), .unset, .unset]) rfl ?_
      show Steps p.tables e below (T1.setTop (mkF m 7 #[.val (.int (1911 : Int32)), .val (.ref h0.size), .val (.int (7 : Int32)), .unset, .unset] [])) _
      refine XS.iconst X1.here hx rfl (hb hby d1_7) ?_
      show Steps p.tables e below (T1.setTop (mkF m 8 #[.val (.int (1911 : Int32)), .val (.ref h0.size), .val (.int (7 : Int32)), .unset, .unset] [(.int (0 : Int32))])) _
      refine XS.istoreN X1.here hx rfl (hb hby d1_8) rfl (l' := #[.val (.int (1911 : Int32)), .val (.ref h0.size), .val (.int (7 : Int32)), .val (.int (0 : Int32)), .unset]) rfl ?_
      show Steps p.tables e below (T1.setTop (mkF m 9 #[.val (.int (1911 : Int32)), .val (.ref h0.size), .val (.int (7 : Int32)), .val (.int (0 : Int32)), .unset] [])) _
      refine XS.iloadN X1.here hx rfl (hb hby d1_9) rfl ?_
      show Steps p.tables e below (T1.setTop (mkF m 10 #[.val (.int (1911 : Int32)), .val (.ref h0.size), .val (.int (7 : Int32)), .val (.int (0 : Int32)), .unset] [(.int (0 : Int32))])) _
      refine XS.iloadN X1.here hx rfl (hb hby d1_10) rfl ?_
      show Steps p.tables e below (T1.setTop (mkF m 11 #[.val (.int (1911 : Int32)), .val (.ref h0.size), .val (.int (7 : Int32)), .val (.int (0 : Int32)), .unset] [(.int (7 : Int32)), (.int (0 : Int32))])) _
      refine XS.icmpNo X1.here hx rfl (hb hby d1_11) rfl (tlt hc11).2.1 ?_
      show Steps p.tables e below (T1.setTop (mkF m 14 #[.val (.int (1911 : Int32)), .val (.ref h0.size), .val (.int (7 : Int32)), .val (.int (0 : Int32)), .unset] [])) _
      refine XS.aloadN X1.here hx rfl (hb hby d1_14) rfl rfl ?_
      show Steps p.tables e below (T1.setTop (mkF m 15 #[.val (.int (1911 : Int32)), .val (.ref h0.size), .val (.int (7 : Int32)), .val (.int (0 : Int32)), .unset] [(.ref h0.size)])) _
      refine XS.iloadN X1.here hx rfl (hb hby d1_15) rfl ?_
      show Steps p.tables e below (T1.setTop (mkF m 16 #[.val (.int (1911 : Int32)), .val (.ref h0.size), .val (.int (7 : Int32)), .val (.int (0 : Int32)), .unset] [(.int (0 : Int32)), (.ref h0.size)])) _
      refine X1.aaload hx (j := (0 : Int32)) (v := .ref w_SUCCESS) Arn.1 (State.isArrayOf_alike hZ.alike Arn.2.1) rfl Arn.2.2 (fun q => q.elim (by decide) (fun q => by have q' : cl.slots.size ≤ 0 := q; omega)) hat0 (g := (mkF m 16 #[.val (.int (1911 : Int32)), .val (.ref h0.size), .val (.int (7 : Int32)), .val (.int (0 : Int32)), .unset] [(.int (0 : Int32)), (.ref h0.size)])) rfl rfl (hb hby d1_16) _ ?_
      show Steps p.tables e below (T1.setTop (mkF m 17 #[.val (.int (1911 : Int32)), .val (.ref h0.size), .val (.int (7 : Int32)), .val (.int (0 : Int32)), .unset] [(.ref w_SUCCESS)])) _
      refine XS.astore X1.here hx rfl (hb hby d1_17) rfl rfl (l' := #[.val (.int (1911 : Int32)), .val (.ref h0.size), .val (.int (7 : Int32)), .val (.int (0 : Int32)), .val (.ref w_SUCCESS)]) rfl ?_
      show Steps p.tables e below (T1.setTop (mkF m 19 #[.val (.int (1911 : Int32)), .val (.ref h0.size), .val (.int (7 : Int32)), .val (.int (0 : Int32)), .val (.ref w_SUCCESS)] [])) _
      refine XS.aload X1.here hx rfl (hb hby d1_19) rfl rfl ?_
      exact k)
  obtain ⟨T4, X4, e4, st4⟩ := getF X1 hx hZ hown (host := "") (Or.inl (hw _ (List.mem_of_getElem? (i := 28) rfl))) Via.refl rfl (F_number_w_SUCCESS.ext Ex1) (g := (mkF m 21 #[.val (.int (1911 : Int32)), .val (.ref h0.size), .val (.int (7 : Int32)), .val (.int (0 : Int32)), .val (.ref w_SUCCESS)] [(.ref w_SUCCESS)])) rfl rfl (hb hby d1_21)
  have k5 : ∀ t, Steps p.tables e below (T4.setTop (mkF m 24 #[.val (.int (1911 : Int32)), .val (.ref h0.size), .val (.int (7 : Int32)), .val (.int (0 : Int32)), .val (.ref w_SUCCESS)] [(.int (1100 : Int32))])) t → Steps p.tables e below (s₁.setTop (entryFrame m #[(.int (1911 : Int32))] 5)) t := fun t k => k3 t (st4 _ k)
  have hc25 : ¬ ((1100 : Int32) = (1911 : Int32)) := by decide
  have hc11_6 : (1 : Int32) < (7 : Int32) := by decide
  have k7 : ∀ t, Steps p.tables e below (T4.setTop (mkF m 21 #[.val (.int (1911 : Int32)), .val (.ref h0.size), .val (.int (7 : Int32)), .val (.int (1 : Int32)), .val (.ref w_PROCESSING)] [(.ref w_PROCESSING)])) t → Steps p.tables e below (s₁.setTop (entryFrame m #[(.int (1911 : Int32))] 5)) t := fun t k => k5 t (by
      show Steps p.tables e below (T4.setTop (mkF m 24 #[.val (.int (1911 : Int32)), .val (.ref h0.size), .val (.int (7 : Int32)), .val (.int (0 : Int32)), .val (.ref w_SUCCESS)] [(.int (1100 : Int32))])) _
      refine XS.iloadN X4.here hx rfl (hb hby d1_24) rfl ?_
      show Steps p.tables e below (T4.setTop (mkF m 25 #[.val (.int (1911 : Int32)), .val (.ref h0.size), .val (.int (7 : Int32)), .val (.int (0 : Int32)), .val (.ref w_SUCCESS)] [(.int (1911 : Int32)), (.int (1100 : Int32))])) _
      refine XS.icmpYes X4.here hx rfl (pc0 := 25) (pc' := 31) rfl (hb hby d1_25) rfl (feq hc25).2 (by decide) (by decide) ?_
      show Steps p.tables e below (T4.setTop (mkF m 31 #[.val (.int (1911 : Int32)), .val (.ref h0.size), .val (.int (7 : Int32)), .val (.int (0 : Int32)), .val (.ref w_SUCCESS)] [])) _
      refine XS.iinc X4.here hx rfl (hb hby d1_31) rfl (l' := #[.val (.int (1911 : Int32)), .val (.ref h0.size), .val (.int (7 : Int32)), .val (.int (1 : Int32)), .val (.ref w_SUCCESS)]) rfl ?_
      show Steps p.tables e below (T4.setTop (mkF m 34 #[.val (.int (1911 : Int32)), .val (.ref h0.size), .val (.int (7 : Int32)), .val (.int (1 : Int32)), .val (.ref w_SUCCESS)] [])) _
      refine XS.goto X4.here hx rfl (pc0 := 34) (pc' := 9) rfl (hb hby d1_34) (by decide) (by decide) ?_
      show Steps p.tables e below (T4.setTop (mkF m 9 #[.val (.int (1911 : Int32)), .val (.ref h0.size), .val (.int (7 : Int32)), .val (.int (1 : Int32)), .val (.ref w_SUCCESS)] [])) _
      refine XS.iloadN X4.here hx rfl (hb hby d1_9) rfl ?_
      show Steps p.tables e below (T4.setTop (mkF m 10 #[.val (.int (1911 : Int32)), .val (.ref h0.size), .val (.int (7 : Int32)), .val (.int (1 : Int32)), .val (.ref w_SUCCESS)] [(.int (1 : Int32))])) _
      refine XS.iloadN X4.here hx rfl (hb hby d1_10) rfl ?_
      show Steps p.tables e below (T4.setTop (mkF m 11 #[.val (.int (1911 : Int32)), .val (.ref h0.size), .val (.int (7 : Int32)), .val (.int (1 : Int32)), .val (.ref w_SUCCESS)] [(.int (7 : Int32)), (.int (1 : Int32))])) _
      refine XS.icmpNo X4.here hx rfl (hb hby d1_11) rfl (tlt hc11_6).2.1 ?_
      show Steps p.tables e below (T4.setTop (mkF m 14 #[.val (.int (1911 : Int32)), .val (.ref h0.size), .val (.int (7 : Int32)), .val (.int (1 : Int32)), .val (.ref w_SUCCESS)] [])) _
      refine XS.aloadN X4.here hx rfl (hb hby d1_14) rfl rfl ?_
      show Steps p.tables e below (T4.setTop (mkF m 15 #[.val (.int (1911 : Int32)), .val (.ref h0.size), .val (.int (7 : Int32)), .val (.int (1 : Int32)), .val (.ref w_SUCCESS)] [(.ref h0.size)])) _
      refine XS.iloadN X4.here hx rfl (hb hby d1_15) rfl ?_
      show Steps p.tables e below (T4.setTop (mkF m 16 #[.val (.int (1911 : Int32)), .val (.ref h0.size), .val (.int (7 : Int32)), .val (.int (1 : Int32)), .val (.ref w_SUCCESS)] [(.int (1 : Int32)), (.ref h0.size)])) _
      refine X4.aaload hx (j := (1 : Int32)) (v := .ref w_PROCESSING) (by rw [e4]; exact Arn.1) (State.isArrayOf_alike hZ.alike Arn.2.1) rfl Arn.2.2 (fun q => q.elim (by decide) (fun q => by have q' : cl.slots.size ≤ 1 := q; omega)) hat1 (g := (mkF m 16 #[.val (.int (1911 : Int32)), .val (.ref h0.size), .val (.int (7 : Int32)), .val (.int (1 : Int32)), .val (.ref w_SUCCESS)] [(.int (1 : Int32)), (.ref h0.size)])) rfl rfl (hb hby d1_16) _ ?_
      show Steps p.tables e below (T4.setTop (mkF m 17 #[.val (.int (1911 : Int32)), .val (.ref h0.size), .val (.int (7 : Int32)), .val (.int (1 : Int32)), .val (.ref w_SUCCESS)] [(.ref w_PROCESSING)])) _
      refine XS.astore X4.here hx rfl (hb hby d1_17) rfl rfl (l' := #[.val (.int (1911 : Int32)), .val (.ref h0.size), .val (.int (7 : Int32)), .val (.int (1 : Int32)), .val (.ref w_PROCESSING)]) rfl ?_
      show Steps p.tables e below (T4.setTop (mkF m 19 #[.val (.int (1911 : Int32)), .val (.ref h0.size), .val (.int (7 : Int32)), .val (.int (1 : Int32)), .val (.ref w_PROCESSING)] [])) _
      refine XS.aload X4.here hx rfl (hb hby d1_19) rfl rfl ?_
      exact k)
  obtain ⟨T8, X8, e8, st8⟩ := getF X4 hx hZ hown (host := "") (Or.inl (hw _ (List.mem_of_getElem? (i := 28) rfl))) Via.refl e4 (F_number_w_PROCESSING.ext Ex1) (g := (mkF m 21 #[.val (.int (1911 : Int32)), .val (.ref h0.size), .val (.int (7 : Int32)), .val (.int (1 : Int32)), .val (.ref w_PROCESSING)] [(.ref w_PROCESSING)])) rfl rfl (hb hby d1_21)
  have k9 : ∀ t, Steps p.tables e below (T8.setTop (mkF m 24 #[.val (.int (1911 : Int32)), .val (.ref h0.size), .val (.int (7 : Int32)), .val (.int (1 : Int32)), .val (.ref w_PROCESSING)] [(.int (1101 : Int32))])) t → Steps p.tables e below (s₁.setTop (entryFrame m #[(.int (1911 : Int32))] 5)) t := fun t k => k7 t (st8 _ k)
  have hc25_10 : ¬ ((1101 : Int32) = (1911 : Int32)) := by decide
  have hc11_11 : (2 : Int32) < (7 : Int32) := by decide
  have k12 : ∀ t, Steps p.tables e below (T8.setTop (mkF m 21 #[.val (.int (1911 : Int32)), .val (.ref h0.size), .val (.int (7 : Int32)), .val (.int (2 : Int32)), .val (.ref w_RATE_LIMITED)] [(.ref w_RATE_LIMITED)])) t → Steps p.tables e below (s₁.setTop (entryFrame m #[(.int (1911 : Int32))] 5)) t := fun t k => k9 t (by
      show Steps p.tables e below (T8.setTop (mkF m 24 #[.val (.int (1911 : Int32)), .val (.ref h0.size), .val (.int (7 : Int32)), .val (.int (1 : Int32)), .val (.ref w_PROCESSING)] [(.int (1101 : Int32))])) _
      refine XS.iloadN X8.here hx rfl (hb hby d1_24) rfl ?_
      show Steps p.tables e below (T8.setTop (mkF m 25 #[.val (.int (1911 : Int32)), .val (.ref h0.size), .val (.int (7 : Int32)), .val (.int (1 : Int32)), .val (.ref w_PROCESSING)] [(.int (1911 : Int32)), (.int (1101 : Int32))])) _
      refine XS.icmpYes X8.here hx rfl (pc0 := 25) (pc' := 31) rfl (hb hby d1_25) rfl (feq hc25_10).2 (by decide) (by decide) ?_
      show Steps p.tables e below (T8.setTop (mkF m 31 #[.val (.int (1911 : Int32)), .val (.ref h0.size), .val (.int (7 : Int32)), .val (.int (1 : Int32)), .val (.ref w_PROCESSING)] [])) _
      refine XS.iinc X8.here hx rfl (hb hby d1_31) rfl (l' := #[.val (.int (1911 : Int32)), .val (.ref h0.size), .val (.int (7 : Int32)), .val (.int (2 : Int32)), .val (.ref w_PROCESSING)]) rfl ?_
      show Steps p.tables e below (T8.setTop (mkF m 34 #[.val (.int (1911 : Int32)), .val (.ref h0.size), .val (.int (7 : Int32)), .val (.int (2 : Int32)), .val (.ref w_PROCESSING)] [])) _
      refine XS.goto X8.here hx rfl (pc0 := 34) (pc' := 9) rfl (hb hby d1_34) (by decide) (by decide) ?_
      show Steps p.tables e below (T8.setTop (mkF m 9 #[.val (.int (1911 : Int32)), .val (.ref h0.size), .val (.int (7 : Int32)), .val (.int (2 : Int32)), .val (.ref w_PROCESSING)] [])) _
      refine XS.iloadN X8.here hx rfl (hb hby d1_9) rfl ?_
      show Steps p.tables e below (T8.setTop (mkF m 10 #[.val (.int (1911 : Int32)), .val (.ref h0.size), .val (.int (7 : Int32)), .val (.int (2 : Int32)), .val (.ref w_PROCESSING)] [(.int (2 : Int32))])) _
      refine XS.iloadN X8.here hx rfl (hb hby d1_10) rfl ?_
      show Steps p.tables e below (T8.setTop (mkF m 11 #[.val (.int (1911 : Int32)), .val (.ref h0.size), .val (.int (7 : Int32)), .val (.int (2 : Int32)), .val (.ref w_PROCESSING)] [(.int (7 : Int32)), (.int (2 : Int32))])) _
      refine XS.icmpNo X8.here hx rfl (hb hby d1_11) rfl (tlt hc11_11).2.1 ?_
      show Steps p.tables e below (T8.setTop (mkF m 14 #[.val (.int (1911 : Int32)), .val (.ref h0.size), .val (.int (7 : Int32)), .val (.int (2 : Int32)), .val (.ref w_PROCESSING)] [])) _
      refine XS.aloadN X8.here hx rfl (hb hby d1_14) rfl rfl ?_
      show Steps p.tables e below (T8.setTop (mkF m 15 #[.val (.int (1911 : Int32)), .val (.ref h0.size), .val (.int (7 : Int32)), .val (.int (2 : Int32)), .val (.ref w_PROCESSING)] [(.ref h0.size)])) _
      refine XS.iloadN X8.here hx rfl (hb hby d1_15) rfl ?_
      show Steps p.tables e below (T8.setTop (mkF m 16 #[.val (.int (1911 : Int32)), .val (.ref h0.size), .val (.int (7 : Int32)), .val (.int (2 : Int32)), .val (.ref w_PROCESSING)] [(.int (2 : Int32)), (.ref h0.size)])) _
      refine X8.aaload hx (j := (2 : Int32)) (v := .ref w_RATE_LIMITED) (by rw [e8]; exact Arn.1) (State.isArrayOf_alike hZ.alike Arn.2.1) rfl Arn.2.2 (fun q => q.elim (by decide) (fun q => by have q' : cl.slots.size ≤ 2 := q; omega)) hat2 (g := (mkF m 16 #[.val (.int (1911 : Int32)), .val (.ref h0.size), .val (.int (7 : Int32)), .val (.int (2 : Int32)), .val (.ref w_PROCESSING)] [(.int (2 : Int32)), (.ref h0.size)])) rfl rfl (hb hby d1_16) _ ?_
      show Steps p.tables e below (T8.setTop (mkF m 17 #[.val (.int (1911 : Int32)), .val (.ref h0.size), .val (.int (7 : Int32)), .val (.int (2 : Int32)), .val (.ref w_PROCESSING)] [(.ref w_RATE_LIMITED)])) _
      refine XS.astore X8.here hx rfl (hb hby d1_17) rfl rfl (l' := #[.val (.int (1911 : Int32)), .val (.ref h0.size), .val (.int (7 : Int32)), .val (.int (2 : Int32)), .val (.ref w_RATE_LIMITED)]) rfl ?_
      show Steps p.tables e below (T8.setTop (mkF m 19 #[.val (.int (1911 : Int32)), .val (.ref h0.size), .val (.int (7 : Int32)), .val (.int (2 : Int32)), .val (.ref w_RATE_LIMITED)] [])) _
      refine XS.aload X8.here hx rfl (hb hby d1_19) rfl rfl ?_
      exact k)
  obtain ⟨T13, X13, e13, st13⟩ := getF X8 hx hZ hown (host := "") (Or.inl (hw _ (List.mem_of_getElem? (i := 28) rfl))) Via.refl e8 (F_number_w_RATE_LIMITED.ext Ex1) (g := (mkF m 21 #[.val (.int (1911 : Int32)), .val (.ref h0.size), .val (.int (7 : Int32)), .val (.int (2 : Int32)), .val (.ref w_RATE_LIMITED)] [(.ref w_RATE_LIMITED)])) rfl rfl (hb hby d1_21)
  have k14 : ∀ t, Steps p.tables e below (T13.setTop (mkF m 24 #[.val (.int (1911 : Int32)), .val (.ref h0.size), .val (.int (7 : Int32)), .val (.int (2 : Int32)), .val (.ref w_RATE_LIMITED)] [(.int (1901 : Int32))])) t → Steps p.tables e below (s₁.setTop (entryFrame m #[(.int (1911 : Int32))] 5)) t := fun t k => k12 t (st13 _ k)
  have hc25_15 : ¬ ((1901 : Int32) = (1911 : Int32)) := by decide
  have hc11_16 : (3 : Int32) < (7 : Int32) := by decide
  have k17 : ∀ t, Steps p.tables e below (T13.setTop (mkF m 21 #[.val (.int (1911 : Int32)), .val (.ref h0.size), .val (.int (7 : Int32)), .val (.int (3 : Int32)), .val (.ref w_INVALID_PARAMETERS)] [(.ref w_INVALID_PARAMETERS)])) t → Steps p.tables e below (s₁.setTop (entryFrame m #[(.int (1911 : Int32))] 5)) t := fun t k => k14 t (by
      show Steps p.tables e below (T13.setTop (mkF m 24 #[.val (.int (1911 : Int32)), .val (.ref h0.size), .val (.int (7 : Int32)), .val (.int (2 : Int32)), .val (.ref w_RATE_LIMITED)] [(.int (1901 : Int32))])) _
      refine XS.iloadN X13.here hx rfl (hb hby d1_24) rfl ?_
      show Steps p.tables e below (T13.setTop (mkF m 25 #[.val (.int (1911 : Int32)), .val (.ref h0.size), .val (.int (7 : Int32)), .val (.int (2 : Int32)), .val (.ref w_RATE_LIMITED)] [(.int (1911 : Int32)), (.int (1901 : Int32))])) _
      refine XS.icmpYes X13.here hx rfl (pc0 := 25) (pc' := 31) rfl (hb hby d1_25) rfl (feq hc25_15).2 (by decide) (by decide) ?_
      show Steps p.tables e below (T13.setTop (mkF m 31 #[.val (.int (1911 : Int32)), .val (.ref h0.size), .val (.int (7 : Int32)), .val (.int (2 : Int32)), .val (.ref w_RATE_LIMITED)] [])) _
      refine XS.iinc X13.here hx rfl (hb hby d1_31) rfl (l' := #[.val (.int (1911 : Int32)), .val (.ref h0.size), .val (.int (7 : Int32)), .val (.int (3 : Int32)), .val (.ref w_RATE_LIMITED)]) rfl ?_
      show Steps p.tables e below (T13.setTop (mkF m 34 #[.val (.int (1911 : Int32)), .val (.ref h0.size), .val (.int (7 : Int32)), .val (.int (3 : Int32)), .val (.ref w_RATE_LIMITED)] [])) _
      refine XS.goto X13.here hx rfl (pc0 := 34) (pc' := 9) rfl (hb hby d1_34) (by decide) (by decide) ?_
      show Steps p.tables e below (T13.setTop (mkF m 9 #[.val (.int (1911 : Int32)), .val (.ref h0.size), .val (.int (7 : Int32)), .val (.int (3 : Int32)), .val (.ref w_RATE_LIMITED)] [])) _
      refine XS.iloadN X13.here hx rfl (hb hby d1_9) rfl ?_
      show Steps p.tables e below (T13.setTop (mkF m 10 #[.val (.int (1911 : Int32)), .val (.ref h0.size), .val (.int (7 : Int32)), .val (.int (3 : Int32)), .val (.ref w_RATE_LIMITED)] [(.int (3 : Int32))])) _
      refine XS.iloadN X13.here hx rfl (hb hby d1_10) rfl ?_
      show Steps p.tables e below (T13.setTop (mkF m 11 #[.val (.int (1911 : Int32)), .val (.ref h0.size), .val (.int (7 : Int32)), .val (.int (3 : Int32)), .val (.ref w_RATE_LIMITED)] [(.int (7 : Int32)), (.int (3 : Int32))])) _
      refine XS.icmpNo X13.here hx rfl (hb hby d1_11) rfl (tlt hc11_16).2.1 ?_
      show Steps p.tables e below (T13.setTop (mkF m 14 #[.val (.int (1911 : Int32)), .val (.ref h0.size), .val (.int (7 : Int32)), .val (.int (3 : Int32)), .val (.ref w_RATE_LIMITED)] [])) _
      refine XS.aloadN X13.here hx rfl (hb hby d1_14) rfl rfl ?_
      show Steps p.tables e below (T13.setTop (mkF m 15 #[.val (.int (1911 : Int32)), .val (.ref h0.size), .val (.int (7 : Int32)), .val (.int (3 : Int32)), .val (.ref w_RATE_LIMITED)] [(.ref h0.size)])) _
      refine XS.iloadN X13.here hx rfl (hb hby d1_15) rfl ?_
      show Steps p.tables e below (T13.setTop (mkF m 16 #[.val (.int (1911 : Int32)), .val (.ref h0.size), .val (.int (7 : Int32)), .val (.int (3 : Int32)), .val (.ref w_RATE_LIMITED)] [(.int (3 : Int32)), (.ref h0.size)])) _
      refine X13.aaload hx (j := (3 : Int32)) (v := .ref w_INVALID_PARAMETERS) (by rw [e13]; exact Arn.1) (State.isArrayOf_alike hZ.alike Arn.2.1) rfl Arn.2.2 (fun q => q.elim (by decide) (fun q => by have q' : cl.slots.size ≤ 3 := q; omega)) hat3 (g := (mkF m 16 #[.val (.int (1911 : Int32)), .val (.ref h0.size), .val (.int (7 : Int32)), .val (.int (3 : Int32)), .val (.ref w_RATE_LIMITED)] [(.int (3 : Int32)), (.ref h0.size)])) rfl rfl (hb hby d1_16) _ ?_
      show Steps p.tables e below (T13.setTop (mkF m 17 #[.val (.int (1911 : Int32)), .val (.ref h0.size), .val (.int (7 : Int32)), .val (.int (3 : Int32)), .val (.ref w_RATE_LIMITED)] [(.ref w_INVALID_PARAMETERS)])) _
      refine XS.astore X13.here hx rfl (hb hby d1_17) rfl rfl (l' := #[.val (.int (1911 : Int32)), .val (.ref h0.size), .val (.int (7 : Int32)), .val (.int (3 : Int32)), .val (.ref w_INVALID_PARAMETERS)]) rfl ?_
      show Steps p.tables e below (T13.setTop (mkF m 19 #[.val (.int (1911 : Int32)), .val (.ref h0.size), .val (.int (7 : Int32)), .val (.int (3 : Int32)), .val (.ref w_INVALID_PARAMETERS)] [])) _
      refine XS.aload X13.here hx rfl (hb hby d1_19) rfl rfl ?_
      exact k)
  obtain ⟨T18, X18, e18, st18⟩ := getF X13 hx hZ hown (host := "") (Or.inl (hw _ (List.mem_of_getElem? (i := 28) rfl))) Via.refl e13 (F_number_w_INVALID_PARAMETERS.ext Ex1) (g := (mkF m 21 #[.val (.int (1911 : Int32)), .val (.ref h0.size), .val (.int (7 : Int32)), .val (.int (3 : Int32)), .val (.ref w_INVALID_PARAMETERS)] [(.ref w_INVALID_PARAMETERS)])) rfl rfl (hb hby d1_21)
  have k19 : ∀ t, Steps p.tables e below (T18.setTop (mkF m 24 #[.val (.int (1911 : Int32)), .val (.ref h0.size), .val (.int (7 : Int32)), .val (.int (3 : Int32)), .val (.ref w_INVALID_PARAMETERS)] [(.int (1902 : Int32))])) t → Steps p.tables e below (s₁.setTop (entryFrame m #[(.int (1911 : Int32))] 5)) t := fun t k => k17 t (st18 _ k)
  have hc25_20 : ¬ ((1902 : Int32) = (1911 : Int32)) := by decide
  have hc11_21 : (4 : Int32) < (7 : Int32) := by decide
  have k22 : ∀ t, Steps p.tables e below (T18.setTop (mkF m 21 #[.val (.int (1911 : Int32)), .val (.ref h0.size), .val (.int (7 : Int32)), .val (.int (4 : Int32)), .val (.ref w_SERVICE_FAILURE)] [(.ref w_SERVICE_FAILURE)])) t → Steps p.tables e below (s₁.setTop (entryFrame m #[(.int (1911 : Int32))] 5)) t := fun t k => k19 t (by
      show Steps p.tables e below (T18.setTop (mkF m 24 #[.val (.int (1911 : Int32)), .val (.ref h0.size), .val (.int (7 : Int32)), .val (.int (3 : Int32)), .val (.ref w_INVALID_PARAMETERS)] [(.int (1902 : Int32))])) _
      refine XS.iloadN X18.here hx rfl (hb hby d1_24) rfl ?_
      show Steps p.tables e below (T18.setTop (mkF m 25 #[.val (.int (1911 : Int32)), .val (.ref h0.size), .val (.int (7 : Int32)), .val (.int (3 : Int32)), .val (.ref w_INVALID_PARAMETERS)] [(.int (1911 : Int32)), (.int (1902 : Int32))])) _
      refine XS.icmpYes X18.here hx rfl (pc0 := 25) (pc' := 31) rfl (hb hby d1_25) rfl (feq hc25_20).2 (by decide) (by decide) ?_
      show Steps p.tables e below (T18.setTop (mkF m 31 #[.val (.int (1911 : Int32)), .val (.ref h0.size), .val (.int (7 : Int32)), .val (.int (3 : Int32)), .val (.ref w_INVALID_PARAMETERS)] [])) _
      refine XS.iinc X18.here hx rfl (hb hby d1_31) rfl (l' := #[.val (.int (1911 : Int32)), .val (.ref h0.size), .val (.int (7 : Int32)), .val (.int (4 : Int32)), .val (.ref w_INVALID_PARAMETERS)]) rfl ?_
      show Steps p.tables e below (T18.setTop (mkF m 34 #[.val (.int (1911 : Int32)), .val (.ref h0.size), .val (.int (7 : Int32)), .val (.int (4 : Int32)), .val (.ref w_INVALID_PARAMETERS)] [])) _
      refine XS.goto X18.here hx rfl (pc0 := 34) (pc' := 9) rfl (hb hby d1_34) (by decide) (by decide) ?_
      show Steps p.tables e below (T18.setTop (mkF m 9 #[.val (.int (1911 : Int32)), .val (.ref h0.size), .val (.int (7 : Int32)), .val (.int (4 : Int32)), .val (.ref w_INVALID_PARAMETERS)] [])) _
      refine XS.iloadN X18.here hx rfl (hb hby d1_9) rfl ?_
      show Steps p.tables e below (T18.setTop (mkF m 10 #[.val (.int (1911 : Int32)), .val (.ref h0.size), .val (.int (7 : Int32)), .val (.int (4 : Int32)), .val (.ref w_INVALID_PARAMETERS)] [(.int (4 : Int32))])) _
      refine XS.iloadN X18.here hx rfl (hb hby d1_10) rfl ?_
      show Steps p.tables e below (T18.setTop (mkF m 11 #[.val (.int (1911 : Int32)), .val (.ref h0.size), .val (.int (7 : Int32)), .val (.int (4 : Int32)), .val (.ref w_INVALID_PARAMETERS)] [(.int (7 : Int32)), (.int (4 : Int32))])) _
      refine XS.icmpNo X18.here hx rfl (hb hby d1_11) rfl (tlt hc11_21).2.1 ?_
      show Steps p.tables e below (T18.setTop (mkF m 14 #[.val (.int (1911 : Int32)), .val (.ref h0.size), .val (.int (7 : Int32)), .val (.int (4 : Int32)), .val (.ref w_INVALID_PARAMETERS)] [])) _
      refine XS.aloadN X18.here hx rfl (hb hby d1_14) rfl rfl ?_
      show Steps p.tables e below (T18.setTop (mkF m 15 #[.val (.int (1911 : Int32)), .val (.ref h0.size), .val (.int (7 : Int32)), .val (.int (4 : Int32)), .val (.ref w_INVALID_PARAMETERS)] [(.ref h0.size)])) _
      refine XS.iloadN X18.here hx rfl (hb hby d1_15) rfl ?_
      show Steps p.tables e below (T18.setTop (mkF m 16 #[.val (.int (1911 : Int32)), .val (.ref h0.size), .val (.int (7 : Int32)), .val (.int (4 : Int32)), .val (.ref w_INVALID_PARAMETERS)] [(.int (4 : Int32)), (.ref h0.size)])) _
      refine X18.aaload hx (j := (4 : Int32)) (v := .ref w_SERVICE_FAILURE) (by rw [e18]; exact Arn.1) (State.isArrayOf_alike hZ.alike Arn.2.1) rfl Arn.2.2 (fun q => q.elim (by decide) (fun q => by have q' : cl.slots.size ≤ 4 := q; omega)) hat4 (g := (mkF m 16 #[.val (.int (1911 : Int32)), .val (.ref h0.size), .val (.int (7 : Int32)), .val (.int (4 : Int32)), .val (.ref w_INVALID_PARAMETERS)] [(.int (4 : Int32)), (.ref h0.size)])) rfl rfl (hb hby d1_16) _ ?_
      show Steps p.tables e below (T18.setTop (mkF m 17 #[.val (.int (1911 : Int32)), .val (.ref h0.size), .val (.int (7 : Int32)), .val (.int (4 : Int32)), .val (.ref w_INVALID_PARAMETERS)] [(.ref w_SERVICE_FAILURE)])) _
      refine XS.astore X18.here hx rfl (hb hby d1_17) rfl rfl (l' := #[.val (.int (1911 : Int32)), .val (.ref h0.size), .val (.int (7 : Int32)), .val (.int (4 : Int32)), .val (.ref w_SERVICE_FAILURE)]) rfl ?_
      show Steps p.tables e below (T18.setTop (mkF m 19 #[.val (.int (1911 : Int32)), .val (.ref h0.size), .val (.int (7 : Int32)), .val (.int (4 : Int32)), .val (.ref w_SERVICE_FAILURE)] [])) _
      refine XS.aload X18.here hx rfl (hb hby d1_19) rfl rfl ?_
      exact k)
  obtain ⟨T23, X23, e23, st23⟩ := getF X18 hx hZ hown (host := "") (Or.inl (hw _ (List.mem_of_getElem? (i := 28) rfl))) Via.refl e18 (F_number_w_SERVICE_FAILURE.ext Ex1) (g := (mkF m 21 #[.val (.int (1911 : Int32)), .val (.ref h0.size), .val (.int (7 : Int32)), .val (.int (4 : Int32)), .val (.ref w_SERVICE_FAILURE)] [(.ref w_SERVICE_FAILURE)])) rfl rfl (hb hby d1_21)
  have k24 : ∀ t, Steps p.tables e below (T23.setTop (mkF m 24 #[.val (.int (1911 : Int32)), .val (.ref h0.size), .val (.int (7 : Int32)), .val (.int (4 : Int32)), .val (.ref w_SERVICE_FAILURE)] [(.int (1903 : Int32))])) t → Steps p.tables e below (s₁.setTop (entryFrame m #[(.int (1911 : Int32))] 5)) t := fun t k => k22 t (st23 _ k)
  have hc25_25 : ¬ ((1903 : Int32) = (1911 : Int32)) := by decide
  have hc11_26 : (5 : Int32) < (7 : Int32) := by decide
  have k27 : ∀ t, Steps p.tables e below (T23.setTop (mkF m 21 #[.val (.int (1911 : Int32)), .val (.ref h0.size), .val (.int (7 : Int32)), .val (.int (5 : Int32)), .val (.ref w_DOWNLOAD_FAILED)] [(.ref w_DOWNLOAD_FAILED)])) t → Steps p.tables e below (s₁.setTop (entryFrame m #[(.int (1911 : Int32))] 5)) t := fun t k => k24 t (by
      show Steps p.tables e below (T23.setTop (mkF m 24 #[.val (.int (1911 : Int32)), .val (.ref h0.size), .val (.int (7 : Int32)), .val (.int (4 : Int32)), .val (.ref w_SERVICE_FAILURE)] [(.int (1903 : Int32))])) _
      refine XS.iloadN X23.here hx rfl (hb hby d1_24) rfl ?_
      show Steps p.tables e below (T23.setTop (mkF m 25 #[.val (.int (1911 : Int32)), .val (.ref h0.size), .val (.int (7 : Int32)), .val (.int (4 : Int32)), .val (.ref w_SERVICE_FAILURE)] [(.int (1911 : Int32)), (.int (1903 : Int32))])) _
      refine XS.icmpYes X23.here hx rfl (pc0 := 25) (pc' := 31) rfl (hb hby d1_25) rfl (feq hc25_25).2 (by decide) (by decide) ?_
      show Steps p.tables e below (T23.setTop (mkF m 31 #[.val (.int (1911 : Int32)), .val (.ref h0.size), .val (.int (7 : Int32)), .val (.int (4 : Int32)), .val (.ref w_SERVICE_FAILURE)] [])) _
      refine XS.iinc X23.here hx rfl (hb hby d1_31) rfl (l' := #[.val (.int (1911 : Int32)), .val (.ref h0.size), .val (.int (7 : Int32)), .val (.int (5 : Int32)), .val (.ref w_SERVICE_FAILURE)]) rfl ?_
      show Steps p.tables e below (T23.setTop (mkF m 34 #[.val (.int (1911 : Int32)), .val (.ref h0.size), .val (.int (7 : Int32)), .val (.int (5 : Int32)), .val (.ref w_SERVICE_FAILURE)] [])) _
      refine XS.goto X23.here hx rfl (pc0 := 34) (pc' := 9) rfl (hb hby d1_34) (by decide) (by decide) ?_
      show Steps p.tables e below (T23.setTop (mkF m 9 #[.val (.int (1911 : Int32)), .val (.ref h0.size), .val (.int (7 : Int32)), .val (.int (5 : Int32)), .val (.ref w_SERVICE_FAILURE)] [])) _
      refine XS.iloadN X23.here hx rfl (hb hby d1_9) rfl ?_
      show Steps p.tables e below (T23.setTop (mkF m 10 #[.val (.int (1911 : Int32)), .val (.ref h0.size), .val (.int (7 : Int32)), .val (.int (5 : Int32)), .val (.ref w_SERVICE_FAILURE)] [(.int (5 : Int32))])) _
      refine XS.iloadN X23.here hx rfl (hb hby d1_10) rfl ?_
      show Steps p.tables e below (T23.setTop (mkF m 11 #[.val (.int (1911 : Int32)), .val (.ref h0.size), .val (.int (7 : Int32)), .val (.int (5 : Int32)), .val (.ref w_SERVICE_FAILURE)] [(.int (7 : Int32)), (.int (5 : Int32))])) _
      refine XS.icmpNo X23.here hx rfl (hb hby d1_11) rfl (tlt hc11_26).2.1 ?_
      show Steps p.tables e below (T23.setTop (mkF m 14 #[.val (.int (1911 : Int32)), .val (.ref h0.size), .val (.int (7 : Int32)), .val (.int (5 : Int32)), .val (.ref w_SERVICE_FAILURE)] [])) _
      refine XS.aloadN X23.here hx rfl (hb hby d1_14) rfl rfl ?_
      show Steps p.tables e below (T23.setTop (mkF m 15 #[.val (.int (1911 : Int32)), .val (.ref h0.size), .val (.int (7 : Int32)), .val (.int (5 : Int32)), .val (.ref w_SERVICE_FAILURE)] [(.ref h0.size)])) _
      refine XS.iloadN X23.here hx rfl (hb hby d1_15) rfl ?_
      show Steps p.tables e below (T23.setTop (mkF m 16 #[.val (.int (1911 : Int32)), .val (.ref h0.size), .val (.int (7 : Int32)), .val (.int (5 : Int32)), .val (.ref w_SERVICE_FAILURE)] [(.int (5 : Int32)), (.ref h0.size)])) _
      refine X23.aaload hx (j := (5 : Int32)) (v := .ref w_DOWNLOAD_FAILED) (by rw [e23]; exact Arn.1) (State.isArrayOf_alike hZ.alike Arn.2.1) rfl Arn.2.2 (fun q => q.elim (by decide) (fun q => by have q' : cl.slots.size ≤ 5 := q; omega)) hat5 (g := (mkF m 16 #[.val (.int (1911 : Int32)), .val (.ref h0.size), .val (.int (7 : Int32)), .val (.int (5 : Int32)), .val (.ref w_SERVICE_FAILURE)] [(.int (5 : Int32)), (.ref h0.size)])) rfl rfl (hb hby d1_16) _ ?_
      show Steps p.tables e below (T23.setTop (mkF m 17 #[.val (.int (1911 : Int32)), .val (.ref h0.size), .val (.int (7 : Int32)), .val (.int (5 : Int32)), .val (.ref w_SERVICE_FAILURE)] [(.ref w_DOWNLOAD_FAILED)])) _
      refine XS.astore X23.here hx rfl (hb hby d1_17) rfl rfl (l' := #[.val (.int (1911 : Int32)), .val (.ref h0.size), .val (.int (7 : Int32)), .val (.int (5 : Int32)), .val (.ref w_DOWNLOAD_FAILED)]) rfl ?_
      show Steps p.tables e below (T23.setTop (mkF m 19 #[.val (.int (1911 : Int32)), .val (.ref h0.size), .val (.int (7 : Int32)), .val (.int (5 : Int32)), .val (.ref w_DOWNLOAD_FAILED)] [])) _
      refine XS.aload X23.here hx rfl (hb hby d1_19) rfl rfl ?_
      exact k)
  obtain ⟨T28, X28, e28, st28⟩ := getF X23 hx hZ hown (host := "") (Or.inl (hw _ (List.mem_of_getElem? (i := 28) rfl))) Via.refl e23 (F_number_w_DOWNLOAD_FAILED.ext Ex1) (g := (mkF m 21 #[.val (.int (1911 : Int32)), .val (.ref h0.size), .val (.int (7 : Int32)), .val (.int (5 : Int32)), .val (.ref w_DOWNLOAD_FAILED)] [(.ref w_DOWNLOAD_FAILED)])) rfl rfl (hb hby d1_21)
  have k29 : ∀ t, Steps p.tables e below (T28.setTop (mkF m 24 #[.val (.int (1911 : Int32)), .val (.ref h0.size), .val (.int (7 : Int32)), .val (.int (5 : Int32)), .val (.ref w_DOWNLOAD_FAILED)] [(.int (1911 : Int32))])) t → Steps p.tables e below (s₁.setTop (entryFrame m #[(.int (1911 : Int32))] 5)) t := fun t k => k27 t (st28 _ k)
  have hc25_30 : (1911 : Int32) = (1911 : Int32) := by decide
  have k31 : ∀ t, Steps p.tables e below (T28.setTop (mkF m 30 #[.val (.int (1911 : Int32)), .val (.ref h0.size), .val (.int (7 : Int32)), .val (.int (5 : Int32)), .val (.ref w_DOWNLOAD_FAILED)] [(.ref w_DOWNLOAD_FAILED)])) t → Steps p.tables e below (s₁.setTop (entryFrame m #[(.int (1911 : Int32))] 5)) t := fun t k => k29 t (by
      show Steps p.tables e below (T28.setTop (mkF m 24 #[.val (.int (1911 : Int32)), .val (.ref h0.size), .val (.int (7 : Int32)), .val (.int (5 : Int32)), .val (.ref w_DOWNLOAD_FAILED)] [(.int (1911 : Int32))])) _
      refine XS.iloadN X28.here hx rfl (hb hby d1_24) rfl ?_
      show Steps p.tables e below (T28.setTop (mkF m 25 #[.val (.int (1911 : Int32)), .val (.ref h0.size), .val (.int (7 : Int32)), .val (.int (5 : Int32)), .val (.ref w_DOWNLOAD_FAILED)] [(.int (1911 : Int32)), (.int (1911 : Int32))])) _
      refine XS.icmpNo X28.here hx rfl (hb hby d1_25) rfl (teq hc25_30).2 ?_
      show Steps p.tables e below (T28.setTop (mkF m 28 #[.val (.int (1911 : Int32)), .val (.ref h0.size), .val (.int (7 : Int32)), .val (.int (5 : Int32)), .val (.ref w_DOWNLOAD_FAILED)] [])) _
      refine XS.aload X28.here hx rfl (hb hby d1_28) rfl rfl ?_
      exact k)
  obtain ⟨fs, hr, hrun, hended, hW, hsame⟩ := X28.leave (v := (some (.ref w_DOWNLOAD_FAILED))) (fun h => by rw [Bd.returns] at h; cases h)
  refine ⟨_, _, k31 _ ?_, hrun, hended, _, _, rfl, ?_, ⟨_, rfl⟩, hW, hsame.mono (by decide) (by decide)⟩
  · exact retOut X28 hx Bd.returns rfl (Or.inr (Or.inr (Or.inr (Or.inr ⟨rfl, rfl, rfl⟩)))) (hb hby d1_30) hr
  · show Q1_DOWNLOAD_FAILED Z wv cl w_SUCCESS w_PROCESSING w_RATE_LIMITED w_INVALID_PARAMETERS w_SERVICE_FAILURE w_DOWNLOAD_FAILED w_NO_PERMISSION h0 n0 _ T28.heap _
    rw [e28]
    exact ⟨rfl, N1, Ex1⟩
theorem ef_1_NO_PERMISSION (m : MethodId) (x0 : Int32) : entryFrame m #[(.int x0)] 5 = mkF m 0 #[.val (.int x0), .unset, .unset, .unset, .unset] [] := by first | (simp [entryFrame, mkF, argsToLocals, Value.category]; done) | rfl
def Q1_NO_PERMISSION (Z : State) (wv : Addr) (cl : Cell) (w_SUCCESS : Addr) (w_PROCESSING : Addr) (w_RATE_LIMITED : Addr) (w_INVALID_PARAMETERS : Addr) (w_SERVICE_FAILURE : Addr) (w_DOWNLOAD_FAILED : Addr) (w_NO_PERMISSION : Addr) (h0 : Heap) (n0 : Nat) (v : Option Value) (h : Heap) (L : List Loc) : Prop := v = some (.ref w_NO_PERMISSION) ∧ Fr n0 L ∧ Ext h0 h
set_option maxRecDepth 65536 in
set_option maxHeartbeats 40000000 in
theorem rm1_NO_PERMISSION (l : Launch) (Z : State) (a0 : Array Value) (hw : ∀ d ∈ tables_1, d.before a0 Z = true) (ws : List Jvm.Cond) (wv : Addr) (cl : Cell) (w_SUCCESS : Addr) (w_PROCESSING : Addr) (w_RATE_LIMITED : Addr) (w_INVALID_PARAMETERS : Addr) (w_SERVICE_FAILURE : Addr) (w_DOWNLOAD_FAILED : Addr) (w_NO_PERMISSION : Addr) (h0 : Heap) (n0 : Nat) (Z0 : n0 ≤ h0.size) (S_V : Sta Z h0 "com/example/mediawarden/mediawarden/task/Code" "$VALUES" "[Lcom/example/mediawarden/mediawarden/task/Code;" (.ref wv)) (Arv_ : Arr Z h0 wv cl (.object "com/example/mediawarden/mediawarden/task/Code")) (E_V : Exa Z h0 wv "[Lcom/example/mediawarden/mediawarden/task/Code;") (hsz : cl.slots.size = 7) (hat0 : cl.slots[0]? = some (.ref w_SUCCESS)) (hat1 : cl.slots[1]? = some (.ref w_PROCESSING)) (hat2 : cl.slots[2]? = some (.ref w_RATE_LIMITED)) (hat3 : cl.slots[3]? = some (.ref w_INVALID_PARAMETERS)) (hat4 : cl.slots[4]? = some (.ref w_SERVICE_FAILURE)) (hat5 : cl.slots[5]? = some (.ref w_DOWNLOAD_FAILED)) (hat6 : cl.slots[6]? = some (.ref w_NO_PERMISSION)) (F_number_w_SUCCESS : Fld Z h0 w_SUCCESS "com/example/mediawarden/mediawarden/task/Code" "number" "I" (.int (1100 : Int32))) (F_number_w_PROCESSING : Fld Z h0 w_PROCESSING "com/example/mediawarden/mediawarden/task/Code" "number" "I" (.int (1101 : Int32))) (F_number_w_RATE_LIMITED : Fld Z h0 w_RATE_LIMITED "com/example/mediawarden/mediawarden/task/Code" "number" "I" (.int (1901 : Int32))) (F_number_w_INVALID_PARAMETERS : Fld Z h0 w_INVALID_PARAMETERS "com/example/mediawarden/mediawarden/task/Code" "number" "I" (.int (1902 : Int32))) (F_number_w_SERVICE_FAILURE : Fld Z h0 w_SERVICE_FAILURE "com/example/mediawarden/mediawarden/task/Code" "number" "I" (.int (1903 : Int32))) (F_number_w_DOWNLOAD_FAILED : Fld Z h0 w_DOWNLOAD_FAILED "com/example/mediawarden/mediawarden/task/Code" "number" "I" (.int (1911 : Int32))) (F_number_w_NO_PERMISSION : Fld Z h0 w_NO_PERMISSION "com/example/mediawarden/mediawarden/task/Code" "number" "I" (.int (9101 : Int32))) :
    MetFree l (⟨"com/example/mediawarden/mediawarden/task/Code", "of", "(I)Lcom/example/mediawarden/mediawarden/task/Code;"⟩ : MethodName) (head1 (Jvm.Cond.code (⟨"com/example/mediawarden/mediawarden/task/Code", "of", "(I)Lcom/example/mediawarden/mediawarden/task/Code;"⟩ : MethodName) prog_61_method_4_code 5 (some (.object "com/example/mediawarden/mediawarden/task/Code")) :: ws) ({ frames := 2, cells := 1, slots := 7, locals := 25 } : Room)) (fun a U => a = #[(.int (9101 : Int32))] ∧ Z.Warmed39 U.vm ∧ U.heap = h0) (fun _ _ _ _ _ => True) (fun _ U o U' => ∃ v L, o = .returned v ∧ Q1_NO_PERMISSION Z wv cl w_SUCCESS w_PROCESSING w_RATE_LIMITED w_INVALID_PARAMETERS w_SERVICE_FAILURE w_DOWNLOAD_FAILED w_NO_PERMISSION h0 n0 v U'.heap L ∧ FrameEnd U o U' L ({ frames := 2, cells := 1, slots := 7, locals := 25 } : Room).cells ({ frames := 2, cells := 1, slots := 7, locals := 25 } : Room).slots) := by
  refine MetFree.of_bodySF (plainFor_of_name pn_0) hisR ?_
  intro p e s m args below meth c s₁ Bd hml0 hP hK
  obtain ⟨rfl, hZ, hh⟩ := hP
  have hx := Bd.exec
  have hby := Bd.bytes
  have hml : c.maxLocals = 5 := hml0
  have hown : s.vm.findClass "com/example/mediawarden/mediawarden/task/Code" = some m.cls := findClass_of_methodNamed Bd.named
  have hnm := (name_of_methodNamed Bd.named Bd.method).1
  have X0 : Stand p l e ({ frames := 2, cells := 1, slots := 7, locals := 25 } : Room) s m #[(.int (9101 : Int32))] below meth c s₁ [] 0 0 := Stand.of_body Bd
  have e0 : s₁.heap = h0 := by rw [← hh, Bd.state]; rfl
  have N0 := Fr.nil n0
  have k0 : ∀ t, Steps p.tables e below (s₁.setTop (mkF m 0 #[.val (.int (9101 : Int32)), .unset, .unset, .unset, .unset] [])) t → Steps p.tables e below (s₁.setTop (entryFrame m #[(.int (9101 : Int32))] 5)) t := fun t k => castTop (ef_1_NO_PERMISSION m (9101 : Int32)) k
  obtain ⟨_, _, ⟨T1, L1, kq1, n1⟩, -, X1, ⟨Lc1, hQ1, l1, y1, z1⟩, st1⟩ := Jvm.LawKit.callS X0 hx (y := (⟨"com/example/mediawarden/mediawarden/task/Code", "values", "()[Lcom/example/mediawarden/mediawarden/task/Code;"⟩ : MethodName)) hown (mvT hZ (hw _ (List.mem_of_getElem? (i := 7) rfl))) (mvT hZ (hw _ (List.mem_of_getElem? (i := 8) rfl))) (mvT hZ (hw _ (List.mem_of_getElem? (i := 2) rfl))) (mvT hZ (hw _ (List.mem_of_getElem? (i := 9) rfl))) (by decide) (backOf (W := 0) (rmV l Z a0 hw [] wv cl w_SUCCESS w_PROCESSING w_RATE_LIMITED w_INVALID_PARAMETERS w_SERVICE_FAILURE w_DOWNLOAD_FAILED w_NO_PERMISSION h0 n0 Z0 S_V Arv_ E_V hsz hat0 hat1 hat2 hat3 hat4 hat5 hat6) hZ (hw _ (List.mem_of_getElem? (i := 9) rfl)) (hw _ (List.mem_of_getElem? (i := 2) rfl)) (by decide) (by decide)) (g := (mkF m 0 #[.val (.int (9101 : Int32)), .unset, .unset, .unset, .unset] [])) rfl (by rw [hml]; rfl) (argsL := []) (rest := []) (lenOf pd_0 rfl) rfl (by show 2 * 0 + _ ≤ _; exact Nat.le_of_eq rfl) (hb hby d1_0) (fun _ _ => ⟨rfl, e0, (by decide : 0 + 1 ≤ _), (by decide : 0 + 7 ≤ _)⟩)
  dsimp only [Pt.U, Pt.locs, Pt.cells, Pt.slots] at X1 l1 y1 z1 st1 hQ1
  subst l1 y1 z1
  obtain ⟨rfl, N1q, Ex1, hcell1⟩ := hQ1
  have N1 := Fr.app N0 N1q
  have Zs1 : n0 ≤ T1.heap.size := Nat.le_trans Z0 Ex1.1
  have Arn : Arr Z T1.heap h0.size { cls := cl.cls, slots := cl.slots } (.object "com/example/mediawarden/mediawarden/task/Code") := ⟨hcell1, ⟨(fun k q => by cases q), Arv_.2.1.2⟩, (fun q => by cases q)⟩
  have hlen : (cl.slots.size).toInt32 = (7 : Int32) := by rw [hsz]; rfl
  have k2 : ∀ t, Steps p.tables e below (T1.setTop (mkF m 3 #[.val (.int (9101 : Int32)), .unset, .unset, .unset, .unset] [(.ref h0.size)])) t → Steps p.tables e below (s₁.setTop (entryFrame m #[(.int (9101 : Int32))] 5)) t := fun t k => k0 t (st1 _ k)
  have hc11 : (0 : Int32) < (7 : Int32) := by decide
  have k3 : ∀ t, Steps p.tables e below (T1.setTop (mkF m 21 #[.val (.int (9101 : Int32)), .val (.ref h0.size), .val (.int (7 : Int32)), .val (.int (0 : Int32)), .val (.ref w_SUCCESS)] [(.ref w_SUCCESS)])) t → Steps p.tables e below (s₁.setTop (entryFrame m #[(.int (9101 : Int32))] 5)) t := fun t k => k2 t (by
      show Steps p.tables e below (T1.setTop (mkF m 3 #[.val (.int (9101 : Int32)), .unset, .unset, .unset, .unset] [(.ref h0.size)])) _
      refine XS.astoreN X1.here hx rfl (hb hby d1_3) rfl rfl (l' := #[.val (.int (9101 : Int32)), .val (.ref h0.size), .unset, .unset, .unset]) rfl ?_
      show Steps p.tables e below (T1.setTop (mkF m 4 #[.val (.int (9101 : Int32)), .val (.ref h0.size), .unset, .unset, .unset] [])) _
      refine XS.aloadN X1.here hx rfl (hb hby d1_4) rfl rfl ?_
      show Steps p.tables e below (T1.setTop (mkF m 5 #[.val (.int (9101 : Int32)), .val (.ref h0.size), .unset, .unset, .unset] [(.ref h0.size)])) _
      refine X1.arraylength hx Arn.1 (State.isArrayOf_alike hZ.alike Arn.2.1) (g := (mkF m 5 #[.val (.int (9101 : Int32)), .val (.ref h0.size), .unset, .unset, .unset] [(.ref h0.size)])) rfl rfl (hb hby d1_5) _ ?_
      rw [hlen]
      show Steps p.tables e below (T1.setTop (mkF m 6 #[.val (.int (9101 : Int32)), .val (.ref h0.size), .unset, .unset, .unset] [(.int (7 : Int32))])) _
      refine XS.istoreN X1.here hx rfl (hb hby d1_6) rfl (l' := #[.val (.int (9101 : Int32)), .val (.ref h0.size), .val (.int (7 : Int32)), .unset, .unset]) rfl ?_
      show Steps p.tables e below (T1.setTop (mkF m 7 #[.val (.int (9101 : Int32)), .val (.ref h0.size), .val (.int (7 : Int32)), .unset, .unset] [])) _
      refine XS.iconst X1.here hx rfl (hb hby d1_7) ?_
      show Steps p.tables e below (T1.setTop (mkF m 8 #[.val (.int (9101 : Int32)), .val (.ref h0.size), .val (.int (7 : Int32)), .unset, .unset] [(.int (0 : Int32))])) _
      refine XS.istoreN X1.here hx rfl (hb hby d1_8) rfl (l' := #[.val (.int (9101 : Int32)), .val (.ref h0.size), .val (.int (7 : Int32)), .val (.int (0 : Int32)), .unset]) rfl ?_
      show Steps p.tables e below (T1.setTop (mkF m 9 #[.val (.int (9101 : Int32)), .val (.ref h0.size), .val (.int (7 : Int32)), .val (.int (0 : Int32)), .unset] [])) _
      refine XS.iloadN X1.here hx rfl (hb hby d1_9) rfl ?_
      show Steps p.tables e below (T1.setTop (mkF m 10 #[.val (.int (9101 : Int32)), .val (.ref h0.size), .val (.int (7 : Int32)), .val (.int (0 : Int32)), .unset] [(.int (0 : Int32))])) _
      refine XS.iloadN X1.here hx rfl (hb hby d1_10) rfl ?_
      show Steps p.tables e below (T1.setTop (mkF m 11 #[.val (.int (9101 : Int32)), .val (.ref h0.size), .val (.int (7 : Int32)), .val (.int (0 : Int32)), .unset] [(.int (7 : Int32)), (.int (0 : Int32))])) _
      refine XS.icmpNo X1.here hx rfl (hb hby d1_11) rfl (tlt hc11).2.1 ?_
      show Steps p.tables e below (T1.setTop (mkF m 14 #[.val (.int (9101 : Int32)), .val (.ref h0.size), .val (.int (7 : Int32)), .val (.int (0 : Int32)), .unset] [])) _
      refine XS.aloadN X1.here hx rfl (hb hby d1_14) rfl rfl ?_
      show Steps p.tables e below (T1.setTop (mkF m 15 #[.val (.int (9101 : Int32)), .val (.ref h0.size), .val (.int (7 : Int32)), .val (.int (0 : Int32)), .unset] [(.ref h0.size)])) _
      refine XS.iloadN X1.here hx rfl (hb hby d1_15) rfl ?_
      show Steps p.tables e below (T1.setTop (mkF m 16 #[.val (.int (9101 : Int32)), .val (.ref h0.size), .val (.int (7 : Int32)), .val (.int (0 : Int32)), .unset] [(.int (0 : Int32)), (.ref h0.size)])) _
      refine X1.aaload hx (j := (0 : Int32)) (v := .ref w_SUCCESS) Arn.1 (State.isArrayOf_alike hZ.alike Arn.2.1) rfl Arn.2.2 (fun q => q.elim (by decide) (fun q => by have q' : cl.slots.size ≤ 0 := q; omega)) hat0 (g := (mkF m 16 #[.val (.int (9101 : Int32)), .val (.ref h0.size), .val (.int (7 : Int32)), .val (.int (0 : Int32)), .unset] [(.int (0 : Int32)), (.ref h0.size)])) rfl rfl (hb hby d1_16) _ ?_
      show Steps p.tables e below (T1.setTop (mkF m 17 #[.val (.int (9101 : Int32)), .val (.ref h0.size), .val (.int (7 : Int32)), .val (.int (0 : Int32)), .unset] [(.ref w_SUCCESS)])) _
      refine XS.astore X1.here hx rfl (hb hby d1_17) rfl rfl (l' := #[.val (.int (9101 : Int32)), .val (.ref h0.size), .val (.int (7 : Int32)), .val (.int (0 : Int32)), .val (.ref w_SUCCESS)]) rfl ?_
      show Steps p.tables e below (T1.setTop (mkF m 19 #[.val (.int (9101 : Int32)), .val (.ref h0.size), .val (.int (7 : Int32)), .val (.int (0 : Int32)), .val (.ref w_SUCCESS)] [])) _
      refine XS.aload X1.here hx rfl (hb hby d1_19) rfl rfl ?_
      exact k)
  obtain ⟨T4, X4, e4, st4⟩ := getF X1 hx hZ hown (host := "") (Or.inl (hw _ (List.mem_of_getElem? (i := 28) rfl))) Via.refl rfl (F_number_w_SUCCESS.ext Ex1) (g := (mkF m 21 #[.val (.int (9101 : Int32)), .val (.ref h0.size), .val (.int (7 : Int32)), .val (.int (0 : Int32)), .val (.ref w_SUCCESS)] [(.ref w_SUCCESS)])) rfl rfl (hb hby d1_21)
  have k5 : ∀ t, Steps p.tables e below (T4.setTop (mkF m 24 #[.val (.int (9101 : Int32)), .val (.ref h0.size), .val (.int (7 : Int32)), .val (.int (0 : Int32)), .val (.ref w_SUCCESS)] [(.int (1100 : Int32))])) t → Steps p.tables e below (s₁.setTop (entryFrame m #[(.int (9101 : Int32))] 5)) t := fun t k => k3 t (st4 _ k)
  have hc25 : ¬ ((1100 : Int32) = (9101 : Int32)) := by decide
  have hc11_6 : (1 : Int32) < (7 : Int32) := by decide
  have k7 : ∀ t, Steps p.tables e below (T4.setTop (mkF m 21 #[.val (.int (9101 : Int32)), .val (.ref h0.size), .val (.int (7 : Int32)), .val (.int (1 : Int32)), .val (.ref w_PROCESSING)] [(.ref w_PROCESSING)])) t → Steps p.tables e below (s₁.setTop (entryFrame m #[(.int (9101 : Int32))] 5)) t := fun t k => k5 t (by
      show Steps p.tables e below (T4.setTop (mkF m 24 #[.val (.int (9101 : Int32)), .val (.ref h0.size), .val (.int (7 : Int32)), .val (.int (0 : Int32)), .val (.ref w_SUCCESS)] [(.int (1100 : Int32))])) _
      refine XS.iloadN X4.here hx rfl (hb hby d1_24) rfl ?_
      show Steps p.tables e below (T4.setTop (mkF m 25 #[.val (.int (9101 : Int32)), .val (.ref h0.size), .val (.int (7 : Int32)), .val (.int (0 : Int32)), .val (.ref w_SUCCESS)] [(.int (9101 : Int32)), (.int (1100 : Int32))])) _
      refine XS.icmpYes X4.here hx rfl (pc0 := 25) (pc' := 31) rfl (hb hby d1_25) rfl (feq hc25).2 (by decide) (by decide) ?_
      show Steps p.tables e below (T4.setTop (mkF m 31 #[.val (.int (9101 : Int32)), .val (.ref h0.size), .val (.int (7 : Int32)), .val (.int (0 : Int32)), .val (.ref w_SUCCESS)] [])) _
      refine XS.iinc X4.here hx rfl (hb hby d1_31) rfl (l' := #[.val (.int (9101 : Int32)), .val (.ref h0.size), .val (.int (7 : Int32)), .val (.int (1 : Int32)), .val (.ref w_SUCCESS)]) rfl ?_
      show Steps p.tables e below (T4.setTop (mkF m 34 #[.val (.int (9101 : Int32)), .val (.ref h0.size), .val (.int (7 : Int32)), .val (.int (1 : Int32)), .val (.ref w_SUCCESS)] [])) _
      refine XS.goto X4.here hx rfl (pc0 := 34) (pc' := 9) rfl (hb hby d1_34) (by decide) (by decide) ?_
      show Steps p.tables e below (T4.setTop (mkF m 9 #[.val (.int (9101 : Int32)), .val (.ref h0.size), .val (.int (7 : Int32)), .val (.int (1 : Int32)), .val (.ref w_SUCCESS)] [])) _
      refine XS.iloadN X4.here hx rfl (hb hby d1_9) rfl ?_
      show Steps p.tables e below (T4.setTop (mkF m 10 #[.val (.int (9101 : Int32)), .val (.ref h0.size), .val (.int (7 : Int32)), .val (.int (1 : Int32)), .val (.ref w_SUCCESS)] [(.int (1 : Int32))])) _
      refine XS.iloadN X4.here hx rfl (hb hby d1_10) rfl ?_
      show Steps p.tables e below (T4.setTop (mkF m 11 #[.val (.int (9101 : Int32)), .val (.ref h0.size), .val (.int (7 : Int32)), .val (.int (1 : Int32)), .val (.ref w_SUCCESS)] [(.int (7 : Int32)), (.int (1 : Int32))])) _
      refine XS.icmpNo X4.here hx rfl (hb hby d1_11) rfl (tlt hc11_6).2.1 ?_
      show Steps p.tables e below (T4.setTop (mkF m 14 #[.val (.int (9101 : Int32)), .val (.ref h0.size), .val (.int (7 : Int32)), .val (.int (1 : Int32)), .val (.ref w_SUCCESS)] [])) _
      refine XS.aloadN X4.here hx rfl (hb hby d1_14) rfl rfl ?_
      show Steps p.tables e below (T4.setTop (mkF m 15 #[.val (.int (9101 : Int32)), .val (.ref h0.size), .val (.int (7 : Int32)), .val (.int (1 : Int32)), .val (.ref w_SUCCESS)] [(.ref h0.size)])) _
      refine XS.iloadN X4.here hx rfl (hb hby d1_15) rfl ?_
      show Steps p.tables e below (T4.setTop (mkF m 16 #[.val (.int (9101 : Int32)), .val (.ref h0.size), .val (.int (7 : Int32)), .val (.int (1 : Int32)), .val (.ref w_SUCCESS)] [(.int (1 : Int32)), (.ref h0.size)])) _
      refine X4.aaload hx (j := (1 : Int32)) (v := .ref w_PROCESSING) (by rw [e4]; exact Arn.1) (State.isArrayOf_alike hZ.alike Arn.2.1) rfl Arn.2.2 (fun q => q.elim (by decide) (fun q => by have q' : cl.slots.size ≤ 1 := q; omega)) hat1 (g := (mkF m 16 #[.val (.int (9101 : Int32)), .val (.ref h0.size), .val (.int (7 : Int32)), .val (.int (1 : Int32)), .val (.ref w_SUCCESS)] [(.int (1 : Int32)), (.ref h0.size)])) rfl rfl (hb hby d1_16) _ ?_
      show Steps p.tables e below (T4.setTop (mkF m 17 #[.val (.int (9101 : Int32)), .val (.ref h0.size), .val (.int (7 : Int32)), .val (.int (1 : Int32)), .val (.ref w_SUCCESS)] [(.ref w_PROCESSING)])) _
      refine XS.astore X4.here hx rfl (hb hby d1_17) rfl rfl (l' := #[.val (.int (9101 : Int32)), .val (.ref h0.size), .val (.int (7 : Int32)), .val (.int (1 : Int32)), .val (.ref w_PROCESSING)]) rfl ?_
      show Steps p.tables e below (T4.setTop (mkF m 19 #[.val (.int (9101 : Int32)), .val (.ref h0.size), .val (.int (7 : Int32)), .val (.int (1 : Int32)), .val (.ref w_PROCESSING)] [])) _
      refine XS.aload X4.here hx rfl (hb hby d1_19) rfl rfl ?_
      exact k)
  obtain ⟨T8, X8, e8, st8⟩ := getF X4 hx hZ hown (host := "") (Or.inl (hw _ (List.mem_of_getElem? (i := 28) rfl))) Via.refl e4 (F_number_w_PROCESSING.ext Ex1) (g := (mkF m 21 #[.val (.int (9101 : Int32)), .val (.ref h0.size), .val (.int (7 : Int32)), .val (.int (1 : Int32)), .val (.ref w_PROCESSING)] [(.ref w_PROCESSING)])) rfl rfl (hb hby d1_21)
  have k9 : ∀ t, Steps p.tables e below (T8.setTop (mkF m 24 #[.val (.int (9101 : Int32)), .val (.ref h0.size), .val (.int (7 : Int32)), .val (.int (1 : Int32)), .val (.ref w_PROCESSING)] [(.int (1101 : Int32))])) t → Steps p.tables e below (s₁.setTop (entryFrame m #[(.int (9101 : Int32))] 5)) t := fun t k => k7 t (st8 _ k)
  have hc25_10 : ¬ ((1101 : Int32) = (9101 : Int32)) := by decide
  have hc11_11 : (2 : Int32) < (7 : Int32) := by decide
  have k12 : ∀ t, Steps p.tables e below (T8.setTop (mkF m 21 #[.val (.int (9101 : Int32)), .val (.ref h0.size), .val (.int (7 : Int32)), .val (.int (2 : Int32)), .val (.ref w_RATE_LIMITED)] [(.ref w_RATE_LIMITED)])) t → Steps p.tables e below (s₁.setTop (entryFrame m #[(.int (9101 : Int32))] 5)) t := fun t k => k9 t (by
      show Steps p.tables e below (T8.setTop (mkF m 24 #[.val (.int (9101 : Int32)), .val (.ref h0.size), .val (.int (7 : Int32)), .val (.int (1 : Int32)), .val (.ref w_PROCESSING)] [(.int (1101 : Int32))])) _
      refine XS.iloadN X8.here hx rfl (hb hby d1_24) rfl ?_
      show Steps p.tables e below (T8.setTop (mkF m 25 #[.val (.int (9101 : Int32)), .val (.ref h0.size), .val (.int (7 : Int32)), .val (.int (1 : Int32)), .val (.ref w_PROCESSING)] [(.int (9101 : Int32)), (.int (1101 : Int32))])) _
      refine XS.icmpYes X8.here hx rfl (pc0 := 25) (pc' := 31) rfl (hb hby d1_25) rfl (feq hc25_10).2 (by decide) (by decide) ?_
      show Steps p.tables e below (T8.setTop (mkF m 31 #[.val (.int (9101 : Int32)), .val (.ref h0.size), .val (.int (7 : Int32)), .val (.int (1 : Int32)), .val (.ref w_PROCESSING)] [])) _
      refine XS.iinc X8.here hx rfl (hb hby d1_31) rfl (l' := #[.val (.int (9101 : Int32)), .val (.ref h0.size), .val (.int (7 : Int32)), .val (.int (2 : Int32)), .val (.ref w_PROCESSING)]) rfl ?_
      show Steps p.tables e below (T8.setTop (mkF m 34 #[.val (.int (9101 : Int32)), .val (.ref h0.size), .val (.int (7 : Int32)), .val (.int (2 : Int32)), .val (.ref w_PROCESSING)] [])) _
      refine XS.goto X8.here hx rfl (pc0 := 34) (pc' := 9) rfl (hb hby d1_34) (by decide) (by decide) ?_
      show Steps p.tables e below (T8.setTop (mkF m 9 #[.val (.int (9101 : Int32)), .val (.ref h0.size), .val (.int (7 : Int32)), .val (.int (2 : Int32)), .val (.ref w_PROCESSING)] [])) _
      refine XS.iloadN X8.here hx rfl (hb hby d1_9) rfl ?_
      show Steps p.tables e below (T8.setTop (mkF m 10 #[.val (.int (9101 : Int32)), .val (.ref h0.size), .val (.int (7 : Int32)), .val (.int (2 : Int32)), .val (.ref w_PROCESSING)] [(.int (2 : Int32))])) _
      refine XS.iloadN X8.here hx rfl (hb hby d1_10) rfl ?_
      show Steps p.tables e below (T8.setTop (mkF m 11 #[.val (.int (9101 : Int32)), .val (.ref h0.size), .val (.int (7 : Int32)), .val (.int (2 : Int32)), .val (.ref w_PROCESSING)] [(.int (7 : Int32)), (.int (2 : Int32))])) _
      refine XS.icmpNo X8.here hx rfl (hb hby d1_11) rfl (tlt hc11_11).2.1 ?_
      show Steps p.tables e below (T8.setTop (mkF m 14 #[.val (.int (9101 : Int32)), .val (.ref h0.size), .val (.int (7 : Int32)), .val (.int (2 : Int32)), .val (.ref w_PROCESSING)] [])) _
      refine XS.aloadN X8.here hx rfl (hb hby d1_14) rfl rfl ?_
      show Steps p.tables e below (T8.setTop (mkF m 15 #[.val (.int (9101 : Int32)), .val (.ref h0.size), .val (.int (7 : Int32)), .val (.int (2 : Int32)), .val (.ref w_PROCESSING)] [(.ref h0.size)])) _
      refine XS.iloadN X8.here hx rfl (hb hby d1_15) rfl ?_
      show Steps p.tables e below (T8.setTop (mkF m 16 #[.val (.int (9101 : Int32)), .val (.ref h0.size), .val (.int (7 : Int32)), .val (.int (2 : Int32)), .val (.ref w_PROCESSING)] [(.int (2 : Int32)), (.ref h0.size)])) _
      refine X8.aaload hx (j := (2 : Int32)) (v := .ref w_RATE_LIMITED) (by rw [e8]; exact Arn.1) (State.isArrayOf_alike hZ.alike Arn.2.1) rfl Arn.2.2 (fun q => q.elim (by decide) (fun q => by have q' : cl.slots.size ≤ 2 := q; omega)) hat2 (g := (mkF m 16 #[.val (.int (9101 : Int32)), .val (.ref h0.size), .val (.int (7 : Int32)), .val (.int (2 : Int32)), .val (.ref w_PROCESSING)] [(.int (2 : Int32)), (.ref h0.size)])) rfl rfl (hb hby d1_16) _ ?_
      show Steps p.tables e below (T8.setTop (mkF m 17 #[.val (.int (9101 : Int32)), .val (.ref h0.size), .val (.int (7 : Int32)), .val (.int (2 : Int32)), .val (.ref w_PROCESSING)] [(.ref w_RATE_LIMITED)])) _
      refine XS.astore X8.here hx rfl (hb hby d1_17) rfl rfl (l' := #[.val (.int (9101 : Int32)), .val (.ref h0.size), .val (.int (7 : Int32)), .val (.int (2 : Int32)), .val (.ref w_RATE_LIMITED)]) rfl ?_
      show Steps p.tables e below (T8.setTop (mkF m 19 #[.val (.int (9101 : Int32)), .val (.ref h0.size), .val (.int (7 : Int32)), .val (.int (2 : Int32)), .val (.ref w_RATE_LIMITED)] [])) _
      refine XS.aload X8.here hx rfl (hb hby d1_19) rfl rfl ?_
      exact k)
  obtain ⟨T13, X13, e13, st13⟩ := getF X8 hx hZ hown (host := "") (Or.inl (hw _ (List.mem_of_getElem? (i := 28) rfl))) Via.refl e8 (F_number_w_RATE_LIMITED.ext Ex1) (g := (mkF m 21 #[.val (.int (9101 : Int32)), .val (.ref h0.size), .val (.int (7 : Int32)), .val (.int (2 : Int32)), .val (.ref w_RATE_LIMITED)] [(.ref w_RATE_LIMITED)])) rfl rfl (hb hby d1_21)
  have k14 : ∀ t, Steps p.tables e below (T13.setTop (mkF m 24 #[.val (.int (9101 : Int32)), .val (.ref h0.size), .val (.int (7 : Int32)), .val (.int (2 : Int32)), .val (.ref w_RATE_LIMITED)] [(.int (1901 : Int32))])) t → Steps p.tables e below (s₁.setTop (entryFrame m #[(.int (9101 : Int32))] 5)) t := fun t k => k12 t (st13 _ k)
  have hc25_15 : ¬ ((1901 : Int32) = (9101 : Int32)) := by decide
  have hc11_16 : (3 : Int32) < (7 : Int32) := by decide
  have k17 : ∀ t, Steps p.tables e below (T13.setTop (mkF m 21 #[.val (.int (9101 : Int32)), .val (.ref h0.size), .val (.int (7 : Int32)), .val (.int (3 : Int32)), .val (.ref w_INVALID_PARAMETERS)] [(.ref w_INVALID_PARAMETERS)])) t → Steps p.tables e below (s₁.setTop (entryFrame m #[(.int (9101 : Int32))] 5)) t := fun t k => k14 t (by
      show Steps p.tables e below (T13.setTop (mkF m 24 #[.val (.int (9101 : Int32)), .val (.ref h0.size), .val (.int (7 : Int32)), .val (.int (2 : Int32)), .val (.ref w_RATE_LIMITED)] [(.int (1901 : Int32))])) _
      refine XS.iloadN X13.here hx rfl (hb hby d1_24) rfl ?_
      show Steps p.tables e below (T13.setTop (mkF m 25 #[.val (.int (9101 : Int32)), .val (.ref h0.size), .val (.int (7 : Int32)), .val (.int (2 : Int32)), .val (.ref w_RATE_LIMITED)] [(.int (9101 : Int32)), (.int (1901 : Int32))])) _
      refine XS.icmpYes X13.here hx rfl (pc0 := 25) (pc' := 31) rfl (hb hby d1_25) rfl (feq hc25_15).2 (by decide) (by decide) ?_
      show Steps p.tables e below (T13.setTop (mkF m 31 #[.val (.int (9101 : Int32)), .val (.ref h0.size), .val (.int (7 : Int32)), .val (.int (2 : Int32)), .val (.ref w_RATE_LIMITED)] [])) _
      refine XS.iinc X13.here hx rfl (hb hby d1_31) rfl (l' := #[.val (.int (9101 : Int32)), .val (.ref h0.size), .val (.int (7 : Int32)), .val (.int (3 : Int32)), .val (.ref w_RATE_LIMITED)]) rfl ?_
      show Steps p.tables e below (T13.setTop (mkF m 34 #[.val (.int (9101 : Int32)), .val (.ref h0.size), .val (.int (7 : Int32)), .val (.int (3 : Int32)), .val (.ref w_RATE_LIMITED)] [])) _
      refine XS.goto X13.here hx rfl (pc0 := 34) (pc' := 9) rfl (hb hby d1_34) (by decide) (by decide) ?_
      show Steps p.tables e below (T13.setTop (mkF m 9 #[.val (.int (9101 : Int32)), .val (.ref h0.size), .val (.int (7 : Int32)), .val (.int (3 : Int32)), .val (.ref w_RATE_LIMITED)] [])) _
      refine XS.iloadN X13.here hx rfl (hb hby d1_9) rfl ?_
      show Steps p.tables e below (T13.setTop (mkF m 10 #[.val (.int (9101 : Int32)), .val (.ref h0.size), .val (.int (7 : Int32)), .val (.int (3 : Int32)), .val (.ref w_RATE_LIMITED)] [(.int (3 : Int32))])) _
      refine XS.iloadN X13.here hx rfl (hb hby d1_10) rfl ?_
      show Steps p.tables e below (T13.setTop (mkF m 11 #[.val (.int (9101 : Int32)), .val (.ref h0.size), .val (.int (7 : Int32)), .val (.int (3 : Int32)), .val (.ref w_RATE_LIMITED)] [(.int (7 : Int32)), (.int (3 : Int32))])) _
      refine XS.icmpNo X13.here hx rfl (hb hby d1_11) rfl (tlt hc11_16).2.1 ?_
      show Steps p.tables e below (T13.setTop (mkF m 14 #[.val (.int (9101 : Int32)), .val (.ref h0.size), .val (.int (7 : Int32)), .val (.int (3 : Int32)), .val (.ref w_RATE_LIMITED)] [])) _
      refine XS.aloadN X13.here hx rfl (hb hby d1_14) rfl rfl ?_
      show Steps p.tables e below (T13.setTop (mkF m 15 #[.val (.int (9101 : Int32)), .val (.ref h0.size), .val (.int (7 : Int32)), .val (.int (3 : Int32)), .val (.ref w_RATE_LIMITED)] [(.ref h0.size)])) _
      refine XS.iloadN X13.here hx rfl (hb hby d1_15) rfl ?_
      show Steps p.tables e below (T13.setTop (mkF m 16 #[.val (.int (9101 : Int32)), .val (.ref h0.size), .val (.int (7 : Int32)), .val (.int (3 : Int32)), .val (.ref w_RATE_LIMITED)] [(.int (3 : Int32)), (.ref h0.size)])) _
      refine X13.aaload hx (j := (3 : Int32)) (v := .ref w_INVALID_PARAMETERS) (by rw [e13]; exact Arn.1) (State.isArrayOf_alike hZ.alike Arn.2.1) rfl Arn.2.2 (fun q => q.elim (by decide) (fun q => by have q' : cl.slots.size ≤ 3 := q; omega)) hat3 (g := (mkF m 16 #[.val (.int (9101 : Int32)), .val (.ref h0.size), .val (.int (7 : Int32)), .val (.int (3 : Int32)), .val (.ref w_RATE_LIMITED)] [(.int (3 : Int32)), (.ref h0.size)])) rfl rfl (hb hby d1_16) _ ?_
      show Steps p.tables e below (T13.setTop (mkF m 17 #[.val (.int (9101 : Int32)), .val (.ref h0.size), .val (.int (7 : Int32)), .val (.int (3 : Int32)), .val (.ref w_RATE_LIMITED)] [(.ref w_INVALID_PARAMETERS)])) _
      refine XS.astore X13.here hx rfl (hb hby d1_17) rfl rfl (l' := #[.val (.int (9101 : Int32)), .val (.ref h0.size), .val (.int (7 : Int32)), .val (.int (3 : Int32)), .val (.ref w_INVALID_PARAMETERS)]) rfl ?_
      show Steps p.tables e below (T13.setTop (mkF m 19 #[.val (.int (9101 : Int32)), .val (.ref h0.size), .val (.int (7 : Int32)), .val (.int (3 : Int32)), .val (.ref w_INVALID_PARAMETERS)] [])) _
      refine XS.aload X13.here hx rfl (hb hby d1_19) rfl rfl ?_
      exact k)
  obtain ⟨T18, X18, e18, st18⟩ := getF X13 hx hZ hown (host := "") (Or.inl (hw _ (List.mem_of_getElem? (i := 28) rfl))) Via.refl e13 (F_number_w_INVALID_PARAMETERS.ext Ex1) (g := (mkF m 21 #[.val (.int (9101 : Int32)), .val (.ref h0.size), .val (.int (7 : Int32)), .val (.int (3 : Int32)), .val (.ref w_INVALID_PARAMETERS)] [(.ref w_INVALID_PARAMETERS)])) rfl rfl (hb hby d1_21)
  have k19 : ∀ t, Steps p.tables e below (T18.setTop (mkF m 24 #[.val (.int (9101 : Int32)), .val (.ref h0.size), .val (.int (7 : Int32)), .val (.int (3 : Int32)), .val (.ref w_INVALID_PARAMETERS)] [(.int (1902 : Int32))])) t → Steps p.tables e below (s₁.setTop (entryFrame m #[(.int (9101 : Int32))] 5)) t := fun t k => k17 t (st18 _ k)
  have hc25_20 : ¬ ((1902 : Int32) = (9101 : Int32)) := by decide
  have hc11_21 : (4 : Int32) < (7 : Int32) := by decide
  have k22 : ∀ t, Steps p.tables e below (T18.setTop (mkF m 21 #[.val (.int (9101 : Int32)), .val (.ref h0.size), .val (.int (7 : Int32)), .val (.int (4 : Int32)), .val (.ref w_SERVICE_FAILURE)] [(.ref w_SERVICE_FAILURE)])) t → Steps p.tables e below (s₁.setTop (entryFrame m #[(.int (9101 : Int32))] 5)) t := fun t k => k19 t (by
      show Steps p.tables e below (T18.setTop (mkF m 24 #[.val (.int (9101 : Int32)), .val (.ref h0.size), .val (.int (7 : Int32)), .val (.int (3 : Int32)), .val (.ref w_INVALID_PARAMETERS)] [(.int (1902 : Int32))])) _
      refine XS.iloadN X18.here hx rfl (hb hby d1_24) rfl ?_
      show Steps p.tables e below (T18.setTop (mkF m 25 #[.val (.int (9101 : Int32)), .val (.ref h0.size), .val (.int (7 : Int32)), .val (.int (3 : Int32)), .val (.ref w_INVALID_PARAMETERS)] [(.int (9101 : Int32)), (.int (1902 : Int32))])) _
      refine XS.icmpYes X18.here hx rfl (pc0 := 25) (pc' := 31) rfl (hb hby d1_25) rfl (feq hc25_20).2 (by decide) (by decide) ?_
      show Steps p.tables e below (T18.setTop (mkF m 31 #[.val (.int (9101 : Int32)), .val (.ref h0.size), .val (.int (7 : Int32)), .val (.int (3 : Int32)), .val (.ref w_INVALID_PARAMETERS)] [])) _
      refine XS.iinc X18.here hx rfl (hb hby d1_31) rfl (l' := #[.val (.int (9101 : Int32)), .val (.ref h0.size), .val (.int (7 : Int32)), .val (.int (4 : Int32)), .val (.ref w_INVALID_PARAMETERS)]) rfl ?_
      show Steps p.tables e below (T18.setTop (mkF m 34 #[.val (.int (9101 : Int32)), .val (.ref h0.size), .val (.int (7 : Int32)), .val (.int (4 : Int32)), .val (.ref w_INVALID_PARAMETERS)] [])) _
      refine XS.goto X18.here hx rfl (pc0 := 34) (pc' := 9) rfl (hb hby d1_34) (by decide) (by decide) ?_
      show Steps p.tables e below (T18.setTop (mkF m 9 #[.val (.int (9101 : Int32)), .val (.ref h0.size), .val (.int (7 : Int32)), .val (.int (4 : Int32)), .val (.ref w_INVALID_PARAMETERS)] [])) _
      refine XS.iloadN X18.here hx rfl (hb hby d1_9) rfl ?_
      show Steps p.tables e below (T18.setTop (mkF m 10 #[.val (.int (9101 : Int32)), .val (.ref h0.size), .val (.int (7 : Int32)), .val (.int (4 : Int32)), .val (.ref w_INVALID_PARAMETERS)] [(.int (4 : Int32))])) _
      refine XS.iloadN X18.here hx rfl (hb hby d1_10) rfl ?_
      show Steps p.tables e below (T18.setTop (mkF m 11 #[.val (.int (9101 : Int32)), .val (.ref h0.size), .val (.int (7 : Int32)), .val (.int (4 : Int32)), .val (.ref w_INVALID_PARAMETERS)] [(.int (7 : Int32)), (.int (4 : Int32))])) _
      refine XS.icmpNo X18.here hx rfl (hb hby d1_11) rfl (tlt hc11_21).2.1 ?_
      show Steps p.tables e below (T18.setTop (mkF m 14 #[.val (.int (9101 : Int32)), .val (.ref h0.size), .val (.int (7 : Int32)), .val (.int (4 : Int32)), .val (.ref w_INVALID_PARAMETERS)] [])) _
      refine XS.aloadN X18.here hx rfl (hb hby d1_14) rfl rfl ?_
      show Steps p.tables e below (T18.setTop (mkF m 15 #[.val (.int (9101 : Int32)), .val (.ref h0.size), .val (.int (7 : Int32)), .val (.int (4 : Int32)), .val (.ref w_INVALID_PARAMETERS)] [(.ref h0.size)])) _
      refine XS.iloadN X18.here hx rfl (hb hby d1_15) rfl ?_
      show Steps p.tables e below (T18.setTop (mkF m 16 #[.val (.int (9101 : Int32)), .val (.ref h0.size), .val (.int (7 : Int32)), .val (.int (4 : Int32)), .val (.ref w_INVALID_PARAMETERS)] [(.int (4 : Int32)), (.ref h0.size)])) _
      refine X18.aaload hx (j := (4 : Int32)) (v := .ref w_SERVICE_FAILURE) (by rw [e18]; exact Arn.1) (State.isArrayOf_alike hZ.alike Arn.2.1) rfl Arn.2.2 (fun q => q.elim (by decide) (fun q => by have q' : cl.slots.size ≤ 4 := q; omega)) hat4 (g := (mkF m 16 #[.val (.int (9101 : Int32)), .val (.ref h0.size), .val (.int (7 : Int32)), .val (.int (4 : Int32)), .val (.ref w_INVALID_PARAMETERS)] [(.int (4 : Int32)), (.ref h0.size)])) rfl rfl (hb hby d1_16) _ ?_
      show Steps p.tables e below (T18.setTop (mkF m 17 #[.val (.int (9101 : Int32)), .val (.ref h0.size), .val (.int (7 : Int32)), .val (.int (4 : Int32)), .val (.ref w_INVALID_PARAMETERS)] [(.ref w_SERVICE_FAILURE)])) _
      refine XS.astore X18.here hx rfl (hb hby d1_17) rfl rfl (l' := #[.val (.int (9101 : Int32)), .val (.ref h0.size), .val (.int (7 : Int32)), .val (.int (4 : Int32)), .val (.ref w_SERVICE_FAILURE)]) rfl ?_
      show Steps p.tables e below (T18.setTop (mkF m 19 #[.val (.int (9101 : Int32)), .val (.ref h0.size), .val (.int (7 : Int32)), .val (.int (4 : Int32)), .val (.ref w_SERVICE_FAILURE)] [])) _
      refine XS.aload X18.here hx rfl (hb hby d1_19) rfl rfl ?_
      exact k)
  obtain ⟨T23, X23, e23, st23⟩ := getF X18 hx hZ hown (host := "") (Or.inl (hw _ (List.mem_of_getElem? (i := 28) rfl))) Via.refl e18 (F_number_w_SERVICE_FAILURE.ext Ex1) (g := (mkF m 21 #[.val (.int (9101 : Int32)), .val (.ref h0.size), .val (.int (7 : Int32)), .val (.int (4 : Int32)), .val (.ref w_SERVICE_FAILURE)] [(.ref w_SERVICE_FAILURE)])) rfl rfl (hb hby d1_21)
  have k24 : ∀ t, Steps p.tables e below (T23.setTop (mkF m 24 #[.val (.int (9101 : Int32)), .val (.ref h0.size), .val (.int (7 : Int32)), .val (.int (4 : Int32)), .val (.ref w_SERVICE_FAILURE)] [(.int (1903 : Int32))])) t → Steps p.tables e below (s₁.setTop (entryFrame m #[(.int (9101 : Int32))] 5)) t := fun t k => k22 t (st23 _ k)
  have hc25_25 : ¬ ((1903 : Int32) = (9101 : Int32)) := by decide
  have hc11_26 : (5 : Int32) < (7 : Int32) := by decide
  have k27 : ∀ t, Steps p.tables e below (T23.setTop (mkF m 21 #[.val (.int (9101 : Int32)), .val (.ref h0.size), .val (.int (7 : Int32)), .val (.int (5 : Int32)), .val (.ref w_DOWNLOAD_FAILED)] [(.ref w_DOWNLOAD_FAILED)])) t → Steps p.tables e below (s₁.setTop (entryFrame m #[(.int (9101 : Int32))] 5)) t := fun t k => k24 t (by
      show Steps p.tables e below (T23.setTop (mkF m 24 #[.val (.int (9101 : Int32)), .val (.ref h0.size), .val (.int (7 : Int32)), .val (.int (4 : Int32)), .val (.ref w_SERVICE_FAILURE)] [(.int (1903 : Int32))])) _
      refine XS.iloadN X23.here hx rfl (hb hby d1_24) rfl ?_
      show Steps p.tables e below (T23.setTop (mkF m 25 #[.val (.int (9101 : Int32)), .val (.ref h0.size), .val (.int (7 : Int32)), .val (.int (4 : Int32)), .val (.ref w_SERVICE_FAILURE)] [(.int (9101 : Int32)), (.int (1903 : Int32))])) _
      refine XS.icmpYes X23.here hx rfl (pc0 := 25) (pc' := 31) rfl (hb hby d1_25) rfl (feq hc25_25).2 (by decide) (by decide) ?_
      show Steps p.tables e below (T23.setTop (mkF m 31 #[.val (.int (9101 : Int32)), .val (.ref h0.size), .val (.int (7 : Int32)), .val (.int (4 : Int32)), .val (.ref w_SERVICE_FAILURE)] [])) _
      refine XS.iinc X23.here hx rfl (hb hby d1_31) rfl (l' := #[.val (.int (9101 : Int32)), .val (.ref h0.size), .val (.int (7 : Int32)), .val (.int (5 : Int32)), .val (.ref w_SERVICE_FAILURE)]) rfl ?_
      show Steps p.tables e below (T23.setTop (mkF m 34 #[.val (.int (9101 : Int32)), .val (.ref h0.size), .val (.int (7 : Int32)), .val (.int (5 : Int32)), .val (.ref w_SERVICE_FAILURE)] [])) _
      refine XS.goto X23.here hx rfl (pc0 := 34) (pc' := 9) rfl (hb hby d1_34) (by decide) (by decide) ?_
      show Steps p.tables e below (T23.setTop (mkF m 9 #[.val (.int (9101 : Int32)), .val (.ref h0.size), .val (.int (7 : Int32)), .val (.int (5 : Int32)), .val (.ref w_SERVICE_FAILURE)] [])) _
      refine XS.iloadN X23.here hx rfl (hb hby d1_9) rfl ?_
      show Steps p.tables e below (T23.setTop (mkF m 10 #[.val (.int (9101 : Int32)), .val (.ref h0.size), .val (.int (7 : Int32)), .val (.int (5 : Int32)), .val (.ref w_SERVICE_FAILURE)] [(.int (5 : Int32))])) _
      refine XS.iloadN X23.here hx rfl (hb hby d1_10) rfl ?_
      show Steps p.tables e below (T23.setTop (mkF m 11 #[.val (.int (9101 : Int32)), .val (.ref h0.size), .val (.int (7 : Int32)), .val (.int (5 : Int32)), .val (.ref w_SERVICE_FAILURE)] [(.int (7 : Int32)), (.int (5 : Int32))])) _
      refine XS.icmpNo X23.here hx rfl (hb hby d1_11) rfl (tlt hc11_26).2.1 ?_
      show Steps p.tables e below (T23.setTop (mkF m 14 #[.val (.int (9101 : Int32)), .val (.ref h0.size), .val (.int (7 : Int32)), .val (.int (5 : Int32)), .val (.ref w_SERVICE_FAILURE)] [])) _
      refine XS.aloadN X23.here hx rfl (hb hby d1_14) rfl rfl ?_
      show Steps p.tables e below (T23.setTop (mkF m 15 #[.val (.int (9101 : Int32)), .val (.ref h0.size), .val (.int (7 : Int32)), .val (.int (5 : Int32)), .val (.ref w_SERVICE_FAILURE)] [(.ref h0.size)])) _
      refine XS.iloadN X23.here hx rfl (hb hby d1_15) rfl ?_
      show Steps p.tables e below (T23.setTop (mkF m 16 #[.val (.int (9101 : Int32)), .val (.ref h0.size), .val (.int (7 : Int32)), .val (.int (5 : Int32)), .val (.ref w_SERVICE_FAILURE)] [(.int (5 : Int32)), (.ref h0.size)])) _
      refine X23.aaload hx (j := (5 : Int32)) (v := .ref w_DOWNLOAD_FAILED) (by rw [e23]; exact Arn.1) (State.isArrayOf_alike hZ.alike Arn.2.1) rfl Arn.2.2 (fun q => q.elim (by decide) (fun q => by have q' : cl.slots.size ≤ 5 := q; omega)) hat5 (g := (mkF m 16 #[.val (.int (9101 : Int32)), .val (.ref h0.size), .val (.int (7 : Int32)), .val (.int (5 : Int32)), .val (.ref w_SERVICE_FAILURE)] [(.int (5 : Int32)), (.ref h0.size)])) rfl rfl (hb hby d1_16) _ ?_
      show Steps p.tables e below (T23.setTop (mkF m 17 #[.val (.int (9101 : Int32)), .val (.ref h0.size), .val (.int (7 : Int32)), .val (.int (5 : Int32)), .val (.ref w_SERVICE_FAILURE)] [(.ref w_DOWNLOAD_FAILED)])) _
      refine XS.astore X23.here hx rfl (hb hby d1_17) rfl rfl (l' := #[.val (.int (9101 : Int32)), .val (.ref h0.size), .val (.int (7 : Int32)), .val (.int (5 : Int32)), .val (.ref w_DOWNLOAD_FAILED)]) rfl ?_
      show Steps p.tables e below (T23.setTop (mkF m 19 #[.val (.int (9101 : Int32)), .val (.ref h0.size), .val (.int (7 : Int32)), .val (.int (5 : Int32)), .val (.ref w_DOWNLOAD_FAILED)] [])) _
      refine XS.aload X23.here hx rfl (hb hby d1_19) rfl rfl ?_
      exact k)
  obtain ⟨T28, X28, e28, st28⟩ := getF X23 hx hZ hown (host := "") (Or.inl (hw _ (List.mem_of_getElem? (i := 28) rfl))) Via.refl e23 (F_number_w_DOWNLOAD_FAILED.ext Ex1) (g := (mkF m 21 #[.val (.int (9101 : Int32)), .val (.ref h0.size), .val (.int (7 : Int32)), .val (.int (5 : Int32)), .val (.ref w_DOWNLOAD_FAILED)] [(.ref w_DOWNLOAD_FAILED)])) rfl rfl (hb hby d1_21)
  have k29 : ∀ t, Steps p.tables e below (T28.setTop (mkF m 24 #[.val (.int (9101 : Int32)), .val (.ref h0.size), .val (.int (7 : Int32)), .val (.int (5 : Int32)), .val (.ref w_DOWNLOAD_FAILED)] [(.int (1911 : Int32))])) t → Steps p.tables e below (s₁.setTop (entryFrame m #[(.int (9101 : Int32))] 5)) t := fun t k => k27 t (st28 _ k)
  have hc25_30 : ¬ ((1911 : Int32) = (9101 : Int32)) := by decide
  have hc11_31 : (6 : Int32) < (7 : Int32) := by decide
  have k32 : ∀ t, Steps p.tables e below (T28.setTop (mkF m 21 #[.val (.int (9101 : Int32)), .val (.ref h0.size), .val (.int (7 : Int32)), .val (.int (6 : Int32)), .val (.ref w_NO_PERMISSION)] [(.ref w_NO_PERMISSION)])) t → Steps p.tables e below (s₁.setTop (entryFrame m #[(.int (9101 : Int32))] 5)) t := fun t k => k29 t (by
      show Steps p.tables e below (T28.setTop (mkF m 24 #[.val (.int (9101 : Int32)), .val (.ref h0.size), .val (.int (7 : Int32)), .val (.int (5 : Int32)), .val (.ref w_DOWNLOAD_FAILED)] [(.int (1911 : Int32))])) _
      refine XS.iloadN X28.here hx rfl (hb hby d1_24) rfl ?_
      show Steps p.tables e below (T28.setTop (mkF m 25 #[.val (.int (9101 : Int32)), .val (.ref h0.size), .val (.int (7 : Int32)), .val (.int (5 : Int32)), .val (.ref w_DOWNLOAD_FAILED)] [(.int (9101 : Int32)), (.int (1911 : Int32))])) _
      refine XS.icmpYes X28.here hx rfl (pc0 := 25) (pc' := 31) rfl (hb hby d1_25) rfl (feq hc25_30).2 (by decide) (by decide) ?_
      show Steps p.tables e below (T28.setTop (mkF m 31 #[.val (.int (9101 : Int32)), .val (.ref h0.size), .val (.int (7 : Int32)), .val (.int (5 : Int32)), .val (.ref w_DOWNLOAD_FAILED)] [])) _
      refine XS.iinc X28.here hx rfl (hb hby d1_31) rfl (l' := #[.val (.int (9101 : Int32)), .val (.ref h0.size), .val (.int (7 : Int32)), .val (.int (6 : Int32)), .val (.ref w_DOWNLOAD_FAILED)]) rfl ?_
      show Steps p.tables e below (T28.setTop (mkF m 34 #[.val (.int (9101 : Int32)), .val (.ref h0.size), .val (.int (7 : Int32)), .val (.int (6 : Int32)), .val (.ref w_DOWNLOAD_FAILED)] [])) _
      refine XS.goto X28.here hx rfl (pc0 := 34) (pc' := 9) rfl (hb hby d1_34) (by decide) (by decide) ?_
      show Steps p.tables e below (T28.setTop (mkF m 9 #[.val (.int (9101 : Int32)), .val (.ref h0.size), .val (.int (7 : Int32)), .val (.int (6 : Int32)), .val (.ref w_DOWNLOAD_FAILED)] [])) _
      refine XS.iloadN X28.here hx rfl (hb hby d1_9) rfl ?_
      show Steps p.tables e below (T28.setTop (mkF m 10 #[.val (.int (9101 : Int32)), .val (.ref h0.size), .val (.int (7 : Int32)), .val (.int (6 : Int32)), .val (.ref w_DOWNLOAD_FAILED)] [(.int (6 : Int32))])) _
      refine XS.iloadN X28.here hx rfl (hb hby d1_10) rfl ?_
      show Steps p.tables e below (T28.setTop (mkF m 11 #[.val (.int (9101 : Int32)), .val (.ref h0.size), .val (.int (7 : Int32)), .val (.int (6 : Int32)), .val (.ref w_DOWNLOAD_FAILED)] [(.int (7 : Int32)), (.int (6 : Int32))])) _
      refine XS.icmpNo X28.here hx rfl (hb hby d1_11) rfl (tlt hc11_31).2.1 ?_
      show Steps p.tables e below (T28.setTop (mkF m 14 #[.val (.int (9101 : Int32)), .val (.ref h0.size), .val (.int (7 : Int32)), .val (.int (6 : Int32)), .val (.ref w_DOWNLOAD_FAILED)] [])) _
      refine XS.aloadN X28.here hx rfl (hb hby d1_14) rfl rfl ?_
      show Steps p.tables e below (T28.setTop (mkF m 15 #[.val (.int (9101 : Int32)), .val (.ref h0.size), .val (.int (7 : Int32)), .val (.int (6 : Int32)), .val (.ref w_DOWNLOAD_FAILED)] [(.ref h0.size)])) _
      refine XS.iloadN X28.here hx rfl (hb hby d1_15) rfl ?_
      show Steps p.tables e below (T28.setTop (mkF m 16 #[.val (.int (9101 : Int32)), .val (.ref h0.size), .val (.int (7 : Int32)), .val (.int (6 : Int32)), .val (.ref w_DOWNLOAD_FAILED)] [(.int (6 : Int32)), (.ref h0.size)])) _
      refine X28.aaload hx (j := (6 : Int32)) (v := .ref w_NO_PERMISSION) (by rw [e28]; exact Arn.1) (State.isArrayOf_alike hZ.alike Arn.2.1) rfl Arn.2.2 (fun q => q.elim (by decide) (fun q => by have q' : cl.slots.size ≤ 6 := q; omega)) hat6 (g := (mkF m 16 #[.val (.int (9101 : Int32)), .val (.ref h0.size), .val (.int (7 : Int32)), .val (.int (6 : Int32)), .val (.ref w_DOWNLOAD_FAILED)] [(.int (6 : Int32)), (.ref h0.size)])) rfl rfl (hb hby d1_16) _ ?_
      show Steps p.tables e below (T28.setTop (mkF m 17 #[.val (.int (9101 : Int32)), .val (.ref h0.size), .val (.int (7 : Int32)), .val (.int (6 : Int32)), .val (.ref w_DOWNLOAD_FAILED)] [(.ref w_NO_PERMISSION)])) _
      refine XS.astore X28.here hx rfl (hb hby d1_17) rfl rfl (l' := #[.val (.int (9101 : Int32)), .val (.ref h0.size), .val (.int (7 : Int32)), .val (.int (6 : Int32)), .val (.ref w_NO_PERMISSION)]) rfl ?_
      show Steps p.tables e below (T28.setTop (mkF m 19 #[.val (.int (9101 : Int32)), .val (.ref h0.size), .val (.int (7 : Int32)), .val (.int (6 : Int32)), .val (.ref w_NO_PERMISSION)] [])) _
      refine XS.aload X28.here hx rfl (hb hby d1_19) rfl rfl ?_
      exact k)
  obtain ⟨T33, X33, e33, st33⟩ := getF X28 hx hZ hown (host := "") (Or.inl (hw _ (List.mem_of_getElem? (i := 28) rfl))) Via.refl e28 (F_number_w_NO_PERMISSION.ext Ex1) (g := (mkF m 21 #[.val (.int (9101 : Int32)), .val (.ref h0.size), .val (.int (7 : Int32)), .val (.int (6 : Int32)), .val (.ref w_NO_PERMISSION)] [(.ref w_NO_PERMISSION)])) rfl rfl (hb hby d1_21)
  have k34 : ∀ t, Steps p.tables e below (T33.setTop (mkF m 24 #[.val (.int (9101 : Int32)), .val (.ref h0.size), .val (.int (7 : Int32)), .val (.int (6 : Int32)), .val (.ref w_NO_PERMISSION)] [(.int (9101 : Int32))])) t → Steps p.tables e below (s₁.setTop (entryFrame m #[(.int (9101 : Int32))] 5)) t := fun t k => k32 t (st33 _ k)
  have hc25_35 : (9101 : Int32) = (9101 : Int32) := by decide
  have k36 : ∀ t, Steps p.tables e below (T33.setTop (mkF m 30 #[.val (.int (9101 : Int32)), .val (.ref h0.size), .val (.int (7 : Int32)), .val (.int (6 : Int32)), .val (.ref w_NO_PERMISSION)] [(.ref w_NO_PERMISSION)])) t → Steps p.tables e below (s₁.setTop (entryFrame m #[(.int (9101 : Int32))] 5)) t := fun t k => k34 t (by
      show Steps p.tables e below (T33.setTop (mkF m 24 #[.val (.int (9101 : Int32)), .val (.ref h0.size), .val (.int (7 : Int32)), .val (.int (6 : Int32)), .val (.ref w_NO_PERMISSION)] [(.int (9101 : Int32))])) _
      refine XS.iloadN X33.here hx rfl (hb hby d1_24) rfl ?_
      show Steps p.tables e below (T33.setTop (mkF m 25 #[.val (.int (9101 : Int32)), .val (.ref h0.size), .val (.int (7 : Int32)), .val (.int (6 : Int32)), .val (.ref w_NO_PERMISSION)] [(.int (9101 : Int32)), (.int (9101 : Int32))])) _
      refine XS.icmpNo X33.here hx rfl (hb hby d1_25) rfl (teq hc25_35).2 ?_
      show Steps p.tables e below (T33.setTop (mkF m 28 #[.val (.int (9101 : Int32)), .val (.ref h0.size), .val (.int (7 : Int32)), .val (.int (6 : Int32)), .val (.ref w_NO_PERMISSION)] [])) _
      refine XS.aload X33.here hx rfl (hb hby d1_28) rfl rfl ?_
      exact k)
  obtain ⟨fs, hr, hrun, hended, hW, hsame⟩ := X33.leave (v := (some (.ref w_NO_PERMISSION))) (fun h => by rw [Bd.returns] at h; cases h)
  refine ⟨_, _, k36 _ ?_, hrun, hended, _, _, rfl, ?_, ⟨_, rfl⟩, hW, hsame.mono (by decide) (by decide)⟩
  · exact retOut X33 hx Bd.returns rfl (Or.inr (Or.inr (Or.inr (Or.inr ⟨rfl, rfl, rfl⟩)))) (hb hby d1_30) hr
  · show Q1_NO_PERMISSION Z wv cl w_SUCCESS w_PROCESSING w_RATE_LIMITED w_INVALID_PARAMETERS w_SERVICE_FAILURE w_DOWNLOAD_FAILED w_NO_PERMISSION h0 n0 _ T33.heap _
    rw [e33]
    exact ⟨rfl, N1, Ex1⟩
theorem d3_0 : decode prog_61_method_5_code 0 = .ok (.aload_n 0, 1) := by decide +kernel
theorem d3_1 : decode prog_61_method_5_code 1 = .ok (.getfield 44, 3) := by decide +kernel
theorem d3_4 : decode prog_61_method_5_code 4 = .ok (.ireturn, 1) := by decide +kernel
theorem ef_3 (m : MethodId) (x0 : Addr) : entryFrame m #[(.ref x0)] 1 = mkF m 0 #[.val (.ref x0)] [] := by first | (simp [entryFrame, mkF, argsToLocals, Value.category]; done) | rfl
def Q3 (Z : State) (r0 : Addr) (nn : Int32) (h0 : Heap) (n0 : Nat) (v : Option Value) (h : Heap) (L : List Loc) : Prop := v = some (.int nn) ∧ Fr n0 L ∧ h = h0
set_option maxRecDepth 65536 in
set_option maxHeartbeats 40000000 in
theorem rm3 (l : Launch) (Z : State) (a0 : Array Value) (hw : ∀ d ∈ tables_1, d.before a0 Z = true) (ws : List Jvm.Cond) (r0 : Addr) (nn : Int32) (h0 : Heap) (n0 : Nat) (Z0 : n0 ≤ h0.size) (F_number_r0 : Fld Z h0 r0 "com/example/mediawarden/mediawarden/task/Code" "number" "I" (.int nn)) :
    MetFree l (⟨"com/example/mediawarden/mediawarden/task/Code", "number", "()I"⟩ : MethodName) (head1 (Jvm.Cond.code (⟨"com/example/mediawarden/mediawarden/task/Code", "number", "()I"⟩ : MethodName) prog_61_method_5_code 1 (some .int) :: ws) ({ frames := 0, cells := 0, slots := 0, locals := 0 } : Room)) (fun a U => a = #[(.ref r0)] ∧ Z.Warmed39 U.vm ∧ U.heap = h0) (fun _ _ _ _ _ => True) (fun _ U o U' => ∃ v L, o = .returned v ∧ Q3 Z r0 nn h0 n0 v U'.heap L ∧ FrameEnd U o U' L ({ frames := 0, cells := 0, slots := 0, locals := 0 } : Room).cells ({ frames := 0, cells := 0, slots := 0, locals := 0 } : Room).slots) := by
  refine MetFree.of_bodySF (plainFor_of_name pn_0) hisR ?_
  intro p e s m args below meth c s₁ Bd hml0 hP hK
  obtain ⟨rfl, hZ, hh⟩ := hP
  have hx := Bd.exec
  have hby := Bd.bytes
  have hml : c.maxLocals = 1 := hml0
  have hown : s.vm.findClass "com/example/mediawarden/mediawarden/task/Code" = some m.cls := findClass_of_methodNamed Bd.named
  have hnm := (name_of_methodNamed Bd.named Bd.method).1
  have X0 : Stand p l e ({ frames := 0, cells := 0, slots := 0, locals := 0 } : Room) s m #[(.ref r0)] below meth c s₁ [] 0 0 := Stand.of_body Bd
  have e0 : s₁.heap = h0 := by rw [← hh, Bd.state]; rfl
  have N0 := Fr.nil n0
  have k0 : ∀ t, Steps p.tables e below (s₁.setTop (mkF m 0 #[.val (.ref r0)] [])) t → Steps p.tables e below (s₁.setTop (entryFrame m #[(.ref r0)] 1)) t := fun t k => castTop (ef_3 m r0) k
  have k1 : ∀ t, Steps p.tables e below (s₁.setTop (mkF m 1 #[.val (.ref r0)] [(.ref r0)])) t → Steps p.tables e below (s₁.setTop (entryFrame m #[(.ref r0)] 1)) t := fun t k => k0 t (by
      show Steps p.tables e below (s₁.setTop (mkF m 0 #[.val (.ref r0)] [])) _
      refine XS.aloadN X0.here hx rfl (hb hby d3_0) rfl rfl ?_
      exact k)
  obtain ⟨T2, X2, e2, st2⟩ := getF X0 hx hZ hown (host := "") (Or.inl (hw _ (List.mem_of_getElem? (i := 28) rfl))) Via.refl e0 F_number_r0 (g := (mkF m 1 #[.val (.ref r0)] [(.ref r0)])) rfl rfl (hb hby d3_1)
  have k3 : ∀ t, Steps p.tables e below (T2.setTop (mkF m 4 #[.val (.ref r0)] [(.int nn)])) t → Steps p.tables e below (s₁.setTop (entryFrame m #[(.ref r0)] 1)) t := fun t k => k1 t (st2 _ k)
  obtain ⟨fs, hr, hrun, hended, hW, hsame⟩ := X2.leave (v := (some (.int nn))) (fun h => by rw [Bd.returns] at h; cases h)
  refine ⟨_, _, k3 _ ?_, hrun, hended, _, _, rfl, ?_, ⟨_, rfl⟩, hW, hsame.mono (by decide) (by decide)⟩
  · exact retOut X2 hx Bd.returns rfl (Or.inl ⟨rfl, Or.inl rfl, _, rfl⟩) (hb hby d3_4) hr
  · show Q3 Z r0 nn h0 n0 _ T2.heap _
    rw [e2]
    exact ⟨rfl, N0, rfl⟩
theorem ef_0 (m : MethodId) (x0 : Int32) : entryFrame m #[(.int x0)] maxLocals = mkF m 0 #[.val (.int x0), .unset, .unset, .unset, .unset] [] := by first | (simp [entryFrame, mkF, argsToLocals, Value.category, maxLocals]; done) | rfl
theorem pn_1 : plainName "com/example/mediawarden/mediawarden/task/CodeOfPinLaw" = true := by first | (simp [plainName, overriddenIn]; done) | decide +kernel
theorem pd_1 : parseMethodDescriptor "(I)Lcom/example/mediawarden/mediawarden/task/Code;" = some ⟨[.int], some (.object "com/example/mediawarden/mediawarden/task/Code")⟩ := by decide +kernel
theorem pd_2 : parseMethodDescriptor "()I" = some ⟨[], some .int⟩ := by decide +kernel
def Q0 (Z : State) (p0 : Int32) (wv : Addr) (cl : Cell) (w_SUCCESS : Addr) (w_PROCESSING : Addr) (w_RATE_LIMITED : Addr) (w_INVALID_PARAMETERS : Addr) (w_SERVICE_FAILURE : Addr) (w_DOWNLOAD_FAILED : Addr) (w_NO_PERMISSION : Addr) (h0 : Heap) (n0 : Nat) (v : Option Value) (h : Heap) (L : List Loc) : Prop := v = some (.int (1 : Int32)) ∧ Fr n0 L
set_option maxRecDepth 65536 in
set_option maxHeartbeats 40000000 in
theorem rm0 (l : Launch) (Z : State) (a0 : Array Value) (hw : ∀ d ∈ tables_1, d.before a0 Z = true) (ws : List Jvm.Cond) (p0 : Int32) (wv : Addr) (cl : Cell) (w_SUCCESS : Addr) (w_PROCESSING : Addr) (w_RATE_LIMITED : Addr) (w_INVALID_PARAMETERS : Addr) (w_SERVICE_FAILURE : Addr) (w_DOWNLOAD_FAILED : Addr) (w_NO_PERMISSION : Addr) (h0 : Heap) (n0 : Nat) (Z0 : n0 ≤ h0.size) (S_SUCCESS : Sta Z h0 "com/example/mediawarden/mediawarden/task/Code" "SUCCESS" "Lcom/example/mediawarden/mediawarden/task/Code;" (.ref w_SUCCESS)) (S_PROCESSING : Sta Z h0 "com/example/mediawarden/mediawarden/task/Code" "PROCESSING" "Lcom/example/mediawarden/mediawarden/task/Code;" (.ref w_PROCESSING)) (S_RATE_LIMITED : Sta Z h0 "com/example/mediawarden/mediawarden/task/Code" "RATE_LIMITED" "Lcom/example/mediawarden/mediawarden/task/Code;" (.ref w_RATE_LIMITED)) (S_INVALID_PARAMETERS : Sta Z h0 "com/example/mediawarden/mediawarden/task/Code" "INVALID_PARAMETERS" "Lcom/example/mediawarden/mediawarden/task/Code;" (.ref w_INVALID_PARAMETERS)) (S_SERVICE_FAILURE : Sta Z h0 "com/example/mediawarden/mediawarden/task/Code" "SERVICE_FAILURE" "Lcom/example/mediawarden/mediawarden/task/Code;" (.ref w_SERVICE_FAILURE)) (S_DOWNLOAD_FAILED : Sta Z h0 "com/example/mediawarden/mediawarden/task/Code" "DOWNLOAD_FAILED" "Lcom/example/mediawarden/mediawarden/task/Code;" (.ref w_DOWNLOAD_FAILED)) (S_NO_PERMISSION : Sta Z h0 "com/example/mediawarden/mediawarden/task/Code" "NO_PERMISSION" "Lcom/example/mediawarden/mediawarden/task/Code;" (.ref w_NO_PERMISSION)) (E_w_SUCCESS : Exa Z h0 w_SUCCESS "com/example/mediawarden/mediawarden/task/Code") (E_w_PROCESSING : Exa Z h0 w_PROCESSING "com/example/mediawarden/mediawarden/task/Code") (E_w_RATE_LIMITED : Exa Z h0 w_RATE_LIMITED "com/example/mediawarden/mediawarden/task/Code") (E_w_INVALID_PARAMETERS : Exa Z h0 w_INVALID_PARAMETERS "com/example/mediawarden/mediawarden/task/Code") (E_w_SERVICE_FAILURE : Exa Z h0 w_SERVICE_FAILURE "com/example/mediawarden/mediawarden/task/Code") (E_w_DOWNLOAD_FAILED : Exa Z h0 w_DOWNLOAD_FAILED "com/example/mediawarden/mediawarden/task/Code") (E_w_NO_PERMISSION : Exa Z h0 w_NO_PERMISSION "com/example/mediawarden/mediawarden/task/Code") (S_V : Sta Z h0 "com/example/mediawarden/mediawarden/task/Code" "$VALUES" "[Lcom/example/mediawarden/mediawarden/task/Code;" (.ref wv)) (Arv_ : Arr Z h0 wv cl (.object "com/example/mediawarden/mediawarden/task/Code")) (E_V : Exa Z h0 wv "[Lcom/example/mediawarden/mediawarden/task/Code;") (hsz : cl.slots.size = 7) (hat0 : cl.slots[0]? = some (.ref w_SUCCESS)) (hat1 : cl.slots[1]? = some (.ref w_PROCESSING)) (hat2 : cl.slots[2]? = some (.ref w_RATE_LIMITED)) (hat3 : cl.slots[3]? = some (.ref w_INVALID_PARAMETERS)) (hat4 : cl.slots[4]? = some (.ref w_SERVICE_FAILURE)) (hat5 : cl.slots[5]? = some (.ref w_DOWNLOAD_FAILED)) (hat6 : cl.slots[6]? = some (.ref w_NO_PERMISSION)) (F_number_w_SUCCESS : Fld Z h0 w_SUCCESS "com/example/mediawarden/mediawarden/task/Code" "number" "I" (.int (1100 : Int32))) (F_number_w_PROCESSING : Fld Z h0 w_PROCESSING "com/example/mediawarden/mediawarden/task/Code" "number" "I" (.int (1101 : Int32))) (F_number_w_RATE_LIMITED : Fld Z h0 w_RATE_LIMITED "com/example/mediawarden/mediawarden/task/Code" "number" "I" (.int (1901 : Int32))) (F_number_w_INVALID_PARAMETERS : Fld Z h0 w_INVALID_PARAMETERS "com/example/mediawarden/mediawarden/task/Code" "number" "I" (.int (1902 : Int32))) (F_number_w_SERVICE_FAILURE : Fld Z h0 w_SERVICE_FAILURE "com/example/mediawarden/mediawarden/task/Code" "number" "I" (.int (1903 : Int32))) (F_number_w_DOWNLOAD_FAILED : Fld Z h0 w_DOWNLOAD_FAILED "com/example/mediawarden/mediawarden/task/Code" "number" "I" (.int (1911 : Int32))) (F_number_w_NO_PERMISSION : Fld Z h0 w_NO_PERMISSION "com/example/mediawarden/mediawarden/task/Code" "number" "I" (.int (9101 : Int32))) :
    MetFree l x (head1 (Jvm.Cond.code x code maxLocals ret :: ws) room_1) (fun a U => a = #[(.int p0)] ∧ Z.Warmed39 U.vm ∧ U.heap = h0) (fun _ _ _ _ _ => True) (fun _ U o U' => ∃ v L, o = .returned v ∧ Q0 Z p0 wv cl w_SUCCESS w_PROCESSING w_RATE_LIMITED w_INVALID_PARAMETERS w_SERVICE_FAILURE w_DOWNLOAD_FAILED w_NO_PERMISSION h0 n0 v U'.heap L ∧ FrameEnd U o U' L 1 7) := by
  refine MetFree.of_bodySF (plainFor_of_name pn_1) hisR ?_
  intro p e s m args below meth c s₁ Bd hml0 hP hK
  obtain ⟨rfl, hZ, hh⟩ := hP
  have hx := Bd.exec
  have hby := Bd.bytes
  have hml : c.maxLocals = 5 := hml0
  have hown : s.vm.findClass "com/example/mediawarden/mediawarden/task/CodeOfPinLaw" = some m.cls := findClass_of_methodNamed Bd.named
  have hnm := (name_of_methodNamed Bd.named Bd.method).1
  have X0 : Stand p l e room_1 s m #[(.int p0)] below meth c s₁ [] 0 0 := Stand.of_body Bd
  have e0 : s₁.heap = h0 := by rw [← hh, Bd.state]; rfl
  have N0 := Fr.nil n0
  have k0 : ∀ t, Steps p.tables e below (s₁.setTop (mkF m 0 #[.val (.int p0), .unset, .unset, .unset, .unset] [])) t → Steps p.tables e below (s₁.setTop (entryFrame m #[(.int p0)] maxLocals)) t := fun t k => castTop (ef_0 m p0) k
  have k1 : ∀ t, Steps p.tables e below (s₁.setTop (mkF m 9 #[.val (.int p0), .val (.int ((p0 &&& (2147483647 : Int32)) % (7 : Int32))), .unset, .unset, .unset] [(.int ((p0 &&& (2147483647 : Int32)) % (7 : Int32)))])) t → Steps p.tables e below (s₁.setTop (entryFrame m #[(.int p0)] maxLocals)) t := fun t k => k0 t (by
      show Steps p.tables e below (s₁.setTop (mkF m 0 #[.val (.int p0), .unset, .unset, .unset, .unset] [])) _
      refine XS.iloadN X0.here hx rfl (hb hby at_0) rfl ?_
      show Steps p.tables e below (s₁.setTop (mkF m 1 #[.val (.int p0), .unset, .unset, .unset, .unset] [(.int p0)])) _
      refine X0.ldcInt hx hown (mvT hZ (hw _ (List.mem_of_getElem? (i := 0) rfl))) (g := (mkF m 1 #[.val (.int p0), .unset, .unset, .unset, .unset] [(.int p0)])) rfl (hb hby at_1) _ ?_
      show Steps p.tables e below (s₁.setTop (mkF m 3 #[.val (.int p0), .unset, .unset, .unset, .unset] [(.int (2147483647 : Int32)), (.int p0)])) _
      refine XS.iand X0.here hx rfl (hb hby at_3) rfl ?_
      show Steps p.tables e below (s₁.setTop (mkF m 4 #[.val (.int p0), .unset, .unset, .unset, .unset] [(.int (p0 &&& (2147483647 : Int32)))])) _
      refine XS.bipush X0.here hx rfl (hb hby at_4) ?_
      show Steps p.tables e below (s₁.setTop (mkF m 6 #[.val (.int p0), .unset, .unset, .unset, .unset] [(.int (7 : Int32)), (.int (p0 &&& (2147483647 : Int32)))])) _
      refine iremM X0 hx rfl (hb hby at_6) rfl (by decide) ?_
      show Steps p.tables e below (s₁.setTop (mkF m 7 #[.val (.int p0), .unset, .unset, .unset, .unset] [(.int ((p0 &&& (2147483647 : Int32)) % (7 : Int32)))])) _
      refine XS.istoreN X0.here hx rfl (hb hby at_7) rfl (l' := #[.val (.int p0), .val (.int ((p0 &&& (2147483647 : Int32)) % (7 : Int32))), .unset, .unset, .unset]) rfl ?_
      show Steps p.tables e below (s₁.setTop (mkF m 8 #[.val (.int p0), .val (.int ((p0 &&& (2147483647 : Int32)) % (7 : Int32))), .unset, .unset, .unset] [])) _
      refine XS.iloadN X0.here hx rfl (hb hby at_8) rfl ?_
      exact k)
  by_cases hc9 : ((p0 &&& (2147483647 : Int32)) % (7 : Int32)) = (0 : Int32)
  · have k2 : ∀ t, Steps p.tables e below (s₁.setTop (mkF m 16 #[.val (.int p0), .val (.int ((p0 &&& (2147483647 : Int32)) % (7 : Int32))), .val (.int (1100 : Int32)), .unset, .unset] [])) t → Steps p.tables e below (s₁.setTop (entryFrame m #[(.int p0)] maxLocals)) t := fun t k => k1 t (by
        show Steps p.tables e below (s₁.setTop (mkF m 9 #[.val (.int p0), .val (.int ((p0 &&& (2147483647 : Int32)) % (7 : Int32))), .unset, .unset, .unset] [(.int ((p0 &&& (2147483647 : Int32)) % (7 : Int32)))])) _
        refine XS.ifNo X0.here hx rfl (hb hby at_9) rfl ((if0 _ _).trans (teq hc9).2) ?_
        show Steps p.tables e below (s₁.setTop (mkF m 12 #[.val (.int p0), .val (.int ((p0 &&& (2147483647 : Int32)) % (7 : Int32))), .unset, .unset, .unset] [])) _
        refine XS.sipush X0.here hx rfl (hb hby at_12) ?_
        show Steps p.tables e below (s₁.setTop (mkF m 15 #[.val (.int p0), .val (.int ((p0 &&& (2147483647 : Int32)) % (7 : Int32))), .unset, .unset, .unset] [(.int (1100 : Int32))])) _
        refine XS.istoreN X0.here hx rfl (hb hby at_15) rfl (l' := #[.val (.int p0), .val (.int ((p0 &&& (2147483647 : Int32)) % (7 : Int32))), .val (.int (1100 : Int32)), .unset, .unset]) rfl ?_
        exact k)
    obtain ⟨T3, X3, e3, st3⟩ := getS2 X0 hx hZ hown (host := "") (Or.inl (hw _ (List.mem_of_getElem? (i := 1) rfl))) Via.refl e0 S_SUCCESS (g := (mkF m 16 #[.val (.int p0), .val (.int ((p0 &&& (2147483647 : Int32)) % (7 : Int32))), .val (.int (1100 : Int32)), .unset, .unset] [])) rfl (hb hby at_16)
    have k4 : ∀ t, Steps p.tables e below (T3.setTop (mkF m 19 #[.val (.int p0), .val (.int ((p0 &&& (2147483647 : Int32)) % (7 : Int32))), .val (.int (1100 : Int32)), .unset, .unset] [(.ref w_SUCCESS)])) t → Steps p.tables e below (s₁.setTop (entryFrame m #[(.int p0)] maxLocals)) t := fun t k => k2 t (st3 _ k)
    have k5 : ∀ t, Steps p.tables e below (T3.setTop (mkF m 112 #[.val (.int p0), .val (.int ((p0 &&& (2147483647 : Int32)) % (7 : Int32))), .val (.int (1100 : Int32)), .val (.ref w_SUCCESS), .unset] [(.int (1100 : Int32))])) t → Steps p.tables e below (s₁.setTop (entryFrame m #[(.int p0)] maxLocals)) t := fun t k => k4 t (by
        show Steps p.tables e below (T3.setTop (mkF m 19 #[.val (.int p0), .val (.int ((p0 &&& (2147483647 : Int32)) % (7 : Int32))), .val (.int (1100 : Int32)), .unset, .unset] [(.ref w_SUCCESS)])) _
        refine XS.astoreN X3.here hx rfl (hb hby at_19) rfl rfl (l' := #[.val (.int p0), .val (.int ((p0 &&& (2147483647 : Int32)) % (7 : Int32))), .val (.int (1100 : Int32)), .val (.ref w_SUCCESS), .unset]) rfl ?_
        show Steps p.tables e below (T3.setTop (mkF m 20 #[.val (.int p0), .val (.int ((p0 &&& (2147483647 : Int32)) % (7 : Int32))), .val (.int (1100 : Int32)), .val (.ref w_SUCCESS), .unset] [])) _
        refine XS.goto X3.here hx rfl (pc0 := 20) (pc' := 111) rfl (hb hby at_20) (by decide) (by decide) ?_
        show Steps p.tables e below (T3.setTop (mkF m 111 #[.val (.int p0), .val (.int ((p0 &&& (2147483647 : Int32)) % (7 : Int32))), .val (.int (1100 : Int32)), .val (.ref w_SUCCESS), .unset] [])) _
        refine XS.iloadN X3.here hx rfl (hb hby at_111) rfl ?_
        exact k)
    obtain ⟨_, _, ⟨T6, L6, kq6, n6⟩, -, X6, ⟨Lc6, hQ6, l6, y6, z6⟩, st6⟩ := Jvm.LawKit.callS X3 hx (y := (⟨"com/example/mediawarden/mediawarden/task/Code", "of", "(I)Lcom/example/mediawarden/mediawarden/task/Code;"⟩ : MethodName)) hown (mvT hZ (hw _ (List.mem_of_getElem? (i := 4) rfl))) (mvT hZ (hw _ (List.mem_of_getElem? (i := 5) rfl))) (mvT hZ (hw _ (List.mem_of_getElem? (i := 2) rfl))) (mvT hZ (hw _ (List.mem_of_getElem? (i := 6) rfl))) (by decide) (backOf (W := 0) (rm1_SUCCESS l Z a0 hw [] wv cl w_SUCCESS w_PROCESSING w_RATE_LIMITED w_INVALID_PARAMETERS w_SERVICE_FAILURE w_DOWNLOAD_FAILED w_NO_PERMISSION h0 n0 Z0 S_V Arv_ E_V hsz hat0 hat1 hat2 hat3 hat4 hat5 hat6 F_number_w_SUCCESS F_number_w_PROCESSING F_number_w_RATE_LIMITED F_number_w_INVALID_PARAMETERS F_number_w_SERVICE_FAILURE F_number_w_DOWNLOAD_FAILED F_number_w_NO_PERMISSION) hZ (hw _ (List.mem_of_getElem? (i := 6) rfl)) (hw _ (List.mem_of_getElem? (i := 2) rfl)) (by decide) (by decide)) (g := (mkF m 112 #[.val (.int p0), .val (.int ((p0 &&& (2147483647 : Int32)) % (7 : Int32))), .val (.int (1100 : Int32)), .val (.ref w_SUCCESS), .unset] [(.int (1100 : Int32))])) rfl (by rw [hml]; rfl) (argsL := [(.int (1100 : Int32))]) (rest := []) (lenOf pd_1 rfl) rfl (by show 2 * 0 + _ ≤ _; exact Nat.le_of_eq rfl) (hb hby at_112) (fun _ _ => ⟨rfl, e3, (by decide : 0 + 1 ≤ _), (by decide : 0 + 7 ≤ _)⟩)
    dsimp only [Pt.U, Pt.locs, Pt.cells, Pt.slots] at X6 l6 y6 z6 st6 hQ6
    subst l6 y6 z6
    obtain ⟨rfl, N6q, Ex6⟩ := hQ6
    have N6 := Fr.app N0 N6q
    have Zs6 : n0 ≤ T6.heap.size := Nat.le_trans Z0 Ex6.1
    have k7 : ∀ t, Steps p.tables e below (T6.setTop (mkF m 115 #[.val (.int p0), .val (.int ((p0 &&& (2147483647 : Int32)) % (7 : Int32))), .val (.int (1100 : Int32)), .val (.ref w_SUCCESS), .unset] [(.ref w_SUCCESS)])) t → Steps p.tables e below (s₁.setTop (entryFrame m #[(.int p0)] maxLocals)) t := fun t k => k5 t (st6 _ k)
    have k8 : ∀ t, Steps p.tables e below (T6.setTop (mkF m 125 #[.val (.int p0), .val (.int ((p0 &&& (2147483647 : Int32)) % (7 : Int32))), .val (.int (1100 : Int32)), .val (.ref w_SUCCESS), .val (.ref w_SUCCESS)] [(.ref w_SUCCESS)])) t → Steps p.tables e below (s₁.setTop (entryFrame m #[(.int p0)] maxLocals)) t := fun t k => k7 t (by
        show Steps p.tables e below (T6.setTop (mkF m 115 #[.val (.int p0), .val (.int ((p0 &&& (2147483647 : Int32)) % (7 : Int32))), .val (.int (1100 : Int32)), .val (.ref w_SUCCESS), .unset] [(.ref w_SUCCESS)])) _
        refine XS.astore X6.here hx rfl (hb hby at_115) rfl rfl (l' := #[.val (.int p0), .val (.int ((p0 &&& (2147483647 : Int32)) % (7 : Int32))), .val (.int (1100 : Int32)), .val (.ref w_SUCCESS), .val (.ref w_SUCCESS)]) rfl ?_
        show Steps p.tables e below (T6.setTop (mkF m 117 #[.val (.int p0), .val (.int ((p0 &&& (2147483647 : Int32)) % (7 : Int32))), .val (.int (1100 : Int32)), .val (.ref w_SUCCESS), .val (.ref w_SUCCESS)] [])) _
        refine XS.aload X6.here hx rfl (hb hby at_117) rfl rfl ?_
        show Steps p.tables e below (T6.setTop (mkF m 119 #[.val (.int p0), .val (.int ((p0 &&& (2147483647 : Int32)) % (7 : Int32))), .val (.int (1100 : Int32)), .val (.ref w_SUCCESS), .val (.ref w_SUCCESS)] [(.ref w_SUCCESS)])) _
        refine XS.aloadN X6.here hx rfl (hb hby at_119) rfl rfl ?_
        show Steps p.tables e below (T6.setTop (mkF m 120 #[.val (.int p0), .val (.int ((p0 &&& (2147483647 : Int32)) % (7 : Int32))), .val (.int (1100 : Int32)), .val (.ref w_SUCCESS), .val (.ref w_SUCCESS)] [(.ref w_SUCCESS), (.ref w_SUCCESS)])) _
        refine Jvm.RoadKit.acmp (g := (mkF m 120 #[.val (.int p0), .val (.int ((p0 &&& (2147483647 : Int32)) % (7 : Int32))), .val (.int (1100 : Int32)), .val (.ref w_SUCCESS), .val (.ref w_SUCCESS)] [(.ref w_SUCCESS), (.ref w_SUCCESS)])) X6 hx rfl rfl rfl (pc0 := 120) (pc' := 123) (same := true) rfl (hb hby at_120) rfl (decide_eq_true rfl) (by decide) (by decide) ?_
        show Steps p.tables e below (T6.setTop (mkF m 123 #[.val (.int p0), .val (.int ((p0 &&& (2147483647 : Int32)) % (7 : Int32))), .val (.int (1100 : Int32)), .val (.ref w_SUCCESS), .val (.ref w_SUCCESS)] [])) _
        refine XS.aload X6.here hx rfl (hb hby at_123) rfl rfl ?_
        exact k)
    obtain ⟨cq9, kcq9, q9a, q9b, q9c⟩ := isOf hZ rfl (E_w_SUCCESS.ext Ex6)
    obtain ⟨_, _, ⟨T9, L9, kq9, n9⟩, -, X9, ⟨Lc9, hQ9, l9, y9, z9⟩, st9⟩ := X6.virtualBack hx (y := (⟨"com/example/mediawarden/mediawarden/task/Code", "number", "()I"⟩ : MethodName)) (z := (⟨"com/example/mediawarden/mediawarden/task/Code", "number", "()I"⟩ : MethodName)) hown (mvT hZ (hw _ (List.mem_of_getElem? (i := 30) rfl))) (mvT hZ (hw _ (List.mem_of_getElem? (i := 31) rfl))) (notFace_of_selects (args := #[]) (mvT hZ (hw _ (List.mem_of_getElem? (i := 33) rfl)))) (mvT hZ (hw _ (List.mem_of_getElem? (i := 33) rfl))) (mvT hZ (hw _ (List.mem_of_getElem? (i := 32) rfl))) (by decide) (backOf (W := 0) (rm3 l Z a0 hw [] w_SUCCESS (1100 : Int32) T6.heap n0 Zs6 (F_number_w_SUCCESS.ext Ex6)) hZ (hw _ (List.mem_of_getElem? (i := 34) rfl)) (hw _ (List.mem_of_getElem? (i := 2) rfl)) (by decide) (by decide)) q9a q9c (g := (mkF m 125 #[.val (.int p0), .val (.int ((p0 &&& (2147483647 : Int32)) % (7 : Int32))), .val (.int (1100 : Int32)), .val (.ref w_SUCCESS), .val (.ref w_SUCCESS)] [(.ref w_SUCCESS)])) rfl (by rw [hml]; rfl) (Steps.refl _) (argsL := []) (rest := []) (lenOf pd_2 rfl) rfl (by show 2 * 0 + _ ≤ _; exact Nat.le_of_eq rfl) (hb hby at_125) (fun _ _ => ⟨rfl, rfl, (by decide : 1 + 0 ≤ _), (by decide : 7 + 0 ≤ _)⟩)
    dsimp only [Pt.U, Pt.locs, Pt.cells, Pt.slots] at X9 l9 y9 z9 st9 hQ9
    subst l9 y9 z9
    obtain ⟨rfl, N9q, e9⟩ := hQ9
    have N9 := Fr.app N6 N9q
    have k10 : ∀ t, Steps p.tables e below (T9.setTop (mkF m 128 #[.val (.int p0), .val (.int ((p0 &&& (2147483647 : Int32)) % (7 : Int32))), .val (.int (1100 : Int32)), .val (.ref w_SUCCESS), .val (.ref w_SUCCESS)] [(.int (1100 : Int32))])) t → Steps p.tables e below (s₁.setTop (entryFrame m #[(.int p0)] maxLocals)) t := fun t k => k8 t (st9.trans k)
    have hc129 : (1100 : Int32) = (1100 : Int32) := by decide
    have k11 : ∀ t, Steps p.tables e below (T9.setTop (mkF m 137 #[.val (.int p0), .val (.int ((p0 &&& (2147483647 : Int32)) % (7 : Int32))), .val (.int (1100 : Int32)), .val (.ref w_SUCCESS), .val (.ref w_SUCCESS)] [(.int (1 : Int32))])) t → Steps p.tables e below (s₁.setTop (entryFrame m #[(.int p0)] maxLocals)) t := fun t k => k10 t (by
        show Steps p.tables e below (T9.setTop (mkF m 128 #[.val (.int p0), .val (.int ((p0 &&& (2147483647 : Int32)) % (7 : Int32))), .val (.int (1100 : Int32)), .val (.ref w_SUCCESS), .val (.ref w_SUCCESS)] [(.int (1100 : Int32))])) _
        refine XS.iloadN X9.here hx rfl (hb hby at_128) rfl ?_
        show Steps p.tables e below (T9.setTop (mkF m 129 #[.val (.int p0), .val (.int ((p0 &&& (2147483647 : Int32)) % (7 : Int32))), .val (.int (1100 : Int32)), .val (.ref w_SUCCESS), .val (.ref w_SUCCESS)] [(.int (1100 : Int32)), (.int (1100 : Int32))])) _
        refine XS.icmpNo X9.here hx rfl (hb hby at_129) rfl (teq hc129).2 ?_
        show Steps p.tables e below (T9.setTop (mkF m 132 #[.val (.int p0), .val (.int ((p0 &&& (2147483647 : Int32)) % (7 : Int32))), .val (.int (1100 : Int32)), .val (.ref w_SUCCESS), .val (.ref w_SUCCESS)] [])) _
        refine XS.iconst X9.here hx rfl (hb hby at_132) ?_
        show Steps p.tables e below (T9.setTop (mkF m 133 #[.val (.int p0), .val (.int ((p0 &&& (2147483647 : Int32)) % (7 : Int32))), .val (.int (1100 : Int32)), .val (.ref w_SUCCESS), .val (.ref w_SUCCESS)] [(.int (1 : Int32))])) _
        refine XS.goto X9.here hx rfl (pc0 := 133) (pc' := 137) rfl (hb hby at_133) (by decide) (by decide) ?_
        exact k)
    obtain ⟨fs, hr, hrun, hended, hW, hsame⟩ := X9.leave (v := (some (.int (1 : Int32)))) (fun h => by rw [Bd.returns] at h; cases h)
    refine ⟨_, _, k11 _ ?_, hrun, hended, _, _, rfl, ?_, ⟨_, rfl⟩, hW, hsame.mono (by decide) (by decide)⟩
    · exact retN X9 hx (t := .boolean) Bd.returns (by simp) (hb hby at_137) hr
    · show Q0 Z p0 wv cl w_SUCCESS w_PROCESSING w_RATE_LIMITED w_INVALID_PARAMETERS w_SERVICE_FAILURE w_DOWNLOAD_FAILED w_NO_PERMISSION h0 n0 _ T9.heap _
      rw [e9]
      exact ⟨rfl, N9⟩
  · have k12 : ∀ t, Steps p.tables e below (s₁.setTop (mkF m 25 #[.val (.int p0), .val (.int ((p0 &&& (2147483647 : Int32)) % (7 : Int32))), .unset, .unset, .unset] [(.int (1 : Int32)), (.int ((p0 &&& (2147483647 : Int32)) % (7 : Int32)))])) t → Steps p.tables e below (s₁.setTop (entryFrame m #[(.int p0)] maxLocals)) t := fun t k => k1 t (by
        show Steps p.tables e below (s₁.setTop (mkF m 9 #[.val (.int p0), .val (.int ((p0 &&& (2147483647 : Int32)) % (7 : Int32))), .unset, .unset, .unset] [(.int ((p0 &&& (2147483647 : Int32)) % (7 : Int32)))])) _
        refine XS.ifYes X0.here hx rfl (pc0 := 9) (pc' := 23) rfl (hb hby at_9) rfl ((if0 _ _).trans (feq hc9).2) (by decide) (by decide) ?_
        show Steps p.tables e below (s₁.setTop (mkF m 23 #[.val (.int p0), .val (.int ((p0 &&& (2147483647 : Int32)) % (7 : Int32))), .unset, .unset, .unset] [])) _
        refine XS.iloadN X0.here hx rfl (hb hby at_23) rfl ?_
        show Steps p.tables e below (s₁.setTop (mkF m 24 #[.val (.int p0), .val (.int ((p0 &&& (2147483647 : Int32)) % (7 : Int32))), .unset, .unset, .unset] [(.int ((p0 &&& (2147483647 : Int32)) % (7 : Int32)))])) _
        refine XS.iconst X0.here hx rfl (hb hby at_24) ?_
        exact k)
    by_cases hc25 : ((p0 &&& (2147483647 : Int32)) % (7 : Int32)) = (1 : Int32)
    · have k13 : ∀ t, Steps p.tables e below (s₁.setTop (mkF m 32 #[.val (.int p0), .val (.int ((p0 &&& (2147483647 : Int32)) % (7 : Int32))), .val (.int (1101 : Int32)), .unset, .unset] [])) t → Steps p.tables e below (s₁.setTop (entryFrame m #[(.int p0)] maxLocals)) t := fun t k => k12 t (by
          show Steps p.tables e below (s₁.setTop (mkF m 25 #[.val (.int p0), .val (.int ((p0 &&& (2147483647 : Int32)) % (7 : Int32))), .unset, .unset, .unset] [(.int (1 : Int32)), (.int ((p0 &&& (2147483647 : Int32)) % (7 : Int32)))])) _
          refine XS.icmpNo X0.here hx rfl (hb hby at_25) rfl (teq hc25).2 ?_
          show Steps p.tables e below (s₁.setTop (mkF m 28 #[.val (.int p0), .val (.int ((p0 &&& (2147483647 : Int32)) % (7 : Int32))), .unset, .unset, .unset] [])) _
          refine XS.sipush X0.here hx rfl (hb hby at_28) ?_
          show Steps p.tables e below (s₁.setTop (mkF m 31 #[.val (.int p0), .val (.int ((p0 &&& (2147483647 : Int32)) % (7 : Int32))), .unset, .unset, .unset] [(.int (1101 : Int32))])) _
          refine XS.istoreN X0.here hx rfl (hb hby at_31) rfl (l' := #[.val (.int p0), .val (.int ((p0 &&& (2147483647 : Int32)) % (7 : Int32))), .val (.int (1101 : Int32)), .unset, .unset]) rfl ?_
          exact k)
      obtain ⟨T14, X14, e14, st14⟩ := getS2 X0 hx hZ hown (host := "") (Or.inl (hw _ (List.mem_of_getElem? (i := 40) rfl))) Via.refl e0 S_PROCESSING (g := (mkF m 32 #[.val (.int p0), .val (.int ((p0 &&& (2147483647 : Int32)) % (7 : Int32))), .val (.int (1101 : Int32)), .unset, .unset] [])) rfl (hb hby at_32)
      have k15 : ∀ t, Steps p.tables e below (T14.setTop (mkF m 35 #[.val (.int p0), .val (.int ((p0 &&& (2147483647 : Int32)) % (7 : Int32))), .val (.int (1101 : Int32)), .unset, .unset] [(.ref w_PROCESSING)])) t → Steps p.tables e below (s₁.setTop (entryFrame m #[(.int p0)] maxLocals)) t := fun t k => k13 t (st14 _ k)
      have k16 : ∀ t, Steps p.tables e below (T14.setTop (mkF m 112 #[.val (.int p0), .val (.int ((p0 &&& (2147483647 : Int32)) % (7 : Int32))), .val (.int (1101 : Int32)), .val (.ref w_PROCESSING), .unset] [(.int (1101 : Int32))])) t → Steps p.tables e below (s₁.setTop (entryFrame m #[(.int p0)] maxLocals)) t := fun t k => k15 t (by
          show Steps p.tables e below (T14.setTop (mkF m 35 #[.val (.int p0), .val (.int ((p0 &&& (2147483647 : Int32)) % (7 : Int32))), .val (.int (1101 : Int32)), .unset, .unset] [(.ref w_PROCESSING)])) _
          refine XS.astoreN X14.here hx rfl (hb hby at_35) rfl rfl (l' := #[.val (.int p0), .val (.int ((p0 &&& (2147483647 : Int32)) % (7 : Int32))), .val (.int (1101 : Int32)), .val (.ref w_PROCESSING), .unset]) rfl ?_
          show Steps p.tables e below (T14.setTop (mkF m 36 #[.val (.int p0), .val (.int ((p0 &&& (2147483647 : Int32)) % (7 : Int32))), .val (.int (1101 : Int32)), .val (.ref w_PROCESSING), .unset] [])) _
          refine XS.goto X14.here hx rfl (pc0 := 36) (pc' := 111) rfl (hb hby at_36) (by decide) (by decide) ?_
          show Steps p.tables e below (T14.setTop (mkF m 111 #[.val (.int p0), .val (.int ((p0 &&& (2147483647 : Int32)) % (7 : Int32))), .val (.int (1101 : Int32)), .val (.ref w_PROCESSING), .unset] [])) _
          refine XS.iloadN X14.here hx rfl (hb hby at_111) rfl ?_
          exact k)
      obtain ⟨_, _, ⟨T17, L17, kq17, n17⟩, -, X17, ⟨Lc17, hQ17, l17, y17, z17⟩, st17⟩ := Jvm.LawKit.callS X14 hx (y := (⟨"com/example/mediawarden/mediawarden/task/Code", "of", "(I)Lcom/example/mediawarden/mediawarden/task/Code;"⟩ : MethodName)) hown (mvT hZ (hw _ (List.mem_of_getElem? (i := 4) rfl))) (mvT hZ (hw _ (List.mem_of_getElem? (i := 5) rfl))) (mvT hZ (hw _ (List.mem_of_getElem? (i := 2) rfl))) (mvT hZ (hw _ (List.mem_of_getElem? (i := 6) rfl))) (by decide) (backOf (W := 0) (rm1_PROCESSING l Z a0 hw [] wv cl w_SUCCESS w_PROCESSING w_RATE_LIMITED w_INVALID_PARAMETERS w_SERVICE_FAILURE w_DOWNLOAD_FAILED w_NO_PERMISSION h0 n0 Z0 S_V Arv_ E_V hsz hat0 hat1 hat2 hat3 hat4 hat5 hat6 F_number_w_SUCCESS F_number_w_PROCESSING F_number_w_RATE_LIMITED F_number_w_INVALID_PARAMETERS F_number_w_SERVICE_FAILURE F_number_w_DOWNLOAD_FAILED F_number_w_NO_PERMISSION) hZ (hw _ (List.mem_of_getElem? (i := 6) rfl)) (hw _ (List.mem_of_getElem? (i := 2) rfl)) (by decide) (by decide)) (g := (mkF m 112 #[.val (.int p0), .val (.int ((p0 &&& (2147483647 : Int32)) % (7 : Int32))), .val (.int (1101 : Int32)), .val (.ref w_PROCESSING), .unset] [(.int (1101 : Int32))])) rfl (by rw [hml]; rfl) (argsL := [(.int (1101 : Int32))]) (rest := []) (lenOf pd_1 rfl) rfl (by show 2 * 0 + _ ≤ _; exact Nat.le_of_eq rfl) (hb hby at_112) (fun _ _ => ⟨rfl, e14, (by decide : 0 + 1 ≤ _), (by decide : 0 + 7 ≤ _)⟩)
      dsimp only [Pt.U, Pt.locs, Pt.cells, Pt.slots] at X17 l17 y17 z17 st17 hQ17
      subst l17 y17 z17
      obtain ⟨rfl, N17q, Ex17⟩ := hQ17
      have N17 := Fr.app N0 N17q
      have Zs17 : n0 ≤ T17.heap.size := Nat.le_trans Z0 Ex17.1
      have k18 : ∀ t, Steps p.tables e below (T17.setTop (mkF m 115 #[.val (.int p0), .val (.int ((p0 &&& (2147483647 : Int32)) % (7 : Int32))), .val (.int (1101 : Int32)), .val (.ref w_PROCESSING), .unset] [(.ref w_PROCESSING)])) t → Steps p.tables e below (s₁.setTop (entryFrame m #[(.int p0)] maxLocals)) t := fun t k => k16 t (st17 _ k)
      have k19 : ∀ t, Steps p.tables e below (T17.setTop (mkF m 125 #[.val (.int p0), .val (.int ((p0 &&& (2147483647 : Int32)) % (7 : Int32))), .val (.int (1101 : Int32)), .val (.ref w_PROCESSING), .val (.ref w_PROCESSING)] [(.ref w_PROCESSING)])) t → Steps p.tables e below (s₁.setTop (entryFrame m #[(.int p0)] maxLocals)) t := fun t k => k18 t (by
          show Steps p.tables e below (T17.setTop (mkF m 115 #[.val (.int p0), .val (.int ((p0 &&& (2147483647 : Int32)) % (7 : Int32))), .val (.int (1101 : Int32)), .val (.ref w_PROCESSING), .unset] [(.ref w_PROCESSING)])) _
          refine XS.astore X17.here hx rfl (hb hby at_115) rfl rfl (l' := #[.val (.int p0), .val (.int ((p0 &&& (2147483647 : Int32)) % (7 : Int32))), .val (.int (1101 : Int32)), .val (.ref w_PROCESSING), .val (.ref w_PROCESSING)]) rfl ?_
          show Steps p.tables e below (T17.setTop (mkF m 117 #[.val (.int p0), .val (.int ((p0 &&& (2147483647 : Int32)) % (7 : Int32))), .val (.int (1101 : Int32)), .val (.ref w_PROCESSING), .val (.ref w_PROCESSING)] [])) _
          refine XS.aload X17.here hx rfl (hb hby at_117) rfl rfl ?_
          show Steps p.tables e below (T17.setTop (mkF m 119 #[.val (.int p0), .val (.int ((p0 &&& (2147483647 : Int32)) % (7 : Int32))), .val (.int (1101 : Int32)), .val (.ref w_PROCESSING), .val (.ref w_PROCESSING)] [(.ref w_PROCESSING)])) _
          refine XS.aloadN X17.here hx rfl (hb hby at_119) rfl rfl ?_
          show Steps p.tables e below (T17.setTop (mkF m 120 #[.val (.int p0), .val (.int ((p0 &&& (2147483647 : Int32)) % (7 : Int32))), .val (.int (1101 : Int32)), .val (.ref w_PROCESSING), .val (.ref w_PROCESSING)] [(.ref w_PROCESSING), (.ref w_PROCESSING)])) _
          refine Jvm.RoadKit.acmp (g := (mkF m 120 #[.val (.int p0), .val (.int ((p0 &&& (2147483647 : Int32)) % (7 : Int32))), .val (.int (1101 : Int32)), .val (.ref w_PROCESSING), .val (.ref w_PROCESSING)] [(.ref w_PROCESSING), (.ref w_PROCESSING)])) X17 hx rfl rfl rfl (pc0 := 120) (pc' := 123) (same := true) rfl (hb hby at_120) rfl (decide_eq_true rfl) (by decide) (by decide) ?_
          show Steps p.tables e below (T17.setTop (mkF m 123 #[.val (.int p0), .val (.int ((p0 &&& (2147483647 : Int32)) % (7 : Int32))), .val (.int (1101 : Int32)), .val (.ref w_PROCESSING), .val (.ref w_PROCESSING)] [])) _
          refine XS.aload X17.here hx rfl (hb hby at_123) rfl rfl ?_
          exact k)
      obtain ⟨cq20, kcq20, q20a, q20b, q20c⟩ := isOf hZ rfl (E_w_PROCESSING.ext Ex17)
      obtain ⟨_, _, ⟨T20, L20, kq20, n20⟩, -, X20, ⟨Lc20, hQ20, l20, y20, z20⟩, st20⟩ := X17.virtualBack hx (y := (⟨"com/example/mediawarden/mediawarden/task/Code", "number", "()I"⟩ : MethodName)) (z := (⟨"com/example/mediawarden/mediawarden/task/Code", "number", "()I"⟩ : MethodName)) hown (mvT hZ (hw _ (List.mem_of_getElem? (i := 30) rfl))) (mvT hZ (hw _ (List.mem_of_getElem? (i := 31) rfl))) (notFace_of_selects (args := #[]) (mvT hZ (hw _ (List.mem_of_getElem? (i := 33) rfl)))) (mvT hZ (hw _ (List.mem_of_getElem? (i := 33) rfl))) (mvT hZ (hw _ (List.mem_of_getElem? (i := 32) rfl))) (by decide) (backOf (W := 0) (rm3 l Z a0 hw [] w_PROCESSING (1101 : Int32) T17.heap n0 Zs17 (F_number_w_PROCESSING.ext Ex17)) hZ (hw _ (List.mem_of_getElem? (i := 34) rfl)) (hw _ (List.mem_of_getElem? (i := 2) rfl)) (by decide) (by decide)) q20a q20c (g := (mkF m 125 #[.val (.int p0), .val (.int ((p0 &&& (2147483647 : Int32)) % (7 : Int32))), .val (.int (1101 : Int32)), .val (.ref w_PROCESSING), .val (.ref w_PROCESSING)] [(.ref w_PROCESSING)])) rfl (by rw [hml]; rfl) (Steps.refl _) (argsL := []) (rest := []) (lenOf pd_2 rfl) rfl (by show 2 * 0 + _ ≤ _; exact Nat.le_of_eq rfl) (hb hby at_125) (fun _ _ => ⟨rfl, rfl, (by decide : 1 + 0 ≤ _), (by decide : 7 + 0 ≤ _)⟩)
      dsimp only [Pt.U, Pt.locs, Pt.cells, Pt.slots] at X20 l20 y20 z20 st20 hQ20
      subst l20 y20 z20
      obtain ⟨rfl, N20q, e20⟩ := hQ20
      have N20 := Fr.app N17 N20q
      have k21 : ∀ t, Steps p.tables e below (T20.setTop (mkF m 128 #[.val (.int p0), .val (.int ((p0 &&& (2147483647 : Int32)) % (7 : Int32))), .val (.int (1101 : Int32)), .val (.ref w_PROCESSING), .val (.ref w_PROCESSING)] [(.int (1101 : Int32))])) t → Steps p.tables e below (s₁.setTop (entryFrame m #[(.int p0)] maxLocals)) t := fun t k => k19 t (st20.trans k)
      have hc129 : (1101 : Int32) = (1101 : Int32) := by decide
      have k22 : ∀ t, Steps p.tables e below (T20.setTop (mkF m 137 #[.val (.int p0), .val (.int ((p0 &&& (2147483647 : Int32)) % (7 : Int32))), .val (.int (1101 : Int32)), .val (.ref w_PROCESSING), .val (.ref w_PROCESSING)] [(.int (1 : Int32))])) t → Steps p.tables e below (s₁.setTop (entryFrame m #[(.int p0)] maxLocals)) t := fun t k => k21 t (by
          show Steps p.tables e below (T20.setTop (mkF m 128 #[.val (.int p0), .val (.int ((p0 &&& (2147483647 : Int32)) % (7 : Int32))), .val (.int (1101 : Int32)), .val (.ref w_PROCESSING), .val (.ref w_PROCESSING)] [(.int (1101 : Int32))])) _
          refine XS.iloadN X20.here hx rfl (hb hby at_128) rfl ?_
          show Steps p.tables e below (T20.setTop (mkF m 129 #[.val (.int p0), .val (.int ((p0 &&& (2147483647 : Int32)) % (7 : Int32))), .val (.int (1101 : Int32)), .val (.ref w_PROCESSING), .val (.ref w_PROCESSING)] [(.int (1101 : Int32)), (.int (1101 : Int32))])) _
          refine XS.icmpNo X20.here hx rfl (hb hby at_129) rfl (teq hc129).2 ?_
          show Steps p.tables e below (T20.setTop (mkF m 132 #[.val (.int p0), .val (.int ((p0 &&& (2147483647 : Int32)) % (7 : Int32))), .val (.int (1101 : Int32)), .val (.ref w_PROCESSING), .val (.ref w_PROCESSING)] [])) _
          refine XS.iconst X20.here hx rfl (hb hby at_132) ?_
          show Steps p.tables e below (T20.setTop (mkF m 133 #[.val (.int p0), .val (.int ((p0 &&& (2147483647 : Int32)) % (7 : Int32))), .val (.int (1101 : Int32)), .val (.ref w_PROCESSING), .val (.ref w_PROCESSING)] [(.int (1 : Int32))])) _
          refine XS.goto X20.here hx rfl (pc0 := 133) (pc' := 137) rfl (hb hby at_133) (by decide) (by decide) ?_
          exact k)
      obtain ⟨fs, hr, hrun, hended, hW, hsame⟩ := X20.leave (v := (some (.int (1 : Int32)))) (fun h => by rw [Bd.returns] at h; cases h)
      refine ⟨_, _, k22 _ ?_, hrun, hended, _, _, rfl, ?_, ⟨_, rfl⟩, hW, hsame.mono (by decide) (by decide)⟩
      · exact retN X20 hx (t := .boolean) Bd.returns (by simp) (hb hby at_137) hr
      · show Q0 Z p0 wv cl w_SUCCESS w_PROCESSING w_RATE_LIMITED w_INVALID_PARAMETERS w_SERVICE_FAILURE w_DOWNLOAD_FAILED w_NO_PERMISSION h0 n0 _ T20.heap _
        rw [e20]
        exact ⟨rfl, N20⟩
    · have k23 : ∀ t, Steps p.tables e below (s₁.setTop (mkF m 41 #[.val (.int p0), .val (.int ((p0 &&& (2147483647 : Int32)) % (7 : Int32))), .unset, .unset, .unset] [(.int (2 : Int32)), (.int ((p0 &&& (2147483647 : Int32)) % (7 : Int32)))])) t → Steps p.tables e below (s₁.setTop (entryFrame m #[(.int p0)] maxLocals)) t := fun t k => k12 t (by
          show Steps p.tables e below (s₁.setTop (mkF m 25 #[.val (.int p0), .val (.int ((p0 &&& (2147483647 : Int32)) % (7 : Int32))), .unset, .unset, .unset] [(.int (1 : Int32)), (.int ((p0 &&& (2147483647 : Int32)) % (7 : Int32)))])) _
          refine XS.icmpYes X0.here hx rfl (pc0 := 25) (pc' := 39) rfl (hb hby at_25) rfl (feq hc25).2 (by decide) (by decide) ?_
          show Steps p.tables e below (s₁.setTop (mkF m 39 #[.val (.int p0), .val (.int ((p0 &&& (2147483647 : Int32)) % (7 : Int32))), .unset, .unset, .unset] [])) _
          refine XS.iloadN X0.here hx rfl (hb hby at_39) rfl ?_
          show Steps p.tables e below (s₁.setTop (mkF m 40 #[.val (.int p0), .val (.int ((p0 &&& (2147483647 : Int32)) % (7 : Int32))), .unset, .unset, .unset] [(.int ((p0 &&& (2147483647 : Int32)) % (7 : Int32)))])) _
          refine XS.iconst X0.here hx rfl (hb hby at_40) ?_
          exact k)
      by_cases hc41 : ((p0 &&& (2147483647 : Int32)) % (7 : Int32)) = (2 : Int32)
      · have k24 : ∀ t, Steps p.tables e below (s₁.setTop (mkF m 48 #[.val (.int p0), .val (.int ((p0 &&& (2147483647 : Int32)) % (7 : Int32))), .val (.int (1901 : Int32)), .unset, .unset] [])) t → Steps p.tables e below (s₁.setTop (entryFrame m #[(.int p0)] maxLocals)) t := fun t k => k23 t (by
            show Steps p.tables e below (s₁.setTop (mkF m 41 #[.val (.int p0), .val (.int ((p0 &&& (2147483647 : Int32)) % (7 : Int32))), .unset, .unset, .unset] [(.int (2 : Int32)), (.int ((p0 &&& (2147483647 : Int32)) % (7 : Int32)))])) _
            refine XS.icmpNo X0.here hx rfl (hb hby at_41) rfl (teq hc41).2 ?_
            show Steps p.tables e below (s₁.setTop (mkF m 44 #[.val (.int p0), .val (.int ((p0 &&& (2147483647 : Int32)) % (7 : Int32))), .unset, .unset, .unset] [])) _
            refine XS.sipush X0.here hx rfl (hb hby at_44) ?_
            show Steps p.tables e below (s₁.setTop (mkF m 47 #[.val (.int p0), .val (.int ((p0 &&& (2147483647 : Int32)) % (7 : Int32))), .unset, .unset, .unset] [(.int (1901 : Int32))])) _
            refine XS.istoreN X0.here hx rfl (hb hby at_47) rfl (l' := #[.val (.int p0), .val (.int ((p0 &&& (2147483647 : Int32)) % (7 : Int32))), .val (.int (1901 : Int32)), .unset, .unset]) rfl ?_
            exact k)
        obtain ⟨T25, X25, e25, st25⟩ := getS2 X0 hx hZ hown (host := "") (Or.inl (hw _ (List.mem_of_getElem? (i := 39) rfl))) Via.refl e0 S_RATE_LIMITED (g := (mkF m 48 #[.val (.int p0), .val (.int ((p0 &&& (2147483647 : Int32)) % (7 : Int32))), .val (.int (1901 : Int32)), .unset, .unset] [])) rfl (hb hby at_48)
        have k26 : ∀ t, Steps p.tables e below (T25.setTop (mkF m 51 #[.val (.int p0), .val (.int ((p0 &&& (2147483647 : Int32)) % (7 : Int32))), .val (.int (1901 : Int32)), .unset, .unset] [(.ref w_RATE_LIMITED)])) t → Steps p.tables e below (s₁.setTop (entryFrame m #[(.int p0)] maxLocals)) t := fun t k => k24 t (st25 _ k)
        have k27 : ∀ t, Steps p.tables e below (T25.setTop (mkF m 112 #[.val (.int p0), .val (.int ((p0 &&& (2147483647 : Int32)) % (7 : Int32))), .val (.int (1901 : Int32)), .val (.ref w_RATE_LIMITED), .unset] [(.int (1901 : Int32))])) t → Steps p.tables e below (s₁.setTop (entryFrame m #[(.int p0)] maxLocals)) t := fun t k => k26 t (by
            show Steps p.tables e below (T25.setTop (mkF m 51 #[.val (.int p0), .val (.int ((p0 &&& (2147483647 : Int32)) % (7 : Int32))), .val (.int (1901 : Int32)), .unset, .unset] [(.ref w_RATE_LIMITED)])) _
            refine XS.astoreN X25.here hx rfl (hb hby at_51) rfl rfl (l' := #[.val (.int p0), .val (.int ((p0 &&& (2147483647 : Int32)) % (7 : Int32))), .val (.int (1901 : Int32)), .val (.ref w_RATE_LIMITED), .unset]) rfl ?_
            show Steps p.tables e below (T25.setTop (mkF m 52 #[.val (.int p0), .val (.int ((p0 &&& (2147483647 : Int32)) % (7 : Int32))), .val (.int (1901 : Int32)), .val (.ref w_RATE_LIMITED), .unset] [])) _
            refine XS.goto X25.here hx rfl (pc0 := 52) (pc' := 111) rfl (hb hby at_52) (by decide) (by decide) ?_
            show Steps p.tables e below (T25.setTop (mkF m 111 #[.val (.int p0), .val (.int ((p0 &&& (2147483647 : Int32)) % (7 : Int32))), .val (.int (1901 : Int32)), .val (.ref w_RATE_LIMITED), .unset] [])) _
            refine XS.iloadN X25.here hx rfl (hb hby at_111) rfl ?_
            exact k)
        obtain ⟨_, _, ⟨T28, L28, kq28, n28⟩, -, X28, ⟨Lc28, hQ28, l28, y28, z28⟩, st28⟩ := Jvm.LawKit.callS X25 hx (y := (⟨"com/example/mediawarden/mediawarden/task/Code", "of", "(I)Lcom/example/mediawarden/mediawarden/task/Code;"⟩ : MethodName)) hown (mvT hZ (hw _ (List.mem_of_getElem? (i := 4) rfl))) (mvT hZ (hw _ (List.mem_of_getElem? (i := 5) rfl))) (mvT hZ (hw _ (List.mem_of_getElem? (i := 2) rfl))) (mvT hZ (hw _ (List.mem_of_getElem? (i := 6) rfl))) (by decide) (backOf (W := 0) (rm1_RATE_LIMITED l Z a0 hw [] wv cl w_SUCCESS w_PROCESSING w_RATE_LIMITED w_INVALID_PARAMETERS w_SERVICE_FAILURE w_DOWNLOAD_FAILED w_NO_PERMISSION h0 n0 Z0 S_V Arv_ E_V hsz hat0 hat1 hat2 hat3 hat4 hat5 hat6 F_number_w_SUCCESS F_number_w_PROCESSING F_number_w_RATE_LIMITED F_number_w_INVALID_PARAMETERS F_number_w_SERVICE_FAILURE F_number_w_DOWNLOAD_FAILED F_number_w_NO_PERMISSION) hZ (hw _ (List.mem_of_getElem? (i := 6) rfl)) (hw _ (List.mem_of_getElem? (i := 2) rfl)) (by decide) (by decide)) (g := (mkF m 112 #[.val (.int p0), .val (.int ((p0 &&& (2147483647 : Int32)) % (7 : Int32))), .val (.int (1901 : Int32)), .val (.ref w_RATE_LIMITED), .unset] [(.int (1901 : Int32))])) rfl (by rw [hml]; rfl) (argsL := [(.int (1901 : Int32))]) (rest := []) (lenOf pd_1 rfl) rfl (by show 2 * 0 + _ ≤ _; exact Nat.le_of_eq rfl) (hb hby at_112) (fun _ _ => ⟨rfl, e25, (by decide : 0 + 1 ≤ _), (by decide : 0 + 7 ≤ _)⟩)
        dsimp only [Pt.U, Pt.locs, Pt.cells, Pt.slots] at X28 l28 y28 z28 st28 hQ28
        subst l28 y28 z28
        obtain ⟨rfl, N28q, Ex28⟩ := hQ28
        have N28 := Fr.app N0 N28q
        have Zs28 : n0 ≤ T28.heap.size := Nat.le_trans Z0 Ex28.1
        have k29 : ∀ t, Steps p.tables e below (T28.setTop (mkF m 115 #[.val (.int p0), .val (.int ((p0 &&& (2147483647 : Int32)) % (7 : Int32))), .val (.int (1901 : Int32)), .val (.ref w_RATE_LIMITED), .unset] [(.ref w_RATE_LIMITED)])) t → Steps p.tables e below (s₁.setTop (entryFrame m #[(.int p0)] maxLocals)) t := fun t k => k27 t (st28 _ k)
        have k30 : ∀ t, Steps p.tables e below (T28.setTop (mkF m 125 #[.val (.int p0), .val (.int ((p0 &&& (2147483647 : Int32)) % (7 : Int32))), .val (.int (1901 : Int32)), .val (.ref w_RATE_LIMITED), .val (.ref w_RATE_LIMITED)] [(.ref w_RATE_LIMITED)])) t → Steps p.tables e below (s₁.setTop (entryFrame m #[(.int p0)] maxLocals)) t := fun t k => k29 t (by
            show Steps p.tables e below (T28.setTop (mkF m 115 #[.val (.int p0), .val (.int ((p0 &&& (2147483647 : Int32)) % (7 : Int32))), .val (.int (1901 : Int32)), .val (.ref w_RATE_LIMITED), .unset] [(.ref w_RATE_LIMITED)])) _
            refine XS.astore X28.here hx rfl (hb hby at_115) rfl rfl (l' := #[.val (.int p0), .val (.int ((p0 &&& (2147483647 : Int32)) % (7 : Int32))), .val (.int (1901 : Int32)), .val (.ref w_RATE_LIMITED), .val (.ref w_RATE_LIMITED)]) rfl ?_
            show Steps p.tables e below (T28.setTop (mkF m 117 #[.val (.int p0), .val (.int ((p0 &&& (2147483647 : Int32)) % (7 : Int32))), .val (.int (1901 : Int32)), .val (.ref w_RATE_LIMITED), .val (.ref w_RATE_LIMITED)] [])) _
            refine XS.aload X28.here hx rfl (hb hby at_117) rfl rfl ?_
            show Steps p.tables e below (T28.setTop (mkF m 119 #[.val (.int p0), .val (.int ((p0 &&& (2147483647 : Int32)) % (7 : Int32))), .val (.int (1901 : Int32)), .val (.ref w_RATE_LIMITED), .val (.ref w_RATE_LIMITED)] [(.ref w_RATE_LIMITED)])) _
            refine XS.aloadN X28.here hx rfl (hb hby at_119) rfl rfl ?_
            show Steps p.tables e below (T28.setTop (mkF m 120 #[.val (.int p0), .val (.int ((p0 &&& (2147483647 : Int32)) % (7 : Int32))), .val (.int (1901 : Int32)), .val (.ref w_RATE_LIMITED), .val (.ref w_RATE_LIMITED)] [(.ref w_RATE_LIMITED), (.ref w_RATE_LIMITED)])) _
            refine Jvm.RoadKit.acmp (g := (mkF m 120 #[.val (.int p0), .val (.int ((p0 &&& (2147483647 : Int32)) % (7 : Int32))), .val (.int (1901 : Int32)), .val (.ref w_RATE_LIMITED), .val (.ref w_RATE_LIMITED)] [(.ref w_RATE_LIMITED), (.ref w_RATE_LIMITED)])) X28 hx rfl rfl rfl (pc0 := 120) (pc' := 123) (same := true) rfl (hb hby at_120) rfl (decide_eq_true rfl) (by decide) (by decide) ?_
            show Steps p.tables e below (T28.setTop (mkF m 123 #[.val (.int p0), .val (.int ((p0 &&& (2147483647 : Int32)) % (7 : Int32))), .val (.int (1901 : Int32)), .val (.ref w_RATE_LIMITED), .val (.ref w_RATE_LIMITED)] [])) _
            refine XS.aload X28.here hx rfl (hb hby at_123) rfl rfl ?_
            exact k)
        obtain ⟨cq31, kcq31, q31a, q31b, q31c⟩ := isOf hZ rfl (E_w_RATE_LIMITED.ext Ex28)
        obtain ⟨_, _, ⟨T31, L31, kq31, n31⟩, -, X31, ⟨Lc31, hQ31, l31, y31, z31⟩, st31⟩ := X28.virtualBack hx (y := (⟨"com/example/mediawarden/mediawarden/task/Code", "number", "()I"⟩ : MethodName)) (z := (⟨"com/example/mediawarden/mediawarden/task/Code", "number", "()I"⟩ : MethodName)) hown (mvT hZ (hw _ (List.mem_of_getElem? (i := 30) rfl))) (mvT hZ (hw _ (List.mem_of_getElem? (i := 31) rfl))) (notFace_of_selects (args := #[]) (mvT hZ (hw _ (List.mem_of_getElem? (i := 33) rfl)))) (mvT hZ (hw _ (List.mem_of_getElem? (i := 33) rfl))) (mvT hZ (hw _ (List.mem_of_getElem? (i := 32) rfl))) (by decide) (backOf (W := 0) (rm3 l Z a0 hw [] w_RATE_LIMITED (1901 : Int32) T28.heap n0 Zs28 (F_number_w_RATE_LIMITED.ext Ex28)) hZ (hw _ (List.mem_of_getElem? (i := 34) rfl)) (hw _ (List.mem_of_getElem? (i := 2) rfl)) (by decide) (by decide)) q31a q31c (g := (mkF m 125 #[.val (.int p0), .val (.int ((p0 &&& (2147483647 : Int32)) % (7 : Int32))), .val (.int (1901 : Int32)), .val (.ref w_RATE_LIMITED), .val (.ref w_RATE_LIMITED)] [(.ref w_RATE_LIMITED)])) rfl (by rw [hml]; rfl) (Steps.refl _) (argsL := []) (rest := []) (lenOf pd_2 rfl) rfl (by show 2 * 0 + _ ≤ _; exact Nat.le_of_eq rfl) (hb hby at_125) (fun _ _ => ⟨rfl, rfl, (by decide : 1 + 0 ≤ _), (by decide : 7 + 0 ≤ _)⟩)
        dsimp only [Pt.U, Pt.locs, Pt.cells, Pt.slots] at X31 l31 y31 z31 st31 hQ31
        subst l31 y31 z31
        obtain ⟨rfl, N31q, e31⟩ := hQ31
        have N31 := Fr.app N28 N31q
        have k32 : ∀ t, Steps p.tables e below (T31.setTop (mkF m 128 #[.val (.int p0), .val (.int ((p0 &&& (2147483647 : Int32)) % (7 : Int32))), .val (.int (1901 : Int32)), .val (.ref w_RATE_LIMITED), .val (.ref w_RATE_LIMITED)] [(.int (1901 : Int32))])) t → Steps p.tables e below (s₁.setTop (entryFrame m #[(.int p0)] maxLocals)) t := fun t k => k30 t (st31.trans k)
        have hc129 : (1901 : Int32) = (1901 : Int32) := by decide
        have k33 : ∀ t, Steps p.tables e below (T31.setTop (mkF m 137 #[.val (.int p0), .val (.int ((p0 &&& (2147483647 : Int32)) % (7 : Int32))), .val (.int (1901 : Int32)), .val (.ref w_RATE_LIMITED), .val (.ref w_RATE_LIMITED)] [(.int (1 : Int32))])) t → Steps p.tables e below (s₁.setTop (entryFrame m #[(.int p0)] maxLocals)) t := fun t k => k32 t (by
            show Steps p.tables e below (T31.setTop (mkF m 128 #[.val (.int p0), .val (.int ((p0 &&& (2147483647 : Int32)) % (7 : Int32))), .val (.int (1901 : Int32)), .val (.ref w_RATE_LIMITED), .val (.ref w_RATE_LIMITED)] [(.int (1901 : Int32))])) _
            refine XS.iloadN X31.here hx rfl (hb hby at_128) rfl ?_
            show Steps p.tables e below (T31.setTop (mkF m 129 #[.val (.int p0), .val (.int ((p0 &&& (2147483647 : Int32)) % (7 : Int32))), .val (.int (1901 : Int32)), .val (.ref w_RATE_LIMITED), .val (.ref w_RATE_LIMITED)] [(.int (1901 : Int32)), (.int (1901 : Int32))])) _
            refine XS.icmpNo X31.here hx rfl (hb hby at_129) rfl (teq hc129).2 ?_
            show Steps p.tables e below (T31.setTop (mkF m 132 #[.val (.int p0), .val (.int ((p0 &&& (2147483647 : Int32)) % (7 : Int32))), .val (.int (1901 : Int32)), .val (.ref w_RATE_LIMITED), .val (.ref w_RATE_LIMITED)] [])) _
            refine XS.iconst X31.here hx rfl (hb hby at_132) ?_
            show Steps p.tables e below (T31.setTop (mkF m 133 #[.val (.int p0), .val (.int ((p0 &&& (2147483647 : Int32)) % (7 : Int32))), .val (.int (1901 : Int32)), .val (.ref w_RATE_LIMITED), .val (.ref w_RATE_LIMITED)] [(.int (1 : Int32))])) _
            refine XS.goto X31.here hx rfl (pc0 := 133) (pc' := 137) rfl (hb hby at_133) (by decide) (by decide) ?_
            exact k)
        obtain ⟨fs, hr, hrun, hended, hW, hsame⟩ := X31.leave (v := (some (.int (1 : Int32)))) (fun h => by rw [Bd.returns] at h; cases h)
        refine ⟨_, _, k33 _ ?_, hrun, hended, _, _, rfl, ?_, ⟨_, rfl⟩, hW, hsame.mono (by decide) (by decide)⟩
        · exact retN X31 hx (t := .boolean) Bd.returns (by simp) (hb hby at_137) hr
        · show Q0 Z p0 wv cl w_SUCCESS w_PROCESSING w_RATE_LIMITED w_INVALID_PARAMETERS w_SERVICE_FAILURE w_DOWNLOAD_FAILED w_NO_PERMISSION h0 n0 _ T31.heap _
          rw [e31]
          exact ⟨rfl, N31⟩
      · have k34 : ∀ t, Steps p.tables e below (s₁.setTop (mkF m 57 #[.val (.int p0), .val (.int ((p0 &&& (2147483647 : Int32)) % (7 : Int32))), .unset, .unset, .unset] [(.int (3 : Int32)), (.int ((p0 &&& (2147483647 : Int32)) % (7 : Int32)))])) t → Steps p.tables e below (s₁.setTop (entryFrame m #[(.int p0)] maxLocals)) t := fun t k => k23 t (by
            show Steps p.tables e below (s₁.setTop (mkF m 41 #[.val (.int p0), .val (.int ((p0 &&& (2147483647 : Int32)) % (7 : Int32))), .unset, .unset, .unset] [(.int (2 : Int32)), (.int ((p0 &&& (2147483647 : Int32)) % (7 : Int32)))])) _
            refine XS.icmpYes X0.here hx rfl (pc0 := 41) (pc' := 55) rfl (hb hby at_41) rfl (feq hc41).2 (by decide) (by decide) ?_
            show Steps p.tables e below (s₁.setTop (mkF m 55 #[.val (.int p0), .val (.int ((p0 &&& (2147483647 : Int32)) % (7 : Int32))), .unset, .unset, .unset] [])) _
            refine XS.iloadN X0.here hx rfl (hb hby at_55) rfl ?_
            show Steps p.tables e below (s₁.setTop (mkF m 56 #[.val (.int p0), .val (.int ((p0 &&& (2147483647 : Int32)) % (7 : Int32))), .unset, .unset, .unset] [(.int ((p0 &&& (2147483647 : Int32)) % (7 : Int32)))])) _
            refine XS.iconst X0.here hx rfl (hb hby at_56) ?_
            exact k)
        by_cases hc57 : ((p0 &&& (2147483647 : Int32)) % (7 : Int32)) = (3 : Int32)
        · have k35 : ∀ t, Steps p.tables e below (s₁.setTop (mkF m 64 #[.val (.int p0), .val (.int ((p0 &&& (2147483647 : Int32)) % (7 : Int32))), .val (.int (1902 : Int32)), .unset, .unset] [])) t → Steps p.tables e below (s₁.setTop (entryFrame m #[(.int p0)] maxLocals)) t := fun t k => k34 t (by
              show Steps p.tables e below (s₁.setTop (mkF m 57 #[.val (.int p0), .val (.int ((p0 &&& (2147483647 : Int32)) % (7 : Int32))), .unset, .unset, .unset] [(.int (3 : Int32)), (.int ((p0 &&& (2147483647 : Int32)) % (7 : Int32)))])) _
              refine XS.icmpNo X0.here hx rfl (hb hby at_57) rfl (teq hc57).2 ?_
              show Steps p.tables e below (s₁.setTop (mkF m 60 #[.val (.int p0), .val (.int ((p0 &&& (2147483647 : Int32)) % (7 : Int32))), .unset, .unset, .unset] [])) _
              refine XS.sipush X0.here hx rfl (hb hby at_60) ?_
              show Steps p.tables e below (s₁.setTop (mkF m 63 #[.val (.int p0), .val (.int ((p0 &&& (2147483647 : Int32)) % (7 : Int32))), .unset, .unset, .unset] [(.int (1902 : Int32))])) _
              refine XS.istoreN X0.here hx rfl (hb hby at_63) rfl (l' := #[.val (.int p0), .val (.int ((p0 &&& (2147483647 : Int32)) % (7 : Int32))), .val (.int (1902 : Int32)), .unset, .unset]) rfl ?_
              exact k)
          obtain ⟨T36, X36, e36, st36⟩ := getS2 X0 hx hZ hown (host := "") (Or.inl (hw _ (List.mem_of_getElem? (i := 35) rfl))) Via.refl e0 S_INVALID_PARAMETERS (g := (mkF m 64 #[.val (.int p0), .val (.int ((p0 &&& (2147483647 : Int32)) % (7 : Int32))), .val (.int (1902 : Int32)), .unset, .unset] [])) rfl (hb hby at_64)
          have k37 : ∀ t, Steps p.tables e below (T36.setTop (mkF m 67 #[.val (.int p0), .val (.int ((p0 &&& (2147483647 : Int32)) % (7 : Int32))), .val (.int (1902 : Int32)), .unset, .unset] [(.ref w_INVALID_PARAMETERS)])) t → Steps p.tables e below (s₁.setTop (entryFrame m #[(.int p0)] maxLocals)) t := fun t k => k35 t (st36 _ k)
          have k38 : ∀ t, Steps p.tables e below (T36.setTop (mkF m 112 #[.val (.int p0), .val (.int ((p0 &&& (2147483647 : Int32)) % (7 : Int32))), .val (.int (1902 : Int32)), .val (.ref w_INVALID_PARAMETERS), .unset] [(.int (1902 : Int32))])) t → Steps p.tables e below (s₁.setTop (entryFrame m #[(.int p0)] maxLocals)) t := fun t k => k37 t (by
              show Steps p.tables e below (T36.setTop (mkF m 67 #[.val (.int p0), .val (.int ((p0 &&& (2147483647 : Int32)) % (7 : Int32))), .val (.int (1902 : Int32)), .unset, .unset] [(.ref w_INVALID_PARAMETERS)])) _
              refine XS.astoreN X36.here hx rfl (hb hby at_67) rfl rfl (l' := #[.val (.int p0), .val (.int ((p0 &&& (2147483647 : Int32)) % (7 : Int32))), .val (.int (1902 : Int32)), .val (.ref w_INVALID_PARAMETERS), .unset]) rfl ?_
              show Steps p.tables e below (T36.setTop (mkF m 68 #[.val (.int p0), .val (.int ((p0 &&& (2147483647 : Int32)) % (7 : Int32))), .val (.int (1902 : Int32)), .val (.ref w_INVALID_PARAMETERS), .unset] [])) _
              refine XS.goto X36.here hx rfl (pc0 := 68) (pc' := 111) rfl (hb hby at_68) (by decide) (by decide) ?_
              show Steps p.tables e below (T36.setTop (mkF m 111 #[.val (.int p0), .val (.int ((p0 &&& (2147483647 : Int32)) % (7 : Int32))), .val (.int (1902 : Int32)), .val (.ref w_INVALID_PARAMETERS), .unset] [])) _
              refine XS.iloadN X36.here hx rfl (hb hby at_111) rfl ?_
              exact k)
          obtain ⟨_, _, ⟨T39, L39, kq39, n39⟩, -, X39, ⟨Lc39, hQ39, l39, y39, z39⟩, st39⟩ := Jvm.LawKit.callS X36 hx (y := (⟨"com/example/mediawarden/mediawarden/task/Code", "of", "(I)Lcom/example/mediawarden/mediawarden/task/Code;"⟩ : MethodName)) hown (mvT hZ (hw _ (List.mem_of_getElem? (i := 4) rfl))) (mvT hZ (hw _ (List.mem_of_getElem? (i := 5) rfl))) (mvT hZ (hw _ (List.mem_of_getElem? (i := 2) rfl))) (mvT hZ (hw _ (List.mem_of_getElem? (i := 6) rfl))) (by decide) (backOf (W := 0) (rm1_INVALID_PARAMETERS l Z a0 hw [] wv cl w_SUCCESS w_PROCESSING w_RATE_LIMITED w_INVALID_PARAMETERS w_SERVICE_FAILURE w_DOWNLOAD_FAILED w_NO_PERMISSION h0 n0 Z0 S_V Arv_ E_V hsz hat0 hat1 hat2 hat3 hat4 hat5 hat6 F_number_w_SUCCESS F_number_w_PROCESSING F_number_w_RATE_LIMITED F_number_w_INVALID_PARAMETERS F_number_w_SERVICE_FAILURE F_number_w_DOWNLOAD_FAILED F_number_w_NO_PERMISSION) hZ (hw _ (List.mem_of_getElem? (i := 6) rfl)) (hw _ (List.mem_of_getElem? (i := 2) rfl)) (by decide) (by decide)) (g := (mkF m 112 #[.val (.int p0), .val (.int ((p0 &&& (2147483647 : Int32)) % (7 : Int32))), .val (.int (1902 : Int32)), .val (.ref w_INVALID_PARAMETERS), .unset] [(.int (1902 : Int32))])) rfl (by rw [hml]; rfl) (argsL := [(.int (1902 : Int32))]) (rest := []) (lenOf pd_1 rfl) rfl (by show 2 * 0 + _ ≤ _; exact Nat.le_of_eq rfl) (hb hby at_112) (fun _ _ => ⟨rfl, e36, (by decide : 0 + 1 ≤ _), (by decide : 0 + 7 ≤ _)⟩)
          dsimp only [Pt.U, Pt.locs, Pt.cells, Pt.slots] at X39 l39 y39 z39 st39 hQ39
          subst l39 y39 z39
          obtain ⟨rfl, N39q, Ex39⟩ := hQ39
          have N39 := Fr.app N0 N39q
          have Zs39 : n0 ≤ T39.heap.size := Nat.le_trans Z0 Ex39.1
          have k40 : ∀ t, Steps p.tables e below (T39.setTop (mkF m 115 #[.val (.int p0), .val (.int ((p0 &&& (2147483647 : Int32)) % (7 : Int32))), .val (.int (1902 : Int32)), .val (.ref w_INVALID_PARAMETERS), .unset] [(.ref w_INVALID_PARAMETERS)])) t → Steps p.tables e below (s₁.setTop (entryFrame m #[(.int p0)] maxLocals)) t := fun t k => k38 t (st39 _ k)
          have k41 : ∀ t, Steps p.tables e below (T39.setTop (mkF m 125 #[.val (.int p0), .val (.int ((p0 &&& (2147483647 : Int32)) % (7 : Int32))), .val (.int (1902 : Int32)), .val (.ref w_INVALID_PARAMETERS), .val (.ref w_INVALID_PARAMETERS)] [(.ref w_INVALID_PARAMETERS)])) t → Steps p.tables e below (s₁.setTop (entryFrame m #[(.int p0)] maxLocals)) t := fun t k => k40 t (by
              show Steps p.tables e below (T39.setTop (mkF m 115 #[.val (.int p0), .val (.int ((p0 &&& (2147483647 : Int32)) % (7 : Int32))), .val (.int (1902 : Int32)), .val (.ref w_INVALID_PARAMETERS), .unset] [(.ref w_INVALID_PARAMETERS)])) _
              refine XS.astore X39.here hx rfl (hb hby at_115) rfl rfl (l' := #[.val (.int p0), .val (.int ((p0 &&& (2147483647 : Int32)) % (7 : Int32))), .val (.int (1902 : Int32)), .val (.ref w_INVALID_PARAMETERS), .val (.ref w_INVALID_PARAMETERS)]) rfl ?_
              show Steps p.tables e below (T39.setTop (mkF m 117 #[.val (.int p0), .val (.int ((p0 &&& (2147483647 : Int32)) % (7 : Int32))), .val (.int (1902 : Int32)), .val (.ref w_INVALID_PARAMETERS), .val (.ref w_INVALID_PARAMETERS)] [])) _
              refine XS.aload X39.here hx rfl (hb hby at_117) rfl rfl ?_
              show Steps p.tables e below (T39.setTop (mkF m 119 #[.val (.int p0), .val (.int ((p0 &&& (2147483647 : Int32)) % (7 : Int32))), .val (.int (1902 : Int32)), .val (.ref w_INVALID_PARAMETERS), .val (.ref w_INVALID_PARAMETERS)] [(.ref w_INVALID_PARAMETERS)])) _
              refine XS.aloadN X39.here hx rfl (hb hby at_119) rfl rfl ?_
              show Steps p.tables e below (T39.setTop (mkF m 120 #[.val (.int p0), .val (.int ((p0 &&& (2147483647 : Int32)) % (7 : Int32))), .val (.int (1902 : Int32)), .val (.ref w_INVALID_PARAMETERS), .val (.ref w_INVALID_PARAMETERS)] [(.ref w_INVALID_PARAMETERS), (.ref w_INVALID_PARAMETERS)])) _
              refine Jvm.RoadKit.acmp (g := (mkF m 120 #[.val (.int p0), .val (.int ((p0 &&& (2147483647 : Int32)) % (7 : Int32))), .val (.int (1902 : Int32)), .val (.ref w_INVALID_PARAMETERS), .val (.ref w_INVALID_PARAMETERS)] [(.ref w_INVALID_PARAMETERS), (.ref w_INVALID_PARAMETERS)])) X39 hx rfl rfl rfl (pc0 := 120) (pc' := 123) (same := true) rfl (hb hby at_120) rfl (decide_eq_true rfl) (by decide) (by decide) ?_
              show Steps p.tables e below (T39.setTop (mkF m 123 #[.val (.int p0), .val (.int ((p0 &&& (2147483647 : Int32)) % (7 : Int32))), .val (.int (1902 : Int32)), .val (.ref w_INVALID_PARAMETERS), .val (.ref w_INVALID_PARAMETERS)] [])) _
              refine XS.aload X39.here hx rfl (hb hby at_123) rfl rfl ?_
              exact k)
          obtain ⟨cq42, kcq42, q42a, q42b, q42c⟩ := isOf hZ rfl (E_w_INVALID_PARAMETERS.ext Ex39)
          obtain ⟨_, _, ⟨T42, L42, kq42, n42⟩, -, X42, ⟨Lc42, hQ42, l42, y42, z42⟩, st42⟩ := X39.virtualBack hx (y := (⟨"com/example/mediawarden/mediawarden/task/Code", "number", "()I"⟩ : MethodName)) (z := (⟨"com/example/mediawarden/mediawarden/task/Code", "number", "()I"⟩ : MethodName)) hown (mvT hZ (hw _ (List.mem_of_getElem? (i := 30) rfl))) (mvT hZ (hw _ (List.mem_of_getElem? (i := 31) rfl))) (notFace_of_selects (args := #[]) (mvT hZ (hw _ (List.mem_of_getElem? (i := 33) rfl)))) (mvT hZ (hw _ (List.mem_of_getElem? (i := 33) rfl))) (mvT hZ (hw _ (List.mem_of_getElem? (i := 32) rfl))) (by decide) (backOf (W := 0) (rm3 l Z a0 hw [] w_INVALID_PARAMETERS (1902 : Int32) T39.heap n0 Zs39 (F_number_w_INVALID_PARAMETERS.ext Ex39)) hZ (hw _ (List.mem_of_getElem? (i := 34) rfl)) (hw _ (List.mem_of_getElem? (i := 2) rfl)) (by decide) (by decide)) q42a q42c (g := (mkF m 125 #[.val (.int p0), .val (.int ((p0 &&& (2147483647 : Int32)) % (7 : Int32))), .val (.int (1902 : Int32)), .val (.ref w_INVALID_PARAMETERS), .val (.ref w_INVALID_PARAMETERS)] [(.ref w_INVALID_PARAMETERS)])) rfl (by rw [hml]; rfl) (Steps.refl _) (argsL := []) (rest := []) (lenOf pd_2 rfl) rfl (by show 2 * 0 + _ ≤ _; exact Nat.le_of_eq rfl) (hb hby at_125) (fun _ _ => ⟨rfl, rfl, (by decide : 1 + 0 ≤ _), (by decide : 7 + 0 ≤ _)⟩)
          dsimp only [Pt.U, Pt.locs, Pt.cells, Pt.slots] at X42 l42 y42 z42 st42 hQ42
          subst l42 y42 z42
          obtain ⟨rfl, N42q, e42⟩ := hQ42
          have N42 := Fr.app N39 N42q
          have k43 : ∀ t, Steps p.tables e below (T42.setTop (mkF m 128 #[.val (.int p0), .val (.int ((p0 &&& (2147483647 : Int32)) % (7 : Int32))), .val (.int (1902 : Int32)), .val (.ref w_INVALID_PARAMETERS), .val (.ref w_INVALID_PARAMETERS)] [(.int (1902 : Int32))])) t → Steps p.tables e below (s₁.setTop (entryFrame m #[(.int p0)] maxLocals)) t := fun t k => k41 t (st42.trans k)
          have hc129 : (1902 : Int32) = (1902 : Int32) := by decide
          have k44 : ∀ t, Steps p.tables e below (T42.setTop (mkF m 137 #[.val (.int p0), .val (.int ((p0 &&& (2147483647 : Int32)) % (7 : Int32))), .val (.int (1902 : Int32)), .val (.ref w_INVALID_PARAMETERS), .val (.ref w_INVALID_PARAMETERS)] [(.int (1 : Int32))])) t → Steps p.tables e below (s₁.setTop (entryFrame m #[(.int p0)] maxLocals)) t := fun t k => k43 t (by
              show Steps p.tables e below (T42.setTop (mkF m 128 #[.val (.int p0), .val (.int ((p0 &&& (2147483647 : Int32)) % (7 : Int32))), .val (.int (1902 : Int32)), .val (.ref w_INVALID_PARAMETERS), .val (.ref w_INVALID_PARAMETERS)] [(.int (1902 : Int32))])) _
              refine XS.iloadN X42.here hx rfl (hb hby at_128) rfl ?_
              show Steps p.tables e below (T42.setTop (mkF m 129 #[.val (.int p0), .val (.int ((p0 &&& (2147483647 : Int32)) % (7 : Int32))), .val (.int (1902 : Int32)), .val (.ref w_INVALID_PARAMETERS), .val (.ref w_INVALID_PARAMETERS)] [(.int (1902 : Int32)), (.int (1902 : Int32))])) _
              refine XS.icmpNo X42.here hx rfl (hb hby at_129) rfl (teq hc129).2 ?_
              show Steps p.tables e below (T42.setTop (mkF m 132 #[.val (.int p0), .val (.int ((p0 &&& (2147483647 : Int32)) % (7 : Int32))), .val (.int (1902 : Int32)), .val (.ref w_INVALID_PARAMETERS), .val (.ref w_INVALID_PARAMETERS)] [])) _
              refine XS.iconst X42.here hx rfl (hb hby at_132) ?_
              show Steps p.tables e below (T42.setTop (mkF m 133 #[.val (.int p0), .val (.int ((p0 &&& (2147483647 : Int32)) % (7 : Int32))), .val (.int (1902 : Int32)), .val (.ref w_INVALID_PARAMETERS), .val (.ref w_INVALID_PARAMETERS)] [(.int (1 : Int32))])) _
              refine XS.goto X42.here hx rfl (pc0 := 133) (pc' := 137) rfl (hb hby at_133) (by decide) (by decide) ?_
              exact k)
          obtain ⟨fs, hr, hrun, hended, hW, hsame⟩ := X42.leave (v := (some (.int (1 : Int32)))) (fun h => by rw [Bd.returns] at h; cases h)
          refine ⟨_, _, k44 _ ?_, hrun, hended, _, _, rfl, ?_, ⟨_, rfl⟩, hW, hsame.mono (by decide) (by decide)⟩
          · exact retN X42 hx (t := .boolean) Bd.returns (by simp) (hb hby at_137) hr
          · show Q0 Z p0 wv cl w_SUCCESS w_PROCESSING w_RATE_LIMITED w_INVALID_PARAMETERS w_SERVICE_FAILURE w_DOWNLOAD_FAILED w_NO_PERMISSION h0 n0 _ T42.heap _
            rw [e42]
            exact ⟨rfl, N42⟩
        · have k45 : ∀ t, Steps p.tables e below (s₁.setTop (mkF m 73 #[.val (.int p0), .val (.int ((p0 &&& (2147483647 : Int32)) % (7 : Int32))), .unset, .unset, .unset] [(.int (4 : Int32)), (.int ((p0 &&& (2147483647 : Int32)) % (7 : Int32)))])) t → Steps p.tables e below (s₁.setTop (entryFrame m #[(.int p0)] maxLocals)) t := fun t k => k34 t (by
              show Steps p.tables e below (s₁.setTop (mkF m 57 #[.val (.int p0), .val (.int ((p0 &&& (2147483647 : Int32)) % (7 : Int32))), .unset, .unset, .unset] [(.int (3 : Int32)), (.int ((p0 &&& (2147483647 : Int32)) % (7 : Int32)))])) _
              refine XS.icmpYes X0.here hx rfl (pc0 := 57) (pc' := 71) rfl (hb hby at_57) rfl (feq hc57).2 (by decide) (by decide) ?_
              show Steps p.tables e below (s₁.setTop (mkF m 71 #[.val (.int p0), .val (.int ((p0 &&& (2147483647 : Int32)) % (7 : Int32))), .unset, .unset, .unset] [])) _
              refine XS.iloadN X0.here hx rfl (hb hby at_71) rfl ?_
              show Steps p.tables e below (s₁.setTop (mkF m 72 #[.val (.int p0), .val (.int ((p0 &&& (2147483647 : Int32)) % (7 : Int32))), .unset, .unset, .unset] [(.int ((p0 &&& (2147483647 : Int32)) % (7 : Int32)))])) _
              refine XS.iconst X0.here hx rfl (hb hby at_72) ?_
              exact k)
          by_cases hc73 : ((p0 &&& (2147483647 : Int32)) % (7 : Int32)) = (4 : Int32)
          · have k46 : ∀ t, Steps p.tables e below (s₁.setTop (mkF m 80 #[.val (.int p0), .val (.int ((p0 &&& (2147483647 : Int32)) % (7 : Int32))), .val (.int (1903 : Int32)), .unset, .unset] [])) t → Steps p.tables e below (s₁.setTop (entryFrame m #[(.int p0)] maxLocals)) t := fun t k => k45 t (by
                show Steps p.tables e below (s₁.setTop (mkF m 73 #[.val (.int p0), .val (.int ((p0 &&& (2147483647 : Int32)) % (7 : Int32))), .unset, .unset, .unset] [(.int (4 : Int32)), (.int ((p0 &&& (2147483647 : Int32)) % (7 : Int32)))])) _
                refine XS.icmpNo X0.here hx rfl (hb hby at_73) rfl (teq hc73).2 ?_
                show Steps p.tables e below (s₁.setTop (mkF m 76 #[.val (.int p0), .val (.int ((p0 &&& (2147483647 : Int32)) % (7 : Int32))), .unset, .unset, .unset] [])) _
                refine XS.sipush X0.here hx rfl (hb hby at_76) ?_
                show Steps p.tables e below (s₁.setTop (mkF m 79 #[.val (.int p0), .val (.int ((p0 &&& (2147483647 : Int32)) % (7 : Int32))), .unset, .unset, .unset] [(.int (1903 : Int32))])) _
                refine XS.istoreN X0.here hx rfl (hb hby at_79) rfl (l' := #[.val (.int p0), .val (.int ((p0 &&& (2147483647 : Int32)) % (7 : Int32))), .val (.int (1903 : Int32)), .unset, .unset]) rfl ?_
                exact k)
            obtain ⟨T47, X47, e47, st47⟩ := getS2 X0 hx hZ hown (host := "") (Or.inl (hw _ (List.mem_of_getElem? (i := 38) rfl))) Via.refl e0 S_SERVICE_FAILURE (g := (mkF m 80 #[.val (.int p0), .val (.int ((p0 &&& (2147483647 : Int32)) % (7 : Int32))), .val (.int (1903 : Int32)), .unset, .unset] [])) rfl (hb hby at_80)
            have k48 : ∀ t, Steps p.tables e below (T47.setTop (mkF m 83 #[.val (.int p0), .val (.int ((p0 &&& (2147483647 : Int32)) % (7 : Int32))), .val (.int (1903 : Int32)), .unset, .unset] [(.ref w_SERVICE_FAILURE)])) t → Steps p.tables e below (s₁.setTop (entryFrame m #[(.int p0)] maxLocals)) t := fun t k => k46 t (st47 _ k)
            have k49 : ∀ t, Steps p.tables e below (T47.setTop (mkF m 112 #[.val (.int p0), .val (.int ((p0 &&& (2147483647 : Int32)) % (7 : Int32))), .val (.int (1903 : Int32)), .val (.ref w_SERVICE_FAILURE), .unset] [(.int (1903 : Int32))])) t → Steps p.tables e below (s₁.setTop (entryFrame m #[(.int p0)] maxLocals)) t := fun t k => k48 t (by
                show Steps p.tables e below (T47.setTop (mkF m 83 #[.val (.int p0), .val (.int ((p0 &&& (2147483647 : Int32)) % (7 : Int32))), .val (.int (1903 : Int32)), .unset, .unset] [(.ref w_SERVICE_FAILURE)])) _
                refine XS.astoreN X47.here hx rfl (hb hby at_83) rfl rfl (l' := #[.val (.int p0), .val (.int ((p0 &&& (2147483647 : Int32)) % (7 : Int32))), .val (.int (1903 : Int32)), .val (.ref w_SERVICE_FAILURE), .unset]) rfl ?_
                show Steps p.tables e below (T47.setTop (mkF m 84 #[.val (.int p0), .val (.int ((p0 &&& (2147483647 : Int32)) % (7 : Int32))), .val (.int (1903 : Int32)), .val (.ref w_SERVICE_FAILURE), .unset] [])) _
                refine XS.goto X47.here hx rfl (pc0 := 84) (pc' := 111) rfl (hb hby at_84) (by decide) (by decide) ?_
                show Steps p.tables e below (T47.setTop (mkF m 111 #[.val (.int p0), .val (.int ((p0 &&& (2147483647 : Int32)) % (7 : Int32))), .val (.int (1903 : Int32)), .val (.ref w_SERVICE_FAILURE), .unset] [])) _
                refine XS.iloadN X47.here hx rfl (hb hby at_111) rfl ?_
                exact k)
            obtain ⟨_, _, ⟨T50, L50, kq50, n50⟩, -, X50, ⟨Lc50, hQ50, l50, y50, z50⟩, st50⟩ := Jvm.LawKit.callS X47 hx (y := (⟨"com/example/mediawarden/mediawarden/task/Code", "of", "(I)Lcom/example/mediawarden/mediawarden/task/Code;"⟩ : MethodName)) hown (mvT hZ (hw _ (List.mem_of_getElem? (i := 4) rfl))) (mvT hZ (hw _ (List.mem_of_getElem? (i := 5) rfl))) (mvT hZ (hw _ (List.mem_of_getElem? (i := 2) rfl))) (mvT hZ (hw _ (List.mem_of_getElem? (i := 6) rfl))) (by decide) (backOf (W := 0) (rm1_SERVICE_FAILURE l Z a0 hw [] wv cl w_SUCCESS w_PROCESSING w_RATE_LIMITED w_INVALID_PARAMETERS w_SERVICE_FAILURE w_DOWNLOAD_FAILED w_NO_PERMISSION h0 n0 Z0 S_V Arv_ E_V hsz hat0 hat1 hat2 hat3 hat4 hat5 hat6 F_number_w_SUCCESS F_number_w_PROCESSING F_number_w_RATE_LIMITED F_number_w_INVALID_PARAMETERS F_number_w_SERVICE_FAILURE F_number_w_DOWNLOAD_FAILED F_number_w_NO_PERMISSION) hZ (hw _ (List.mem_of_getElem? (i := 6) rfl)) (hw _ (List.mem_of_getElem? (i := 2) rfl)) (by decide) (by decide)) (g := (mkF m 112 #[.val (.int p0), .val (.int ((p0 &&& (2147483647 : Int32)) % (7 : Int32))), .val (.int (1903 : Int32)), .val (.ref w_SERVICE_FAILURE), .unset] [(.int (1903 : Int32))])) rfl (by rw [hml]; rfl) (argsL := [(.int (1903 : Int32))]) (rest := []) (lenOf pd_1 rfl) rfl (by show 2 * 0 + _ ≤ _; exact Nat.le_of_eq rfl) (hb hby at_112) (fun _ _ => ⟨rfl, e47, (by decide : 0 + 1 ≤ _), (by decide : 0 + 7 ≤ _)⟩)
            dsimp only [Pt.U, Pt.locs, Pt.cells, Pt.slots] at X50 l50 y50 z50 st50 hQ50
            subst l50 y50 z50
            obtain ⟨rfl, N50q, Ex50⟩ := hQ50
            have N50 := Fr.app N0 N50q
            have Zs50 : n0 ≤ T50.heap.size := Nat.le_trans Z0 Ex50.1
            have k51 : ∀ t, Steps p.tables e below (T50.setTop (mkF m 115 #[.val (.int p0), .val (.int ((p0 &&& (2147483647 : Int32)) % (7 : Int32))), .val (.int (1903 : Int32)), .val (.ref w_SERVICE_FAILURE), .unset] [(.ref w_SERVICE_FAILURE)])) t → Steps p.tables e below (s₁.setTop (entryFrame m #[(.int p0)] maxLocals)) t := fun t k => k49 t (st50 _ k)
            have k52 : ∀ t, Steps p.tables e below (T50.setTop (mkF m 125 #[.val (.int p0), .val (.int ((p0 &&& (2147483647 : Int32)) % (7 : Int32))), .val (.int (1903 : Int32)), .val (.ref w_SERVICE_FAILURE), .val (.ref w_SERVICE_FAILURE)] [(.ref w_SERVICE_FAILURE)])) t → Steps p.tables e below (s₁.setTop (entryFrame m #[(.int p0)] maxLocals)) t := fun t k => k51 t (by
                show Steps p.tables e below (T50.setTop (mkF m 115 #[.val (.int p0), .val (.int ((p0 &&& (2147483647 : Int32)) % (7 : Int32))), .val (.int (1903 : Int32)), .val (.ref w_SERVICE_FAILURE), .unset] [(.ref w_SERVICE_FAILURE)])) _
                refine XS.astore X50.here hx rfl (hb hby at_115) rfl rfl (l' := #[.val (.int p0), .val (.int ((p0 &&& (2147483647 : Int32)) % (7 : Int32))), .val (.int (1903 : Int32)), .val (.ref w_SERVICE_FAILURE), .val (.ref w_SERVICE_FAILURE)]) rfl ?_
                show Steps p.tables e below (T50.setTop (mkF m 117 #[.val (.int p0), .val (.int ((p0 &&& (2147483647 : Int32)) % (7 : Int32))), .val (.int (1903 : Int32)), .val (.ref w_SERVICE_FAILURE), .val (.ref w_SERVICE_FAILURE)] [])) _
                refine XS.aload X50.here hx rfl (hb hby at_117) rfl rfl ?_
                show Steps p.tables e below (T50.setTop (mkF m 119 #[.val (.int p0), .val (.int ((p0 &&& (2147483647 : Int32)) % (7 : Int32))), .val (.int (1903 : Int32)), .val (.ref w_SERVICE_FAILURE), .val (.ref w_SERVICE_FAILURE)] [(.ref w_SERVICE_FAILURE)])) _
                refine XS.aloadN X50.here hx rfl (hb hby at_119) rfl rfl ?_
                show Steps p.tables e below (T50.setTop (mkF m 120 #[.val (.int p0), .val (.int ((p0 &&& (2147483647 : Int32)) % (7 : Int32))), .val (.int (1903 : Int32)), .val (.ref w_SERVICE_FAILURE), .val (.ref w_SERVICE_FAILURE)] [(.ref w_SERVICE_FAILURE), (.ref w_SERVICE_FAILURE)])) _
                refine Jvm.RoadKit.acmp (g := (mkF m 120 #[.val (.int p0), .val (.int ((p0 &&& (2147483647 : Int32)) % (7 : Int32))), .val (.int (1903 : Int32)), .val (.ref w_SERVICE_FAILURE), .val (.ref w_SERVICE_FAILURE)] [(.ref w_SERVICE_FAILURE), (.ref w_SERVICE_FAILURE)])) X50 hx rfl rfl rfl (pc0 := 120) (pc' := 123) (same := true) rfl (hb hby at_120) rfl (decide_eq_true rfl) (by decide) (by decide) ?_
                show Steps p.tables e below (T50.setTop (mkF m 123 #[.val (.int p0), .val (.int ((p0 &&& (2147483647 : Int32)) % (7 : Int32))), .val (.int (1903 : Int32)), .val (.ref w_SERVICE_FAILURE), .val (.ref w_SERVICE_FAILURE)] [])) _
                refine XS.aload X50.here hx rfl (hb hby at_123) rfl rfl ?_
                exact k)
            obtain ⟨cq53, kcq53, q53a, q53b, q53c⟩ := isOf hZ rfl (E_w_SERVICE_FAILURE.ext Ex50)
            obtain ⟨_, _, ⟨T53, L53, kq53, n53⟩, -, X53, ⟨Lc53, hQ53, l53, y53, z53⟩, st53⟩ := X50.virtualBack hx (y := (⟨"com/example/mediawarden/mediawarden/task/Code", "number", "()I"⟩ : MethodName)) (z := (⟨"com/example/mediawarden/mediawarden/task/Code", "number", "()I"⟩ : MethodName)) hown (mvT hZ (hw _ (List.mem_of_getElem? (i := 30) rfl))) (mvT hZ (hw _ (List.mem_of_getElem? (i := 31) rfl))) (notFace_of_selects (args := #[]) (mvT hZ (hw _ (List.mem_of_getElem? (i := 33) rfl)))) (mvT hZ (hw _ (List.mem_of_getElem? (i := 33) rfl))) (mvT hZ (hw _ (List.mem_of_getElem? (i := 32) rfl))) (by decide) (backOf (W := 0) (rm3 l Z a0 hw [] w_SERVICE_FAILURE (1903 : Int32) T50.heap n0 Zs50 (F_number_w_SERVICE_FAILURE.ext Ex50)) hZ (hw _ (List.mem_of_getElem? (i := 34) rfl)) (hw _ (List.mem_of_getElem? (i := 2) rfl)) (by decide) (by decide)) q53a q53c (g := (mkF m 125 #[.val (.int p0), .val (.int ((p0 &&& (2147483647 : Int32)) % (7 : Int32))), .val (.int (1903 : Int32)), .val (.ref w_SERVICE_FAILURE), .val (.ref w_SERVICE_FAILURE)] [(.ref w_SERVICE_FAILURE)])) rfl (by rw [hml]; rfl) (Steps.refl _) (argsL := []) (rest := []) (lenOf pd_2 rfl) rfl (by show 2 * 0 + _ ≤ _; exact Nat.le_of_eq rfl) (hb hby at_125) (fun _ _ => ⟨rfl, rfl, (by decide : 1 + 0 ≤ _), (by decide : 7 + 0 ≤ _)⟩)
            dsimp only [Pt.U, Pt.locs, Pt.cells, Pt.slots] at X53 l53 y53 z53 st53 hQ53
            subst l53 y53 z53
            obtain ⟨rfl, N53q, e53⟩ := hQ53
            have N53 := Fr.app N50 N53q
            have k54 : ∀ t, Steps p.tables e below (T53.setTop (mkF m 128 #[.val (.int p0), .val (.int ((p0 &&& (2147483647 : Int32)) % (7 : Int32))), .val (.int (1903 : Int32)), .val (.ref w_SERVICE_FAILURE), .val (.ref w_SERVICE_FAILURE)] [(.int (1903 : Int32))])) t → Steps p.tables e below (s₁.setTop (entryFrame m #[(.int p0)] maxLocals)) t := fun t k => k52 t (st53.trans k)
            have hc129 : (1903 : Int32) = (1903 : Int32) := by decide
            have k55 : ∀ t, Steps p.tables e below (T53.setTop (mkF m 137 #[.val (.int p0), .val (.int ((p0 &&& (2147483647 : Int32)) % (7 : Int32))), .val (.int (1903 : Int32)), .val (.ref w_SERVICE_FAILURE), .val (.ref w_SERVICE_FAILURE)] [(.int (1 : Int32))])) t → Steps p.tables e below (s₁.setTop (entryFrame m #[(.int p0)] maxLocals)) t := fun t k => k54 t (by
                show Steps p.tables e below (T53.setTop (mkF m 128 #[.val (.int p0), .val (.int ((p0 &&& (2147483647 : Int32)) % (7 : Int32))), .val (.int (1903 : Int32)), .val (.ref w_SERVICE_FAILURE), .val (.ref w_SERVICE_FAILURE)] [(.int (1903 : Int32))])) _
                refine XS.iloadN X53.here hx rfl (hb hby at_128) rfl ?_
                show Steps p.tables e below (T53.setTop (mkF m 129 #[.val (.int p0), .val (.int ((p0 &&& (2147483647 : Int32)) % (7 : Int32))), .val (.int (1903 : Int32)), .val (.ref w_SERVICE_FAILURE), .val (.ref w_SERVICE_FAILURE)] [(.int (1903 : Int32)), (.int (1903 : Int32))])) _
                refine XS.icmpNo X53.here hx rfl (hb hby at_129) rfl (teq hc129).2 ?_
                show Steps p.tables e below (T53.setTop (mkF m 132 #[.val (.int p0), .val (.int ((p0 &&& (2147483647 : Int32)) % (7 : Int32))), .val (.int (1903 : Int32)), .val (.ref w_SERVICE_FAILURE), .val (.ref w_SERVICE_FAILURE)] [])) _
                refine XS.iconst X53.here hx rfl (hb hby at_132) ?_
                show Steps p.tables e below (T53.setTop (mkF m 133 #[.val (.int p0), .val (.int ((p0 &&& (2147483647 : Int32)) % (7 : Int32))), .val (.int (1903 : Int32)), .val (.ref w_SERVICE_FAILURE), .val (.ref w_SERVICE_FAILURE)] [(.int (1 : Int32))])) _
                refine XS.goto X53.here hx rfl (pc0 := 133) (pc' := 137) rfl (hb hby at_133) (by decide) (by decide) ?_
                exact k)
            obtain ⟨fs, hr, hrun, hended, hW, hsame⟩ := X53.leave (v := (some (.int (1 : Int32)))) (fun h => by rw [Bd.returns] at h; cases h)
            refine ⟨_, _, k55 _ ?_, hrun, hended, _, _, rfl, ?_, ⟨_, rfl⟩, hW, hsame.mono (by decide) (by decide)⟩
            · exact retN X53 hx (t := .boolean) Bd.returns (by simp) (hb hby at_137) hr
            · show Q0 Z p0 wv cl w_SUCCESS w_PROCESSING w_RATE_LIMITED w_INVALID_PARAMETERS w_SERVICE_FAILURE w_DOWNLOAD_FAILED w_NO_PERMISSION h0 n0 _ T53.heap _
              rw [e53]
              exact ⟨rfl, N53⟩
          · have k56 : ∀ t, Steps p.tables e below (s₁.setTop (mkF m 89 #[.val (.int p0), .val (.int ((p0 &&& (2147483647 : Int32)) % (7 : Int32))), .unset, .unset, .unset] [(.int (5 : Int32)), (.int ((p0 &&& (2147483647 : Int32)) % (7 : Int32)))])) t → Steps p.tables e below (s₁.setTop (entryFrame m #[(.int p0)] maxLocals)) t := fun t k => k45 t (by
                show Steps p.tables e below (s₁.setTop (mkF m 73 #[.val (.int p0), .val (.int ((p0 &&& (2147483647 : Int32)) % (7 : Int32))), .unset, .unset, .unset] [(.int (4 : Int32)), (.int ((p0 &&& (2147483647 : Int32)) % (7 : Int32)))])) _
                refine XS.icmpYes X0.here hx rfl (pc0 := 73) (pc' := 87) rfl (hb hby at_73) rfl (feq hc73).2 (by decide) (by decide) ?_
                show Steps p.tables e below (s₁.setTop (mkF m 87 #[.val (.int p0), .val (.int ((p0 &&& (2147483647 : Int32)) % (7 : Int32))), .unset, .unset, .unset] [])) _
                refine XS.iloadN X0.here hx rfl (hb hby at_87) rfl ?_
                show Steps p.tables e below (s₁.setTop (mkF m 88 #[.val (.int p0), .val (.int ((p0 &&& (2147483647 : Int32)) % (7 : Int32))), .unset, .unset, .unset] [(.int ((p0 &&& (2147483647 : Int32)) % (7 : Int32)))])) _
                refine XS.iconst X0.here hx rfl (hb hby at_88) ?_
                exact k)
            by_cases hc89 : ((p0 &&& (2147483647 : Int32)) % (7 : Int32)) = (5 : Int32)
            · have k57 : ∀ t, Steps p.tables e below (s₁.setTop (mkF m 96 #[.val (.int p0), .val (.int ((p0 &&& (2147483647 : Int32)) % (7 : Int32))), .val (.int (1911 : Int32)), .unset, .unset] [])) t → Steps p.tables e below (s₁.setTop (entryFrame m #[(.int p0)] maxLocals)) t := fun t k => k56 t (by
                  show Steps p.tables e below (s₁.setTop (mkF m 89 #[.val (.int p0), .val (.int ((p0 &&& (2147483647 : Int32)) % (7 : Int32))), .unset, .unset, .unset] [(.int (5 : Int32)), (.int ((p0 &&& (2147483647 : Int32)) % (7 : Int32)))])) _
                  refine XS.icmpNo X0.here hx rfl (hb hby at_89) rfl (teq hc89).2 ?_
                  show Steps p.tables e below (s₁.setTop (mkF m 92 #[.val (.int p0), .val (.int ((p0 &&& (2147483647 : Int32)) % (7 : Int32))), .unset, .unset, .unset] [])) _
                  refine XS.sipush X0.here hx rfl (hb hby at_92) ?_
                  show Steps p.tables e below (s₁.setTop (mkF m 95 #[.val (.int p0), .val (.int ((p0 &&& (2147483647 : Int32)) % (7 : Int32))), .unset, .unset, .unset] [(.int (1911 : Int32))])) _
                  refine XS.istoreN X0.here hx rfl (hb hby at_95) rfl (l' := #[.val (.int p0), .val (.int ((p0 &&& (2147483647 : Int32)) % (7 : Int32))), .val (.int (1911 : Int32)), .unset, .unset]) rfl ?_
                  exact k)
              obtain ⟨T58, X58, e58, st58⟩ := getS2 X0 hx hZ hown (host := "") (Or.inl (hw _ (List.mem_of_getElem? (i := 36) rfl))) Via.refl e0 S_DOWNLOAD_FAILED (g := (mkF m 96 #[.val (.int p0), .val (.int ((p0 &&& (2147483647 : Int32)) % (7 : Int32))), .val (.int (1911 : Int32)), .unset, .unset] [])) rfl (hb hby at_96)
              have k59 : ∀ t, Steps p.tables e below (T58.setTop (mkF m 99 #[.val (.int p0), .val (.int ((p0 &&& (2147483647 : Int32)) % (7 : Int32))), .val (.int (1911 : Int32)), .unset, .unset] [(.ref w_DOWNLOAD_FAILED)])) t → Steps p.tables e below (s₁.setTop (entryFrame m #[(.int p0)] maxLocals)) t := fun t k => k57 t (st58 _ k)
              have k60 : ∀ t, Steps p.tables e below (T58.setTop (mkF m 112 #[.val (.int p0), .val (.int ((p0 &&& (2147483647 : Int32)) % (7 : Int32))), .val (.int (1911 : Int32)), .val (.ref w_DOWNLOAD_FAILED), .unset] [(.int (1911 : Int32))])) t → Steps p.tables e below (s₁.setTop (entryFrame m #[(.int p0)] maxLocals)) t := fun t k => k59 t (by
                  show Steps p.tables e below (T58.setTop (mkF m 99 #[.val (.int p0), .val (.int ((p0 &&& (2147483647 : Int32)) % (7 : Int32))), .val (.int (1911 : Int32)), .unset, .unset] [(.ref w_DOWNLOAD_FAILED)])) _
                  refine XS.astoreN X58.here hx rfl (hb hby at_99) rfl rfl (l' := #[.val (.int p0), .val (.int ((p0 &&& (2147483647 : Int32)) % (7 : Int32))), .val (.int (1911 : Int32)), .val (.ref w_DOWNLOAD_FAILED), .unset]) rfl ?_
                  show Steps p.tables e below (T58.setTop (mkF m 100 #[.val (.int p0), .val (.int ((p0 &&& (2147483647 : Int32)) % (7 : Int32))), .val (.int (1911 : Int32)), .val (.ref w_DOWNLOAD_FAILED), .unset] [])) _
                  refine XS.goto X58.here hx rfl (pc0 := 100) (pc' := 111) rfl (hb hby at_100) (by decide) (by decide) ?_
                  show Steps p.tables e below (T58.setTop (mkF m 111 #[.val (.int p0), .val (.int ((p0 &&& (2147483647 : Int32)) % (7 : Int32))), .val (.int (1911 : Int32)), .val (.ref w_DOWNLOAD_FAILED), .unset] [])) _
                  refine XS.iloadN X58.here hx rfl (hb hby at_111) rfl ?_
                  exact k)
              obtain ⟨_, _, ⟨T61, L61, kq61, n61⟩, -, X61, ⟨Lc61, hQ61, l61, y61, z61⟩, st61⟩ := Jvm.LawKit.callS X58 hx (y := (⟨"com/example/mediawarden/mediawarden/task/Code", "of", "(I)Lcom/example/mediawarden/mediawarden/task/Code;"⟩ : MethodName)) hown (mvT hZ (hw _ (List.mem_of_getElem? (i := 4) rfl))) (mvT hZ (hw _ (List.mem_of_getElem? (i := 5) rfl))) (mvT hZ (hw _ (List.mem_of_getElem? (i := 2) rfl))) (mvT hZ (hw _ (List.mem_of_getElem? (i := 6) rfl))) (by decide) (backOf (W := 0) (rm1_DOWNLOAD_FAILED l Z a0 hw [] wv cl w_SUCCESS w_PROCESSING w_RATE_LIMITED w_INVALID_PARAMETERS w_SERVICE_FAILURE w_DOWNLOAD_FAILED w_NO_PERMISSION h0 n0 Z0 S_V Arv_ E_V hsz hat0 hat1 hat2 hat3 hat4 hat5 hat6 F_number_w_SUCCESS F_number_w_PROCESSING F_number_w_RATE_LIMITED F_number_w_INVALID_PARAMETERS F_number_w_SERVICE_FAILURE F_number_w_DOWNLOAD_FAILED F_number_w_NO_PERMISSION) hZ (hw _ (List.mem_of_getElem? (i := 6) rfl)) (hw _ (List.mem_of_getElem? (i := 2) rfl)) (by decide) (by decide)) (g := (mkF m 112 #[.val (.int p0), .val (.int ((p0 &&& (2147483647 : Int32)) % (7 : Int32))), .val (.int (1911 : Int32)), .val (.ref w_DOWNLOAD_FAILED), .unset] [(.int (1911 : Int32))])) rfl (by rw [hml]; rfl) (argsL := [(.int (1911 : Int32))]) (rest := []) (lenOf pd_1 rfl) rfl (by show 2 * 0 + _ ≤ _; exact Nat.le_of_eq rfl) (hb hby at_112) (fun _ _ => ⟨rfl, e58, (by decide : 0 + 1 ≤ _), (by decide : 0 + 7 ≤ _)⟩)
              dsimp only [Pt.U, Pt.locs, Pt.cells, Pt.slots] at X61 l61 y61 z61 st61 hQ61
              subst l61 y61 z61
              obtain ⟨rfl, N61q, Ex61⟩ := hQ61
              have N61 := Fr.app N0 N61q
              have Zs61 : n0 ≤ T61.heap.size := Nat.le_trans Z0 Ex61.1
              have k62 : ∀ t, Steps p.tables e below (T61.setTop (mkF m 115 #[.val (.int p0), .val (.int ((p0 &&& (2147483647 : Int32)) % (7 : Int32))), .val (.int (1911 : Int32)), .val (.ref w_DOWNLOAD_FAILED), .unset] [(.ref w_DOWNLOAD_FAILED)])) t → Steps p.tables e below (s₁.setTop (entryFrame m #[(.int p0)] maxLocals)) t := fun t k => k60 t (st61 _ k)
              have k63 : ∀ t, Steps p.tables e below (T61.setTop (mkF m 125 #[.val (.int p0), .val (.int ((p0 &&& (2147483647 : Int32)) % (7 : Int32))), .val (.int (1911 : Int32)), .val (.ref w_DOWNLOAD_FAILED), .val (.ref w_DOWNLOAD_FAILED)] [(.ref w_DOWNLOAD_FAILED)])) t → Steps p.tables e below (s₁.setTop (entryFrame m #[(.int p0)] maxLocals)) t := fun t k => k62 t (by
                  show Steps p.tables e below (T61.setTop (mkF m 115 #[.val (.int p0), .val (.int ((p0 &&& (2147483647 : Int32)) % (7 : Int32))), .val (.int (1911 : Int32)), .val (.ref w_DOWNLOAD_FAILED), .unset] [(.ref w_DOWNLOAD_FAILED)])) _
                  refine XS.astore X61.here hx rfl (hb hby at_115) rfl rfl (l' := #[.val (.int p0), .val (.int ((p0 &&& (2147483647 : Int32)) % (7 : Int32))), .val (.int (1911 : Int32)), .val (.ref w_DOWNLOAD_FAILED), .val (.ref w_DOWNLOAD_FAILED)]) rfl ?_
                  show Steps p.tables e below (T61.setTop (mkF m 117 #[.val (.int p0), .val (.int ((p0 &&& (2147483647 : Int32)) % (7 : Int32))), .val (.int (1911 : Int32)), .val (.ref w_DOWNLOAD_FAILED), .val (.ref w_DOWNLOAD_FAILED)] [])) _
                  refine XS.aload X61.here hx rfl (hb hby at_117) rfl rfl ?_
                  show Steps p.tables e below (T61.setTop (mkF m 119 #[.val (.int p0), .val (.int ((p0 &&& (2147483647 : Int32)) % (7 : Int32))), .val (.int (1911 : Int32)), .val (.ref w_DOWNLOAD_FAILED), .val (.ref w_DOWNLOAD_FAILED)] [(.ref w_DOWNLOAD_FAILED)])) _
                  refine XS.aloadN X61.here hx rfl (hb hby at_119) rfl rfl ?_
                  show Steps p.tables e below (T61.setTop (mkF m 120 #[.val (.int p0), .val (.int ((p0 &&& (2147483647 : Int32)) % (7 : Int32))), .val (.int (1911 : Int32)), .val (.ref w_DOWNLOAD_FAILED), .val (.ref w_DOWNLOAD_FAILED)] [(.ref w_DOWNLOAD_FAILED), (.ref w_DOWNLOAD_FAILED)])) _
                  refine Jvm.RoadKit.acmp (g := (mkF m 120 #[.val (.int p0), .val (.int ((p0 &&& (2147483647 : Int32)) % (7 : Int32))), .val (.int (1911 : Int32)), .val (.ref w_DOWNLOAD_FAILED), .val (.ref w_DOWNLOAD_FAILED)] [(.ref w_DOWNLOAD_FAILED), (.ref w_DOWNLOAD_FAILED)])) X61 hx rfl rfl rfl (pc0 := 120) (pc' := 123) (same := true) rfl (hb hby at_120) rfl (decide_eq_true rfl) (by decide) (by decide) ?_
                  show Steps p.tables e below (T61.setTop (mkF m 123 #[.val (.int p0), .val (.int ((p0 &&& (2147483647 : Int32)) % (7 : Int32))), .val (.int (1911 : Int32)), .val (.ref w_DOWNLOAD_FAILED), .val (.ref w_DOWNLOAD_FAILED)] [])) _
                  refine XS.aload X61.here hx rfl (hb hby at_123) rfl rfl ?_
                  exact k)
              obtain ⟨cq64, kcq64, q64a, q64b, q64c⟩ := isOf hZ rfl (E_w_DOWNLOAD_FAILED.ext Ex61)
              obtain ⟨_, _, ⟨T64, L64, kq64, n64⟩, -, X64, ⟨Lc64, hQ64, l64, y64, z64⟩, st64⟩ := X61.virtualBack hx (y := (⟨"com/example/mediawarden/mediawarden/task/Code", "number", "()I"⟩ : MethodName)) (z := (⟨"com/example/mediawarden/mediawarden/task/Code", "number", "()I"⟩ : MethodName)) hown (mvT hZ (hw _ (List.mem_of_getElem? (i := 30) rfl))) (mvT hZ (hw _ (List.mem_of_getElem? (i := 31) rfl))) (notFace_of_selects (args := #[]) (mvT hZ (hw _ (List.mem_of_getElem? (i := 33) rfl)))) (mvT hZ (hw _ (List.mem_of_getElem? (i := 33) rfl))) (mvT hZ (hw _ (List.mem_of_getElem? (i := 32) rfl))) (by decide) (backOf (W := 0) (rm3 l Z a0 hw [] w_DOWNLOAD_FAILED (1911 : Int32) T61.heap n0 Zs61 (F_number_w_DOWNLOAD_FAILED.ext Ex61)) hZ (hw _ (List.mem_of_getElem? (i := 34) rfl)) (hw _ (List.mem_of_getElem? (i := 2) rfl)) (by decide) (by decide)) q64a q64c (g := (mkF m 125 #[.val (.int p0), .val (.int ((p0 &&& (2147483647 : Int32)) % (7 : Int32))), .val (.int (1911 : Int32)), .val (.ref w_DOWNLOAD_FAILED), .val (.ref w_DOWNLOAD_FAILED)] [(.ref w_DOWNLOAD_FAILED)])) rfl (by rw [hml]; rfl) (Steps.refl _) (argsL := []) (rest := []) (lenOf pd_2 rfl) rfl (by show 2 * 0 + _ ≤ _; exact Nat.le_of_eq rfl) (hb hby at_125) (fun _ _ => ⟨rfl, rfl, (by decide : 1 + 0 ≤ _), (by decide : 7 + 0 ≤ _)⟩)
              dsimp only [Pt.U, Pt.locs, Pt.cells, Pt.slots] at X64 l64 y64 z64 st64 hQ64
              subst l64 y64 z64
              obtain ⟨rfl, N64q, e64⟩ := hQ64
              have N64 := Fr.app N61 N64q
              have k65 : ∀ t, Steps p.tables e below (T64.setTop (mkF m 128 #[.val (.int p0), .val (.int ((p0 &&& (2147483647 : Int32)) % (7 : Int32))), .val (.int (1911 : Int32)), .val (.ref w_DOWNLOAD_FAILED), .val (.ref w_DOWNLOAD_FAILED)] [(.int (1911 : Int32))])) t → Steps p.tables e below (s₁.setTop (entryFrame m #[(.int p0)] maxLocals)) t := fun t k => k63 t (st64.trans k)
              have hc129 : (1911 : Int32) = (1911 : Int32) := by decide
              have k66 : ∀ t, Steps p.tables e below (T64.setTop (mkF m 137 #[.val (.int p0), .val (.int ((p0 &&& (2147483647 : Int32)) % (7 : Int32))), .val (.int (1911 : Int32)), .val (.ref w_DOWNLOAD_FAILED), .val (.ref w_DOWNLOAD_FAILED)] [(.int (1 : Int32))])) t → Steps p.tables e below (s₁.setTop (entryFrame m #[(.int p0)] maxLocals)) t := fun t k => k65 t (by
                  show Steps p.tables e below (T64.setTop (mkF m 128 #[.val (.int p0), .val (.int ((p0 &&& (2147483647 : Int32)) % (7 : Int32))), .val (.int (1911 : Int32)), .val (.ref w_DOWNLOAD_FAILED), .val (.ref w_DOWNLOAD_FAILED)] [(.int (1911 : Int32))])) _
                  refine XS.iloadN X64.here hx rfl (hb hby at_128) rfl ?_
                  show Steps p.tables e below (T64.setTop (mkF m 129 #[.val (.int p0), .val (.int ((p0 &&& (2147483647 : Int32)) % (7 : Int32))), .val (.int (1911 : Int32)), .val (.ref w_DOWNLOAD_FAILED), .val (.ref w_DOWNLOAD_FAILED)] [(.int (1911 : Int32)), (.int (1911 : Int32))])) _
                  refine XS.icmpNo X64.here hx rfl (hb hby at_129) rfl (teq hc129).2 ?_
                  show Steps p.tables e below (T64.setTop (mkF m 132 #[.val (.int p0), .val (.int ((p0 &&& (2147483647 : Int32)) % (7 : Int32))), .val (.int (1911 : Int32)), .val (.ref w_DOWNLOAD_FAILED), .val (.ref w_DOWNLOAD_FAILED)] [])) _
                  refine XS.iconst X64.here hx rfl (hb hby at_132) ?_
                  show Steps p.tables e below (T64.setTop (mkF m 133 #[.val (.int p0), .val (.int ((p0 &&& (2147483647 : Int32)) % (7 : Int32))), .val (.int (1911 : Int32)), .val (.ref w_DOWNLOAD_FAILED), .val (.ref w_DOWNLOAD_FAILED)] [(.int (1 : Int32))])) _
                  refine XS.goto X64.here hx rfl (pc0 := 133) (pc' := 137) rfl (hb hby at_133) (by decide) (by decide) ?_
                  exact k)
              obtain ⟨fs, hr, hrun, hended, hW, hsame⟩ := X64.leave (v := (some (.int (1 : Int32)))) (fun h => by rw [Bd.returns] at h; cases h)
              refine ⟨_, _, k66 _ ?_, hrun, hended, _, _, rfl, ?_, ⟨_, rfl⟩, hW, hsame.mono (by decide) (by decide)⟩
              · exact retN X64 hx (t := .boolean) Bd.returns (by simp) (hb hby at_137) hr
              · show Q0 Z p0 wv cl w_SUCCESS w_PROCESSING w_RATE_LIMITED w_INVALID_PARAMETERS w_SERVICE_FAILURE w_DOWNLOAD_FAILED w_NO_PERMISSION h0 n0 _ T64.heap _
                rw [e64]
                exact ⟨rfl, N64⟩
            · have k67 : ∀ t, Steps p.tables e below (s₁.setTop (mkF m 107 #[.val (.int p0), .val (.int ((p0 &&& (2147483647 : Int32)) % (7 : Int32))), .val (.int (9101 : Int32)), .unset, .unset] [])) t → Steps p.tables e below (s₁.setTop (entryFrame m #[(.int p0)] maxLocals)) t := fun t k => k56 t (by
                  show Steps p.tables e below (s₁.setTop (mkF m 89 #[.val (.int p0), .val (.int ((p0 &&& (2147483647 : Int32)) % (7 : Int32))), .unset, .unset, .unset] [(.int (5 : Int32)), (.int ((p0 &&& (2147483647 : Int32)) % (7 : Int32)))])) _
                  refine XS.icmpYes X0.here hx rfl (pc0 := 89) (pc' := 103) rfl (hb hby at_89) rfl (feq hc89).2 (by decide) (by decide) ?_
                  show Steps p.tables e below (s₁.setTop (mkF m 103 #[.val (.int p0), .val (.int ((p0 &&& (2147483647 : Int32)) % (7 : Int32))), .unset, .unset, .unset] [])) _
                  refine XS.sipush X0.here hx rfl (hb hby at_103) ?_
                  show Steps p.tables e below (s₁.setTop (mkF m 106 #[.val (.int p0), .val (.int ((p0 &&& (2147483647 : Int32)) % (7 : Int32))), .unset, .unset, .unset] [(.int (9101 : Int32))])) _
                  refine XS.istoreN X0.here hx rfl (hb hby at_106) rfl (l' := #[.val (.int p0), .val (.int ((p0 &&& (2147483647 : Int32)) % (7 : Int32))), .val (.int (9101 : Int32)), .unset, .unset]) rfl ?_
                  exact k)
              obtain ⟨T68, X68, e68, st68⟩ := getS2 X0 hx hZ hown (host := "") (Or.inl (hw _ (List.mem_of_getElem? (i := 37) rfl))) Via.refl e0 S_NO_PERMISSION (g := (mkF m 107 #[.val (.int p0), .val (.int ((p0 &&& (2147483647 : Int32)) % (7 : Int32))), .val (.int (9101 : Int32)), .unset, .unset] [])) rfl (hb hby at_107)
              have k69 : ∀ t, Steps p.tables e below (T68.setTop (mkF m 110 #[.val (.int p0), .val (.int ((p0 &&& (2147483647 : Int32)) % (7 : Int32))), .val (.int (9101 : Int32)), .unset, .unset] [(.ref w_NO_PERMISSION)])) t → Steps p.tables e below (s₁.setTop (entryFrame m #[(.int p0)] maxLocals)) t := fun t k => k67 t (st68 _ k)
              have k70 : ∀ t, Steps p.tables e below (T68.setTop (mkF m 112 #[.val (.int p0), .val (.int ((p0 &&& (2147483647 : Int32)) % (7 : Int32))), .val (.int (9101 : Int32)), .val (.ref w_NO_PERMISSION), .unset] [(.int (9101 : Int32))])) t → Steps p.tables e below (s₁.setTop (entryFrame m #[(.int p0)] maxLocals)) t := fun t k => k69 t (by
                  show Steps p.tables e below (T68.setTop (mkF m 110 #[.val (.int p0), .val (.int ((p0 &&& (2147483647 : Int32)) % (7 : Int32))), .val (.int (9101 : Int32)), .unset, .unset] [(.ref w_NO_PERMISSION)])) _
                  refine XS.astoreN X68.here hx rfl (hb hby at_110) rfl rfl (l' := #[.val (.int p0), .val (.int ((p0 &&& (2147483647 : Int32)) % (7 : Int32))), .val (.int (9101 : Int32)), .val (.ref w_NO_PERMISSION), .unset]) rfl ?_
                  show Steps p.tables e below (T68.setTop (mkF m 111 #[.val (.int p0), .val (.int ((p0 &&& (2147483647 : Int32)) % (7 : Int32))), .val (.int (9101 : Int32)), .val (.ref w_NO_PERMISSION), .unset] [])) _
                  refine XS.iloadN X68.here hx rfl (hb hby at_111) rfl ?_
                  exact k)
              obtain ⟨_, _, ⟨T71, L71, kq71, n71⟩, -, X71, ⟨Lc71, hQ71, l71, y71, z71⟩, st71⟩ := Jvm.LawKit.callS X68 hx (y := (⟨"com/example/mediawarden/mediawarden/task/Code", "of", "(I)Lcom/example/mediawarden/mediawarden/task/Code;"⟩ : MethodName)) hown (mvT hZ (hw _ (List.mem_of_getElem? (i := 4) rfl))) (mvT hZ (hw _ (List.mem_of_getElem? (i := 5) rfl))) (mvT hZ (hw _ (List.mem_of_getElem? (i := 2) rfl))) (mvT hZ (hw _ (List.mem_of_getElem? (i := 6) rfl))) (by decide) (backOf (W := 0) (rm1_NO_PERMISSION l Z a0 hw [] wv cl w_SUCCESS w_PROCESSING w_RATE_LIMITED w_INVALID_PARAMETERS w_SERVICE_FAILURE w_DOWNLOAD_FAILED w_NO_PERMISSION h0 n0 Z0 S_V Arv_ E_V hsz hat0 hat1 hat2 hat3 hat4 hat5 hat6 F_number_w_SUCCESS F_number_w_PROCESSING F_number_w_RATE_LIMITED F_number_w_INVALID_PARAMETERS F_number_w_SERVICE_FAILURE F_number_w_DOWNLOAD_FAILED F_number_w_NO_PERMISSION) hZ (hw _ (List.mem_of_getElem? (i := 6) rfl)) (hw _ (List.mem_of_getElem? (i := 2) rfl)) (by decide) (by decide)) (g := (mkF m 112 #[.val (.int p0), .val (.int ((p0 &&& (2147483647 : Int32)) % (7 : Int32))), .val (.int (9101 : Int32)), .val (.ref w_NO_PERMISSION), .unset] [(.int (9101 : Int32))])) rfl (by rw [hml]; rfl) (argsL := [(.int (9101 : Int32))]) (rest := []) (lenOf pd_1 rfl) rfl (by show 2 * 0 + _ ≤ _; exact Nat.le_of_eq rfl) (hb hby at_112) (fun _ _ => ⟨rfl, e68, (by decide : 0 + 1 ≤ _), (by decide : 0 + 7 ≤ _)⟩)
              dsimp only [Pt.U, Pt.locs, Pt.cells, Pt.slots] at X71 l71 y71 z71 st71 hQ71
              subst l71 y71 z71
              obtain ⟨rfl, N71q, Ex71⟩ := hQ71
              have N71 := Fr.app N0 N71q
              have Zs71 : n0 ≤ T71.heap.size := Nat.le_trans Z0 Ex71.1
              have k72 : ∀ t, Steps p.tables e below (T71.setTop (mkF m 115 #[.val (.int p0), .val (.int ((p0 &&& (2147483647 : Int32)) % (7 : Int32))), .val (.int (9101 : Int32)), .val (.ref w_NO_PERMISSION), .unset] [(.ref w_NO_PERMISSION)])) t → Steps p.tables e below (s₁.setTop (entryFrame m #[(.int p0)] maxLocals)) t := fun t k => k70 t (st71 _ k)
              have k73 : ∀ t, Steps p.tables e below (T71.setTop (mkF m 125 #[.val (.int p0), .val (.int ((p0 &&& (2147483647 : Int32)) % (7 : Int32))), .val (.int (9101 : Int32)), .val (.ref w_NO_PERMISSION), .val (.ref w_NO_PERMISSION)] [(.ref w_NO_PERMISSION)])) t → Steps p.tables e below (s₁.setTop (entryFrame m #[(.int p0)] maxLocals)) t := fun t k => k72 t (by
                  show Steps p.tables e below (T71.setTop (mkF m 115 #[.val (.int p0), .val (.int ((p0 &&& (2147483647 : Int32)) % (7 : Int32))), .val (.int (9101 : Int32)), .val (.ref w_NO_PERMISSION), .unset] [(.ref w_NO_PERMISSION)])) _
                  refine XS.astore X71.here hx rfl (hb hby at_115) rfl rfl (l' := #[.val (.int p0), .val (.int ((p0 &&& (2147483647 : Int32)) % (7 : Int32))), .val (.int (9101 : Int32)), .val (.ref w_NO_PERMISSION), .val (.ref w_NO_PERMISSION)]) rfl ?_
                  show Steps p.tables e below (T71.setTop (mkF m 117 #[.val (.int p0), .val (.int ((p0 &&& (2147483647 : Int32)) % (7 : Int32))), .val (.int (9101 : Int32)), .val (.ref w_NO_PERMISSION), .val (.ref w_NO_PERMISSION)] [])) _
                  refine XS.aload X71.here hx rfl (hb hby at_117) rfl rfl ?_
                  show Steps p.tables e below (T71.setTop (mkF m 119 #[.val (.int p0), .val (.int ((p0 &&& (2147483647 : Int32)) % (7 : Int32))), .val (.int (9101 : Int32)), .val (.ref w_NO_PERMISSION), .val (.ref w_NO_PERMISSION)] [(.ref w_NO_PERMISSION)])) _
                  refine XS.aloadN X71.here hx rfl (hb hby at_119) rfl rfl ?_
                  show Steps p.tables e below (T71.setTop (mkF m 120 #[.val (.int p0), .val (.int ((p0 &&& (2147483647 : Int32)) % (7 : Int32))), .val (.int (9101 : Int32)), .val (.ref w_NO_PERMISSION), .val (.ref w_NO_PERMISSION)] [(.ref w_NO_PERMISSION), (.ref w_NO_PERMISSION)])) _
                  refine Jvm.RoadKit.acmp (g := (mkF m 120 #[.val (.int p0), .val (.int ((p0 &&& (2147483647 : Int32)) % (7 : Int32))), .val (.int (9101 : Int32)), .val (.ref w_NO_PERMISSION), .val (.ref w_NO_PERMISSION)] [(.ref w_NO_PERMISSION), (.ref w_NO_PERMISSION)])) X71 hx rfl rfl rfl (pc0 := 120) (pc' := 123) (same := true) rfl (hb hby at_120) rfl (decide_eq_true rfl) (by decide) (by decide) ?_
                  show Steps p.tables e below (T71.setTop (mkF m 123 #[.val (.int p0), .val (.int ((p0 &&& (2147483647 : Int32)) % (7 : Int32))), .val (.int (9101 : Int32)), .val (.ref w_NO_PERMISSION), .val (.ref w_NO_PERMISSION)] [])) _
                  refine XS.aload X71.here hx rfl (hb hby at_123) rfl rfl ?_
                  exact k)
              obtain ⟨cq74, kcq74, q74a, q74b, q74c⟩ := isOf hZ rfl (E_w_NO_PERMISSION.ext Ex71)
              obtain ⟨_, _, ⟨T74, L74, kq74, n74⟩, -, X74, ⟨Lc74, hQ74, l74, y74, z74⟩, st74⟩ := X71.virtualBack hx (y := (⟨"com/example/mediawarden/mediawarden/task/Code", "number", "()I"⟩ : MethodName)) (z := (⟨"com/example/mediawarden/mediawarden/task/Code", "number", "()I"⟩ : MethodName)) hown (mvT hZ (hw _ (List.mem_of_getElem? (i := 30) rfl))) (mvT hZ (hw _ (List.mem_of_getElem? (i := 31) rfl))) (notFace_of_selects (args := #[]) (mvT hZ (hw _ (List.mem_of_getElem? (i := 33) rfl)))) (mvT hZ (hw _ (List.mem_of_getElem? (i := 33) rfl))) (mvT hZ (hw _ (List.mem_of_getElem? (i := 32) rfl))) (by decide) (backOf (W := 0) (rm3 l Z a0 hw [] w_NO_PERMISSION (9101 : Int32) T71.heap n0 Zs71 (F_number_w_NO_PERMISSION.ext Ex71)) hZ (hw _ (List.mem_of_getElem? (i := 34) rfl)) (hw _ (List.mem_of_getElem? (i := 2) rfl)) (by decide) (by decide)) q74a q74c (g := (mkF m 125 #[.val (.int p0), .val (.int ((p0 &&& (2147483647 : Int32)) % (7 : Int32))), .val (.int (9101 : Int32)), .val (.ref w_NO_PERMISSION), .val (.ref w_NO_PERMISSION)] [(.ref w_NO_PERMISSION)])) rfl (by rw [hml]; rfl) (Steps.refl _) (argsL := []) (rest := []) (lenOf pd_2 rfl) rfl (by show 2 * 0 + _ ≤ _; exact Nat.le_of_eq rfl) (hb hby at_125) (fun _ _ => ⟨rfl, rfl, (by decide : 1 + 0 ≤ _), (by decide : 7 + 0 ≤ _)⟩)
              dsimp only [Pt.U, Pt.locs, Pt.cells, Pt.slots] at X74 l74 y74 z74 st74 hQ74
              subst l74 y74 z74
              obtain ⟨rfl, N74q, e74⟩ := hQ74
              have N74 := Fr.app N71 N74q
              have k75 : ∀ t, Steps p.tables e below (T74.setTop (mkF m 128 #[.val (.int p0), .val (.int ((p0 &&& (2147483647 : Int32)) % (7 : Int32))), .val (.int (9101 : Int32)), .val (.ref w_NO_PERMISSION), .val (.ref w_NO_PERMISSION)] [(.int (9101 : Int32))])) t → Steps p.tables e below (s₁.setTop (entryFrame m #[(.int p0)] maxLocals)) t := fun t k => k73 t (st74.trans k)
              have hc129 : (9101 : Int32) = (9101 : Int32) := by decide
              have k76 : ∀ t, Steps p.tables e below (T74.setTop (mkF m 137 #[.val (.int p0), .val (.int ((p0 &&& (2147483647 : Int32)) % (7 : Int32))), .val (.int (9101 : Int32)), .val (.ref w_NO_PERMISSION), .val (.ref w_NO_PERMISSION)] [(.int (1 : Int32))])) t → Steps p.tables e below (s₁.setTop (entryFrame m #[(.int p0)] maxLocals)) t := fun t k => k75 t (by
                  show Steps p.tables e below (T74.setTop (mkF m 128 #[.val (.int p0), .val (.int ((p0 &&& (2147483647 : Int32)) % (7 : Int32))), .val (.int (9101 : Int32)), .val (.ref w_NO_PERMISSION), .val (.ref w_NO_PERMISSION)] [(.int (9101 : Int32))])) _
                  refine XS.iloadN X74.here hx rfl (hb hby at_128) rfl ?_
                  show Steps p.tables e below (T74.setTop (mkF m 129 #[.val (.int p0), .val (.int ((p0 &&& (2147483647 : Int32)) % (7 : Int32))), .val (.int (9101 : Int32)), .val (.ref w_NO_PERMISSION), .val (.ref w_NO_PERMISSION)] [(.int (9101 : Int32)), (.int (9101 : Int32))])) _
                  refine XS.icmpNo X74.here hx rfl (hb hby at_129) rfl (teq hc129).2 ?_
                  show Steps p.tables e below (T74.setTop (mkF m 132 #[.val (.int p0), .val (.int ((p0 &&& (2147483647 : Int32)) % (7 : Int32))), .val (.int (9101 : Int32)), .val (.ref w_NO_PERMISSION), .val (.ref w_NO_PERMISSION)] [])) _
                  refine XS.iconst X74.here hx rfl (hb hby at_132) ?_
                  show Steps p.tables e below (T74.setTop (mkF m 133 #[.val (.int p0), .val (.int ((p0 &&& (2147483647 : Int32)) % (7 : Int32))), .val (.int (9101 : Int32)), .val (.ref w_NO_PERMISSION), .val (.ref w_NO_PERMISSION)] [(.int (1 : Int32))])) _
                  refine XS.goto X74.here hx rfl (pc0 := 133) (pc' := 137) rfl (hb hby at_133) (by decide) (by decide) ?_
                  exact k)
              obtain ⟨fs, hr, hrun, hended, hW, hsame⟩ := X74.leave (v := (some (.int (1 : Int32)))) (fun h => by rw [Bd.returns] at h; cases h)
              refine ⟨_, _, k76 _ ?_, hrun, hended, _, _, rfl, ?_, ⟨_, rfl⟩, hW, hsame.mono (by decide) (by decide)⟩
              · exact retN X74 hx (t := .boolean) Bd.returns (by simp) (hb hby at_137) hr
              · show Q0 Z p0 wv cl w_SUCCESS w_PROCESSING w_RATE_LIMITED w_INVALID_PARAMETERS w_SERVICE_FAILURE w_DOWNLOAD_FAILED w_NO_PERMISSION h0 n0 _ T74.heap _
                rw [e74]
                exact ⟨rfl, N74⟩
set_option maxRecDepth 65536 in
set_option maxHeartbeats 40000000 in
theorem comes_1 {Post : Tables → Env → Array Value → State → Outcome → State → Prop} (hpost : ∀ tb e args s v u, (limb_1_1.after args s (.returned v) u = true ∧ limb_1_2.after args s (.returned v) u = true ∧ True) → FrameEnd s (.returned v) u (Jvm.fieldLocs frame_1_writes args s ++ Jvm.arrayLocs frame_1_arrays args s ++ Jvm.staticLocs frame_1_statics s) 16 128 → Post tb e args s (.returned v) u) :
    ArmFor flags0 classFile x code maxLocals ret World_1 tables_1 room_1 Calls_1 rest_1 Pre_1 Post := by
  intro l hfl _ _ p e ha hc hk s m args below hf hA hF happ hP
  obtain ⟨hcalls, hrest, hpre⟩ := hP
  obtain ⟨-, -, -, hnamed, -, -, -, hat⟩ := (Spec.applies_iff hf).mp happ
  obtain ⟨hg, hn⟩ := and_e (Cond.before_iff.mp (show (Jvm.Cond.and given_1 narrow_1).before args s = true from hpre))
  obtain ⟨hcount, hgs⟩ := and_e hg
  obtain ⟨w0, rfl⟩ : ∃ w0 : Value, args = #[w0] := by
    have hs : args.size = 1 := by simpa [Cond.value, given_1] using hcount
    obtain ⟨L⟩ := args
    match L, hs with
    | [w0], _ => exact ⟨w0, rfl⟩
  have hw := fun d (hd : d ∈ tables_1) => atoms_spec (ws := Jvm.Cond.code x code maxLocals ret :: tables_1) hat d (List.mem_cons_of_mem _ hd)
  obtain ⟨i0, ei0⟩ := is_v hgs
  obtain rfl : w0 = (.int i0) := Option.some.inj ei0
  obtain ⟨hn1, hn2⟩ := and_e hn
  obtain ⟨hn3, hn4⟩ := and_e hn2
  obtain ⟨hn5, hn6⟩ := and_e hn4
  obtain ⟨hn7, hn8⟩ := and_e hn6
  obtain ⟨hn9, hn10⟩ := and_e hn8
  obtain ⟨hn11, hn12⟩ := and_e hn10
  obtain ⟨hn13, hn14⟩ := and_e hn12
  obtain ⟨hn15, hn16⟩ := and_e hn14
  obtain ⟨hn17, hn18⟩ := and_e hn16
  obtain ⟨hn19, hn20⟩ := and_e hn18
  obtain ⟨hn21, hn22⟩ := and_e hn20
  obtain ⟨hn23, hn24⟩ := and_e hn22
  obtain ⟨hn25, hn26⟩ := and_e hn24
  obtain ⟨hn27, hn28⟩ := and_e hn26
  obtain ⟨hn29, hn30⟩ := and_e hn28
  obtain ⟨hn31, hn32⟩ := and_e hn30
  obtain ⟨hn33, hn34⟩ := and_e hn32
  obtain ⟨hn35, hn36⟩ := and_e hn34
  obtain ⟨hn37, hn38⟩ := and_e hn36
  obtain ⟨hn39, hn40⟩ := and_e hn38
  obtain ⟨hn41, hn42⟩ := and_e hn40
  obtain ⟨hn43, hn44⟩ := and_e hn42
  obtain ⟨hn45, hn46⟩ := and_e hn44
  obtain ⟨w_SUCCESS, es_SUCCESS⟩ := exa_v hn1
  have S_SUCCESS := Sta.start es_SUCCESS (Or.inr ⟨(hw _ (List.mem_of_getElem? (i := 2) rfl)), (hw _ (List.mem_of_getElem? (i := 3) rfl))⟩)
  have E_w_SUCCESS := Exa.start es_SUCCESS hn1
  obtain ⟨w_PROCESSING, es_PROCESSING⟩ := exa_v hn11
  have S_PROCESSING := Sta.start es_PROCESSING (Or.inr ⟨(hw _ (List.mem_of_getElem? (i := 2) rfl)), (hw _ (List.mem_of_getElem? (i := 19) rfl))⟩)
  have E_w_PROCESSING := Exa.start es_PROCESSING hn11
  obtain ⟨w_RATE_LIMITED, es_RATE_LIMITED⟩ := exa_v hn15
  have S_RATE_LIMITED := Sta.start es_RATE_LIMITED (Or.inr ⟨(hw _ (List.mem_of_getElem? (i := 2) rfl)), (hw _ (List.mem_of_getElem? (i := 20) rfl))⟩)
  have E_w_RATE_LIMITED := Exa.start es_RATE_LIMITED hn15
  obtain ⟨w_INVALID_PARAMETERS, es_INVALID_PARAMETERS⟩ := exa_v hn19
  have S_INVALID_PARAMETERS := Sta.start es_INVALID_PARAMETERS (Or.inr ⟨(hw _ (List.mem_of_getElem? (i := 2) rfl)), (hw _ (List.mem_of_getElem? (i := 21) rfl))⟩)
  have E_w_INVALID_PARAMETERS := Exa.start es_INVALID_PARAMETERS hn19
  obtain ⟨w_SERVICE_FAILURE, es_SERVICE_FAILURE⟩ := exa_v hn23
  have S_SERVICE_FAILURE := Sta.start es_SERVICE_FAILURE (Or.inr ⟨(hw _ (List.mem_of_getElem? (i := 2) rfl)), (hw _ (List.mem_of_getElem? (i := 22) rfl))⟩)
  have E_w_SERVICE_FAILURE := Exa.start es_SERVICE_FAILURE hn23
  obtain ⟨w_DOWNLOAD_FAILED, es_DOWNLOAD_FAILED⟩ := exa_v hn27
  have S_DOWNLOAD_FAILED := Sta.start es_DOWNLOAD_FAILED (Or.inr ⟨(hw _ (List.mem_of_getElem? (i := 2) rfl)), (hw _ (List.mem_of_getElem? (i := 23) rfl))⟩)
  have E_w_DOWNLOAD_FAILED := Exa.start es_DOWNLOAD_FAILED hn27
  obtain ⟨w_NO_PERMISSION, es_NO_PERMISSION⟩ := exa_v hn31
  have S_NO_PERMISSION := Sta.start es_NO_PERMISSION (Or.inr ⟨(hw _ (List.mem_of_getElem? (i := 2) rfl)), (hw _ (List.mem_of_getElem? (i := 24) rfl))⟩)
  have E_w_NO_PERMISSION := Exa.start es_NO_PERMISSION hn31
  obtain ⟨wv, es_V⟩ := arr_v hn3
  have S_V := Sta.start es_V (Or.inl (hw _ (List.mem_of_getElem? (i := 25) rfl)))
  have E_V := Exa.start es_V hn5
  obtain ⟨cl, Ar⟩ := Arr.start es_V hn3
  have hlen : (Jvm.Term.length (Jvm.Term.static "com/example/mediawarden/mediawarden/task/Code" "$VALUES" "[Lcom/example/mediawarden/mediawarden/task/Code;")).eval #[(.int i0)] s none [] s = some (.int (7 : Int32)) := by
    obtain ⟨x, y, hx, hy, k1, k2⟩ := cmp_v (Or.inl hn7)
    have hy' : y = .int (7 : Int32) := Option.some.inj (hy.symm.trans (Term.int_eval 7))
    subst hy'
    obtain ⟨z, rfl⟩ := k2
    have q : z = (7 : Int32) := gotT (Cond.eq_ints hx (Term.int_eval 7)) hn7
    rw [hx, q]
  have hat := fun (i : Int32) (b : Addr) (h : (Jvm.Term.elem (Jvm.Term.static "com/example/mediawarden/mediawarden/task/Code" "$VALUES" "[Lcom/example/mediawarden/mediawarden/task/Code;") (.int i)).eval #[(.int i0)] s none [] s = some (.ref b)) => (elem_in h es_V (Term.int_eval i) Ar.1).2
  have hat0 : cl.slots[0]? = some (.ref w_SUCCESS) := hat (0 : Int32) _ (own_fr2 es_SUCCESS hn9)
  have hat1 : cl.slots[1]? = some (.ref w_PROCESSING) := hat (1 : Int32) _ (own_fr2 es_PROCESSING hn13)
  have hat2 : cl.slots[2]? = some (.ref w_RATE_LIMITED) := hat (2 : Int32) _ (own_fr2 es_RATE_LIMITED hn17)
  have hat3 : cl.slots[3]? = some (.ref w_INVALID_PARAMETERS) := hat (3 : Int32) _ (own_fr2 es_INVALID_PARAMETERS hn21)
  have hat4 : cl.slots[4]? = some (.ref w_SERVICE_FAILURE) := hat (4 : Int32) _ (own_fr2 es_SERVICE_FAILURE hn25)
  have hat5 : cl.slots[5]? = some (.ref w_DOWNLOAD_FAILED) := hat (5 : Int32) _ (own_fr2 es_DOWNLOAD_FAILED hn29)
  have hat6 : cl.slots[6]? = some (.ref w_NO_PERMISSION) := hat (6 : Int32) _ (own_fr2 es_NO_PERMISSION hn33)
  have hsz : cl.slots.size = 7 := by
    have hA : s.arrayAt? wv = some cl := Ar.fin (Vm.Alike.refl _)
    have h6 : 6 < cl.slots.size := (Array.getElem?_eq_some_iff.mp hat6).1
    have q := own_len es_V hA hlen
    have e := (len_f es_V hA q).symm.trans hlen
    have e' := congrArg Int32.toInt (Value.int.inj (Option.some.inj e))
    rw [len_toInt q] at e'
    have : (7 : Int32).toInt = 7 := rfl
    omega
  have F_number_w_SUCCESS := Fld.start (own_fi es_SUCCESS hn35)
  have F_number_w_PROCESSING := Fld.start (own_fi es_PROCESSING hn37)
  have F_number_w_RATE_LIMITED := Fld.start (own_fi es_RATE_LIMITED hn39)
  have F_number_w_INVALID_PARAMETERS := Fld.start (own_fi es_INVALID_PARAMETERS hn41)
  have F_number_w_SERVICE_FAILURE := Fld.start (own_fi es_SERVICE_FAILURE hn43)
  have F_number_w_DOWNLOAD_FAILED := Fld.start (own_fi es_DOWNLOAD_FAILED hn45)
  have F_number_w_NO_PERMISSION := Fld.start (own_fi es_NO_PERMISSION hn46)
  obtain ⟨n, o, h1, h2, h3, _, L, rfl, ⟨rfl, N⟩, hq⟩ := rm0 l s _ hw tables_1 i0 wv cl w_SUCCESS w_PROCESSING w_RATE_LIMITED w_INVALID_PARAMETERS w_SERVICE_FAILURE w_DOWNLOAD_FAILED w_NO_PERMISSION s.heap s.heap.size (Nat.le_refl _) S_SUCCESS S_PROCESSING S_RATE_LIMITED S_INVALID_PARAMETERS S_SERVICE_FAILURE S_DOWNLOAD_FAILED S_NO_PERMISSION E_w_SUCCESS E_w_PROCESSING E_w_RATE_LIMITED E_w_INVALID_PARAMETERS E_w_SERVICE_FAILURE E_w_DOWNLOAD_FAILED E_w_NO_PERMISSION S_V Ar E_V hsz hat0 hat1 hat2 hat3 hat4 hat5 hat6 F_number_w_SUCCESS F_number_w_PROCESSING F_number_w_RATE_LIMITED F_number_w_INVALID_PARAMETERS F_number_w_SERVICE_FAILURE F_number_w_DOWNLOAD_FAILED F_number_w_NO_PERMISSION p e ha hc hk s m _ below hf ((Spec.applies_iff_loose hf).mp happ).1 ⟨rfl, State.Warmed39.refl s, rfl⟩ trivial
  refine ⟨n, _, h1, h2, h3, hpost _ _ _ _ _ _ ⟨Cond.after_iff.mpr rfl, Cond.after_iff.mpr (eq_i res_at (Term.int_eval (1)) rfl), trivial⟩ ⟨hq.1, hq.2.1, (hq.2.2.sift fun y hy => Or.inr (N y hy)).mono (by decide) (by decide)⟩⟩
theorem main_1_1 : Claimed_1_1 := comes_1 fun _ _ _ _ _ _ h hF => ⟨h.1, hF⟩
theorem main_1_2 : Claimed_1_2 := comes_1 fun _ _ _ _ _ _ h hF => ⟨h.2.1, hF⟩
end Jvm.Pilot.@@N@@
namespace Jvm.Pilot.@@N@@
open Jvm Jvm.ClassFile Sem Op Lib Jvm.Free Jvm.Stand Jvm.Pilot.@@N@@.Jvm.D
/-! MADE BY PROGRAM (witnessworld.py) out of the Statement's table words and the real class files: 13 classes; the members and pool entries that the words name. The judged class is class 1, her method 1. -/
namespace start1
open Jvm.ClassFile
def u (s : String) : CpInfo := .utf8 (stringToUtf16 s)
/-- a pool by its gaps: so many unusable entries, then the entry; so many at the end -/
def gap : Nat → List CpInfo → List CpInfo
  | 0, r => r
  | n + 1, r => .unusable :: gap n r
def poolList (es : List (Nat × CpInfo)) (last : Nat) : List CpInfo := es.foldr (fun e r => gap e.1 (e.2 :: r)) (gap last [])
def pool (es : List (Nat × CpInfo)) (last : Nat) : Array CpInfo := ⟨poolList es last⟩
def fileOf (pool : Array CpInfo) (this : Nat) (attrs : Array Attribute := #[]) (ms : Array MethodInfo := #[]) (fl : Nat := 33) (sup : Nat := 0) (ifs : Array Nat := #[]) (fds : Array FieldInfo := #[]) : ClassFile where
  minorVersion := 0
  majorVersion := 65
  constantPool := pool
  accessFlags := fl
  thisClass := this
  superClass := sup
  interfaces := ifs
  fields := fds
  methods := ms
  attributes := attrs
def plain (name : String) (sup : Option ClassId) : Class where
  name := name
  kind := .ordinary
  loader := none
  accessFlags := 33
  super := sup
  interfaces := #[]
  cf := none
  fields := #[]
  methods := #[]
  instanceTypes := #[]
  staticTypes := #[]
  resolved := #[]
  callSites := []
  init := .initialized
  statics := none
  mirror := none

def pool0 : Array CpInfo := pool [(5, u "<init>"), (0, u "()V"), (1, .class_ 10), (1, u "java/lang/Object"), (85, u "clone"), (0, u "()Ljava/lang/Object;")] 26

def k0m0 : Method := { name := "<init>", desc := "()V", sig := { parameters := [], returnType := none }, accessFlags := 1, code := none }
def k0m1 : Method := { name := "clone", desc := "()Ljava/lang/Object;", sig := { parameters := [], returnType := some (.object "java/lang/Object") }, accessFlags := 260, code := none }
/-- java/lang/Object -/
def k0 : Class := { plain "java/lang/Object" none with
  accessFlags := 33
  interfaces := #[]
  cf := some (fileOf pool0 8 #[] #[{ accessFlags := 1, nameIndex := 5, descriptorIndex := 6, attributes := #[] }, { accessFlags := 260, nameIndex := 96, descriptorIndex := 97, attributes := #[] }] 33 0 #[] #[])
  fields := #[]
  methods := #[k0m0, k0m1]
  instanceTypes := #[]
  staticTypes := #[]
  resolved := Array.replicate 124 none
  statics := none }

def pool1 : Array CpInfo := pool [(2, .class_ 4), (1, u "java/lang/Object"), (0, u "<init>"), (0, u "()V"), (0, .integer 2147483647), (0, .fieldref 9 10), (0, .class_ 11), (0, .nameAndType 12 13), (0, u "com/example/mediawarden/mediawarden/task/Code"), (0, u "SUCCESS"), (0, u "Lcom/example/mediawarden/mediawarden/task/Code;"), (0, .fieldref 9 15), (0, .nameAndType 16 13), (0, u "PROCESSING"), (0, .fieldref 9 18), (0, .nameAndType 19 13), (0, u "RATE_LIMITED"), (0, .fieldref 9 21), (0, .nameAndType 22 13), (0, u "INVALID_PARAMETERS"), (0, .fieldref 9 24), (0, .nameAndType 25 13), (0, u "SERVICE_FAILURE"), (0, .fieldref 9 27), (0, .nameAndType 28 13), (0, u "DOWNLOAD_FAILED"), (0, .fieldref 9 30), (0, .nameAndType 31 13), (0, u "NO_PERMISSION"), (0, .methodref 9 33), (0, .nameAndType 34 35), (0, u "of"), (0, u "(I)Lcom/example/mediawarden/mediawarden/task/Code;"), (0, .methodref 9 37), (0, .nameAndType 38 39), (0, u "number"), (0, u "()I"), (0, .class_ 41), (0, u "com/example/mediawarden/mediawarden/task/CodeOfPinLaw"), (2, u "law"), (0, u "(I)Z")] 3

def k1m0 : Method := { name := "<init>", desc := "()V", sig := { parameters := [], returnType := none }, accessFlags := 1, code := none }
def k1c1 : Code := { maxStack := 2, maxLocals := 5, code := code, exceptionTable := #[], attributes := #[] }
def k1m1 : Method := { name := "law", desc := "(I)Z", sig := { parameters := [.int], returnType := some .boolean }, accessFlags := 9, code := some k1c1 }
/-- com/example/mediawarden/mediawarden/task/CodeOfPinLaw -/
def k1 : Class := { plain "com/example/mediawarden/mediawarden/task/CodeOfPinLaw" (some 0) with
  accessFlags := 49
  interfaces := #[]
  cf := some (fileOf pool1 40 #[] #[{ accessFlags := 1, nameIndex := 5, descriptorIndex := 6, attributes := #[] }, { accessFlags := 9, nameIndex := 44, descriptorIndex := 45, attributes := #[] }] 49 2 #[] #[])
  fields := #[]
  methods := #[k1m0, k1m1]
  instanceTypes := #[]
  staticTypes := #[]
  resolved := Array.replicate 49 none
  statics := none }

def pool2 : Array CpInfo := pool [(1, .class_ 2), (0, u "java/lang/constant/Constable"), (0, .class_ 4), (0, u "java/lang/Object")] 6

/-- java/lang/constant/Constable -/
def k2 : Class := { plain "java/lang/constant/Constable" (some 0) with
  accessFlags := 1537
  interfaces := #[]
  cf := some (fileOf pool2 1 #[] #[] 1537 3 #[] #[])
  fields := #[]
  methods := #[]
  instanceTypes := #[]
  staticTypes := #[]
  resolved := Array.replicate 11 none
  statics := none }

def pool3 : Array CpInfo := pool [(1, .class_ 2), (0, u "java/lang/Comparable"), (0, .class_ 4), (0, u "java/lang/Object")] 7

/-- java/lang/Comparable -/
def k3 : Class := { plain "java/lang/Comparable" (some 0) with
  accessFlags := 1537
  interfaces := #[]
  cf := some (fileOf pool3 1 #[] #[] 1537 3 #[] #[])
  fields := #[]
  methods := #[]
  instanceTypes := #[]
  staticTypes := #[]
  resolved := Array.replicate 12 none
  statics := none }

def pool4 : Array CpInfo := pool [(1, .class_ 2), (0, u "java/io/Serializable"), (0, .class_ 4), (0, u "java/lang/Object")] 2

/-- java/io/Serializable -/
def k4 : Class := { plain "java/io/Serializable" (some 0) with
  accessFlags := 1537
  interfaces := #[]
  cf := some (fileOf pool4 1 #[] #[] 1537 3 #[] #[])
  fields := #[]
  methods := #[]
  instanceTypes := #[]
  staticTypes := #[]
  resolved := Array.replicate 7 none
  statics := none }

def pool5 : Array CpInfo := pool [(2, .class_ 4), (1, u "java/lang/Enum"), (0, u "name"), (0, u "Ljava/lang/String;"), (2, u "ordinal"), (0, u "I"), (1, .class_ 14), (1, u "java/lang/Object"), (4, u "hash"), (86, .class_ 108), (1, u "java/lang/Enum$EnumDesc"), (2, .class_ 112), (0, u "java/lang/constant/Constable"), (0, .class_ 114), (0, u "java/lang/Comparable"), (0, .class_ 116), (0, u "java/io/Serializable")] 87

/-- java/lang/Enum -/
def k5 : Class := { plain "java/lang/Enum" (some 0) with
  accessFlags := 1057
  interfaces := #[2, 3, 4]
  cf := some (fileOf pool5 2 #[.nestMembers #[106]] #[] 1057 12 #[111, 113, 115] #[{ accessFlags := 18, nameIndex := 5, descriptorIndex := 6, attributes := #[] }, { accessFlags := 18, nameIndex := 9, descriptorIndex := 10, attributes := #[] }, { accessFlags := 2, nameIndex := 19, descriptorIndex := 10, attributes := #[] }])
  fields := #[{ name := "name", type := (.object "java/lang/String"), accessFlags := 18, slot := 0, constantValue := 0 }, { name := "ordinal", type := .int, accessFlags := 18, slot := 1, constantValue := 0 }, { name := "hash", type := .int, accessFlags := 2, slot := 2, constantValue := 0 }]
  methods := #[]
  instanceTypes := #[(.object "java/lang/String"), .int, .int]
  staticTypes := #[]
  resolved := Array.replicate 204 none
  statics := none }

def pool6 : Array CpInfo := pool [(1, .class_ 2), (0, u "com/example/mediawarden/mediawarden/task/Code"), (2, u "SUCCESS"), (0, u "Lcom/example/mediawarden/mediawarden/task/Code;"), (2, u "PROCESSING"), (2, u "RATE_LIMITED"), (2, u "INVALID_PARAMETERS"), (2, u "SERVICE_FAILURE"), (2, u "DOWNLOAD_FAILED"), (2, u "NO_PERMISSION"), (0, .fieldref 1 26), (0, .nameAndType 27 28), (0, u "$VALUES"), (0, u "[Lcom/example/mediawarden/mediawarden/task/Code;"), (0, .methodref 30 31), (0, .class_ 28), (0, .nameAndType 32 33), (0, u "clone"), (0, u "()Ljava/lang/Object;"), (1, .class_ 37), (1, u "java/lang/Enum"), (6, .fieldref 1 45), (0, .nameAndType 46 47), (0, u "number"), (0, u "I"), (2, u "message"), (0, u "Ljava/lang/String;"), (0, .methodref 1 53), (0, .nameAndType 54 55), (0, u "values"), (0, u "()[Lcom/example/mediawarden/mediawarden/task/Code;"), (42, u "of"), (0, u "(I)Lcom/example/mediawarden/mediawarden/task/Code;"), (1, u "()I")] 21

def k6c0 : Code := { maxStack := 1, maxLocals := 0, code := prog_61_method_1_code, exceptionTable := #[], attributes := #[] }
def k6m0 : Method := { name := "values", desc := "()[Lcom/example/mediawarden/mediawarden/task/Code;", sig := { parameters := [], returnType := some (.array (.object "com/example/mediawarden/mediawarden/task/Code")) }, accessFlags := 9, code := some k6c0 }
def k6c1 : Code := { maxStack := 3, maxLocals := 5, code := prog_61_method_4_code, exceptionTable := #[], attributes := #[] }
def k6m1 : Method := { name := "of", desc := "(I)Lcom/example/mediawarden/mediawarden/task/Code;", sig := { parameters := [.int], returnType := some (.object "com/example/mediawarden/mediawarden/task/Code") }, accessFlags := 9, code := some k6c1 }
def k6c2 : Code := { maxStack := 1, maxLocals := 1, code := prog_61_method_5_code, exceptionTable := #[], attributes := #[] }
def k6m2 : Method := { name := "number", desc := "()I", sig := { parameters := [], returnType := some .int }, accessFlags := 1, code := some k6c2 }
/-- com/example/mediawarden/mediawarden/task/Code -/
def k6 : Class := { plain "com/example/mediawarden/mediawarden/task/Code" (some 5) with
  accessFlags := 16433
  interfaces := #[]
  cf := some (fileOf pool6 1 #[] #[{ accessFlags := 9, nameIndex := 54, descriptorIndex := 55, attributes := #[] }, { accessFlags := 9, nameIndex := 98, descriptorIndex := 99, attributes := #[] }, { accessFlags := 1, nameIndex := 46, descriptorIndex := 101, attributes := #[] }] 16433 35 #[] #[{ accessFlags := 16409, nameIndex := 5, descriptorIndex := 6, attributes := #[] }, { accessFlags := 16409, nameIndex := 9, descriptorIndex := 6, attributes := #[] }, { accessFlags := 16409, nameIndex := 12, descriptorIndex := 6, attributes := #[] }, { accessFlags := 16409, nameIndex := 15, descriptorIndex := 6, attributes := #[] }, { accessFlags := 16409, nameIndex := 18, descriptorIndex := 6, attributes := #[] }, { accessFlags := 16409, nameIndex := 21, descriptorIndex := 6, attributes := #[] }, { accessFlags := 16409, nameIndex := 24, descriptorIndex := 6, attributes := #[] }, { accessFlags := 18, nameIndex := 46, descriptorIndex := 47, attributes := #[] }, { accessFlags := 18, nameIndex := 50, descriptorIndex := 51, attributes := #[] }, { accessFlags := 4122, nameIndex := 27, descriptorIndex := 28, attributes := #[] }])
  fields := #[{ name := "SUCCESS", type := (.object "com/example/mediawarden/mediawarden/task/Code"), accessFlags := 16409, slot := 0, constantValue := 0 }, { name := "PROCESSING", type := (.object "com/example/mediawarden/mediawarden/task/Code"), accessFlags := 16409, slot := 1, constantValue := 0 }, { name := "RATE_LIMITED", type := (.object "com/example/mediawarden/mediawarden/task/Code"), accessFlags := 16409, slot := 2, constantValue := 0 }, { name := "INVALID_PARAMETERS", type := (.object "com/example/mediawarden/mediawarden/task/Code"), accessFlags := 16409, slot := 3, constantValue := 0 }, { name := "SERVICE_FAILURE", type := (.object "com/example/mediawarden/mediawarden/task/Code"), accessFlags := 16409, slot := 4, constantValue := 0 }, { name := "DOWNLOAD_FAILED", type := (.object "com/example/mediawarden/mediawarden/task/Code"), accessFlags := 16409, slot := 5, constantValue := 0 }, { name := "NO_PERMISSION", type := (.object "com/example/mediawarden/mediawarden/task/Code"), accessFlags := 16409, slot := 6, constantValue := 0 }, { name := "number", type := .int, accessFlags := 18, slot := 3, constantValue := 0 }, { name := "message", type := (.object "java/lang/String"), accessFlags := 18, slot := 4, constantValue := 0 }, { name := "$VALUES", type := (.array (.object "com/example/mediawarden/mediawarden/task/Code")), accessFlags := 4122, slot := 7, constantValue := 0 }]
  methods := #[k6m0, k6m1, k6m2]
  instanceTypes := #[(.object "java/lang/String"), .int, .int, .int, (.object "java/lang/String")]
  staticTypes := #[(.object "com/example/mediawarden/mediawarden/task/Code"), (.object "com/example/mediawarden/mediawarden/task/Code"), (.object "com/example/mediawarden/mediawarden/task/Code"), (.object "com/example/mediawarden/mediawarden/task/Code"), (.object "com/example/mediawarden/mediawarden/task/Code"), (.object "com/example/mediawarden/mediawarden/task/Code"), (.object "com/example/mediawarden/mediawarden/task/Code"), (.array (.object "com/example/mediawarden/mediawarden/task/Code"))]
  resolved := Array.replicate 123 none
  statics := some 0 }

def pool7 : Array CpInfo := pool [(1, .class_ 2), (0, u "java/lang/Cloneable"), (0, .class_ 4), (0, u "java/lang/Object")] 2

/-- java/lang/Cloneable -/
def k7 : Class := { plain "java/lang/Cloneable" (some 0) with
  accessFlags := 1537
  interfaces := #[]
  cf := some (fileOf pool7 1 #[] #[] 1537 3 #[] #[])
  fields := #[]
  methods := #[]
  instanceTypes := #[]
  staticTypes := #[]
  resolved := Array.replicate 7 none
  statics := none }

/-- the primitive byte -/
def k8 : Class := { plain "byte" none with kind := .primitive 'B', accessFlags := 0x411 }
/-- [B -/
def k9 : Class := { plain "[B" (some 0) with kind := .array 8 .byte, interfaces := #[7, 4], accessFlags := 1041 }

/-- the primitive int -/
def k10 : Class := { plain "int" none with kind := .primitive 'I', accessFlags := 0x411 }
/-- [I -/
def k11 : Class := { plain "[I" (some 0) with kind := .array 10 .int, interfaces := #[7, 4], accessFlags := 1041 }

/-- [Lcom/example/mediawarden/mediawarden/task/Code; -/
def k12 : Class := { plain "[Lcom/example/mediawarden/mediawarden/task/Code;" (some 0) with kind := .array 6 (.object "com/example/mediawarden/mediawarden/task/Code"), interfaces := #[7, 4], accessFlags := 1041 }

def heap : Heap := #[{ cls := 6, slots := #[.ref 2, .ref 3, .ref 4, .ref 5, .ref 6, .ref 7, .ref 8, .ref 1], vm := .statics 6 },
  { cls := 12, slots := #[.ref 2, .ref 3, .ref 4, .ref 5, .ref 6, .ref 7, .ref 8], vm := .none },
  { cls := 6, slots := #[.null, .int 0, .int 0, .int 1100, .null], vm := .none },
  { cls := 6, slots := #[.null, .int 1, .int 0, .int 1101, .null], vm := .none },
  { cls := 6, slots := #[.null, .int 2, .int 0, .int 1901, .null], vm := .none },
  { cls := 6, slots := #[.null, .int 3, .int 0, .int 1902, .null], vm := .none },
  { cls := 6, slots := #[.null, .int 4, .int 0, .int 1903, .null], vm := .none },
  { cls := 6, slots := #[.null, .int 5, .int 0, .int 1911, .null], vm := .none },
  { cls := 6, slots := #[.null, .int 6, .int 0, .int 9101, .null], vm := .none }]
def classes : Array Class := #[k0, k1, k2, k3, k4, k5, k6, k7, k8, k9, k10, k11, k12]
def interned : List (Array UInt16 × Addr) := []
def slotsUsed : Nat := 50
def theMethod : MethodId := ⟨1, 1⟩
def args0 : Array Value := #[.int 5]
def aboutOver (below : List Frame) : State where
  vm := { classes := classes, interned := interned.toArray }
  heap := heap
  slotsUsed := slotsUsed
  threads := #[{ frames := .invoking theMethod args0 :: below }]
def below0 : List Frame := [.native { method := ⟨0, 0⟩, args := #[] }]
def about1 : State := aboutOver below0
def p0 : Program := .bare "" "" ""
def e0 : Env := launch0.env 0 0 0
theorem w_frames : about1.frames = Frame.invoking theMethod args0 :: below0 := rfl
set_option maxRecDepth 65536 in
theorem w_args : argsFit about1.vm theMethod args0 = true := by decide +kernel
set_option maxRecDepth 65536 in
theorem w_heap : heapFits about1 = true := by decide +kernel
set_option maxRecDepth 65536 in
theorem w_runnable : about1.curStatus? = some .runnable := by decide +kernel
set_option maxRecDepth 65536 in
theorem w_alone : about1.alone = true := by decide +kernel
set_option maxRecDepth 65536 in
theorem w_named : about1.methodNamed? x = some theMethod := by decide +kernel
set_option maxRecDepth 65536 in
theorem w_hears : about1.hears theMethod below0 = true := by decide +kernel
set_option maxRecDepth 65536 in
theorem w_ripe : about1.ripe theMethod args0 below0 = true := by decide +kernel
theorem w_running : about1.status = .running := rfl
set_option maxRecDepth 65536 in
theorem w_room : about1.hasRoom e0.platform room_1 = true :=
  launch0.hasRoom_least _ room_1 (by decide +kernel) (by decide +kernel) (by decide +kernel) (by decide +kernel) (by decide +kernel) (by decide +kernel)
theorem allAtoms_all (ts : List Jvm.Cond) (a : Array Jvm.Value) (st : Jvm.State) : (allAtoms ts).before a st = ts.all (fun c => c.before a st) := by
  induction ts with
  | nil => rfl
  | cons c t ih =>
    show (Jvm.Cond.and c (allAtoms t)).before a st = _
    rw [Jvm.Cond.before_and, ih, List.all_cons]
def words1 : List Jvm.Cond := Jvm.Cond.code x code maxLocals ret :: tables_1
/-- a 'code' word, met by the world's own term for the bytes: nothing is compared byte by byte -/
theorem code_word {y : MethodName} {bytes : ByteArray} {mx : Nat} {rt : Option FieldType} {a : Array Value} {s : State} {m : MethodId} {meth : Method} {c : Code} (h1 : s.methodNamed? y = some m) (h2 : s.vm.method? m = some meth) (h3 : meth.code = some c) (h4 : c.code = bytes)
    (h5 : (c.maxLocals == mx && c.exceptionTable.isEmpty && decide (c.maxStack ≤ mostOperands) && decide (meth.sig.returnType = rt) && !meth.locks && decide (parseMethodDescriptor y.desc = some meth.sig)) = true) : (Jvm.Cond.code y bytes mx rt).before a s = true := by
  simp only [Bool.and_eq_true, beq_iff_eq, Bool.not_eq_true', decide_eq_true_eq] at h5
  obtain ⟨⟨⟨⟨⟨g1, g2⟩, g3⟩, g4⟩, g5⟩, g6⟩ := h5
  simp [Cond.before, Cond.holds, Cond.value, h1, h2, h3, h4, g1, g2, g3, g4, g5, g6]
def isCode : Jvm.Cond → Bool
  | .code _ _ _ _ => true
  | _ => false
theorem all_split {L : List Jvm.Cond} {P : Jvm.Cond → Bool} (h1 : L.all (fun c => isCode c || P c) = true) (h2 : ∀ c ∈ L.filter isCode, P c = true) : L.all P = true := by
  refine List.all_eq_true.mpr fun c hc => ?_
  have h := List.all_eq_true.mp h1 c hc
  rcases Bool.eq_false_or_eq_true (isCode c) with hi | hi
  · exact h2 c (List.mem_filter.mpr ⟨hc, hi⟩)
  · simpa [hi] using h
set_option maxRecDepth 65536 in
theorem w_c0 : (Jvm.Cond.code x code maxLocals ret).before args0 about1 = true := code_word (m := ⟨1, 1⟩) (meth := k1m1) (c := k1c1) (by decide +kernel) rfl rfl rfl (by decide +kernel)
set_option maxRecDepth 65536 in
theorem w_c1 : (Jvm.Cond.code ({ cls := "com/example/mediawarden/mediawarden/task/Code", name := "of", desc := "(I)Lcom/example/mediawarden/mediawarden/task/Code;" } : Jvm.MethodName) prog_61_method_4_code (5 : Nat) (Option.some (Jvm.ClassFile.FieldType.object "com/example/mediawarden/mediawarden/task/Code"))).before args0 about1 = true := code_word (m := ⟨6, 1⟩) (meth := k6m1) (c := k6c1) (by decide +kernel) rfl rfl rfl (by decide +kernel)
set_option maxRecDepth 65536 in
theorem w_c2 : (Jvm.Cond.code ({ cls := "com/example/mediawarden/mediawarden/task/Code", name := "values", desc := "()[Lcom/example/mediawarden/mediawarden/task/Code;" } : Jvm.MethodName) prog_61_method_1_code (0 : Nat) (Option.some (Jvm.ClassFile.FieldType.array (Jvm.ClassFile.FieldType.object "com/example/mediawarden/mediawarden/task/Code")))).before args0 about1 = true := code_word (m := ⟨6, 0⟩) (meth := k6m0) (c := k6c0) (by decide +kernel) rfl rfl rfl (by decide +kernel)
set_option maxRecDepth 65536 in
theorem w_c3 : (Jvm.Cond.code ({ cls := "com/example/mediawarden/mediawarden/task/Code", name := "number", desc := "()I" } : Jvm.MethodName) prog_61_method_5_code (1 : Nat) (Option.some Jvm.ClassFile.FieldType.int)).before args0 about1 = true := code_word (m := ⟨6, 2⟩) (meth := k6m2) (c := k6c2) (by decide +kernel) rfl rfl rfl (by decide +kernel)
def codes1 : List Jvm.Cond := [Jvm.Cond.code x code maxLocals ret, Jvm.Cond.code ({ cls := "com/example/mediawarden/mediawarden/task/Code", name := "of", desc := "(I)Lcom/example/mediawarden/mediawarden/task/Code;" } : Jvm.MethodName) prog_61_method_4_code (5 : Nat) (Option.some (Jvm.ClassFile.FieldType.object "com/example/mediawarden/mediawarden/task/Code")), Jvm.Cond.code ({ cls := "com/example/mediawarden/mediawarden/task/Code", name := "values", desc := "()[Lcom/example/mediawarden/mediawarden/task/Code;" } : Jvm.MethodName) prog_61_method_1_code (0 : Nat) (Option.some (Jvm.ClassFile.FieldType.array (Jvm.ClassFile.FieldType.object "com/example/mediawarden/mediawarden/task/Code"))), Jvm.Cond.code ({ cls := "com/example/mediawarden/mediawarden/task/Code", name := "number", desc := "()I" } : Jvm.MethodName) prog_61_method_5_code (1 : Nat) (Option.some Jvm.ClassFile.FieldType.int)]
set_option maxRecDepth 65536 in
theorem codes_eq : words1.filter isCode = codes1 := rfl
theorem w_codes : ∀ c ∈ words1.filter isCode, c.before args0 about1 = true := by
  rw [codes_eq]
  intro c hc
  simp only [codes1, List.mem_cons, List.not_mem_nil, or_false] at hc
  rcases hc with rfl | rfl | rfl | rfl
  · exact w_c0
  · exact w_c1
  · exact w_c2
  · exact w_c3
set_option maxRecDepth 65536 in
theorem w_t1 : (words1.take 24).all (fun c => isCode c || c.before args0 about1) = true := by decide +kernel
set_option maxRecDepth 65536 in
theorem w_t2 : (words1.drop 24).all (fun c => isCode c || c.before args0 about1) = true := by decide +kernel
theorem w_tables : (allAtoms (Jvm.Cond.code x code maxLocals ret :: tables_1)).before args0 about1 = true := by
  rw [allAtoms_all]
  show words1.all (fun c => c.before args0 about1) = true
  refine all_split ?_ w_codes
  rw [← List.take_append_drop 24 words1, List.all_append, w_t1, w_t2]
  rfl
set_option maxRecDepth 65536 in
theorem w_case : (Jvm.Cond.and given_1 narrow_1).before args0 about1 = true := by decide +kernel
theorem w_applies : (headSpec (Jvm.Cond.code x code maxLocals ret :: tables_1) room_1).applies x e0.platform about1 = true :=
  (Spec.applies_iff w_frames).mpr ⟨w_running, w_runnable, w_alone, w_named, w_hears, w_ripe, w_room, w_tables⟩
theorem atStart : AtStart classFile x code maxLocals ret World_1 tables_1 room_1 Calls_1 rest_1 Pre_1 launch0 p0 e0 about1 theMethod args0 below0 :=
  ⟨lists_1, trivial, launch0.admits_env _ _ _, launch0.least_env, fairChoices_fair.cas, fairChoices_fair.clock, w_frames, w_args, w_heap, w_applies, trivial, trivial, w_case⟩
end start1
theorem witness_1 : WitnessClaimed_1 := ⟨start1.p0, start1.e0, start1.about1, start1.theMethod, start1.args0, start1.below0, start1.atStart⟩
end Jvm.Pilot.@@N@@
