import JvmDerived
import JvmDerived.Pilot.@@N@@Statement
import JvmDerived.Pilot.@@N@@Code
set_option linter.unusedVariables false
set_option linter.unusedSimpArgs false
namespace Jvm.Pilot.@@N@@
open Jvm Jvm.ClassFile Sem Op Lib Jvm.Free Jvm.Stand Jvm.LawKit Jvm.RoadKit Bundle Jvm.Pilot.@@N@@.Jvm.D
/-- from the state W the run comes to an end of which K holds -/
abbrev own_Gl (p : Program) (e : Env) (below : List Frame) (K : Outcome → State → Prop) (W : State) : Prop := ∃ s₂ o, Steps p.tables e below W s₂ ∧ s₂.status = .running ∧ Ended s₂ below o ∧ K o s₂
theorem own_by {p : Program} {e : Env} {below : List Frame} {K : Outcome → State → Prop} {W W' : State} (st : ∀ t, Steps p.tables e below W' t → Steps p.tables e below W t) (h : own_Gl p e below K W') : own_Gl p e below K W := by
  obtain ⟨s₂, o, h1, h2⟩ := h; exact ⟨s₂, o, st _ h1, h2⟩
theorem own_tr {p : Program} {e : Env} {below : List Frame} {K : Outcome → State → Prop} {W W' : State} (st : Steps p.tables e below W W') (h : own_Gl p e below K W') : own_Gl p e below K W := own_by (fun _ k => st.trans k) h
theorem own_w {Z : State} {a0 : Array Value} (hw : ∀ d ∈ tables_1, d.before a0 Z = true) (i : Nat) {d : Jvm.Cond} (h : tables_1[i]? = some d := by rfl) : d.before a0 Z = true := hw _ (List.mem_of_getElem? h)
theorem own_le {Z : State} {n0 : Nat} {h : Heap} (O : Old Z n0 h) : n0 ≤ h.size := O.1 ▸ O.2.1
theorem own_lclt {x y : Int64} (h : x < y) : ifCond.holds .lt (lcmpW x y) = true ∧ ifCond.holds .ge (lcmpW x y) = false := by
  have h1 : ¬ x > y := fun q => by rw [Int64.lt_iff_toInt_lt] at h; have q' : y < x := q; rw [Int64.lt_iff_toInt_lt] at q'; omega
  have h2 : ¬ x = y := fun q => by subst q; rw [Int64.lt_iff_toInt_lt] at h; omega
  rw [lcmpW, if_neg h1, if_neg h2]; exact ⟨by decide, by decide⟩
theorem own_lcnlt {x y : Int64} (h : ¬ x < y) : ifCond.holds .lt (lcmpW x y) = false ∧ ifCond.holds .ge (lcmpW x y) = true := by
  by_cases h1 : x > y
  · rw [lcmpW, if_pos h1]; exact ⟨by decide, by decide⟩
  · have h2 : x = y := by
      have q1 : ¬ y < x := h1
      rw [Int64.lt_iff_toInt_lt] at h q1; exact Int64.toInt_inj.mp (by omega)
    rw [lcmpW, if_neg h1, if_pos h2]; exact ⟨by decide, by decide⟩
theorem own_lcgt {x y : Int64} (h : y < x) : ifCond.holds .gt (lcmpW x y) = true ∧ ifCond.holds .le (lcmpW x y) = false := by
  have h1 : x > y := h
  rw [lcmpW, if_pos h1]; exact ⟨by decide, by decide⟩
theorem own_lcngt {x y : Int64} (h : ¬ y < x) : ifCond.holds .gt (lcmpW x y) = false ∧ ifCond.holds .le (lcmpW x y) = true := by
  have h1 : ¬ x > y := h
  rw [lcmpW, if_neg h1]
  by_cases h2 : x = y
  · rw [if_pos h2]; exact ⟨by decide, by decide⟩
  · rw [if_neg h2]; exact ⟨by decide, by decide⟩
theorem own_lceq {x y : Int64} (h : x = y) : ifCond.holds .eq (lcmpW x y) = true ∧ ifCond.holds .ne (lcmpW x y) = false := by
  subst h
  have h1 : ¬ x > x := fun q => by have q' : x < x := q; rw [Int64.lt_iff_toInt_lt] at q'; omega
  rw [lcmpW, if_neg h1, if_pos rfl]; exact ⟨by decide, by decide⟩
theorem own_lcne {x y : Int64} (h : ¬ x = y) : ifCond.holds .eq (lcmpW x y) = false ∧ ifCond.holds .ne (lcmpW x y) = true := by
  by_cases h1 : x > y
  · rw [lcmpW, if_pos h1]; exact ⟨by decide, by decide⟩
  · rw [lcmpW, if_neg h1, if_neg h]; exact ⟨by decide, by decide⟩
theorem own_sta {Z : State} {args : Array Value} {C n d K : String} (h : (Jvm.Cond.exactly (Jvm.Term.static C n d) K).value args Z none Z [] = some true) (hi : (Jvm.Cond.initializedFor C n d).before args Z = true ∨ ((Jvm.Cond.initialized C).before args Z = true ∧ (Jvm.Cond.laysStatic C n d).before args Z = true)) :
    ∃ a, (Jvm.Term.static C n d).eval args Z none [] Z = some (.ref a) ∧ Sta Z Z.heap C n d (.ref a) ∧ Exa Z Z.heap a K := by
  obtain ⟨a, ev⟩ := exa_v h
  exact ⟨a, ev, Sta.start ev hi, Exa.start ev h⟩
theorem own_fldI {Z : State} {args : Array Value} {t : Jvm.Term} {a : Addr} {C n d : String} {k : Int32} (ev : t.eval args Z none [] Z = some (.ref a)) (h : (Jvm.Cond.eq (Jvm.Term.field t C n d) (Jvm.Term.int k)).value args Z none Z [] = some true) : Fld Z Z.heap a C n d (.int k) := by
  obtain ⟨x, y, hx, hy, -, -⟩ := cmp_v (Or.inl h)
  cases Option.some.inj ((Term.int_eval k).symm.trans hy)
  refine Fld.start ?_
  rw [← fld_at ev, hx]
  cases x <;> simp_all [Cond.value, Term.eval]
theorem own_fldJ {Z : State} {args : Array Value} {t : Jvm.Term} {a : Addr} {C n d : String} {k : Int64} (ev : t.eval args Z none [] Z = some (.ref a)) (h : (Jvm.Cond.eq (Jvm.Term.field t C n d) (Jvm.Term.long k)).value args Z none Z [] = some true) : Fld Z Z.heap a C n d (.long k) := by
  obtain ⟨x, y, hx, hy, -, -⟩ := cmp_v (Or.inl h)
  have hy' : (Jvm.Term.long k).eval args Z none [] Z = some (.long k) := by simp [Term.eval]
  cases Option.some.inj (hy'.symm.trans hy)
  refine Fld.start ?_
  rw [← fld_at ev, hx]
  cases x <;> simp_all [Cond.value, Term.eval]
theorem own_len {Z : State} {args : Array Value} {t : Jvm.Term} {a : Addr} {cl : Cell} {ty : FieldType} {n : Int32} (ev : t.eval args Z none [] Z = some (.ref a)) (A : Arr Z Z.heap a cl ty) (h : (Jvm.Cond.eq (Jvm.Term.length t) (Jvm.Term.int n)).value args Z none Z [] = some true) : cl.slots.size < 2 ^ 31 ∧ cl.slots.size.toInt32 = n := by
  have ha : Z.arrayAt? a = some cl := Arr.fin (U := Z) (Vm.Alike.refl _) A
  by_cases hq : cl.slots.size < 2 ^ 31
  · refine ⟨hq, ?_⟩
    have e1 := len_f (args := args) (first := Z) (o := none) (idx := []) ev ha hq
    simpa [Cond.value, e1, Term.int_eval] using h
  · exfalso
    obtain ⟨x, y, hx, -⟩ := cmp_v (Or.inl h)
    simp [Term.eval, ev, ha] at hx
    omega
theorem own_elem {Z : State} {args : Array Value} {t u : Jvm.Term} {a w : Addr} {cl : Cell} {ty : FieldType} {j : Int32} (ev : t.eval args Z none [] Z = some (.ref a)) (A : Arr Z Z.heap a cl ty) (evu : u.eval args Z none [] Z = some (.ref w)) (h : (Jvm.Cond.eq (Jvm.Term.elem t (Jvm.Term.int j)) u).value args Z none Z [] = some true) : cl.slots[j.toNatClampNeg]? = some (.ref w) := by
  obtain ⟨x, y, hx, hy, k1, k2⟩ := cmp_v (Or.inl h)
  cases Option.some.inj (evu.symm.trans hy)
  have q := (elem_in hx ev (Term.int_eval j) A.1).2
  rw [q]
  cases x <;> simp [Cond.value, hx, evu] at h ⊢
  exact h
def own_Wd (Z : State) (wNO_RESOURCE : Addr) (wNO_MATCH : Addr) (wBAD_VERSION_STRING : Addr) (wBAD_VERSION_XML : Addr) : Prop := Sta Z Z.heap "com/example/slipway/slipway/JnlpError" "NO_RESOURCE" "Lcom/example/slipway/slipway/JnlpError;" (.ref wNO_RESOURCE) ∧ Exa Z Z.heap wNO_RESOURCE "com/example/slipway/slipway/JnlpError" ∧ Sta Z Z.heap "com/example/slipway/slipway/JnlpError" "NO_MATCH" "Lcom/example/slipway/slipway/JnlpError;" (.ref wNO_MATCH) ∧ Exa Z Z.heap wNO_MATCH "com/example/slipway/slipway/JnlpError" ∧ Sta Z Z.heap "com/example/slipway/slipway/JnlpError" "BAD_VERSION_STRING" "Lcom/example/slipway/slipway/JnlpError;" (.ref wBAD_VERSION_STRING) ∧ Exa Z Z.heap wBAD_VERSION_STRING "com/example/slipway/slipway/JnlpError" ∧ Sta Z Z.heap "com/example/slipway/slipway/JnlpError" "BAD_VERSION_XML" "Lcom/example/slipway/slipway/JnlpError;" (.ref wBAD_VERSION_XML) ∧ Exa Z Z.heap wBAD_VERSION_XML "com/example/slipway/slipway/JnlpError"
theorem dmethod_2_0 : decode method_2_code 0 = .ok (.iload_n 0, 1) := by decide +kernel
theorem dmethod_2_1 : decode method_2_code 1 = .ok (.iconst 3, 1) := by decide +kernel
theorem dmethod_2_2 : decode method_2_code 2 = .ok (.iand, 1) := by decide +kernel
theorem dmethod_2_3 : decode method_2_code 3 = .ok (.istore_n 1, 1) := by decide +kernel
theorem dmethod_2_4 : decode method_2_code 4 = .ok (.iload_n 1, 1) := by decide +kernel
theorem dmethod_2_5 : decode method_2_code 5 = .ok (.ifCond .ne 7, 3) := by decide +kernel
theorem dmethod_2_8 : decode method_2_code 8 = .ok (.getstatic 7, 3) := by decide +kernel
theorem dmethod_2_11 : decode method_2_code 11 = .ok (.areturn, 1) := by decide +kernel
theorem dmethod_2_12 : decode method_2_code 12 = .ok (.iload_n 1, 1) := by decide +kernel
theorem dmethod_2_13 : decode method_2_code 13 = .ok (.iconst 1, 1) := by decide +kernel
theorem dmethod_2_14 : decode method_2_code 14 = .ok (.if_icmp .ne 7, 3) := by decide +kernel
theorem dmethod_2_17 : decode method_2_code 17 = .ok (.getstatic 13, 3) := by decide +kernel
theorem dmethod_2_20 : decode method_2_code 20 = .ok (.areturn, 1) := by decide +kernel
theorem dmethod_2_21 : decode method_2_code 21 = .ok (.iload_n 1, 1) := by decide +kernel
theorem dmethod_2_22 : decode method_2_code 22 = .ok (.iconst 2, 1) := by decide +kernel
theorem dmethod_2_23 : decode method_2_code 23 = .ok (.if_icmp .ne 7, 3) := by decide +kernel
theorem dmethod_2_26 : decode method_2_code 26 = .ok (.getstatic 16, 3) := by decide +kernel
theorem dmethod_2_29 : decode method_2_code 29 = .ok (.areturn, 1) := by decide +kernel
theorem dmethod_2_30 : decode method_2_code 30 = .ok (.getstatic 19, 3) := by decide +kernel
theorem dmethod_2_33 : decode method_2_code 33 = .ok (.areturn, 1) := by decide +kernel
theorem pn_com_example_slipway_slipway_ChoiceFailedPinLaw : plainName "com/example/slipway/slipway/ChoiceFailedPinLaw" = true := by first | (simp [plainName, overriddenIn]; done) | decide +kernel
theorem ef1 (m : MethodId) (p0 : Int32) : entryFrame m #[(.int p0)] 2 = mkF m 0 #[.val (.int p0), .unset] [] := by first | (simp [entryFrame, mkF, argsToLocals, Value.category]; done) | rfl
def F1 (p0 : Int32) (wNO_RESOURCE : Addr) (wNO_MATCH : Addr) (wBAD_VERSION_STRING : Addr) (wBAD_VERSION_XML : Addr) : Addr := (if (p0 &&& (3 : Int32)) = (0 : Int32) then wNO_RESOURCE else (if (p0 &&& (3 : Int32)) = (1 : Int32) then wNO_MATCH else (if (p0 &&& (3 : Int32)) = (2 : Int32) then wBAD_VERSION_STRING else wBAD_VERSION_XML)))
def Q1 (Z : State) (p0 : Int32) (wNO_RESOURCE : Addr) (wNO_MATCH : Addr) (wBAD_VERSION_STRING : Addr) (wBAD_VERSION_XML : Addr) (h0 : Heap) (n0 : Nat) (v : Option Value) (h : Heap) (L : List Loc) : Prop := v = some (.ref (F1 p0 wNO_RESOURCE wNO_MATCH wBAD_VERSION_STRING wBAD_VERSION_XML)) ∧ Fr n0 L ∧ h = h0
abbrev own_K1 (Z : State) (p0 : Int32) (wNO_RESOURCE : Addr) (wNO_MATCH : Addr) (wBAD_VERSION_STRING : Addr) (wBAD_VERSION_XML : Addr) (h0 : Heap) (n0 : Nat) (s : State) : Outcome → State → Prop := fun o U' => ∃ v L, o = .returned v ∧ Q1 Z p0 wNO_RESOURCE wNO_MATCH wBAD_VERSION_STRING wBAD_VERSION_XML h0 n0 v U'.heap L ∧ FrameEnd s o U' L ({ frames := 0, cells := 0, slots := 0, locals := 0 } : Room).cells ({ frames := 0, cells := 0, slots := 0, locals := 0 } : Room).slots
set_option maxRecDepth 65536 in
set_option maxHeartbeats 40000000 in
theorem rm1 (l : Launch) (Z : State) (a0 : Array Value) (hw : ∀ d ∈ tables_1, d.before a0 Z = true) (ws : List Jvm.Cond) (p0 : Int32) (wNO_RESOURCE : Addr) (wNO_MATCH : Addr) (wBAD_VERSION_STRING : Addr) (wBAD_VERSION_XML : Addr) (h0 : Heap) (n0 : Nat) (Z0 : n0 ≤ h0.size) (O0 : Old Z n0 h0) (HW : own_Wd Z wNO_RESOURCE wNO_MATCH wBAD_VERSION_STRING wBAD_VERSION_XML) :
    MetFree l (⟨"com/example/slipway/slipway/ChoiceFailedPinLaw", "pick", "(I)Lcom/example/slipway/slipway/JnlpError;"⟩ : MethodName) (head1 (Jvm.Cond.code (⟨"com/example/slipway/slipway/ChoiceFailedPinLaw", "pick", "(I)Lcom/example/slipway/slipway/JnlpError;"⟩ : MethodName) method_2_code 2 (some (.object "com/example/slipway/slipway/JnlpError")) :: ws) ({ frames := 0, cells := 0, slots := 0, locals := 0 } : Room)) (fun a U => a = #[(.int p0)] ∧ Z.Warmed39 U.vm ∧ U.heap = h0) (fun _ _ _ _ _ => True) (fun _ U o U' => ∃ v L, o = .returned v ∧ Q1 Z p0 wNO_RESOURCE wNO_MATCH wBAD_VERSION_STRING wBAD_VERSION_XML h0 n0 v U'.heap L ∧ FrameEnd U o U' L ({ frames := 0, cells := 0, slots := 0, locals := 0 } : Room).cells ({ frames := 0, cells := 0, slots := 0, locals := 0 } : Room).slots) := by
  refine MetFree.of_bodySF (plainFor_of_name pn_com_example_slipway_slipway_ChoiceFailedPinLaw) hisR ?_
  intro p e s m args below meth c s₁ Bd hml0 hP hK
  obtain ⟨rfl, hZ, hh⟩ := hP
  have hx := Bd.exec
  have hby := Bd.bytes
  have hml : c.maxLocals = 2 := hml0
  have hown : s.vm.findClass "com/example/slipway/slipway/ChoiceFailedPinLaw" = some m.cls := findClass_of_methodNamed Bd.named
  have hnm := (name_of_methodNamed Bd.named Bd.method).1
  have X0 : Stand p l e ({ frames := 0, cells := 0, slots := 0, locals := 0 } : Room) s m #[(.int p0)] below meth c s₁ [] 0 0 := Stand.of_body Bd
  have e0 : s₁.heap = h0 := by rw [← hh, Bd.state]; rfl
  have N0 := Fr.nil n0
  refine own_by (p := p) (e := e) (below := below) (K := own_K1 Z p0 wNO_RESOURCE wNO_MATCH wBAD_VERSION_STRING wBAD_VERSION_XML h0 n0 s) (W' := s₁.setTop (mkF m 0 #[.val (.int p0), .unset] [])) (fun t k => castTop (ef1 m p0) k) ?_
  refine own_by (W' := (s₁.setTop (mkF m 5 #[.val (.int p0), .val (.int (p0 &&& (3 : Int32)))] [(.int (p0 &&& (3 : Int32)))]))) (fun t k => XS.iloadN X0.here hx rfl (hb hby dmethod_2_0) rfl (XS.iconst X0.here hx rfl (hb hby dmethod_2_1) (XS.iand X0.here hx rfl (hb hby dmethod_2_2) rfl (XS.istoreN X0.here hx rfl (hb hby dmethod_2_3) rfl (l' := #[.val (.int p0), .val (.int (p0 &&& (3 : Int32)))]) rfl (XS.iloadN X0.here hx rfl (hb hby dmethod_2_4) rfl k))))) ?_
  by_cases hc1 : (p0 &&& (3 : Int32)) = (0 : Int32)
  ·
    obtain ⟨T2, X2, e2, st2⟩ := getS (host := "") X0 hx hZ hown (own_w hw 4) Via.refl e0 (HW.1.ext O0.2) (g := (mkF m 8 #[.val (.int p0), .val (.int (p0 &&& (3 : Int32)))] [])) rfl (hb hby dmethod_2_8)
    obtain ⟨fs, hr, hrun, hended, hW, hsame⟩ := X2.leave (v := some (.ref wNO_RESOURCE)) (fun h => by rw [Bd.returns] at h; cases h)
    refine own_by (W' := (T2.setTop (mkF m 11 #[.val (.int p0), .val (.int (p0 &&& (3 : Int32)))] [(.ref wNO_RESOURCE)]))) (fun t k => XS.ifNo X0.here hx rfl (hb hby dmethod_2_5) rfl ((if0 _ _).trans (teq hc1).2) (st2 _ k)) ?_
    refine ⟨_, _, retOut X2 hx Bd.returns rfl (Or.inr (Or.inr (Or.inr (Or.inr ⟨rfl, rfl, rfl⟩)))) (hb hby dmethod_2_11) hr, hrun, hended, _, _, rfl, ?_, ⟨_, rfl⟩, hW, hsame.mono (by decide) (by decide)⟩
    refine ⟨congrArg (fun z => some (Value.ref z)) ?_, N0, e2⟩
    rw [F1, if_pos hc1]
  ·
    refine own_by (W' := (s₁.setTop (mkF m 14 #[.val (.int p0), .val (.int (p0 &&& (3 : Int32)))] [(.int (1 : Int32)), (.int (p0 &&& (3 : Int32)))]))) (fun t k => XS.ifYes X0.here hx rfl (pc0 := 5) (pc' := 12) rfl (hb hby dmethod_2_5) rfl ((if0 _ _).trans (feq hc1).2) (by decide) (by decide) (XS.iloadN X0.here hx rfl (hb hby dmethod_2_12) rfl (XS.iconst X0.here hx rfl (hb hby dmethod_2_13) k))) ?_
    by_cases hc3 : (p0 &&& (3 : Int32)) = (1 : Int32)
    ·
      obtain ⟨T4, X4, e4, st4⟩ := getS (host := "") X0 hx hZ hown (own_w hw 56) Via.refl e0 (HW.2.2.1.ext O0.2) (g := (mkF m 17 #[.val (.int p0), .val (.int (p0 &&& (3 : Int32)))] [])) rfl (hb hby dmethod_2_17)
      obtain ⟨fs, hr, hrun, hended, hW, hsame⟩ := X4.leave (v := some (.ref wNO_MATCH)) (fun h => by rw [Bd.returns] at h; cases h)
      refine own_by (W' := (T4.setTop (mkF m 20 #[.val (.int p0), .val (.int (p0 &&& (3 : Int32)))] [(.ref wNO_MATCH)]))) (fun t k => XS.icmpNo X0.here hx rfl (hb hby dmethod_2_14) rfl (teq hc3).2 (st4 _ k)) ?_
      refine ⟨_, _, retOut X4 hx Bd.returns rfl (Or.inr (Or.inr (Or.inr (Or.inr ⟨rfl, rfl, rfl⟩)))) (hb hby dmethod_2_20) hr, hrun, hended, _, _, rfl, ?_, ⟨_, rfl⟩, hW, hsame.mono (by decide) (by decide)⟩
      refine ⟨congrArg (fun z => some (Value.ref z)) ?_, N0, e4⟩
      rw [F1, if_neg hc1, if_pos hc3]
    ·
      refine own_by (W' := (s₁.setTop (mkF m 23 #[.val (.int p0), .val (.int (p0 &&& (3 : Int32)))] [(.int (2 : Int32)), (.int (p0 &&& (3 : Int32)))]))) (fun t k => XS.icmpYes X0.here hx rfl (pc0 := 14) (pc' := 21) rfl (hb hby dmethod_2_14) rfl (feq hc3).2 (by decide) (by decide) (XS.iloadN X0.here hx rfl (hb hby dmethod_2_21) rfl (XS.iconst X0.here hx rfl (hb hby dmethod_2_22) k))) ?_
      by_cases hc5 : (p0 &&& (3 : Int32)) = (2 : Int32)
      ·
        obtain ⟨T6, X6, e6, st6⟩ := getS (host := "") X0 hx hZ hown (own_w hw 54) Via.refl e0 (HW.2.2.2.2.1.ext O0.2) (g := (mkF m 26 #[.val (.int p0), .val (.int (p0 &&& (3 : Int32)))] [])) rfl (hb hby dmethod_2_26)
        obtain ⟨fs, hr, hrun, hended, hW, hsame⟩ := X6.leave (v := some (.ref wBAD_VERSION_STRING)) (fun h => by rw [Bd.returns] at h; cases h)
        refine own_by (W' := (T6.setTop (mkF m 29 #[.val (.int p0), .val (.int (p0 &&& (3 : Int32)))] [(.ref wBAD_VERSION_STRING)]))) (fun t k => XS.icmpNo X0.here hx rfl (hb hby dmethod_2_23) rfl (teq hc5).2 (st6 _ k)) ?_
        refine ⟨_, _, retOut X6 hx Bd.returns rfl (Or.inr (Or.inr (Or.inr (Or.inr ⟨rfl, rfl, rfl⟩)))) (hb hby dmethod_2_29) hr, hrun, hended, _, _, rfl, ?_, ⟨_, rfl⟩, hW, hsame.mono (by decide) (by decide)⟩
        refine ⟨congrArg (fun z => some (Value.ref z)) ?_, N0, e6⟩
        rw [F1, if_neg hc1, if_neg hc3, if_pos hc5]
      ·
        obtain ⟨T7, X7, e7, st7⟩ := getS (host := "") X0 hx hZ hown (own_w hw 52) Via.refl e0 (HW.2.2.2.2.2.2.1.ext O0.2) (g := (mkF m 30 #[.val (.int p0), .val (.int (p0 &&& (3 : Int32)))] [])) rfl (hb hby dmethod_2_30)
        obtain ⟨fs, hr, hrun, hended, hW, hsame⟩ := X7.leave (v := some (.ref wBAD_VERSION_XML)) (fun h => by rw [Bd.returns] at h; cases h)
        refine own_by (W' := (T7.setTop (mkF m 33 #[.val (.int p0), .val (.int (p0 &&& (3 : Int32)))] [(.ref wBAD_VERSION_XML)]))) (fun t k => XS.icmpYes X0.here hx rfl (pc0 := 23) (pc' := 30) rfl (hb hby dmethod_2_23) rfl (feq hc5).2 (by decide) (by decide) (st7 _ k)) ?_
        refine ⟨_, _, retOut X7 hx Bd.returns rfl (Or.inr (Or.inr (Or.inr (Or.inr ⟨rfl, rfl, rfl⟩)))) (hb hby dmethod_2_33) hr, hrun, hended, _, _, rfl, ?_, ⟨_, rfl⟩, hW, hsame.mono (by decide) (by decide)⟩
        refine ⟨congrArg (fun z => some (Value.ref z)) ?_, N0, e7⟩
        rw [F1, if_neg hc1, if_neg hc3, if_neg hc5]
theorem djdk_30_1_0 : decode jdk_30_method_1_code 0 = .ok (.aload_n 0, 1) := by decide +kernel
theorem djdk_30_1_1 : decode jdk_30_method_1_code 1 = .ok (.invokespecial 1, 3) := by decide +kernel
theorem djdk_30_1_4 : decode jdk_30_method_1_code 4 = .ok (.return_, 1) := by decide +kernel
theorem pn_java_lang_Record : plainName "java/lang/Record" = true := by first | (simp [plainName, overriddenIn]; done) | decide +kernel
theorem efR (m : MethodId) (r0 : Addr) : entryFrame m #[(.ref r0)] 1 = mkF m 0 #[.val (.ref r0)] [] := by first | (simp [entryFrame, mkF, argsToLocals, Value.category]; done) | rfl
def QR (Z : State) (r0 : Addr) (h0 : Heap) (n0 : Nat) (v : Option Value) (h : Heap) (L : List Loc) : Prop := v = none ∧ Fr n0 L ∧ h = h0
abbrev own_KR (Z : State) (r0 : Addr) (h0 : Heap) (n0 : Nat) (s : State) : Outcome → State → Prop := fun o U' => ∃ v L, o = .returned v ∧ QR Z r0 h0 n0 v U'.heap L ∧ FrameEnd s o U' L ({ frames := 1, cells := 0, slots := 0, locals := 12 } : Room).cells ({ frames := 1, cells := 0, slots := 0, locals := 12 } : Room).slots
set_option maxRecDepth 65536 in
set_option maxHeartbeats 40000000 in
theorem rmR (l : Launch) (Z : State) (a0 : Array Value) (hw : ∀ d ∈ tables_1, d.before a0 Z = true) (ws : List Jvm.Cond) (r0 : Addr) (h0 : Heap) (n0 : Nat) (Z0 : n0 ≤ h0.size) :
    MetFree l (⟨"java/lang/Record", "<init>", "()V"⟩ : MethodName) (head1 (Jvm.Cond.code (⟨"java/lang/Record", "<init>", "()V"⟩ : MethodName) jdk_30_method_1_code 1 none :: ws) ({ frames := 1, cells := 0, slots := 0, locals := 12 } : Room)) (fun a U => a = #[(.ref r0)] ∧ Z.Warmed39 U.vm ∧ U.heap = h0) (fun _ _ _ _ _ => True) (fun _ U o U' => ∃ v L, o = .returned v ∧ QR Z r0 h0 n0 v U'.heap L ∧ FrameEnd U o U' L ({ frames := 1, cells := 0, slots := 0, locals := 12 } : Room).cells ({ frames := 1, cells := 0, slots := 0, locals := 12 } : Room).slots) := by
  refine MetFree.of_bodySF (plainFor_of_name pn_java_lang_Record) hisR ?_
  intro p e s m args below meth c s₁ Bd hml0 hP hK
  obtain ⟨rfl, hZ, hh⟩ := hP
  have hx := Bd.exec
  have hby := Bd.bytes
  have hml : c.maxLocals = 1 := hml0
  have hown : s.vm.findClass "java/lang/Record" = some m.cls := findClass_of_methodNamed Bd.named
  have hnm := (name_of_methodNamed Bd.named Bd.method).1
  have X0 : Stand p l e ({ frames := 1, cells := 0, slots := 0, locals := 12 } : Room) s m #[(.ref r0)] below meth c s₁ [] 0 0 := Stand.of_body Bd
  have e0 : s₁.heap = h0 := by rw [← hh, Bd.state]; rfl
  have N0 := Fr.nil n0
  refine own_by (p := p) (e := e) (below := below) (K := own_KR Z r0 h0 n0 s) (W' := s₁.setTop (mkF m 0 #[.val (.ref r0)] [])) (fun t k => castTop (efR m r0) k) ?_
  obtain ⟨T1, X1, e1, st1⟩ := initO X0 hx hZ hown (own_w hw 21) (own_w hw 22) (own_w hw 23) e0 (g := (mkF m 1 #[.val (.ref r0)] [(.ref r0)])) rfl (by rw [hml]; rfl) rfl (hb hby djdk_30_1_1) (by decide) (W := 0) (by show 2 * 0 + _ ≤ _; exact Nat.le_of_eq rfl) (by decide)
  obtain ⟨fs, hr, hrun, hended, hW, hsame⟩ := X1.leave (v := none) (fun _ => rfl)
  refine own_by (W' := (T1.setTop (mkF m 4 #[.val (.ref r0)] []))) (fun t k => XS.aloadN X0.here hx rfl (hb hby djdk_30_1_0) rfl rfl (st1 _ k)) ?_
  refine ⟨_, _, X1.returnOut hx Bd.returns (hb hby djdk_30_1_4) hr, hrun, hended, _, _, rfl, ?_, ⟨_, rfl⟩, hW, hsame.mono (by decide) (by decide)⟩
  exact ⟨rfl, N0, e1⟩
theorem pd_1 : parseMethodDescriptor "()V" = some ⟨[], none⟩ := by decide +kernel
theorem dprog_52_1_0 : decode prog_52_method_1_code 0 = .ok (.aload_n 0, 1) := by decide +kernel
theorem dprog_52_1_1 : decode prog_52_method_1_code 1 = .ok (.invokespecial 1, 3) := by decide +kernel
theorem dprog_52_1_4 : decode prog_52_method_1_code 4 = .ok (.aload_n 0, 1) := by decide +kernel
theorem dprog_52_1_5 : decode prog_52_method_1_code 5 = .ok (.aload_n 1, 1) := by decide +kernel
theorem dprog_52_1_6 : decode prog_52_method_1_code 6 = .ok (.putfield 7, 3) := by decide +kernel
theorem dprog_52_1_9 : decode prog_52_method_1_code 9 = .ok (.aload_n 0, 1) := by decide +kernel
theorem dprog_52_1_10 : decode prog_52_method_1_code 10 = .ok (.aload_n 2, 1) := by decide +kernel
theorem dprog_52_1_11 : decode prog_52_method_1_code 11 = .ok (.putfield 13, 3) := by decide +kernel
theorem dprog_52_1_14 : decode prog_52_method_1_code 14 = .ok (.aload_n 0, 1) := by decide +kernel
theorem dprog_52_1_15 : decode prog_52_method_1_code 15 = .ok (.aload_n 3, 1) := by decide +kernel
theorem dprog_52_1_16 : decode prog_52_method_1_code 16 = .ok (.putfield 17, 3) := by decide +kernel
theorem dprog_52_1_19 : decode prog_52_method_1_code 19 = .ok (.aload_n 0, 1) := by decide +kernel
theorem dprog_52_1_20 : decode prog_52_method_1_code 20 = .ok (.aload 4, 2) := by decide +kernel
theorem dprog_52_1_22 : decode prog_52_method_1_code 22 = .ok (.putfield 21, 3) := by decide +kernel
theorem dprog_52_1_25 : decode prog_52_method_1_code 25 = .ok (.return_, 1) := by decide +kernel
theorem pn_com_example_slipway_slipway_VersionedFiles_Choice : plainName "com/example/slipway/slipway/VersionedFiles$Choice" = true := by first | (simp [plainName, overriddenIn]; done) | decide +kernel
theorem efI (m : MethodId) (r0 : Addr) (r4 : Addr) : entryFrame m #[(.ref r0), .null, .null, .null, (.ref r4)] 5 = mkF m 0 #[.val (.ref r0), .val .null, .val .null, .val .null, .val (.ref r4)] [] := by first | (simp [entryFrame, mkF, argsToLocals, Value.category]; done) | rfl
def QI (Z : State) (r0 : Addr) (r4 : Addr) (h0 : Heap) (n0 : Nat) (v : Option Value) (h : Heap) (L : List Loc) : Prop := v = none ∧ Fr n0 L ∧ Keep h0 h [r0] ∧ Exa Z h r0 "com/example/slipway/slipway/VersionedFiles$Choice" ∧ Fld Z h r0 "com/example/slipway/slipway/VersionedFiles$Choice" "file" "Ljava/lang/String;" .null ∧ Fld Z h r0 "com/example/slipway/slipway/VersionedFiles$Choice" "source" "Ljava/nio/file/Path;" .null ∧ Fld Z h r0 "com/example/slipway/slipway/VersionedFiles$Choice" "version" "Lcom/example/slipway/slipway/VersionId;" .null ∧ Fld Z h r0 "com/example/slipway/slipway/VersionedFiles$Choice" "error" "Lcom/example/slipway/slipway/JnlpError;" (.ref r4)
abbrev own_KI (Z : State) (r0 : Addr) (r4 : Addr) (h0 : Heap) (n0 : Nat) (s : State) : Outcome → State → Prop := fun o U' => ∃ v L, o = .returned v ∧ QI Z r0 r4 h0 n0 v U'.heap L ∧ FrameEnd s o U' L ({ frames := 2, cells := 0, slots := 0, locals := 24 } : Room).cells ({ frames := 2, cells := 0, slots := 0, locals := 24 } : Room).slots
set_option maxRecDepth 65536 in
set_option maxHeartbeats 40000000 in
theorem rmI (l : Launch) (Z : State) (a0 : Array Value) (hw : ∀ d ∈ tables_1, d.before a0 Z = true) (ws : List Jvm.Cond) (r0 : Addr) (r4 : Addr) (h0 : Heap) (n0 : Nat) (Z0 : n0 ≤ h0.size) (O0 : Old Z n0 h0) (E0 : Exa Z h0 r0 "com/example/slipway/slipway/VersionedFiles$Choice") (g_r0 : n0 ≤ r0) (F_file : Fld Z h0 r0 "com/example/slipway/slipway/VersionedFiles$Choice" "file" "Ljava/lang/String;" .null) (F_source : Fld Z h0 r0 "com/example/slipway/slipway/VersionedFiles$Choice" "source" "Ljava/nio/file/Path;" .null) (F_version : Fld Z h0 r0 "com/example/slipway/slipway/VersionedFiles$Choice" "version" "Lcom/example/slipway/slipway/VersionId;" .null) (F_error : Fld Z h0 r0 "com/example/slipway/slipway/VersionedFiles$Choice" "error" "Lcom/example/slipway/slipway/JnlpError;" .null) :
    MetFree l (⟨"com/example/slipway/slipway/VersionedFiles$Choice", "<init>", "(Ljava/lang/String;Ljava/nio/file/Path;Lcom/example/slipway/slipway/VersionId;Lcom/example/slipway/slipway/JnlpError;)V"⟩ : MethodName) (head1 (Jvm.Cond.code (⟨"com/example/slipway/slipway/VersionedFiles$Choice", "<init>", "(Ljava/lang/String;Ljava/nio/file/Path;Lcom/example/slipway/slipway/VersionId;Lcom/example/slipway/slipway/JnlpError;)V"⟩ : MethodName) prog_52_method_1_code 5 none :: ws) ({ frames := 2, cells := 0, slots := 0, locals := 24 } : Room)) (fun a U => a = #[(.ref r0), .null, .null, .null, (.ref r4)] ∧ Z.Warmed39 U.vm ∧ U.heap = h0) (fun _ _ _ _ _ => True) (fun _ U o U' => ∃ v L, o = .returned v ∧ QI Z r0 r4 h0 n0 v U'.heap L ∧ FrameEnd U o U' L ({ frames := 2, cells := 0, slots := 0, locals := 24 } : Room).cells ({ frames := 2, cells := 0, slots := 0, locals := 24 } : Room).slots) := by
  refine MetFree.of_bodySF (plainFor_of_name pn_com_example_slipway_slipway_VersionedFiles_Choice) hisR ?_
  intro p e s m args below meth c s₁ Bd hml0 hP hK
  obtain ⟨rfl, hZ, hh⟩ := hP
  have hx := Bd.exec
  have hby := Bd.bytes
  have hml : c.maxLocals = 5 := hml0
  have hown : s.vm.findClass "com/example/slipway/slipway/VersionedFiles$Choice" = some m.cls := findClass_of_methodNamed Bd.named
  have hnm := (name_of_methodNamed Bd.named Bd.method).1
  have X0 : Stand p l e ({ frames := 2, cells := 0, slots := 0, locals := 24 } : Room) s m #[(.ref r0), .null, .null, .null, (.ref r4)] below meth c s₁ [] 0 0 := Stand.of_body Bd
  have e0 : s₁.heap = h0 := by rw [← hh, Bd.state]; rfl
  have N0 := Fr.nil n0
  refine own_by (p := p) (e := e) (below := below) (K := own_KI Z r0 r4 h0 n0 s) (W' := s₁.setTop (mkF m 0 #[.val (.ref r0), .val .null, .val .null, .val .null, .val (.ref r4)] [])) (fun t k => castTop (efI m r0 r4) k) ?_
  obtain ⟨_, _, ⟨T1, L1, k1, n1⟩, -, X1, ⟨Lc1, hQ1, l1, y1, z1⟩, st1⟩ := X0.specialBack hx (y := (⟨"java/lang/Record", "<init>", "()V"⟩ : MethodName)) rfl hown (mvT hZ (own_w hw 16)) (mvT hZ (own_w hw 17)) (mvT hZ (own_w hw 20)) (by decide) (backOf (W := 0) (rmR l Z a0 hw [] r0 h0 n0 Z0 ) hZ (own_w hw 20) (own_w hw 19) (by decide) (by decide)) (g := (mkF m 1 #[.val (.ref r0), .val .null, .val .null, .val .null, .val (.ref r4)] [(.ref r0)])) rfl (by rw [hml]; rfl) (Steps.refl _) (a := r0) (argsL := []) (rest := []) (lenOf pd_1 rfl) rfl (by show 2 * 0 + _ ≤ _; exact Nat.le_of_eq rfl) (hb hby dprog_52_1_1) (fun _ _ => ⟨rfl, e0, (by decide : 0 + 0 ≤ _), (by decide : 0 + 0 ≤ _)⟩)
  dsimp only [Pt.U, Pt.locs, Pt.cells, Pt.slots] at X1 l1 y1 z1 st1 hQ1
  subst l1 y1 z1
  obtain ⟨rfl, N1q, e1⟩ := hQ1
  have N1 := Fr.app N0 N1q
  obtain ⟨T2, h2, X2, e2, W2, st2⟩ := putF X1 hx hZ hown (host := "") (Or.inl (own_w hw 24)) Via.refl e1 F_file E0 (Or.inr ⟨(own_w hw 25), rfl, hnm⟩) (own_w hw 12) (ty := (.object "java/lang/String")) (by decide) rfl rfl (g := (mkF m 6 #[.val (.ref r0), .val .null, .val .null, .val .null, .val (.ref r4)] [.null, (.ref r0)])) rfl rfl (hb hby dprog_52_1_6)
  have Fw2 := F_file.same W2
  have O2 := Old.wr O0 W2 g_r0
  have N2 := Fr.snoc X2 N1 g_r0
  have K2 := Keep.wr (Keep.refl h0 [r0]) W2 (Or.inl (List.mem_of_getElem? (i := 0) rfl))
  refine own_by (W' := (T2.setTop (mkF m 10 #[.val (.ref r0), .val .null, .val .null, .val .null, .val (.ref r4)] [(.ref r0)]))) (fun t k => XS.aloadN X0.here hx rfl (hb hby dprog_52_1_0) rfl rfl (Steps.trans st1 (XS.aloadN X1.here hx rfl (hb hby dprog_52_1_4) rfl rfl (XS.aloadN X1.here hx rfl (hb hby dprog_52_1_5) rfl rfl (st2 _ (XS.aloadN X2.here hx rfl (hb hby dprog_52_1_9) rfl rfl k)))))) ?_
  obtain ⟨T3, h3, X3, e3, W3, st3⟩ := putF X2 hx hZ hown (host := "") (Or.inl (own_w hw 26)) Via.refl e2 (F_source.other W2 (Or.inr (slot_ne (Or.inr (own_w hw 27)) (Or.inr (own_w hw 25)) (by decide) (t := (.object "java/nio/file/Path")) (t' := (.object "java/lang/String")) (by decide) (by decide)))) (E0.wr W2) (Or.inr ⟨(own_w hw 27), rfl, hnm⟩) (own_w hw 12) (ty := (.object "java/nio/file/Path")) (by decide) rfl rfl (g := (mkF m 11 #[.val (.ref r0), .val .null, .val .null, .val .null, .val (.ref r4)] [.null, (.ref r0)])) rfl rfl (hb hby dprog_52_1_11)
  have Fw3 := (F_source.other W2 (Or.inr (slot_ne (Or.inr (own_w hw 27)) (Or.inr (own_w hw 25)) (by decide) (t := (.object "java/nio/file/Path")) (t' := (.object "java/lang/String")) (by decide) (by decide)))).same W3
  have O3 := Old.wr O2 W3 g_r0
  have N3 := Fr.snoc X3 N2 g_r0
  have K3 := Keep.wr K2 W3 (Or.inl (List.mem_of_getElem? (i := 0) rfl))
  obtain ⟨T4, h4, X4, e4, W4, st4⟩ := putF X3 hx hZ hown (host := "") (Or.inl (own_w hw 28)) Via.refl e3 ((F_version.other W2 (Or.inr (slot_ne (Or.inr (own_w hw 29)) (Or.inr (own_w hw 25)) (by decide) (t := (.object "com/example/slipway/slipway/VersionId")) (t' := (.object "java/lang/String")) (by decide) (by decide)))).other W3 (Or.inr (slot_ne (Or.inr (own_w hw 29)) (Or.inr (own_w hw 27)) (by decide) (t := (.object "com/example/slipway/slipway/VersionId")) (t' := (.object "java/nio/file/Path")) (by decide) (by decide)))) ((E0.wr W2).wr W3) (Or.inr ⟨(own_w hw 29), rfl, hnm⟩) (own_w hw 12) (ty := (.object "com/example/slipway/slipway/VersionId")) (by decide) rfl rfl (g := (mkF m 16 #[.val (.ref r0), .val .null, .val .null, .val .null, .val (.ref r4)] [.null, (.ref r0)])) rfl rfl (hb hby dprog_52_1_16)
  have Fw4 := ((F_version.other W2 (Or.inr (slot_ne (Or.inr (own_w hw 29)) (Or.inr (own_w hw 25)) (by decide) (t := (.object "com/example/slipway/slipway/VersionId")) (t' := (.object "java/lang/String")) (by decide) (by decide)))).other W3 (Or.inr (slot_ne (Or.inr (own_w hw 29)) (Or.inr (own_w hw 27)) (by decide) (t := (.object "com/example/slipway/slipway/VersionId")) (t' := (.object "java/nio/file/Path")) (by decide) (by decide)))).same W4
  have O4 := Old.wr O3 W4 g_r0
  have N4 := Fr.snoc X4 N3 g_r0
  have K4 := Keep.wr K3 W4 (Or.inl (List.mem_of_getElem? (i := 0) rfl))
  refine own_by (W' := (T4.setTop (mkF m 20 #[.val (.ref r0), .val .null, .val .null, .val .null, .val (.ref r4)] [(.ref r0)]))) (fun t k => XS.aloadN X2.here hx rfl (hb hby dprog_52_1_10) rfl rfl (st3 _ (XS.aloadN X3.here hx rfl (hb hby dprog_52_1_14) rfl rfl (XS.aloadN X3.here hx rfl (hb hby dprog_52_1_15) rfl rfl (st4 _ (XS.aloadN X4.here hx rfl (hb hby dprog_52_1_19) rfl rfl k)))))) ?_
  obtain ⟨T5, h5, X5, e5, W5, st5⟩ := putF X4 hx hZ hown (host := "") (Or.inl (own_w hw 30)) Via.refl e4 (((F_error.other W2 (Or.inr (slot_ne (Or.inr (own_w hw 31)) (Or.inr (own_w hw 25)) (by decide) (t := (.object "com/example/slipway/slipway/JnlpError")) (t' := (.object "java/lang/String")) (by decide) (by decide)))).other W3 (Or.inr (slot_ne (Or.inr (own_w hw 31)) (Or.inr (own_w hw 27)) (by decide) (t := (.object "com/example/slipway/slipway/JnlpError")) (t' := (.object "java/nio/file/Path")) (by decide) (by decide)))).other W4 (Or.inr (slot_ne (Or.inr (own_w hw 31)) (Or.inr (own_w hw 29)) (by decide) (t := (.object "com/example/slipway/slipway/JnlpError")) (t' := (.object "com/example/slipway/slipway/VersionId")) (by decide) (by decide)))) (((E0.wr W2).wr W3).wr W4) (Or.inr ⟨(own_w hw 31), rfl, hnm⟩) (own_w hw 12) (ty := (.object "com/example/slipway/slipway/JnlpError")) (by decide) rfl rfl (g := (mkF m 22 #[.val (.ref r0), .val .null, .val .null, .val .null, .val (.ref r4)] [(.ref r4), (.ref r0)])) rfl rfl (hb hby dprog_52_1_22)
  have Fw5 := (((F_error.other W2 (Or.inr (slot_ne (Or.inr (own_w hw 31)) (Or.inr (own_w hw 25)) (by decide) (t := (.object "com/example/slipway/slipway/JnlpError")) (t' := (.object "java/lang/String")) (by decide) (by decide)))).other W3 (Or.inr (slot_ne (Or.inr (own_w hw 31)) (Or.inr (own_w hw 27)) (by decide) (t := (.object "com/example/slipway/slipway/JnlpError")) (t' := (.object "java/nio/file/Path")) (by decide) (by decide)))).other W4 (Or.inr (slot_ne (Or.inr (own_w hw 31)) (Or.inr (own_w hw 29)) (by decide) (t := (.object "com/example/slipway/slipway/JnlpError")) (t' := (.object "com/example/slipway/slipway/VersionId")) (by decide) (by decide)))).same W5
  have O5 := Old.wr O4 W5 g_r0
  have N5 := Fr.snoc X5 N4 g_r0
  have K5 := Keep.wr K4 W5 (Or.inl (List.mem_of_getElem? (i := 0) rfl))
  obtain ⟨fs, hr, hrun, hended, hW, hsame⟩ := X5.leave (v := none) (fun _ => rfl)
  refine own_by (W' := (T5.setTop (mkF m 25 #[.val (.ref r0), .val .null, .val .null, .val .null, .val (.ref r4)] []))) (fun t k => XS.aload X4.here hx rfl (hb hby dprog_52_1_20) rfl rfl (st5 _ k)) ?_
  refine ⟨_, _, X5.returnOut hx Bd.returns (hb hby dprog_52_1_25) hr, hrun, hended, _, _, rfl, ?_, ⟨_, rfl⟩, hW, hsame.mono (by decide) (by decide)⟩
  show QI Z r0 r4 h0 n0 _ T5.heap _
  rw [e5]
  exact ⟨rfl, N5, K5, ((((E0.wr W2).wr W3).wr W4).wr W5), (((Fw2.other W3 (Or.inr (slot_ne (Or.inr (own_w hw 25)) (Or.inr (own_w hw 27)) (by decide) (t := (.object "java/lang/String")) (t' := (.object "java/nio/file/Path")) (by decide) (by decide)))).other W4 (Or.inr (slot_ne (Or.inr (own_w hw 25)) (Or.inr (own_w hw 29)) (by decide) (t := (.object "java/lang/String")) (t' := (.object "com/example/slipway/slipway/VersionId")) (by decide) (by decide)))).other W5 (Or.inr (slot_ne (Or.inr (own_w hw 25)) (Or.inr (own_w hw 31)) (by decide) (t := (.object "java/lang/String")) (t' := (.object "com/example/slipway/slipway/JnlpError")) (by decide) (by decide)))), ((Fw3.other W4 (Or.inr (slot_ne (Or.inr (own_w hw 27)) (Or.inr (own_w hw 29)) (by decide) (t := (.object "java/nio/file/Path")) (t' := (.object "com/example/slipway/slipway/VersionId")) (by decide) (by decide)))).other W5 (Or.inr (slot_ne (Or.inr (own_w hw 27)) (Or.inr (own_w hw 31)) (by decide) (t := (.object "java/nio/file/Path")) (t' := (.object "com/example/slipway/slipway/JnlpError")) (by decide) (by decide)))), (Fw4.other W5 (Or.inr (slot_ne (Or.inr (own_w hw 29)) (Or.inr (own_w hw 31)) (by decide) (t := (.object "com/example/slipway/slipway/VersionId")) (t' := (.object "com/example/slipway/slipway/JnlpError")) (by decide) (by decide)))), Fw5⟩
theorem pd_2 : parseMethodDescriptor "(Ljava/lang/String;Ljava/nio/file/Path;Lcom/example/slipway/slipway/VersionId;Lcom/example/slipway/slipway/JnlpError;)V" = some ⟨[(.object "java/lang/String"), (.object "java/nio/file/Path"), (.object "com/example/slipway/slipway/VersionId"), (.object "com/example/slipway/slipway/JnlpError")], none⟩ := by decide +kernel
theorem dprog_52_2_0 : decode prog_52_method_2_code 0 = .ok (.new 8, 3) := by decide +kernel
theorem dprog_52_2_3 : decode prog_52_method_2_code 3 = .ok (.dup, 1) := by decide +kernel
theorem dprog_52_2_4 : decode prog_52_method_2_code 4 = .ok (.aconst_null, 1) := by decide +kernel
theorem dprog_52_2_5 : decode prog_52_method_2_code 5 = .ok (.aconst_null, 1) := by decide +kernel
theorem dprog_52_2_6 : decode prog_52_method_2_code 6 = .ok (.aconst_null, 1) := by decide +kernel
theorem dprog_52_2_7 : decode prog_52_method_2_code 7 = .ok (.aload_n 0, 1) := by decide +kernel
theorem dprog_52_2_8 : decode prog_52_method_2_code 8 = .ok (.invokespecial 25, 3) := by decide +kernel
theorem dprog_52_2_11 : decode prog_52_method_2_code 11 = .ok (.areturn, 1) := by decide +kernel
theorem efF (m : MethodId) (r0 : Addr) : entryFrame m #[(.ref r0)] 1 = mkF m 0 #[.val (.ref r0)] [] := by first | (simp [entryFrame, mkF, argsToLocals, Value.category]; done) | rfl
def QF (Z : State) (r0 : Addr) (h0 : Heap) (n0 : Nat) (v : Option Value) (h : Heap) (L : List Loc) : Prop := ∃ q : Addr, v = some (.ref q) ∧ Fr n0 L ∧ Keep h0 h [] ∧ Exa Z h q "com/example/slipway/slipway/VersionedFiles$Choice" ∧ Fld Z h q "com/example/slipway/slipway/VersionedFiles$Choice" "file" "Ljava/lang/String;" .null ∧ Fld Z h q "com/example/slipway/slipway/VersionedFiles$Choice" "source" "Ljava/nio/file/Path;" .null ∧ Fld Z h q "com/example/slipway/slipway/VersionedFiles$Choice" "version" "Lcom/example/slipway/slipway/VersionId;" .null ∧ Fld Z h q "com/example/slipway/slipway/VersionedFiles$Choice" "error" "Lcom/example/slipway/slipway/JnlpError;" (.ref r0)
abbrev own_KF (Z : State) (r0 : Addr) (h0 : Heap) (n0 : Nat) (s : State) : Outcome → State → Prop := fun o U' => ∃ v L, o = .returned v ∧ QF Z r0 h0 n0 v U'.heap L ∧ FrameEnd s o U' L ({ frames := 3, cells := 1, slots := 4, locals := 41 } : Room).cells ({ frames := 3, cells := 1, slots := 4, locals := 41 } : Room).slots
set_option maxRecDepth 65536 in
set_option maxHeartbeats 40000000 in
theorem rmF (l : Launch) (Z : State) (a0 : Array Value) (hw : ∀ d ∈ tables_1, d.before a0 Z = true) (ws : List Jvm.Cond) (r0 : Addr) (h0 : Heap) (n0 : Nat) (Z0 : n0 ≤ h0.size) (O0 : Old Z n0 h0) :
    MetFree l (⟨"com/example/slipway/slipway/VersionedFiles$Choice", "failed", "(Lcom/example/slipway/slipway/JnlpError;)Lcom/example/slipway/slipway/VersionedFiles$Choice;"⟩ : MethodName) (head1 (Jvm.Cond.code (⟨"com/example/slipway/slipway/VersionedFiles$Choice", "failed", "(Lcom/example/slipway/slipway/JnlpError;)Lcom/example/slipway/slipway/VersionedFiles$Choice;"⟩ : MethodName) prog_52_method_2_code 1 (some (.object "com/example/slipway/slipway/VersionedFiles$Choice")) :: ws) ({ frames := 3, cells := 1, slots := 4, locals := 41 } : Room)) (fun a U => a = #[(.ref r0)] ∧ Z.Warmed39 U.vm ∧ U.heap = h0) (fun _ _ _ _ _ => True) (fun _ U o U' => ∃ v L, o = .returned v ∧ QF Z r0 h0 n0 v U'.heap L ∧ FrameEnd U o U' L ({ frames := 3, cells := 1, slots := 4, locals := 41 } : Room).cells ({ frames := 3, cells := 1, slots := 4, locals := 41 } : Room).slots) := by
  refine MetFree.of_bodySF (plainFor_of_name pn_com_example_slipway_slipway_VersionedFiles_Choice) hisR ?_
  intro p e s m args below meth c s₁ Bd hml0 hP hK
  obtain ⟨rfl, hZ, hh⟩ := hP
  have hx := Bd.exec
  have hby := Bd.bytes
  have hml : c.maxLocals = 1 := hml0
  have hown : s.vm.findClass "com/example/slipway/slipway/VersionedFiles$Choice" = some m.cls := findClass_of_methodNamed Bd.named
  have hnm := (name_of_methodNamed Bd.named Bd.method).1
  have X0 : Stand p l e ({ frames := 3, cells := 1, slots := 4, locals := 41 } : Room) s m #[(.ref r0)] below meth c s₁ [] 0 0 := Stand.of_body Bd
  have e0 : s₁.heap = h0 := by rw [← hh, Bd.state]; rfl
  have N0 := Fr.nil n0
  refine own_by (p := p) (e := e) (below := below) (K := own_KF Z r0 h0 n0 s) (W' := s₁.setTop (mkF m 0 #[.val (.ref r0)] [])) (fun t k => castTop (efF m r0) k) ?_
  obtain ⟨T1, h1, X1, e1, E1, A1, D1, -, st1⟩ := newO X0 hx hZ hown (own_w hw 11) (own_w hw 12) (own_w hw 9) e0 (g := (mkF m 0 #[.val (.ref r0)] [])) rfl (hb hby dprog_52_2_0) (by decide) (by decide)
  obtain ⟨b1, g1⟩ : ∃ z, z = h0.size := ⟨_, rfl⟩
  rw [← g1] at A1 D1 st1
  have g_b1 : n0 ≤ b1 := Nat.le_trans (own_le O0) (Nat.le_of_eq g1.symm)
  have sz_b1 : h0.size ≤ b1 := Nat.le_trans (Keep.refl h0 []).1 (Nat.le_of_eq g1.symm)
  have O1 := O0.ext E1
  have K1 := Keep.ext (Keep.refl h0 []) E1
  have F_file_b1 : Fld Z h1 b1 "com/example/slipway/slipway/VersionedFiles$Choice" "file" "Ljava/lang/String;" .null := D1 (Or.inr (own_w hw 25)) (ty := (.object "java/lang/String")) (by decide)
  have F_source_b1 : Fld Z h1 b1 "com/example/slipway/slipway/VersionedFiles$Choice" "source" "Ljava/nio/file/Path;" .null := D1 (Or.inr (own_w hw 27)) (ty := (.object "java/nio/file/Path")) (by decide)
  have F_version_b1 : Fld Z h1 b1 "com/example/slipway/slipway/VersionedFiles$Choice" "version" "Lcom/example/slipway/slipway/VersionId;" .null := D1 (Or.inr (own_w hw 29)) (ty := (.object "com/example/slipway/slipway/VersionId")) (by decide)
  have F_error_b1 : Fld Z h1 b1 "com/example/slipway/slipway/VersionedFiles$Choice" "error" "Lcom/example/slipway/slipway/JnlpError;" .null := D1 (Or.inr (own_w hw 31)) (ty := (.object "com/example/slipway/slipway/JnlpError")) (by decide)
  refine own_by (W' := (T1.setTop (mkF m 8 #[.val (.ref r0)] [(.ref r0), .null, .null, .null, (.ref b1), (.ref b1)]))) (fun t k => st1 _ (XS.dup X1.here hx rfl (hb hby dprog_52_2_3) rfl rfl (XS.aconstNull X1.here hx rfl (hb hby dprog_52_2_4) (XS.aconstNull X1.here hx rfl (hb hby dprog_52_2_5) (XS.aconstNull X1.here hx rfl (hb hby dprog_52_2_6) (XS.aloadN X1.here hx rfl (hb hby dprog_52_2_7) rfl rfl k)))))) ?_
  obtain ⟨_, _, ⟨T2, L2, k2, n2⟩, -, X2, ⟨Lc2, hQ2, l2, y2, z2⟩, st2⟩ := X1.specialBack hx (y := (⟨"com/example/slipway/slipway/VersionedFiles$Choice", "<init>", "(Ljava/lang/String;Ljava/nio/file/Path;Lcom/example/slipway/slipway/VersionId;Lcom/example/slipway/slipway/JnlpError;)V"⟩ : MethodName)) rfl hown (mvT hZ (own_w hw 13)) (mvT hZ (own_w hw 14)) (mvT hZ (own_w hw 15)) (by decide) (backOf (W := 1) (rmI l Z a0 hw [] b1 r0 h1 n0 (own_le O1) O1 A1 g_b1 F_file_b1 F_source_b1 F_version_b1 F_error_b1) hZ (own_w hw 15) (own_w hw 9) (by decide) (by decide)) (g := (mkF m 8 #[.val (.ref r0)] [(.ref r0), .null, .null, .null, (.ref b1), (.ref b1)])) rfl (by rw [hml]; rfl) (Steps.refl _) (a := b1) (argsL := [.null, .null, .null, (.ref r0)]) (rest := [(.ref b1)]) (lenOf pd_2 rfl) rfl (by show 2 * 0 + _ ≤ _; exact Nat.le_of_eq rfl) (hb hby dprog_52_2_8) (fun _ _ => ⟨rfl, e1, (by decide : 1 + 0 ≤ _), (by decide : 4 + 0 ≤ _)⟩)
  dsimp only [Pt.U, Pt.locs, Pt.cells, Pt.slots] at X2 l2 y2 z2 st2 hQ2
  subst l2 y2 z2
  obtain ⟨rfl, N2q, Kq2, Eq2, Fq2_file, Fq2_source, Fq2_version, Fq2_error⟩ := hQ2
  have O2 := Old.keep O1 Kq2 (allS g_b1 all0)
  have K2 := Keep.trans K1 Kq2 (allS (Or.inr sz_b1) all0)
  have N2 := Fr.app N0 N2q
  obtain ⟨fs, hr, hrun, hended, hW, hsame⟩ := X2.leave (v := some (.ref b1)) (fun h => by rw [Bd.returns] at h; cases h)
  refine own_by (W' := (T2.setTop (mkF m 11 #[.val (.ref r0)] [(.ref b1)]))) (fun t k => Steps.trans st2 k) ?_
  refine ⟨_, _, retOut X2 hx Bd.returns rfl (Or.inr (Or.inr (Or.inr (Or.inr ⟨rfl, rfl, rfl⟩)))) (hb hby dprog_52_2_11) hr, hrun, hended, _, _, rfl, ?_, ⟨_, rfl⟩, hW, hsame.mono (by decide) (by decide)⟩
  show QF Z r0 h0 n0 _ T2.heap _
  exact ⟨_, rfl, N2, K2, Eq2, Fq2_file, Fq2_source, Fq2_version, Fq2_error⟩
theorem dprog_52_6_0 : decode prog_52_method_6_code 0 = .ok (.aload_n 0, 1) := by decide +kernel
theorem dprog_52_6_1 : decode prog_52_method_6_code 1 = .ok (.getfield 7, 3) := by decide +kernel
theorem dprog_52_6_4 : decode prog_52_method_6_code 4 = .ok (.areturn, 1) := by decide +kernel
theorem efGfile (m : MethodId) (r0 : Addr) : entryFrame m #[(.ref r0)] 1 = mkF m 0 #[.val (.ref r0)] [] := by first | (simp [entryFrame, mkF, argsToLocals, Value.category]; done) | rfl
def QGfile (Z : State) (r0 : Addr) (h0 : Heap) (n0 : Nat) (v : Option Value) (h : Heap) (L : List Loc) : Prop := v = some .null ∧ Fr n0 L ∧ h = h0
abbrev own_KGfile (Z : State) (r0 : Addr) (h0 : Heap) (n0 : Nat) (s : State) : Outcome → State → Prop := fun o U' => ∃ v L, o = .returned v ∧ QGfile Z r0 h0 n0 v U'.heap L ∧ FrameEnd s o U' L ({ frames := 0, cells := 0, slots := 0, locals := 0 } : Room).cells ({ frames := 0, cells := 0, slots := 0, locals := 0 } : Room).slots
set_option maxRecDepth 65536 in
set_option maxHeartbeats 40000000 in
theorem rmGfile (l : Launch) (Z : State) (a0 : Array Value) (hw : ∀ d ∈ tables_1, d.before a0 Z = true) (ws : List Jvm.Cond) (r0 : Addr) (h0 : Heap) (n0 : Nat) (Z0 : n0 ≤ h0.size) (Ff : Fld Z h0 r0 "com/example/slipway/slipway/VersionedFiles$Choice" "file" "Ljava/lang/String;" .null) :
    MetFree l (⟨"com/example/slipway/slipway/VersionedFiles$Choice", "file", "()Ljava/lang/String;"⟩ : MethodName) (head1 (Jvm.Cond.code (⟨"com/example/slipway/slipway/VersionedFiles$Choice", "file", "()Ljava/lang/String;"⟩ : MethodName) prog_52_method_6_code 1 (some (.object "java/lang/String")) :: ws) ({ frames := 0, cells := 0, slots := 0, locals := 0 } : Room)) (fun a U => a = #[(.ref r0)] ∧ Z.Warmed39 U.vm ∧ U.heap = h0) (fun _ _ _ _ _ => True) (fun _ U o U' => ∃ v L, o = .returned v ∧ QGfile Z r0 h0 n0 v U'.heap L ∧ FrameEnd U o U' L ({ frames := 0, cells := 0, slots := 0, locals := 0 } : Room).cells ({ frames := 0, cells := 0, slots := 0, locals := 0 } : Room).slots) := by
  refine MetFree.of_bodySF (plainFor_of_name pn_com_example_slipway_slipway_VersionedFiles_Choice) hisR ?_
  intro p e s m args below meth c s₁ Bd hml0 hP hK
  obtain ⟨rfl, hZ, hh⟩ := hP
  have hx := Bd.exec
  have hby := Bd.bytes
  have hml : c.maxLocals = 1 := hml0
  have hown : s.vm.findClass "com/example/slipway/slipway/VersionedFiles$Choice" = some m.cls := findClass_of_methodNamed Bd.named
  have hnm := (name_of_methodNamed Bd.named Bd.method).1
  have X0 : Stand p l e ({ frames := 0, cells := 0, slots := 0, locals := 0 } : Room) s m #[(.ref r0)] below meth c s₁ [] 0 0 := Stand.of_body Bd
  have e0 : s₁.heap = h0 := by rw [← hh, Bd.state]; rfl
  have N0 := Fr.nil n0
  refine own_by (p := p) (e := e) (below := below) (K := own_KGfile Z r0 h0 n0 s) (W' := s₁.setTop (mkF m 0 #[.val (.ref r0)] [])) (fun t k => castTop (efGfile m r0) k) ?_
  obtain ⟨T1, X1, e1, st1⟩ := getF X0 hx hZ hown (host := "") (Or.inl (own_w hw 24)) Via.refl e0 Ff (g := (mkF m 1 #[.val (.ref r0)] [(.ref r0)])) rfl rfl (hb hby dprog_52_6_1)
  obtain ⟨fs, hr, hrun, hended, hW, hsame⟩ := X1.leave (v := some .null) (fun h => by rw [Bd.returns] at h; cases h)
  refine own_by (W' := (T1.setTop (mkF m 4 #[.val (.ref r0)] [.null]))) (fun t k => XS.aloadN X0.here hx rfl (hb hby dprog_52_6_0) rfl rfl (st1 _ k)) ?_
  refine ⟨_, _, retOut X1 hx Bd.returns rfl (Or.inr (Or.inr (Or.inr (Or.inr ⟨rfl, rfl, rfl⟩)))) (hb hby dprog_52_6_4) hr, hrun, hended, _, _, rfl, ?_, ⟨_, rfl⟩, hW, hsame.mono (by decide) (by decide)⟩
  exact ⟨rfl, N0, e1⟩
theorem dprog_52_7_0 : decode prog_52_method_7_code 0 = .ok (.aload_n 0, 1) := by decide +kernel
theorem dprog_52_7_1 : decode prog_52_method_7_code 1 = .ok (.getfield 13, 3) := by decide +kernel
theorem dprog_52_7_4 : decode prog_52_method_7_code 4 = .ok (.areturn, 1) := by decide +kernel
theorem efGsource (m : MethodId) (r0 : Addr) : entryFrame m #[(.ref r0)] 1 = mkF m 0 #[.val (.ref r0)] [] := by first | (simp [entryFrame, mkF, argsToLocals, Value.category]; done) | rfl
def QGsource (Z : State) (r0 : Addr) (h0 : Heap) (n0 : Nat) (v : Option Value) (h : Heap) (L : List Loc) : Prop := v = some .null ∧ Fr n0 L ∧ h = h0
abbrev own_KGsource (Z : State) (r0 : Addr) (h0 : Heap) (n0 : Nat) (s : State) : Outcome → State → Prop := fun o U' => ∃ v L, o = .returned v ∧ QGsource Z r0 h0 n0 v U'.heap L ∧ FrameEnd s o U' L ({ frames := 0, cells := 0, slots := 0, locals := 0 } : Room).cells ({ frames := 0, cells := 0, slots := 0, locals := 0 } : Room).slots
set_option maxRecDepth 65536 in
set_option maxHeartbeats 40000000 in
theorem rmGsource (l : Launch) (Z : State) (a0 : Array Value) (hw : ∀ d ∈ tables_1, d.before a0 Z = true) (ws : List Jvm.Cond) (r0 : Addr) (h0 : Heap) (n0 : Nat) (Z0 : n0 ≤ h0.size) (Ff : Fld Z h0 r0 "com/example/slipway/slipway/VersionedFiles$Choice" "source" "Ljava/nio/file/Path;" .null) :
    MetFree l (⟨"com/example/slipway/slipway/VersionedFiles$Choice", "source", "()Ljava/nio/file/Path;"⟩ : MethodName) (head1 (Jvm.Cond.code (⟨"com/example/slipway/slipway/VersionedFiles$Choice", "source", "()Ljava/nio/file/Path;"⟩ : MethodName) prog_52_method_7_code 1 (some (.object "java/nio/file/Path")) :: ws) ({ frames := 0, cells := 0, slots := 0, locals := 0 } : Room)) (fun a U => a = #[(.ref r0)] ∧ Z.Warmed39 U.vm ∧ U.heap = h0) (fun _ _ _ _ _ => True) (fun _ U o U' => ∃ v L, o = .returned v ∧ QGsource Z r0 h0 n0 v U'.heap L ∧ FrameEnd U o U' L ({ frames := 0, cells := 0, slots := 0, locals := 0 } : Room).cells ({ frames := 0, cells := 0, slots := 0, locals := 0 } : Room).slots) := by
  refine MetFree.of_bodySF (plainFor_of_name pn_com_example_slipway_slipway_VersionedFiles_Choice) hisR ?_
  intro p e s m args below meth c s₁ Bd hml0 hP hK
  obtain ⟨rfl, hZ, hh⟩ := hP
  have hx := Bd.exec
  have hby := Bd.bytes
  have hml : c.maxLocals = 1 := hml0
  have hown : s.vm.findClass "com/example/slipway/slipway/VersionedFiles$Choice" = some m.cls := findClass_of_methodNamed Bd.named
  have hnm := (name_of_methodNamed Bd.named Bd.method).1
  have X0 : Stand p l e ({ frames := 0, cells := 0, slots := 0, locals := 0 } : Room) s m #[(.ref r0)] below meth c s₁ [] 0 0 := Stand.of_body Bd
  have e0 : s₁.heap = h0 := by rw [← hh, Bd.state]; rfl
  have N0 := Fr.nil n0
  refine own_by (p := p) (e := e) (below := below) (K := own_KGsource Z r0 h0 n0 s) (W' := s₁.setTop (mkF m 0 #[.val (.ref r0)] [])) (fun t k => castTop (efGsource m r0) k) ?_
  obtain ⟨T1, X1, e1, st1⟩ := getF X0 hx hZ hown (host := "") (Or.inl (own_w hw 26)) Via.refl e0 Ff (g := (mkF m 1 #[.val (.ref r0)] [(.ref r0)])) rfl rfl (hb hby dprog_52_7_1)
  obtain ⟨fs, hr, hrun, hended, hW, hsame⟩ := X1.leave (v := some .null) (fun h => by rw [Bd.returns] at h; cases h)
  refine own_by (W' := (T1.setTop (mkF m 4 #[.val (.ref r0)] [.null]))) (fun t k => XS.aloadN X0.here hx rfl (hb hby dprog_52_7_0) rfl rfl (st1 _ k)) ?_
  refine ⟨_, _, retOut X1 hx Bd.returns rfl (Or.inr (Or.inr (Or.inr (Or.inr ⟨rfl, rfl, rfl⟩)))) (hb hby dprog_52_7_4) hr, hrun, hended, _, _, rfl, ?_, ⟨_, rfl⟩, hW, hsame.mono (by decide) (by decide)⟩
  exact ⟨rfl, N0, e1⟩
theorem dprog_52_8_0 : decode prog_52_method_8_code 0 = .ok (.aload_n 0, 1) := by decide +kernel
theorem dprog_52_8_1 : decode prog_52_method_8_code 1 = .ok (.getfield 17, 3) := by decide +kernel
theorem dprog_52_8_4 : decode prog_52_method_8_code 4 = .ok (.areturn, 1) := by decide +kernel
theorem efGversion (m : MethodId) (r0 : Addr) : entryFrame m #[(.ref r0)] 1 = mkF m 0 #[.val (.ref r0)] [] := by first | (simp [entryFrame, mkF, argsToLocals, Value.category]; done) | rfl
def QGversion (Z : State) (r0 : Addr) (h0 : Heap) (n0 : Nat) (v : Option Value) (h : Heap) (L : List Loc) : Prop := v = some .null ∧ Fr n0 L ∧ h = h0
abbrev own_KGversion (Z : State) (r0 : Addr) (h0 : Heap) (n0 : Nat) (s : State) : Outcome → State → Prop := fun o U' => ∃ v L, o = .returned v ∧ QGversion Z r0 h0 n0 v U'.heap L ∧ FrameEnd s o U' L ({ frames := 0, cells := 0, slots := 0, locals := 0 } : Room).cells ({ frames := 0, cells := 0, slots := 0, locals := 0 } : Room).slots
set_option maxRecDepth 65536 in
set_option maxHeartbeats 40000000 in
theorem rmGversion (l : Launch) (Z : State) (a0 : Array Value) (hw : ∀ d ∈ tables_1, d.before a0 Z = true) (ws : List Jvm.Cond) (r0 : Addr) (h0 : Heap) (n0 : Nat) (Z0 : n0 ≤ h0.size) (Ff : Fld Z h0 r0 "com/example/slipway/slipway/VersionedFiles$Choice" "version" "Lcom/example/slipway/slipway/VersionId;" .null) :
    MetFree l (⟨"com/example/slipway/slipway/VersionedFiles$Choice", "version", "()Lcom/example/slipway/slipway/VersionId;"⟩ : MethodName) (head1 (Jvm.Cond.code (⟨"com/example/slipway/slipway/VersionedFiles$Choice", "version", "()Lcom/example/slipway/slipway/VersionId;"⟩ : MethodName) prog_52_method_8_code 1 (some (.object "com/example/slipway/slipway/VersionId")) :: ws) ({ frames := 0, cells := 0, slots := 0, locals := 0 } : Room)) (fun a U => a = #[(.ref r0)] ∧ Z.Warmed39 U.vm ∧ U.heap = h0) (fun _ _ _ _ _ => True) (fun _ U o U' => ∃ v L, o = .returned v ∧ QGversion Z r0 h0 n0 v U'.heap L ∧ FrameEnd U o U' L ({ frames := 0, cells := 0, slots := 0, locals := 0 } : Room).cells ({ frames := 0, cells := 0, slots := 0, locals := 0 } : Room).slots) := by
  refine MetFree.of_bodySF (plainFor_of_name pn_com_example_slipway_slipway_VersionedFiles_Choice) hisR ?_
  intro p e s m args below meth c s₁ Bd hml0 hP hK
  obtain ⟨rfl, hZ, hh⟩ := hP
  have hx := Bd.exec
  have hby := Bd.bytes
  have hml : c.maxLocals = 1 := hml0
  have hown : s.vm.findClass "com/example/slipway/slipway/VersionedFiles$Choice" = some m.cls := findClass_of_methodNamed Bd.named
  have hnm := (name_of_methodNamed Bd.named Bd.method).1
  have X0 : Stand p l e ({ frames := 0, cells := 0, slots := 0, locals := 0 } : Room) s m #[(.ref r0)] below meth c s₁ [] 0 0 := Stand.of_body Bd
  have e0 : s₁.heap = h0 := by rw [← hh, Bd.state]; rfl
  have N0 := Fr.nil n0
  refine own_by (p := p) (e := e) (below := below) (K := own_KGversion Z r0 h0 n0 s) (W' := s₁.setTop (mkF m 0 #[.val (.ref r0)] [])) (fun t k => castTop (efGversion m r0) k) ?_
  obtain ⟨T1, X1, e1, st1⟩ := getF X0 hx hZ hown (host := "") (Or.inl (own_w hw 28)) Via.refl e0 Ff (g := (mkF m 1 #[.val (.ref r0)] [(.ref r0)])) rfl rfl (hb hby dprog_52_8_1)
  obtain ⟨fs, hr, hrun, hended, hW, hsame⟩ := X1.leave (v := some .null) (fun h => by rw [Bd.returns] at h; cases h)
  refine own_by (W' := (T1.setTop (mkF m 4 #[.val (.ref r0)] [.null]))) (fun t k => XS.aloadN X0.here hx rfl (hb hby dprog_52_8_0) rfl rfl (st1 _ k)) ?_
  refine ⟨_, _, retOut X1 hx Bd.returns rfl (Or.inr (Or.inr (Or.inr (Or.inr ⟨rfl, rfl, rfl⟩)))) (hb hby dprog_52_8_4) hr, hrun, hended, _, _, rfl, ?_, ⟨_, rfl⟩, hW, hsame.mono (by decide) (by decide)⟩
  exact ⟨rfl, N0, e1⟩
theorem dprog_52_9_0 : decode prog_52_method_9_code 0 = .ok (.aload_n 0, 1) := by decide +kernel
theorem dprog_52_9_1 : decode prog_52_method_9_code 1 = .ok (.getfield 21, 3) := by decide +kernel
theorem dprog_52_9_4 : decode prog_52_method_9_code 4 = .ok (.areturn, 1) := by decide +kernel
theorem efGerror (m : MethodId) (r0 : Addr) : entryFrame m #[(.ref r0)] 1 = mkF m 0 #[.val (.ref r0)] [] := by first | (simp [entryFrame, mkF, argsToLocals, Value.category]; done) | rfl
def QGerror (Z : State) (r0 : Addr) (x : Addr) (h0 : Heap) (n0 : Nat) (v : Option Value) (h : Heap) (L : List Loc) : Prop := v = some (.ref x) ∧ Fr n0 L ∧ h = h0
abbrev own_KGerror (Z : State) (r0 : Addr) (x : Addr) (h0 : Heap) (n0 : Nat) (s : State) : Outcome → State → Prop := fun o U' => ∃ v L, o = .returned v ∧ QGerror Z r0 x h0 n0 v U'.heap L ∧ FrameEnd s o U' L ({ frames := 0, cells := 0, slots := 0, locals := 0 } : Room).cells ({ frames := 0, cells := 0, slots := 0, locals := 0 } : Room).slots
set_option maxRecDepth 65536 in
set_option maxHeartbeats 40000000 in
theorem rmGerror (l : Launch) (Z : State) (a0 : Array Value) (hw : ∀ d ∈ tables_1, d.before a0 Z = true) (ws : List Jvm.Cond) (r0 : Addr) (x : Addr) (h0 : Heap) (n0 : Nat) (Z0 : n0 ≤ h0.size) (Ff : Fld Z h0 r0 "com/example/slipway/slipway/VersionedFiles$Choice" "error" "Lcom/example/slipway/slipway/JnlpError;" (.ref x)) :
    MetFree l (⟨"com/example/slipway/slipway/VersionedFiles$Choice", "error", "()Lcom/example/slipway/slipway/JnlpError;"⟩ : MethodName) (head1 (Jvm.Cond.code (⟨"com/example/slipway/slipway/VersionedFiles$Choice", "error", "()Lcom/example/slipway/slipway/JnlpError;"⟩ : MethodName) prog_52_method_9_code 1 (some (.object "com/example/slipway/slipway/JnlpError")) :: ws) ({ frames := 0, cells := 0, slots := 0, locals := 0 } : Room)) (fun a U => a = #[(.ref r0)] ∧ Z.Warmed39 U.vm ∧ U.heap = h0) (fun _ _ _ _ _ => True) (fun _ U o U' => ∃ v L, o = .returned v ∧ QGerror Z r0 x h0 n0 v U'.heap L ∧ FrameEnd U o U' L ({ frames := 0, cells := 0, slots := 0, locals := 0 } : Room).cells ({ frames := 0, cells := 0, slots := 0, locals := 0 } : Room).slots) := by
  refine MetFree.of_bodySF (plainFor_of_name pn_com_example_slipway_slipway_VersionedFiles_Choice) hisR ?_
  intro p e s m args below meth c s₁ Bd hml0 hP hK
  obtain ⟨rfl, hZ, hh⟩ := hP
  have hx := Bd.exec
  have hby := Bd.bytes
  have hml : c.maxLocals = 1 := hml0
  have hown : s.vm.findClass "com/example/slipway/slipway/VersionedFiles$Choice" = some m.cls := findClass_of_methodNamed Bd.named
  have hnm := (name_of_methodNamed Bd.named Bd.method).1
  have X0 : Stand p l e ({ frames := 0, cells := 0, slots := 0, locals := 0 } : Room) s m #[(.ref r0)] below meth c s₁ [] 0 0 := Stand.of_body Bd
  have e0 : s₁.heap = h0 := by rw [← hh, Bd.state]; rfl
  have N0 := Fr.nil n0
  refine own_by (p := p) (e := e) (below := below) (K := own_KGerror Z r0 x h0 n0 s) (W' := s₁.setTop (mkF m 0 #[.val (.ref r0)] [])) (fun t k => castTop (efGerror m r0) k) ?_
  obtain ⟨T1, X1, e1, st1⟩ := getF X0 hx hZ hown (host := "") (Or.inl (own_w hw 30)) Via.refl e0 Ff (g := (mkF m 1 #[.val (.ref r0)] [(.ref r0)])) rfl rfl (hb hby dprog_52_9_1)
  obtain ⟨fs, hr, hrun, hended, hW, hsame⟩ := X1.leave (v := some (.ref x)) (fun h => by rw [Bd.returns] at h; cases h)
  refine own_by (W' := (T1.setTop (mkF m 4 #[.val (.ref r0)] [(.ref x)]))) (fun t k => XS.aloadN X0.here hx rfl (hb hby dprog_52_9_0) rfl rfl (st1 _ k)) ?_
  refine ⟨_, _, retOut X1 hx Bd.returns rfl (Or.inr (Or.inr (Or.inr (Or.inr ⟨rfl, rfl, rfl⟩)))) (hb hby dprog_52_9_4) hr, hrun, hended, _, _, rfl, ?_, ⟨_, rfl⟩, hW, hsame.mono (by decide) (by decide)⟩
  exact ⟨rfl, N0, e1⟩
theorem pd_3 : parseMethodDescriptor "(I)Lcom/example/slipway/slipway/JnlpError;" = some ⟨[.int], some (.object "com/example/slipway/slipway/JnlpError")⟩ := by decide +kernel
theorem pd_4 : parseMethodDescriptor "(Lcom/example/slipway/slipway/JnlpError;)Lcom/example/slipway/slipway/VersionedFiles$Choice;" = some ⟨[(.object "com/example/slipway/slipway/JnlpError")], some (.object "com/example/slipway/slipway/VersionedFiles$Choice")⟩ := by decide +kernel
theorem pd_5 : parseMethodDescriptor "()Ljava/lang/String;" = some ⟨[], some (.object "java/lang/String")⟩ := by decide +kernel
theorem pd_6 : parseMethodDescriptor "()Ljava/nio/file/Path;" = some ⟨[], some (.object "java/nio/file/Path")⟩ := by decide +kernel
theorem pd_7 : parseMethodDescriptor "()Lcom/example/slipway/slipway/VersionId;" = some ⟨[], some (.object "com/example/slipway/slipway/VersionId")⟩ := by decide +kernel
theorem pd_8 : parseMethodDescriptor "()Lcom/example/slipway/slipway/JnlpError;" = some ⟨[], some (.object "com/example/slipway/slipway/JnlpError")⟩ := by decide +kernel
theorem efL (m : MethodId) (p0 : Int32) : entryFrame m #[(.int p0)] maxLocals = mkF m 0 #[.val (.int p0), .unset, .unset] [] := by first | (simp [entryFrame, mkF, argsToLocals, Value.category, maxLocals]; done) | rfl
def QL (Z : State) (p0 : Int32) (wNO_RESOURCE : Addr) (wNO_MATCH : Addr) (wBAD_VERSION_STRING : Addr) (wBAD_VERSION_XML : Addr) (h0 : Heap) (n0 : Nat) (v : Option Value) (h : Heap) (L : List Loc) : Prop := v = some (.int 1) ∧ Fr n0 L
abbrev own_KL (Z : State) (p0 : Int32) (wNO_RESOURCE : Addr) (wNO_MATCH : Addr) (wBAD_VERSION_STRING : Addr) (wBAD_VERSION_XML : Addr) (h0 : Heap) (n0 : Nat) (s : State) : Outcome → State → Prop := fun o U' => ∃ v L, o = .returned v ∧ QL Z p0 wNO_RESOURCE wNO_MATCH wBAD_VERSION_STRING wBAD_VERSION_XML h0 n0 v U'.heap L ∧ FrameEnd s o U' L room_1.cells room_1.slots
set_option maxRecDepth 65536 in
set_option maxHeartbeats 40000000 in
theorem rmL (l : Launch) (Z : State) (a0 : Array Value) (hw : ∀ d ∈ tables_1, d.before a0 Z = true) (ws : List Jvm.Cond) (p0 : Int32) (wNO_RESOURCE : Addr) (wNO_MATCH : Addr) (wBAD_VERSION_STRING : Addr) (wBAD_VERSION_XML : Addr) (h0 : Heap) (n0 : Nat) (Z0 : n0 ≤ h0.size) (O0 : Old Z n0 h0) (HW : own_Wd Z wNO_RESOURCE wNO_MATCH wBAD_VERSION_STRING wBAD_VERSION_XML) :
    MetFree l x (head1 (Jvm.Cond.code x code maxLocals ret :: ws) room_1) (fun a U => a = #[(.int p0)] ∧ Z.Warmed39 U.vm ∧ U.heap = h0) (fun _ _ _ _ _ => True) (fun _ U o U' => ∃ v L, o = .returned v ∧ QL Z p0 wNO_RESOURCE wNO_MATCH wBAD_VERSION_STRING wBAD_VERSION_XML h0 n0 v U'.heap L ∧ FrameEnd U o U' L room_1.cells room_1.slots) := by
  refine MetFree.of_bodySF (plainFor_of_name pn_com_example_slipway_slipway_ChoiceFailedPinLaw) hisR ?_
  intro p e s m args below meth c s₁ Bd hml0 hP hK
  obtain ⟨rfl, hZ, hh⟩ := hP
  have hx := Bd.exec
  have hby := Bd.bytes
  have hml : c.maxLocals = 3 := hml0
  have hown : s.vm.findClass "com/example/slipway/slipway/ChoiceFailedPinLaw" = some m.cls := findClass_of_methodNamed Bd.named
  have hnm := (name_of_methodNamed Bd.named Bd.method).1
  have X0 : Stand p l e room_1 s m #[(.int p0)] below meth c s₁ [] 0 0 := Stand.of_body Bd
  have e0 : s₁.heap = h0 := by rw [← hh, Bd.state]; rfl
  have N0 := Fr.nil n0
  refine own_by (p := p) (e := e) (below := below) (K := own_KL Z p0 wNO_RESOURCE wNO_MATCH wBAD_VERSION_STRING wBAD_VERSION_XML h0 n0 s) (W' := s₁.setTop (mkF m 0 #[.val (.int p0), .unset, .unset] [])) (fun t k => castTop (efL m p0) k) ?_
  obtain ⟨_, _, ⟨T1, L1, k1, n1⟩, -, X1, ⟨Lc1, hQ1, l1, y1, z1⟩, st1⟩ := Jvm.LawKit.callS X0 hx (y := (⟨"com/example/slipway/slipway/ChoiceFailedPinLaw", "pick", "(I)Lcom/example/slipway/slipway/JnlpError;"⟩ : MethodName)) hown (mvT hZ (own_w hw 0)) (mvT hZ (own_w hw 1)) (mvT hZ (own_w hw 2)) (mvT hZ (own_w hw 3)) (by decide) (backOf (W := 0) (rm1 l Z a0 hw [] p0 wNO_RESOURCE wNO_MATCH wBAD_VERSION_STRING wBAD_VERSION_XML h0 n0 Z0 O0 HW) hZ (own_w hw 3) (own_w hw 2) (by decide) (by decide)) (g := (mkF m 1 #[.val (.int p0), .unset, .unset] [(.int p0)])) rfl (by rw [hml]; rfl) (argsL := [(.int p0)]) (rest := []) (lenOf pd_3 rfl) rfl (by show 2 * 0 + _ ≤ _; exact Nat.le_of_eq rfl) (hb hby at_1) (fun _ _ => ⟨rfl, e0, (by decide : 0 + 0 ≤ _), (by decide : 0 + 0 ≤ _)⟩)
  dsimp only [Pt.U, Pt.locs, Pt.cells, Pt.slots] at X1 l1 y1 z1 st1 hQ1
  subst l1 y1 z1
  obtain ⟨rfl, N1q, e1⟩ := hQ1
  have N1 := Fr.app N0 N1q
  obtain ⟨_, _, ⟨T2, L2, k2, n2⟩, -, X2, ⟨Lc2, hQ2, l2, y2, z2⟩, st2⟩ := Jvm.LawKit.callS X1 hx (y := (⟨"com/example/slipway/slipway/VersionedFiles$Choice", "failed", "(Lcom/example/slipway/slipway/JnlpError;)Lcom/example/slipway/slipway/VersionedFiles$Choice;"⟩ : MethodName)) hown (mvT hZ (own_w hw 7)) (mvT hZ (own_w hw 8)) (mvT hZ (own_w hw 9)) (mvT hZ (own_w hw 10)) (by decide) (backOf (W := 0) (rmF l Z a0 hw [] (F1 p0 wNO_RESOURCE wNO_MATCH wBAD_VERSION_STRING wBAD_VERSION_XML) h0 n0 Z0 O0) hZ (own_w hw 10) (own_w hw 9) (by decide) (by decide)) (g := (mkF m 6 #[.val (.int p0), .val (.ref (F1 p0 wNO_RESOURCE wNO_MATCH wBAD_VERSION_STRING wBAD_VERSION_XML)), .unset] [(.ref (F1 p0 wNO_RESOURCE wNO_MATCH wBAD_VERSION_STRING wBAD_VERSION_XML))])) rfl (by rw [hml]; rfl) (argsL := [(.ref (F1 p0 wNO_RESOURCE wNO_MATCH wBAD_VERSION_STRING wBAD_VERSION_XML))]) (rest := []) (lenOf pd_4 rfl) rfl (by show 2 * 0 + _ ≤ _; exact Nat.le_of_eq rfl) (hb hby at_6) (fun _ _ => ⟨rfl, e1, (by decide : 0 + 1 ≤ _), (by decide : 0 + 4 ≤ _)⟩)
  dsimp only [Pt.U, Pt.locs, Pt.cells, Pt.slots] at X2 l2 y2 z2 st2 hQ2
  subst l2 y2 z2
  obtain ⟨q2, rfl, N2q, Kq2, Eq2, Fq2_file, Fq2_source, Fq2_version, Fq2_error⟩ := hQ2
  have O2 := Old.keep O0 Kq2 all0
  have K2 := Keep.trans (Keep.refl h0 []) Kq2 all0
  have N2 := Fr.app N1 N2q
  refine own_by (W' := (T2.setTop (mkF m 10 #[.val (.int p0), .val (.ref (F1 p0 wNO_RESOURCE wNO_MATCH wBAD_VERSION_STRING wBAD_VERSION_XML)), .val (.ref q2)] []))) (fun t k => XS.iloadN X0.here hx rfl (hb hby at_0) rfl (st1 _ (XS.astoreN X1.here hx rfl (hb hby at_4) rfl rfl (l' := #[.val (.int p0), .val (.ref (F1 p0 wNO_RESOURCE wNO_MATCH wBAD_VERSION_STRING wBAD_VERSION_XML)), .unset]) rfl (XS.aloadN X1.here hx rfl (hb hby at_5) rfl rfl (st2 _ (XS.astoreN X2.here hx rfl (hb hby at_9) rfl rfl (l' := #[.val (.int p0), .val (.ref (F1 p0 wNO_RESOURCE wNO_MATCH wBAD_VERSION_STRING wBAD_VERSION_XML)), .val (.ref q2)]) rfl k)))))) ?_
  obtain ⟨cq3, kq3, q3a, q3b, q3c⟩ := isOf hZ rfl Eq2
  obtain ⟨_, _, ⟨T3, L3, k3, n3⟩, -, X3, ⟨Lc3, hQ3, l3, y3, z3⟩, st3⟩ := X2.virtualBack hx (y := (⟨"com/example/slipway/slipway/VersionedFiles$Choice", "file", "()Ljava/lang/String;"⟩ : MethodName)) (z := (⟨"com/example/slipway/slipway/VersionedFiles$Choice", "file", "()Ljava/lang/String;"⟩ : MethodName)) hown (mvT hZ (own_w hw 32)) (mvT hZ (own_w hw 33)) (notFace_of_selects (args := #[]) (mvT hZ (own_w hw 35))) (mvT hZ (own_w hw 35)) (mvT hZ (own_w hw 34)) (by decide) (backOf (W := 0) (rmGfile l Z a0 hw [] q2 T2.heap n0 (own_le O2) Fq2_file) hZ (own_w hw 36) (own_w hw 9) (by decide) (by decide)) q3a q3c (g := (mkF m 15 #[.val (.int p0), .val (.ref (F1 p0 wNO_RESOURCE wNO_MATCH wBAD_VERSION_STRING wBAD_VERSION_XML)), .val (.ref q2)] [(.ref q2)])) rfl (by rw [hml]; rfl) (Steps.refl _) (argsL := []) (rest := []) (lenOf pd_5 rfl) rfl (by show 2 * 0 + _ ≤ _; exact Nat.le_of_eq rfl) (hb hby at_15) (fun _ _ => ⟨rfl, rfl, (by decide : 1 + 0 ≤ _), (by decide : 4 + 0 ≤ _)⟩)
  dsimp only [Pt.U, Pt.locs, Pt.cells, Pt.slots] at X3 l3 y3 z3 st3 hQ3
  subst l3 y3 z3
  obtain ⟨rfl, N3q, e3⟩ := hQ3
  have N3 := Fr.app N2 N3q
  refine own_by (W' := (T3.setTop (mkF m 22 #[.val (.int p0), .val (.ref (F1 p0 wNO_RESOURCE wNO_MATCH wBAD_VERSION_STRING wBAD_VERSION_XML)), .val (.ref q2)] [(.ref q2)]))) (fun t k => XS.aloadN X2.here hx rfl (hb hby at_10) rfl rfl (XS.ifnullNo X2.here hx rfl (hb hby at_11) rfl (XS.aloadN X2.here hx rfl (hb hby at_14) rfl rfl (Steps.trans st3 (XS.ifnonnullNo X3.here hx rfl (hb hby at_18) rfl (XS.aloadN X3.here hx rfl (hb hby at_21) rfl rfl k)))))) ?_
  obtain ⟨cq4, kq4, q4a, q4b, q4c⟩ := isOf hZ e3 Eq2
  obtain ⟨_, _, ⟨T4, L4, k4, n4⟩, -, X4, ⟨Lc4, hQ4, l4, y4, z4⟩, st4⟩ := X3.virtualBack hx (y := (⟨"com/example/slipway/slipway/VersionedFiles$Choice", "source", "()Ljava/nio/file/Path;"⟩ : MethodName)) (z := (⟨"com/example/slipway/slipway/VersionedFiles$Choice", "source", "()Ljava/nio/file/Path;"⟩ : MethodName)) hown (mvT hZ (own_w hw 37)) (mvT hZ (own_w hw 38)) (notFace_of_selects (args := #[]) (mvT hZ (own_w hw 40))) (mvT hZ (own_w hw 40)) (mvT hZ (own_w hw 39)) (by decide) (backOf (W := 0) (rmGsource l Z a0 hw [] q2 T2.heap n0 (own_le O2) Fq2_source) hZ (own_w hw 41) (own_w hw 9) (by decide) (by decide)) q4a q4c (g := (mkF m 22 #[.val (.int p0), .val (.ref (F1 p0 wNO_RESOURCE wNO_MATCH wBAD_VERSION_STRING wBAD_VERSION_XML)), .val (.ref q2)] [(.ref q2)])) rfl (by rw [hml]; rfl) (Steps.refl _) (argsL := []) (rest := []) (lenOf pd_6 rfl) rfl (by show 2 * 0 + _ ≤ _; exact Nat.le_of_eq rfl) (hb hby at_22) (fun _ _ => ⟨rfl, e3, (by decide : 1 + 0 ≤ _), (by decide : 4 + 0 ≤ _)⟩)
  dsimp only [Pt.U, Pt.locs, Pt.cells, Pt.slots] at X4 l4 y4 z4 st4 hQ4
  subst l4 y4 z4
  obtain ⟨rfl, N4q, e4⟩ := hQ4
  have N4 := Fr.app N3 N4q
  obtain ⟨cq5, kq5, q5a, q5b, q5c⟩ := isOf hZ e4 Eq2
  obtain ⟨_, _, ⟨T5, L5, k5, n5⟩, -, X5, ⟨Lc5, hQ5, l5, y5, z5⟩, st5⟩ := X4.virtualBack hx (y := (⟨"com/example/slipway/slipway/VersionedFiles$Choice", "version", "()Lcom/example/slipway/slipway/VersionId;"⟩ : MethodName)) (z := (⟨"com/example/slipway/slipway/VersionedFiles$Choice", "version", "()Lcom/example/slipway/slipway/VersionId;"⟩ : MethodName)) hown (mvT hZ (own_w hw 42)) (mvT hZ (own_w hw 43)) (notFace_of_selects (args := #[]) (mvT hZ (own_w hw 45))) (mvT hZ (own_w hw 45)) (mvT hZ (own_w hw 44)) (by decide) (backOf (W := 0) (rmGversion l Z a0 hw [] q2 T2.heap n0 (own_le O2) Fq2_version) hZ (own_w hw 46) (own_w hw 9) (by decide) (by decide)) q5a q5c (g := (mkF m 29 #[.val (.int p0), .val (.ref (F1 p0 wNO_RESOURCE wNO_MATCH wBAD_VERSION_STRING wBAD_VERSION_XML)), .val (.ref q2)] [(.ref q2)])) rfl (by rw [hml]; rfl) (Steps.refl _) (argsL := []) (rest := []) (lenOf pd_7 rfl) rfl (by show 2 * 0 + _ ≤ _; exact Nat.le_of_eq rfl) (hb hby at_29) (fun _ _ => ⟨rfl, e4, (by decide : 1 + 0 ≤ _), (by decide : 4 + 0 ≤ _)⟩)
  dsimp only [Pt.U, Pt.locs, Pt.cells, Pt.slots] at X5 l5 y5 z5 st5 hQ5
  subst l5 y5 z5
  obtain ⟨rfl, N5q, e5⟩ := hQ5
  have N5 := Fr.app N4 N5q
  refine own_by (W' := (T5.setTop (mkF m 36 #[.val (.int p0), .val (.ref (F1 p0 wNO_RESOURCE wNO_MATCH wBAD_VERSION_STRING wBAD_VERSION_XML)), .val (.ref q2)] [(.ref q2)]))) (fun t k => Steps.trans st4 (XS.ifnonnullNo X4.here hx rfl (hb hby at_25) rfl (XS.aloadN X4.here hx rfl (hb hby at_28) rfl rfl (Steps.trans st5 (XS.ifnonnullNo X5.here hx rfl (hb hby at_32) rfl (XS.aloadN X5.here hx rfl (hb hby at_35) rfl rfl k)))))) ?_
  obtain ⟨cq6, kq6, q6a, q6b, q6c⟩ := isOf hZ e5 Eq2
  obtain ⟨_, _, ⟨T6, L6, k6, n6⟩, -, X6, ⟨Lc6, hQ6, l6, y6, z6⟩, st6⟩ := X5.virtualBack hx (y := (⟨"com/example/slipway/slipway/VersionedFiles$Choice", "error", "()Lcom/example/slipway/slipway/JnlpError;"⟩ : MethodName)) (z := (⟨"com/example/slipway/slipway/VersionedFiles$Choice", "error", "()Lcom/example/slipway/slipway/JnlpError;"⟩ : MethodName)) hown (mvT hZ (own_w hw 47)) (mvT hZ (own_w hw 48)) (notFace_of_selects (args := #[]) (mvT hZ (own_w hw 50))) (mvT hZ (own_w hw 50)) (mvT hZ (own_w hw 49)) (by decide) (backOf (W := 0) (rmGerror l Z a0 hw [] q2 (F1 p0 wNO_RESOURCE wNO_MATCH wBAD_VERSION_STRING wBAD_VERSION_XML) T2.heap n0 (own_le O2) Fq2_error) hZ (own_w hw 51) (own_w hw 9) (by decide) (by decide)) q6a q6c (g := (mkF m 36 #[.val (.int p0), .val (.ref (F1 p0 wNO_RESOURCE wNO_MATCH wBAD_VERSION_STRING wBAD_VERSION_XML)), .val (.ref q2)] [(.ref q2)])) rfl (by rw [hml]; rfl) (Steps.refl _) (argsL := []) (rest := []) (lenOf pd_8 rfl) rfl (by show 2 * 0 + _ ≤ _; exact Nat.le_of_eq rfl) (hb hby at_36) (fun _ _ => ⟨rfl, e5, (by decide : 1 + 0 ≤ _), (by decide : 4 + 0 ≤ _)⟩)
  dsimp only [Pt.U, Pt.locs, Pt.cells, Pt.slots] at X6 l6 y6 z6 st6 hQ6
  subst l6 y6 z6
  obtain ⟨rfl, N6q, e6⟩ := hQ6
  have N6 := Fr.app N5 N6q
  obtain ⟨fs, hr, hrun, hended, hW, hsame⟩ := X6.leave (v := some (.int (1 : Int32))) (fun h => by rw [Bd.returns] at h; cases h)
  refine own_by (W' := (T6.setTop (mkF m 48 #[.val (.int p0), .val (.ref (F1 p0 wNO_RESOURCE wNO_MATCH wBAD_VERSION_STRING wBAD_VERSION_XML)), .val (.ref q2)] [(.int (1 : Int32))]))) (fun t k => Steps.trans st6 (XS.aloadN X6.here hx rfl (hb hby at_39) rfl rfl (Jvm.RoadKit.acmp (g := (mkF m 40 #[.val (.int p0), .val (.ref (F1 p0 wNO_RESOURCE wNO_MATCH wBAD_VERSION_STRING wBAD_VERSION_XML)), .val (.ref q2)] [(.ref (F1 p0 wNO_RESOURCE wNO_MATCH wBAD_VERSION_STRING wBAD_VERSION_XML)), (.ref (F1 p0 wNO_RESOURCE wNO_MATCH wBAD_VERSION_STRING wBAD_VERSION_XML))])) X6 hx rfl rfl rfl (pc0 := 40) (pc' := 43) (same := true) rfl (hb hby at_40) rfl (decide_eq_true rfl) (by decide) (by decide) (XS.iconst X6.here hx rfl (hb hby at_43) (XS.goto X6.here hx rfl (pc0 := 44) (pc' := 48) rfl (hb hby at_44) (by decide) (by decide) k))))) ?_
  refine ⟨_, _, retOut X6 hx Bd.returns rfl (Or.inl ⟨rfl, Or.inr (Or.inl rfl), _, rfl⟩) (hb hby at_48) hr, hrun, hended, _, _, rfl, ?_, ⟨_, rfl⟩, hW, hsame.mono (by decide) (by decide)⟩
  exact ⟨rfl, N6⟩
set_option maxRecDepth 65536 in
set_option maxHeartbeats 40000000 in
theorem comes_1 {Post : Tables → Env → Array Value → State → Outcome → State → Prop} (hpost : ∀ tb e args s v u, (limb_1_1.after args s (.returned v) u = true ∧ limb_1_2.after args s (.returned v) u = true ∧ True) → FrameEnd s (.returned v) u (Jvm.fieldLocs frame_1_writes args s ++ Jvm.arrayLocs frame_1_arrays args s ++ Jvm.staticLocs frame_1_statics s) 16 128 → Post tb e args s (.returned v) u) :
    ArmFor flags0 classFile x code maxLocals ret World_1 tables_1 room_1 Calls_1 rest_1 Pre_1 Post := by
  intro l hfl _ _ p e ha hc hk s m args below hf hA hF happ hP
  obtain ⟨hcalls, hrest, hpre⟩ := hP
  obtain ⟨-, -, -, hnamed, -, -, -, hat⟩ := (Spec.applies_iff hf).mp happ
  obtain ⟨hg, hn⟩ := and_e (Cond.before_iff.mp (show (Jvm.Cond.and given_1 narrow_1).before args s = true from hpre))
  obtain ⟨ga1, gb1⟩ := and_e hg
  obtain ⟨w0, rfl⟩ : ∃ w0 : Value, args = #[w0] := by
    have hs : args.size = 1 := by simpa [Cond.value, given_1] using ga1
    obtain ⟨L⟩ := args
    match L, hs with
    | [w0], _ => exact ⟨w0, rfl⟩
  have hw := fun d (hd : d ∈ tables_1) => atoms_spec (ws := Jvm.Cond.code x code maxLocals ret :: tables_1) hat d (List.mem_cons_of_mem _ hd)
  have hfit : Fit s := fun {y c} hc i hi => by
    obtain ⟨ha, rfl⟩ := Array.getElem?_eq_some_iff.mp hc
    have q := List.all_eq_true.mp ((Array.all_eq_true_iff_forall_mem.mp hF) _ (Array.getElem_mem ha)) i (List.mem_range.mpr hi)
    simpa [Array.getElem?_eq_getElem hi] using q
  obtain ⟨i0, ei0⟩ := is_v gb1
  obtain rfl : w0 = (.int i0) := Option.some.inj ei0
  obtain ⟨ga2, gb2⟩ := and_e hn
  obtain ⟨ga3, gb3⟩ := and_e gb2
  obtain ⟨ga4, gb4⟩ := and_e gb3
  obtain ⟨wNO_RESOURCE, ev_wNO_RESOURCE, Sx_wNO_RESOURCE, Ex_wNO_RESOURCE⟩ := own_sta ga2 (Or.inr ⟨(own_w hw 5), (own_w hw 6)⟩)
  obtain ⟨wNO_MATCH, ev_wNO_MATCH, Sx_wNO_MATCH, Ex_wNO_MATCH⟩ := own_sta gb4 (Or.inr ⟨(own_w hw 5), (own_w hw 57)⟩)
  obtain ⟨wBAD_VERSION_STRING, ev_wBAD_VERSION_STRING, Sx_wBAD_VERSION_STRING, Ex_wBAD_VERSION_STRING⟩ := own_sta ga4 (Or.inr ⟨(own_w hw 5), (own_w hw 55)⟩)
  obtain ⟨wBAD_VERSION_XML, ev_wBAD_VERSION_XML, Sx_wBAD_VERSION_XML, Ex_wBAD_VERSION_XML⟩ := own_sta ga3 (Or.inr ⟨(own_w hw 5), (own_w hw 53)⟩)
  obtain ⟨n, o, h1, h2, h3, _, L, rfl, ⟨rfl, N⟩, hq⟩ := rmL l s _ hw tables_1 i0 wNO_RESOURCE wNO_MATCH wBAD_VERSION_STRING wBAD_VERSION_XML s.heap s.heap.size (Nat.le_refl _) (Old.start s) ⟨Sx_wNO_RESOURCE, Ex_wNO_RESOURCE, Sx_wNO_MATCH, Ex_wNO_MATCH, Sx_wBAD_VERSION_STRING, Ex_wBAD_VERSION_STRING, Sx_wBAD_VERSION_XML, Ex_wBAD_VERSION_XML⟩ p e ha hc hk s m _ below hf ((Spec.applies_iff_loose hf).mp happ).1 ⟨rfl, State.Warmed39.refl s, rfl⟩ trivial
  refine ⟨n, _, h1, h2, h3, hpost _ _ _ _ _ _ ⟨Cond.after_iff.mpr rfl, Cond.after_iff.mpr (eq_i res_at (Term.int_eval (1)) rfl), trivial⟩ ⟨hq.1, hq.2.1, (hq.2.2.sift fun y hy => Or.inr (N y hy)).mono (by decide) (by decide)⟩⟩
theorem main_1_1 : Claimed_1_1 := comes_1 fun _ _ _ _ _ _ h hF => ⟨h.1, hF⟩
theorem main_1_2 : Claimed_1_2 := comes_1 fun _ _ _ _ _ _ h hF => ⟨h.2.1, hF⟩
end Jvm.Pilot.@@N@@
namespace Jvm.Pilot.@@N@@
open Jvm Jvm.ClassFile Sem Op Lib Jvm.Free Jvm.Stand Jvm.Pilot.@@N@@.Jvm.D
/-! MADE BY PROGRAM (witnessworld.py) out of the Statement's table words and the real class files: 14 classes; the members and pool entries that the words name. The judged class is class 1, her method 2. -/
namespace start1
open Jvm.ClassFile
def u (s : String) : CpInfo := .utf8 (stringToUtf16 s)
/-- a pool by its gaps: so many unusable entries, then the entry; so many at the end -/
def gap : Nat → List CpInfo → List CpInfo
  | 0, r => r
  | n + 1, r => .unusable :: gap n r
def poolList (es : List (Nat × CpInfo)) (last : Nat) : List CpInfo := es.foldr (fun e r => gap e.1 (e.2 :: r)) (gap last [])
def pool (es : List (Nat × CpInfo)) (last : Nat) : Array CpInfo := ⟨poolList es last⟩
def fileOf (pool : Array CpInfo) (this : Nat) (attrs : Array Attribute := #[]) (ms : Array MethodInfo := #[]) (fl : Nat := 33) (sup : Nat := 0) (ifs : Array Nat := #[]) (fds : Array FieldInfo := #[]) : ClassFile where
  minorVersion := 0
  majorVersion := 65
  constantPool := pool
  accessFlags := fl
  thisClass := this
  superClass := sup
  interfaces := ifs
  fields := fds
  methods := ms
  attributes := attrs
def plain (name : String) (sup : Option ClassId) : Class where
  name := name
  kind := .ordinary
  loader := none
  accessFlags := 33
  super := sup
  interfaces := #[]
  cf := none
  fields := #[]
  methods := #[]
  instanceTypes := #[]
  staticTypes := #[]
  resolved := #[]
  callSites := []
  init := .initialized
  statics := none
  mirror := none

def pool0 : Array CpInfo := pool [(5, u "<init>"), (0, u "()V"), (1, .class_ 10), (1, u "java/lang/Object")] 113

def k0c0 : Code := { maxStack := 0, maxLocals := 1, code := object_method_1_code, exceptionTable := #[], attributes := #[] }
def k0m0 : Method := { name := "<init>", desc := "()V", sig := { parameters := [], returnType := none }, accessFlags := 1, code := some k0c0 }
/-- java/lang/Object -/
def k0 : Class := { plain "java/lang/Object" none with
  accessFlags := 33
  interfaces := #[]
  cf := some (fileOf pool0 8 #[] #[{ accessFlags := 1, nameIndex := 5, descriptorIndex := 6, attributes := #[] }] 33 0 #[] #[])
  fields := #[]
  methods := #[k0m0]
  instanceTypes := #[]
  staticTypes := #[]
  resolved := Array.replicate 124 none
  statics := none }

def pool1 : Array CpInfo := pool [(2, .class_ 4), (1, u "java/lang/Object"), (0, u "<init>"), (0, u "()V"), (0, .fieldref 8 9), (0, .class_ 10), (0, .nameAndType 11 12), (0, u "com/example/slipway/slipway/JnlpError"), (0, u "NO_RESOURCE"), (0, u "Lcom/example/slipway/slipway/JnlpError;"), (0, .fieldref 8 14), (0, .nameAndType 15 12), (0, u "NO_MATCH"), (0, .fieldref 8 17), (0, .nameAndType 18 12), (0, u "BAD_VERSION_STRING"), (0, .fieldref 8 20), (0, .nameAndType 21 12), (0, u "BAD_VERSION_XML"), (0, .methodref 23 24), (0, .class_ 25), (0, .nameAndType 26 27), (0, u "com/example/slipway/slipway/ChoiceFailedPinLaw"), (0, u "pick"), (0, u "(I)Lcom/example/slipway/slipway/JnlpError;"), (0, .methodref 29 30), (0, .class_ 31), (0, .nameAndType 32 33), (0, u "com/example/slipway/slipway/VersionedFiles$Choice"), (0, u "failed"), (0, u "(Lcom/example/slipway/slipway/JnlpError;)Lcom/example/slipway/slipway/VersionedFiles$Choice;"), (0, .methodref 29 35), (0, .nameAndType 36 37), (0, u "file"), (0, u "()Ljava/lang/String;"), (0, .methodref 29 39), (0, .nameAndType 40 41), (0, u "source"), (0, u "()Ljava/nio/file/Path;"), (0, .methodref 29 43), (0, .nameAndType 44 45), (0, u "version"), (0, u "()Lcom/example/slipway/slipway/VersionId;"), (0, .methodref 29 47), (0, .nameAndType 48 49), (0, u "error"), (0, u "()Lcom/example/slipway/slipway/JnlpError;"), (3, u "law"), (0, u "(I)Z")] 6

def k1m0 : Method := { name := "<init>", desc := "()V", sig := { parameters := [], returnType := none }, accessFlags := 2, code := none }
def k1c1 : Code := { maxStack := 2, maxLocals := 2, code := method_2_code, exceptionTable := #[], attributes := #[] }
def k1m1 : Method := { name := "pick", desc := "(I)Lcom/example/slipway/slipway/JnlpError;", sig := { parameters := [.int], returnType := some (.object "com/example/slipway/slipway/JnlpError") }, accessFlags := 10, code := some k1c1 }
def k1c2 : Code := { maxStack := 2, maxLocals := 3, code := code, exceptionTable := #[], attributes := #[] }
def k1m2 : Method := { name := "law", desc := "(I)Z", sig := { parameters := [.int], returnType := some .boolean }, accessFlags := 9, code := some k1c2 }
/-- com/example/slipway/slipway/ChoiceFailedPinLaw -/
def k1 : Class := { plain "com/example/slipway/slipway/ChoiceFailedPinLaw" (some 0) with
  accessFlags := 49
  interfaces := #[]
  cf := some (fileOf pool1 23 #[] #[{ accessFlags := 2, nameIndex := 5, descriptorIndex := 6, attributes := #[] }, { accessFlags := 10, nameIndex := 26, descriptorIndex := 27, attributes := #[] }, { accessFlags := 9, nameIndex := 53, descriptorIndex := 54, attributes := #[] }] 49 2 #[] #[])
  fields := #[]
  methods := #[k1m0, k1m1, k1m2]
  instanceTypes := #[]
  staticTypes := #[]
  resolved := Array.replicate 61 none
  statics := none }

def pool2 : Array CpInfo := pool [(1, .class_ 2), (0, u "java/lang/constant/Constable"), (0, .class_ 4), (0, u "java/lang/Object")] 6

/-- java/lang/constant/Constable -/
def k2 : Class := { plain "java/lang/constant/Constable" (some 0) with
  accessFlags := 1537
  interfaces := #[]
  cf := some (fileOf pool2 1 #[] #[] 1537 3 #[] #[])
  fields := #[]
  methods := #[]
  instanceTypes := #[]
  staticTypes := #[]
  resolved := Array.replicate 11 none
  statics := none }

def pool3 : Array CpInfo := pool [(1, .class_ 2), (0, u "java/lang/Comparable"), (0, .class_ 4), (0, u "java/lang/Object")] 7

/-- java/lang/Comparable -/
def k3 : Class := { plain "java/lang/Comparable" (some 0) with
  accessFlags := 1537
  interfaces := #[]
  cf := some (fileOf pool3 1 #[] #[] 1537 3 #[] #[])
  fields := #[]
  methods := #[]
  instanceTypes := #[]
  staticTypes := #[]
  resolved := Array.replicate 12 none
  statics := none }

def pool4 : Array CpInfo := pool [(1, .class_ 2), (0, u "java/io/Serializable"), (0, .class_ 4), (0, u "java/lang/Object")] 2

/-- java/io/Serializable -/
def k4 : Class := { plain "java/io/Serializable" (some 0) with
  accessFlags := 1537
  interfaces := #[]
  cf := some (fileOf pool4 1 #[] #[] 1537 3 #[] #[])
  fields := #[]
  methods := #[]
  instanceTypes := #[]
  staticTypes := #[]
  resolved := Array.replicate 7 none
  statics := none }

def pool5 : Array CpInfo := pool [(2, .class_ 4), (1, u "java/lang/Enum"), (0, u "name"), (0, u "Ljava/lang/String;"), (2, u "ordinal"), (0, u "I"), (1, .class_ 14), (1, u "java/lang/Object"), (4, u "hash"), (86, .class_ 108), (1, u "java/lang/Enum$EnumDesc"), (2, .class_ 112), (0, u "java/lang/constant/Constable"), (0, .class_ 114), (0, u "java/lang/Comparable"), (0, .class_ 116), (0, u "java/io/Serializable")] 87

/-- java/lang/Enum -/
def k5 : Class := { plain "java/lang/Enum" (some 0) with
  accessFlags := 1057
  interfaces := #[2, 3, 4]
  cf := some (fileOf pool5 2 #[.nestMembers #[106]] #[] 1057 12 #[111, 113, 115] #[{ accessFlags := 18, nameIndex := 5, descriptorIndex := 6, attributes := #[] }, { accessFlags := 18, nameIndex := 9, descriptorIndex := 10, attributes := #[] }, { accessFlags := 2, nameIndex := 19, descriptorIndex := 10, attributes := #[] }])
  fields := #[{ name := "name", type := (.object "java/lang/String"), accessFlags := 18, slot := 0, constantValue := 0 }, { name := "ordinal", type := .int, accessFlags := 18, slot := 1, constantValue := 0 }, { name := "hash", type := .int, accessFlags := 2, slot := 2, constantValue := 0 }]
  methods := #[]
  instanceTypes := #[(.object "java/lang/String"), .int, .int]
  staticTypes := #[]
  resolved := Array.replicate 204 none
  statics := none }

def pool6 : Array CpInfo := pool [(1, .class_ 2), (0, u "com/example/slipway/slipway/JnlpError"), (2, u "NO_RESOURCE"), (0, u "Lcom/example/slipway/slipway/JnlpError;"), (2, u "NO_MATCH"), (2, u "BAD_VERSION_STRING"), (2, u "BAD_VERSION_XML"), (2, u "$VALUES"), (0, u "[Lcom/example/slipway/slipway/JnlpError;"), (6, .class_ 28), (1, u "java/lang/Enum"), (8, u "code"), (0, u "I"), (2, u "status"), (2, u "description"), (0, u "Ljava/lang/String;")] 53

/-- com/example/slipway/slipway/JnlpError -/
def k6 : Class := { plain "com/example/slipway/slipway/JnlpError" (some 5) with
  accessFlags := 16432
  interfaces := #[]
  cf := some (fileOf pool6 1 #[] #[] 16432 26 #[] #[{ accessFlags := 16409, nameIndex := 5, descriptorIndex := 6, attributes := #[] }, { accessFlags := 16409, nameIndex := 9, descriptorIndex := 6, attributes := #[] }, { accessFlags := 16409, nameIndex := 12, descriptorIndex := 6, attributes := #[] }, { accessFlags := 16409, nameIndex := 15, descriptorIndex := 6, attributes := #[] }, { accessFlags := 18, nameIndex := 37, descriptorIndex := 38, attributes := #[] }, { accessFlags := 18, nameIndex := 41, descriptorIndex := 38, attributes := #[] }, { accessFlags := 18, nameIndex := 44, descriptorIndex := 45, attributes := #[] }, { accessFlags := 4122, nameIndex := 18, descriptorIndex := 19, attributes := #[] }])
  fields := #[{ name := "NO_RESOURCE", type := (.object "com/example/slipway/slipway/JnlpError"), accessFlags := 16409, slot := 0, constantValue := 0 }, { name := "NO_MATCH", type := (.object "com/example/slipway/slipway/JnlpError"), accessFlags := 16409, slot := 1, constantValue := 0 }, { name := "BAD_VERSION_STRING", type := (.object "com/example/slipway/slipway/JnlpError"), accessFlags := 16409, slot := 2, constantValue := 0 }, { name := "BAD_VERSION_XML", type := (.object "com/example/slipway/slipway/JnlpError"), accessFlags := 16409, slot := 3, constantValue := 0 }, { name := "code", type := .int, accessFlags := 18, slot := 3, constantValue := 0 }, { name := "status", type := .int, accessFlags := 18, slot := 4, constantValue := 0 }, { name := "description", type := (.object "java/lang/String"), accessFlags := 18, slot := 5, constantValue := 0 }, { name := "$VALUES", type := (.array (.object "com/example/slipway/slipway/JnlpError")), accessFlags := 4122, slot := 4, constantValue := 0 }]
  methods := #[]
  instanceTypes := #[(.object "java/lang/String"), .int, .int, .int, .int, (.object "java/lang/String")]
  staticTypes := #[(.object "com/example/slipway/slipway/JnlpError"), (.object "com/example/slipway/slipway/JnlpError"), (.object "com/example/slipway/slipway/JnlpError"), (.object "com/example/slipway/slipway/JnlpError"), (.array (.object "com/example/slipway/slipway/JnlpError"))]
  resolved := Array.replicate 99 none
  statics := some 0 }

def pool7 : Array CpInfo := pool [(1, .methodref 2 3), (0, .class_ 4), (0, .nameAndType 5 6), (0, u "java/lang/Object"), (0, u "<init>"), (0, u "()V"), (0, .class_ 8), (0, u "java/lang/Record")] 13

def k7c0 : Code := { maxStack := 1, maxLocals := 1, code := jdk_30_method_1_code, exceptionTable := #[], attributes := #[] }
def k7m0 : Method := { name := "<init>", desc := "()V", sig := { parameters := [], returnType := none }, accessFlags := 4, code := some k7c0 }
/-- java/lang/Record -/
def k7 : Class := { plain "java/lang/Record" (some 0) with
  accessFlags := 1057
  interfaces := #[]
  cf := some (fileOf pool7 7 #[] #[{ accessFlags := 4, nameIndex := 5, descriptorIndex := 6, attributes := #[] }] 1057 2 #[] #[])
  fields := #[]
  methods := #[k7m0]
  instanceTypes := #[]
  staticTypes := #[]
  resolved := Array.replicate 22 none
  statics := none }

def pool8 : Array CpInfo := pool [(1, .methodref 2 3), (0, .class_ 4), (0, .nameAndType 5 6), (0, u "java/lang/Record"), (0, u "<init>"), (0, u "()V"), (0, .fieldref 8 9), (0, .class_ 10), (0, .nameAndType 11 12), (0, u "com/example/slipway/slipway/VersionedFiles$Choice"), (0, u "file"), (0, u "Ljava/lang/String;"), (0, .fieldref 8 14), (0, .nameAndType 15 16), (0, u "source"), (0, u "Ljava/nio/file/Path;"), (0, .fieldref 8 18), (0, .nameAndType 19 20), (0, u "version"), (0, u "Lcom/example/slipway/slipway/VersionId;"), (0, .fieldref 8 22), (0, .nameAndType 23 24), (0, u "error"), (0, u "Lcom/example/slipway/slipway/JnlpError;"), (0, .methodref 8 26), (0, .nameAndType 5 27), (0, u "(Ljava/lang/String;Ljava/nio/file/Path;Lcom/example/slipway/slipway/VersionId;Lcom/example/slipway/slipway/JnlpError;)V"), (15, u "failed"), (0, u "(Lcom/example/slipway/slipway/JnlpError;)Lcom/example/slipway/slipway/VersionedFiles$Choice;"), (0, u "()Ljava/lang/String;"), (2, u "()Ljava/nio/file/Path;"), (0, u "()Lcom/example/slipway/slipway/VersionId;"), (0, u "()Lcom/example/slipway/slipway/JnlpError;"), (3, .class_ 55), (0, u "com/example/slipway/slipway/VersionedFiles")] 22

def k8c0 : Code := { maxStack := 2, maxLocals := 5, code := prog_52_method_1_code, exceptionTable := #[], attributes := #[] }
def k8m0 : Method := { name := "<init>", desc := "(Ljava/lang/String;Ljava/nio/file/Path;Lcom/example/slipway/slipway/VersionId;Lcom/example/slipway/slipway/JnlpError;)V", sig := { parameters := [(.object "java/lang/String"), (.object "java/nio/file/Path"), (.object "com/example/slipway/slipway/VersionId"), (.object "com/example/slipway/slipway/JnlpError")], returnType := none }, accessFlags := 0, code := some k8c0 }
def k8c1 : Code := { maxStack := 6, maxLocals := 1, code := prog_52_method_2_code, exceptionTable := #[], attributes := #[] }
def k8m1 : Method := { name := "failed", desc := "(Lcom/example/slipway/slipway/JnlpError;)Lcom/example/slipway/slipway/VersionedFiles$Choice;", sig := { parameters := [(.object "com/example/slipway/slipway/JnlpError")], returnType := some (.object "com/example/slipway/slipway/VersionedFiles$Choice") }, accessFlags := 8, code := some k8c1 }
def k8c2 : Code := { maxStack := 1, maxLocals := 1, code := prog_52_method_6_code, exceptionTable := #[], attributes := #[] }
def k8m2 : Method := { name := "file", desc := "()Ljava/lang/String;", sig := { parameters := [], returnType := some (.object "java/lang/String") }, accessFlags := 1, code := some k8c2 }
def k8c3 : Code := { maxStack := 1, maxLocals := 1, code := prog_52_method_7_code, exceptionTable := #[], attributes := #[] }
def k8m3 : Method := { name := "source", desc := "()Ljava/nio/file/Path;", sig := { parameters := [], returnType := some (.object "java/nio/file/Path") }, accessFlags := 1, code := some k8c3 }
def k8c4 : Code := { maxStack := 1, maxLocals := 1, code := prog_52_method_8_code, exceptionTable := #[], attributes := #[] }
def k8m4 : Method := { name := "version", desc := "()Lcom/example/slipway/slipway/VersionId;", sig := { parameters := [], returnType := some (.object "com/example/slipway/slipway/VersionId") }, accessFlags := 1, code := some k8c4 }
def k8c5 : Code := { maxStack := 1, maxLocals := 1, code := prog_52_method_9_code, exceptionTable := #[], attributes := #[] }
def k8m5 : Method := { name := "error", desc := "()Lcom/example/slipway/slipway/JnlpError;", sig := { parameters := [], returnType := some (.object "com/example/slipway/slipway/JnlpError") }, accessFlags := 1, code := some k8c5 }
/-- com/example/slipway/slipway/VersionedFiles$Choice -/
def k8 : Class := { plain "com/example/slipway/slipway/VersionedFiles$Choice" (some 7) with
  accessFlags := 48
  interfaces := #[]
  cf := some (fileOf pool8 8 #[.nestHost 54] #[{ accessFlags := 0, nameIndex := 5, descriptorIndex := 27, attributes := #[] }, { accessFlags := 8, nameIndex := 43, descriptorIndex := 44, attributes := #[] }, { accessFlags := 1, nameIndex := 11, descriptorIndex := 45, attributes := #[] }, { accessFlags := 1, nameIndex := 15, descriptorIndex := 48, attributes := #[] }, { accessFlags := 1, nameIndex := 19, descriptorIndex := 49, attributes := #[] }, { accessFlags := 1, nameIndex := 23, descriptorIndex := 50, attributes := #[] }] 48 2 #[] #[{ accessFlags := 18, nameIndex := 11, descriptorIndex := 12, attributes := #[] }, { accessFlags := 18, nameIndex := 15, descriptorIndex := 16, attributes := #[] }, { accessFlags := 18, nameIndex := 19, descriptorIndex := 20, attributes := #[] }, { accessFlags := 18, nameIndex := 23, descriptorIndex := 24, attributes := #[] }])
  fields := #[{ name := "file", type := (.object "java/lang/String"), accessFlags := 18, slot := 0, constantValue := 0 }, { name := "source", type := (.object "java/nio/file/Path"), accessFlags := 18, slot := 1, constantValue := 0 }, { name := "version", type := (.object "com/example/slipway/slipway/VersionId"), accessFlags := 18, slot := 2, constantValue := 0 }, { name := "error", type := (.object "com/example/slipway/slipway/JnlpError"), accessFlags := 18, slot := 3, constantValue := 0 }]
  methods := #[k8m0, k8m1, k8m2, k8m3, k8m4, k8m5]
  instanceTypes := #[(.object "java/lang/String"), (.object "java/nio/file/Path"), (.object "com/example/slipway/slipway/VersionId"), (.object "com/example/slipway/slipway/JnlpError")]
  staticTypes := #[]
  resolved := Array.replicate 78 none
  statics := none }

def pool9 : Array CpInfo := pool [(1, u "java/lang/Cloneable"), (0, .class_ 1), (0, u "java/lang/Object"), (0, .class_ 3)] 3

/-- java/lang/Cloneable -/
def k9 : Class := { plain "java/lang/Cloneable" (some 0) with
  accessFlags := 1537
  interfaces := #[]
  cf := some (fileOf pool9 2 #[] #[] 1537 4 #[] #[])
  fields := #[]
  methods := #[]
  instanceTypes := #[]
  staticTypes := #[]
  resolved := Array.replicate 8 none
  statics := none }

/-- the primitive byte -/
def k10 : Class := { plain "byte" none with kind := .primitive 'B', accessFlags := 0x411 }
/-- [B -/
def k11 : Class := { plain "[B" (some 0) with kind := .array 10 .byte, interfaces := #[9, 4], accessFlags := 1041 }

/-- the primitive int -/
def k12 : Class := { plain "int" none with kind := .primitive 'I', accessFlags := 0x411 }
/-- [I -/
def k13 : Class := { plain "[I" (some 0) with kind := .array 12 .int, interfaces := #[9, 4], accessFlags := 1041 }

def heap : Heap := #[{ cls := 6, slots := #[.ref 1, .ref 2, .ref 3, .ref 4, .null], vm := .statics 6 },
  { cls := 6, slots := #[.null, .int 0, .int 0, .int 0, .int 0, .null], vm := .none },
  { cls := 6, slots := #[.null, .int 0, .int 0, .int 0, .int 0, .null], vm := .none },
  { cls := 6, slots := #[.null, .int 0, .int 0, .int 0, .int 0, .null], vm := .none },
  { cls := 6, slots := #[.null, .int 0, .int 0, .int 0, .int 0, .null], vm := .none }]
def classes : Array Class := #[k0, k1, k2, k3, k4, k5, k6, k7, k8, k9, k10, k11, k12, k13]
def interned : List (Array UInt16 × Addr) := []
def slotsUsed : Nat := 29
def theMethod : MethodId := ⟨1, 2⟩
def args0 : Array Value := #[.int 1]
def aboutOver (below : List Frame) : State where
  vm := { classes := classes, interned := interned.toArray }
  heap := heap
  slotsUsed := slotsUsed
  threads := #[{ frames := .invoking theMethod args0 :: below }]
def below0 : List Frame := [.native { method := ⟨0, 0⟩, args := #[] }]
def about1 : State := aboutOver below0
def p0 : Program := .bare "" "" ""
def e0 : Env := launch0.env 0 0 0
theorem w_frames : about1.frames = Frame.invoking theMethod args0 :: below0 := rfl
set_option maxRecDepth 65536 in
theorem w_args : argsFit about1.vm theMethod args0 = true := by decide +kernel
set_option maxRecDepth 65536 in
theorem w_heap : heapFits about1 = true := by decide +kernel
set_option maxRecDepth 65536 in
theorem w_runnable : about1.curStatus? = some .runnable := by decide +kernel
set_option maxRecDepth 65536 in
theorem w_alone : about1.alone = true := by decide +kernel
set_option maxRecDepth 65536 in
theorem w_named : about1.methodNamed? x = some theMethod := by decide +kernel
set_option maxRecDepth 65536 in
theorem w_hears : about1.hears theMethod below0 = true := by decide +kernel
set_option maxRecDepth 65536 in
theorem w_ripe : about1.ripe theMethod args0 below0 = true := by decide +kernel
theorem w_running : about1.status = .running := rfl
set_option maxRecDepth 65536 in
theorem w_room : about1.hasRoom e0.platform room_1 = true :=
  launch0.hasRoom_least _ room_1 (by decide +kernel) (by decide +kernel) (by decide +kernel) (by decide +kernel) (by decide +kernel) (by decide +kernel)
theorem allAtoms_all (ts : List Jvm.Cond) (a : Array Jvm.Value) (st : Jvm.State) : (allAtoms ts).before a st = ts.all (fun c => c.before a st) := by
  induction ts with
  | nil => rfl
  | cons c t ih =>
    show (Jvm.Cond.and c (allAtoms t)).before a st = _
    rw [Jvm.Cond.before_and, ih, List.all_cons]
def words1 : List Jvm.Cond := Jvm.Cond.code x code maxLocals ret :: tables_1
/-- a 'code' word, met by the world's own term for the bytes: nothing is compared byte by byte -/
theorem code_word {y : MethodName} {bytes : ByteArray} {mx : Nat} {rt : Option FieldType} {a : Array Value} {s : State} {m : MethodId} {meth : Method} {c : Code} (h1 : s.methodNamed? y = some m) (h2 : s.vm.method? m = some meth) (h3 : meth.code = some c) (h4 : c.code = bytes)
    (h5 : (c.maxLocals == mx && c.exceptionTable.isEmpty && decide (c.maxStack ≤ mostOperands) && decide (meth.sig.returnType = rt) && !meth.locks && decide (parseMethodDescriptor y.desc = some meth.sig)) = true) : (Jvm.Cond.code y bytes mx rt).before a s = true := by
  simp only [Bool.and_eq_true, beq_iff_eq, Bool.not_eq_true', decide_eq_true_eq] at h5
  obtain ⟨⟨⟨⟨⟨g1, g2⟩, g3⟩, g4⟩, g5⟩, g6⟩ := h5
  simp [Cond.before, Cond.holds, Cond.value, h1, h2, h3, h4, g1, g2, g3, g4, g5, g6]
def isCode : Jvm.Cond → Bool
  | .code _ _ _ _ => true
  | _ => false
theorem all_split {L : List Jvm.Cond} {P : Jvm.Cond → Bool} (h1 : L.all (fun c => isCode c || P c) = true) (h2 : ∀ c ∈ L.filter isCode, P c = true) : L.all P = true := by
  refine List.all_eq_true.mpr fun c hc => ?_
  have h := List.all_eq_true.mp h1 c hc
  rcases Bool.eq_false_or_eq_true (isCode c) with hi | hi
  · exact h2 c (List.mem_filter.mpr ⟨hc, hi⟩)
  · simpa [hi] using h
set_option maxRecDepth 65536 in
theorem w_c0 : (Jvm.Cond.code x code maxLocals ret).before args0 about1 = true := code_word (m := ⟨1, 2⟩) (meth := k1m2) (c := k1c2) (by decide +kernel) rfl rfl rfl (by decide +kernel)
set_option maxRecDepth 65536 in
theorem w_c1 : (Jvm.Cond.code ({ cls := "com/example/slipway/slipway/ChoiceFailedPinLaw", name := "pick", desc := "(I)Lcom/example/slipway/slipway/JnlpError;" } : Jvm.MethodName) method_2_code (2 : Nat) (Option.some (Jvm.ClassFile.FieldType.object "com/example/slipway/slipway/JnlpError"))).before args0 about1 = true := code_word (m := ⟨1, 1⟩) (meth := k1m1) (c := k1c1) (by decide +kernel) rfl rfl rfl (by decide +kernel)
set_option maxRecDepth 65536 in
theorem w_c2 : (Jvm.Cond.code ({ cls := "com/example/slipway/slipway/VersionedFiles$Choice", name := "failed", desc := "(Lcom/example/slipway/slipway/JnlpError;)Lcom/example/slipway/slipway/VersionedFiles$Choice;" } : Jvm.MethodName) prog_52_method_2_code (1 : Nat) (Option.some (Jvm.ClassFile.FieldType.object "com/example/slipway/slipway/VersionedFiles$Choice"))).before args0 about1 = true := code_word (m := ⟨8, 1⟩) (meth := k8m1) (c := k8c1) (by decide +kernel) rfl rfl rfl (by decide +kernel)
set_option maxRecDepth 65536 in
theorem w_c3 : (Jvm.Cond.code ({ cls := "com/example/slipway/slipway/VersionedFiles$Choice", name := "<init>", desc := "(Ljava/lang/String;Ljava/nio/file/Path;Lcom/example/slipway/slipway/VersionId;Lcom/example/slipway/slipway/JnlpError;)V" } : Jvm.MethodName) prog_52_method_1_code (5 : Nat) (Option.none : Option Jvm.ClassFile.FieldType)).before args0 about1 = true := code_word (m := ⟨8, 0⟩) (meth := k8m0) (c := k8c0) (by decide +kernel) rfl rfl rfl (by decide +kernel)
set_option maxRecDepth 65536 in
theorem w_c4 : (Jvm.Cond.code ({ cls := "java/lang/Record", name := "<init>", desc := "()V" } : Jvm.MethodName) jdk_30_method_1_code (1 : Nat) (Option.none : Option Jvm.ClassFile.FieldType)).before args0 about1 = true := code_word (m := ⟨7, 0⟩) (meth := k7m0) (c := k7c0) (by decide +kernel) rfl rfl rfl (by decide +kernel)
set_option maxRecDepth 65536 in
theorem w_c5 : (Jvm.Cond.code ({ cls := "java/lang/Object", name := "<init>", desc := "()V" } : Jvm.MethodName) object_method_1_code (1 : Nat) (Option.none : Option Jvm.ClassFile.FieldType)).before args0 about1 = true := code_word (m := ⟨0, 0⟩) (meth := k0m0) (c := k0c0) (by decide +kernel) rfl rfl rfl (by decide +kernel)
set_option maxRecDepth 65536 in
theorem w_c6 : (Jvm.Cond.code ({ cls := "com/example/slipway/slipway/VersionedFiles$Choice", name := "file", desc := "()Ljava/lang/String;" } : Jvm.MethodName) prog_52_method_6_code (1 : Nat) (Option.some (Jvm.ClassFile.FieldType.object "java/lang/String"))).before args0 about1 = true := code_word (m := ⟨8, 2⟩) (meth := k8m2) (c := k8c2) (by decide +kernel) rfl rfl rfl (by decide +kernel)
set_option maxRecDepth 65536 in
theorem w_c7 : (Jvm.Cond.code ({ cls := "com/example/slipway/slipway/VersionedFiles$Choice", name := "source", desc := "()Ljava/nio/file/Path;" } : Jvm.MethodName) prog_52_method_7_code (1 : Nat) (Option.some (Jvm.ClassFile.FieldType.object "java/nio/file/Path"))).before args0 about1 = true := code_word (m := ⟨8, 3⟩) (meth := k8m3) (c := k8c3) (by decide +kernel) rfl rfl rfl (by decide +kernel)
set_option maxRecDepth 65536 in
theorem w_c8 : (Jvm.Cond.code ({ cls := "com/example/slipway/slipway/VersionedFiles$Choice", name := "version", desc := "()Lcom/example/slipway/slipway/VersionId;" } : Jvm.MethodName) prog_52_method_8_code (1 : Nat) (Option.some (Jvm.ClassFile.FieldType.object "com/example/slipway/slipway/VersionId"))).before args0 about1 = true := code_word (m := ⟨8, 4⟩) (meth := k8m4) (c := k8c4) (by decide +kernel) rfl rfl rfl (by decide +kernel)
set_option maxRecDepth 65536 in
theorem w_c9 : (Jvm.Cond.code ({ cls := "com/example/slipway/slipway/VersionedFiles$Choice", name := "error", desc := "()Lcom/example/slipway/slipway/JnlpError;" } : Jvm.MethodName) prog_52_method_9_code (1 : Nat) (Option.some (Jvm.ClassFile.FieldType.object "com/example/slipway/slipway/JnlpError"))).before args0 about1 = true := code_word (m := ⟨8, 5⟩) (meth := k8m5) (c := k8c5) (by decide +kernel) rfl rfl rfl (by decide +kernel)
def codes1 : List Jvm.Cond := [Jvm.Cond.code x code maxLocals ret, Jvm.Cond.code ({ cls := "com/example/slipway/slipway/ChoiceFailedPinLaw", name := "pick", desc := "(I)Lcom/example/slipway/slipway/JnlpError;" } : Jvm.MethodName) method_2_code (2 : Nat) (Option.some (Jvm.ClassFile.FieldType.object "com/example/slipway/slipway/JnlpError")), Jvm.Cond.code ({ cls := "com/example/slipway/slipway/VersionedFiles$Choice", name := "failed", desc := "(Lcom/example/slipway/slipway/JnlpError;)Lcom/example/slipway/slipway/VersionedFiles$Choice;" } : Jvm.MethodName) prog_52_method_2_code (1 : Nat) (Option.some (Jvm.ClassFile.FieldType.object "com/example/slipway/slipway/VersionedFiles$Choice")), Jvm.Cond.code ({ cls := "com/example/slipway/slipway/VersionedFiles$Choice", name := "<init>", desc := "(Ljava/lang/String;Ljava/nio/file/Path;Lcom/example/slipway/slipway/VersionId;Lcom/example/slipway/slipway/JnlpError;)V" } : Jvm.MethodName) prog_52_method_1_code (5 : Nat) (Option.none : Option Jvm.ClassFile.FieldType), Jvm.Cond.code ({ cls := "java/lang/Record", name := "<init>", desc := "()V" } : Jvm.MethodName) jdk_30_method_1_code (1 : Nat) (Option.none : Option Jvm.ClassFile.FieldType), Jvm.Cond.code ({ cls := "java/lang/Object", name := "<init>", desc := "()V" } : Jvm.MethodName) object_method_1_code (1 : Nat) (Option.none : Option Jvm.ClassFile.FieldType), Jvm.Cond.code ({ cls := "com/example/slipway/slipway/VersionedFiles$Choice", name := "file", desc := "()Ljava/lang/String;" } : Jvm.MethodName) prog_52_method_6_code (1 : Nat) (Option.some (Jvm.ClassFile.FieldType.object "java/lang/String")), Jvm.Cond.code ({ cls := "com/example/slipway/slipway/VersionedFiles$Choice", name := "source", desc := "()Ljava/nio/file/Path;" } : Jvm.MethodName) prog_52_method_7_code (1 : Nat) (Option.some (Jvm.ClassFile.FieldType.object "java/nio/file/Path")), Jvm.Cond.code ({ cls := "com/example/slipway/slipway/VersionedFiles$Choice", name := "version", desc := "()Lcom/example/slipway/slipway/VersionId;" } : Jvm.MethodName) prog_52_method_8_code (1 : Nat) (Option.some (Jvm.ClassFile.FieldType.object "com/example/slipway/slipway/VersionId")), Jvm.Cond.code ({ cls := "com/example/slipway/slipway/VersionedFiles$Choice", name := "error", desc := "()Lcom/example/slipway/slipway/JnlpError;" } : Jvm.MethodName) prog_52_method_9_code (1 : Nat) (Option.some (Jvm.ClassFile.FieldType.object "com/example/slipway/slipway/JnlpError"))]
set_option maxRecDepth 65536 in
theorem codes_eq : words1.filter isCode = codes1 := rfl
theorem w_codes : ∀ c ∈ words1.filter isCode, c.before args0 about1 = true := by
  rw [codes_eq]
  intro c hc
  simp only [codes1, List.mem_cons, List.not_mem_nil, or_false] at hc
  rcases hc with rfl | rfl | rfl | rfl | rfl | rfl | rfl | rfl | rfl | rfl
  · exact w_c0
  · exact w_c1
  · exact w_c2
  · exact w_c3
  · exact w_c4
  · exact w_c5
  · exact w_c6
  · exact w_c7
  · exact w_c8
  · exact w_c9
set_option maxRecDepth 65536 in
theorem w_t1 : (words1.take 24).all (fun c => isCode c || c.before args0 about1) = true := by decide +kernel
set_option maxRecDepth 65536 in
theorem w_t2 : ((words1.drop 24).take 24).all (fun c => isCode c || c.before args0 about1) = true := by decide +kernel
set_option maxRecDepth 65536 in
theorem w_t3 : ((words1.drop 24).drop 24).all (fun c => isCode c || c.before args0 about1) = true := by decide +kernel
theorem w_tables : (allAtoms (Jvm.Cond.code x code maxLocals ret :: tables_1)).before args0 about1 = true := by
  rw [allAtoms_all]
  show words1.all (fun c => c.before args0 about1) = true
  refine all_split ?_ w_codes
  rw [← List.take_append_drop 24 words1, List.all_append, w_t1, ← List.take_append_drop 24 (words1.drop 24), List.all_append, w_t2, w_t3]
  rfl
set_option maxRecDepth 65536 in
theorem w_case : (Jvm.Cond.and given_1 narrow_1).before args0 about1 = true := by decide +kernel
theorem w_applies : (headSpec (Jvm.Cond.code x code maxLocals ret :: tables_1) room_1).applies x e0.platform about1 = true :=
  (Spec.applies_iff w_frames).mpr ⟨w_running, w_runnable, w_alone, w_named, w_hears, w_ripe, w_room, w_tables⟩
theorem atStart : AtStart classFile x code maxLocals ret World_1 tables_1 room_1 Calls_1 rest_1 Pre_1 launch0 p0 e0 about1 theMethod args0 below0 :=
  ⟨lists_1, trivial, launch0.admits_env _ _ _, launch0.least_env, fairChoices_fair.cas, fairChoices_fair.clock, w_frames, w_args, w_heap, w_applies, trivial, trivial, w_case⟩
end start1
theorem witness_1 : WitnessClaimed_1 := ⟨start1.p0, start1.e0, start1.about1, start1.theMethod, start1.args0, start1.below0, start1.atStart⟩
end Jvm.Pilot.@@N@@
