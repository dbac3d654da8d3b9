import JvmDerived
import JvmDerived.Pilot.@@N@@Statement
import JvmDerived.Pilot.@@N@@Code
set_option linter.unusedVariables false
set_option linter.unusedSimpArgs false
namespace Jvm.Pilot.@@N@@
open Jvm Jvm.ClassFile Sem Op Lib Jvm.Free Jvm.Stand Jvm.LawKit Jvm.RoadKit Bundle Jvm.Pilot.@@N@@.Jvm.D
/-- from the state W the run comes to an end of which K holds -/
abbrev own_Gl (p : Program) (e : Env) (below : List Frame) (K : Outcome → State → Prop) (W : State) : Prop := ∃ s₂ o, Steps p.tables e below W s₂ ∧ s₂.status = .running ∧ Ended s₂ below o ∧ K o s₂
theorem own_by {p : Program} {e : Env} {below : List Frame} {K : Outcome → State → Prop} {W W' : State} (st : ∀ t, Steps p.tables e below W' t → Steps p.tables e below W t) (h : own_Gl p e below K W') : own_Gl p e below K W := by
  obtain ⟨s₂, o, h1, h2⟩ := h; exact ⟨s₂, o, st _ h1, h2⟩
theorem own_tr {p : Program} {e : Env} {below : List Frame} {K : Outcome → State → Prop} {W W' : State} (st : Steps p.tables e below W W') (h : own_Gl p e below K W') : own_Gl p e below K W := own_by (fun _ k => st.trans k) h
theorem own_w {Z : State} {a0 : Array Value} (hw : ∀ d ∈ tables_1, d.before a0 Z = true) (i : Nat) {d : Jvm.Cond} (h : tables_1[i]? = some d := by rfl) : d.before a0 Z = true := hw _ (List.mem_of_getElem? h)
theorem own_cat1 {v : Value} (h : v.isRef = true) : v.category = 1 := by cases v <;> first | rfl | cases h
theorem own_le {Z : State} {n0 : Nat} {h : Heap} (O : Old Z n0 h) : n0 ≤ h.size := O.1 ▸ O.2.1
theorem own_lclt {x y : Int64} (h : x < y) : ifCond.holds .lt (lcmpW x y) = true ∧ ifCond.holds .ge (lcmpW x y) = false := by
  have h1 : ¬ x > y := fun q => by rw [Int64.lt_iff_toInt_lt] at h; have q' : y < x := q; rw [Int64.lt_iff_toInt_lt] at q'; omega
  have h2 : ¬ x = y := fun q => by subst q; rw [Int64.lt_iff_toInt_lt] at h; omega
  rw [lcmpW, if_neg h1, if_neg h2]; exact ⟨by decide, by decide⟩
theorem own_lcnlt {x y : Int64} (h : ¬ x < y) : ifCond.holds .lt (lcmpW x y) = false ∧ ifCond.holds .ge (lcmpW x y) = true := by
  by_cases h1 : x > y
  · rw [lcmpW, if_pos h1]; exact ⟨by decide, by decide⟩
  · have h2 : x = y := by
      have q1 : ¬ y < x := h1
      rw [Int64.lt_iff_toInt_lt] at h q1; exact Int64.toInt_inj.mp (by omega)
    rw [lcmpW, if_neg h1, if_pos h2]; exact ⟨by decide, by decide⟩
theorem own_lcgt {x y : Int64} (h : y < x) : ifCond.holds .gt (lcmpW x y) = true ∧ ifCond.holds .le (lcmpW x y) = false := by
  have h1 : x > y := h
  rw [lcmpW, if_pos h1]; exact ⟨by decide, by decide⟩
theorem own_lcngt {x y : Int64} (h : ¬ y < x) : ifCond.holds .gt (lcmpW x y) = false ∧ ifCond.holds .le (lcmpW x y) = true := by
  have h1 : ¬ x > y := h
  rw [lcmpW, if_neg h1]
  by_cases h2 : x = y
  · rw [if_pos h2]; exact ⟨by decide, by decide⟩
  · rw [if_neg h2]; exact ⟨by decide, by decide⟩
theorem own_lceq {x y : Int64} (h : x = y) : ifCond.holds .eq (lcmpW x y) = true ∧ ifCond.holds .ne (lcmpW x y) = false := by
  subst h
  have h1 : ¬ x > x := fun q => by have q' : x < x := q; rw [Int64.lt_iff_toInt_lt] at q'; omega
  rw [lcmpW, if_neg h1, if_pos rfl]; exact ⟨by decide, by decide⟩
theorem own_lcne {x y : Int64} (h : ¬ x = y) : ifCond.holds .eq (lcmpW x y) = false ∧ ifCond.holds .ne (lcmpW x y) = true := by
  by_cases h1 : x > y
  · rw [lcmpW, if_pos h1]; exact ⟨by decide, by decide⟩
  · rw [lcmpW, if_neg h1, if_neg h]; exact ⟨by decide, by decide⟩
theorem own_sta {Z : State} {args : Array Value} {C n d K : String} (h : (Jvm.Cond.exactly (Jvm.Term.static C n d) K).value args Z none Z [] = some true) (hi : (Jvm.Cond.initializedFor C n d).before args Z = true ∨ ((Jvm.Cond.initialized C).before args Z = true ∧ (Jvm.Cond.laysStatic C n d).before args Z = true)) :
    ∃ a, (Jvm.Term.static C n d).eval args Z none [] Z = some (.ref a) ∧ Sta Z Z.heap C n d (.ref a) ∧ Exa Z Z.heap a K := by
  obtain ⟨a, ev⟩ := exa_v h
  exact ⟨a, ev, Sta.start ev hi, Exa.start ev h⟩
theorem own_fldI {Z : State} {args : Array Value} {t : Jvm.Term} {a : Addr} {C n d : String} {k : Int32} (ev : t.eval args Z none [] Z = some (.ref a)) (h : (Jvm.Cond.eq (Jvm.Term.field t C n d) (Jvm.Term.int k)).value args Z none Z [] = some true) : Fld Z Z.heap a C n d (.int k) := by
  obtain ⟨x, y, hx, hy, -, -⟩ := cmp_v (Or.inl h)
  cases Option.some.inj ((Term.int_eval k).symm.trans hy)
  refine Fld.start ?_
  rw [← fld_at ev, hx]
  cases x <;> simp_all [Cond.value, Term.eval]
theorem own_fldJ {Z : State} {args : Array Value} {t : Jvm.Term} {a : Addr} {C n d : String} {k : Int64} (ev : t.eval args Z none [] Z = some (.ref a)) (h : (Jvm.Cond.eq (Jvm.Term.field t C n d) (Jvm.Term.long k)).value args Z none Z [] = some true) : Fld Z Z.heap a C n d (.long k) := by
  obtain ⟨x, y, hx, hy, -, -⟩ := cmp_v (Or.inl h)
  have hy' : (Jvm.Term.long k).eval args Z none [] Z = some (.long k) := by simp [Term.eval]
  cases Option.some.inj (hy'.symm.trans hy)
  refine Fld.start ?_
  rw [← fld_at ev, hx]
  cases x <;> simp_all [Cond.value, Term.eval]
theorem own_len {Z : State} {args : Array Value} {t : Jvm.Term} {a : Addr} {cl : Cell} {ty : FieldType} {n : Int32} (ev : t.eval args Z none [] Z = some (.ref a)) (A : Arr Z Z.heap a cl ty) (h : (Jvm.Cond.eq (Jvm.Term.length t) (Jvm.Term.int n)).value args Z none Z [] = some true) : cl.slots.size < 2 ^ 31 ∧ cl.slots.size.toInt32 = n := by
  have ha : Z.arrayAt? a = some cl := Arr.fin (U := Z) (Vm.Alike.refl _) A
  by_cases hq : cl.slots.size < 2 ^ 31
  · refine ⟨hq, ?_⟩
    have e1 := len_f (args := args) (first := Z) (o := none) (idx := []) ev ha hq
    simpa [Cond.value, e1, Term.int_eval] using h
  · exfalso
    obtain ⟨x, y, hx, -⟩ := cmp_v (Or.inl h)
    simp [Term.eval, ev, ha] at hx
    omega
theorem own_elem {Z : State} {args : Array Value} {t u : Jvm.Term} {a w : Addr} {cl : Cell} {ty : FieldType} {j : Int32} (ev : t.eval args Z none [] Z = some (.ref a)) (A : Arr Z Z.heap a cl ty) (evu : u.eval args Z none [] Z = some (.ref w)) (h : (Jvm.Cond.eq (Jvm.Term.elem t (Jvm.Term.int j)) u).value args Z none Z [] = some true) : cl.slots[j.toNatClampNeg]? = some (.ref w) := by
  obtain ⟨x, y, hx, hy, k1, k2⟩ := cmp_v (Or.inl h)
  cases Option.some.inj (evu.symm.trans hy)
  have q := (elem_in hx ev (Term.int_eval j) A.1).2
  rw [q]
  cases x <;> simp [Cond.value, hx, evu] at h ⊢
  exact h
def own_Wd (Z : State) (wOS : Addr) (wARCH : Addr) (wLOCALE : Addr) (wV : Addr) (kwV : ClassId) : Prop := Sta Z Z.heap "com/example/slipway/slipway/Limit" "OS" "Lcom/example/slipway/slipway/Limit;" (.ref wOS) ∧ Exa Z Z.heap wOS "com/example/slipway/slipway/Limit" ∧ Fld Z Z.heap wOS "com/example/slipway/slipway/Limit" "letter" "C" (.int (79 : Int32)) ∧ Sta Z Z.heap "com/example/slipway/slipway/Limit" "ARCH" "Lcom/example/slipway/slipway/Limit;" (.ref wARCH) ∧ Exa Z Z.heap wARCH "com/example/slipway/slipway/Limit" ∧ Fld Z Z.heap wARCH "com/example/slipway/slipway/Limit" "letter" "C" (.int (65 : Int32)) ∧ Sta Z Z.heap "com/example/slipway/slipway/Limit" "LOCALE" "Lcom/example/slipway/slipway/Limit;" (.ref wLOCALE) ∧ Exa Z Z.heap wLOCALE "com/example/slipway/slipway/Limit" ∧ Fld Z Z.heap wLOCALE "com/example/slipway/slipway/Limit" "letter" "C" (.int (76 : Int32)) ∧ Sta Z Z.heap "com/example/slipway/slipway/Limit" "$VALUES" "[Lcom/example/slipway/slipway/Limit;" (.ref wV) ∧ Exa Z Z.heap wV "[Lcom/example/slipway/slipway/Limit;" ∧ Arv Z Z.heap wV kwV (.object "com/example/slipway/slipway/Limit") (3 : Int32) [(.ref wOS), (.ref wARCH), (.ref wLOCALE)] .null
theorem dprog_35_1_0 : decode prog_35_method_1_code 0 = .ok (.getstatic 13, 3) := by decide +kernel
theorem dprog_35_1_3 : decode prog_35_method_1_code 3 = .ok (.invokevirtual 17, 3) := by decide +kernel
theorem dprog_35_1_6 : decode prog_35_method_1_code 6 = .ok (.checkcast 18, 3) := by decide +kernel
theorem dprog_35_1_9 : decode prog_35_method_1_code 9 = .ok (.areturn, 1) := by decide +kernel
theorem pn_com_example_slipway_slipway_Limit : plainName "com/example/slipway/slipway/Limit" = true := by first | (simp [plainName, overriddenIn]; done) | decide +kernel
theorem efV (m : MethodId)  : entryFrame m #[] 0 = mkF m 0 #[] [] := by first | (simp [entryFrame, mkF, argsToLocals, Value.category]; done) | rfl
def QV (Z : State) (wOS : Addr) (wARCH : Addr) (wLOCALE : Addr) (wV : Addr) (kwV : ClassId) (h0 : Heap) (n0 : Nat) (v : Option Value) (h : Heap) (L : List Loc) : Prop := ∃ q : Addr, v = some (.ref q) ∧ Fr n0 L ∧ Keep h0 h [] ∧ Arv Z h q kwV (.object "com/example/slipway/slipway/Limit") (3 : Int32) [(.ref wOS), (.ref wARCH), (.ref wLOCALE)] .null
abbrev own_KV (Z : State) (wOS : Addr) (wARCH : Addr) (wLOCALE : Addr) (wV : Addr) (kwV : ClassId) (h0 : Heap) (n0 : Nat) (s : State) : Outcome → State → Prop := fun o U' => ∃ v L, o = .returned v ∧ QV Z wOS wARCH wLOCALE wV kwV h0 n0 v U'.heap L ∧ FrameEnd s o U' L ({ frames := 1, cells := 1, slots := 3, locals := 14 } : Room).cells ({ frames := 1, cells := 1, slots := 3, locals := 14 } : Room).slots
set_option maxRecDepth 65536 in
set_option maxHeartbeats 40000000 in
theorem rmV (l : Launch) (Z : State) (a0 : Array Value) (hw : ∀ d ∈ tables_1, d.before a0 Z = true) (ws : List Jvm.Cond) (wOS : Addr) (wARCH : Addr) (wLOCALE : Addr) (wV : Addr) (kwV : ClassId) (h0 : Heap) (n0 : Nat) (Z0 : n0 ≤ h0.size) (O0 : Old Z n0 h0) (HW : own_Wd Z wOS wARCH wLOCALE wV kwV) :
    MetFree l (⟨"com/example/slipway/slipway/Limit", "values", "()[Lcom/example/slipway/slipway/Limit;"⟩ : MethodName) (head1 (Jvm.Cond.code (⟨"com/example/slipway/slipway/Limit", "values", "()[Lcom/example/slipway/slipway/Limit;"⟩ : MethodName) prog_35_method_1_code 0 (some (.array (.object "com/example/slipway/slipway/Limit"))) :: ws) ({ frames := 1, cells := 1, slots := 3, locals := 14 } : Room)) (fun a U => a = #[] ∧ Z.Warmed39 U.vm ∧ U.heap = h0) (fun _ _ _ _ _ => True) (fun _ U o U' => ∃ v L, o = .returned v ∧ QV Z wOS wARCH wLOCALE wV kwV h0 n0 v U'.heap L ∧ FrameEnd U o U' L ({ frames := 1, cells := 1, slots := 3, locals := 14 } : Room).cells ({ frames := 1, cells := 1, slots := 3, locals := 14 } : Room).slots) := by
  refine MetFree.of_bodySF (plainFor_of_name pn_com_example_slipway_slipway_Limit) hisR ?_
  intro p e s m args below meth c s₁ Bd hml0 hP hK
  obtain ⟨rfl, hZ, hh⟩ := hP
  have hx := Bd.exec
  have hby := Bd.bytes
  have hml : c.maxLocals = 0 := hml0
  have hown : s.vm.findClass "com/example/slipway/slipway/Limit" = some m.cls := findClass_of_methodNamed Bd.named
  have hnm := (name_of_methodNamed Bd.named Bd.method).1
  have X0 : Stand p l e ({ frames := 1, cells := 1, slots := 3, locals := 14 } : Room) s m #[] below meth c s₁ [] 0 0 := Stand.of_body Bd
  have e0 : s₁.heap = h0 := by rw [← hh, Bd.state]; rfl
  have N0 := Fr.nil n0
  refine own_by (p := p) (e := e) (below := below) (K := own_KV Z wOS wARCH wLOCALE wV kwV h0 n0 s) (W' := s₁.setTop (mkF m 0 #[] [])) (fun t k => castTop (efV m ) k) ?_
  obtain ⟨T1, X1, e1, st1⟩ := getS (host := "") X0 hx hZ hown (own_w hw 7) Via.refl e0 (HW.2.2.2.2.2.2.2.2.2.1.ext O0.2) (g := (mkF m 0 #[] [])) rfl (hb hby dprog_35_1_0)
  obtain ⟨T2, h2, X2, e2, E2, A2, Ex2, st2⟩ := cloneH X1 hx hZ hown (own_w hw 9) (own_w hw 10) (own_w hw 14) (own_w hw 12) (own_w hw 13) (own_w hw 15) e1 (Arv.arh (HW.2.2.2.2.2.2.2.2.2.2.2.ext O0.2)) (HW.2.2.2.2.2.2.2.2.2.2.1.ext O0.2) (g := (mkF m 3 #[] [(.ref wV)])) rfl (by rw [hml]; rfl) rfl (hb hby dprog_35_1_3) (by decide) (W := 0) (by show 2 * 0 + _ ≤ _; exact Nat.le_of_eq rfl) (by decide) (cap := 3) (by decide) (by decide) (by decide)
  obtain ⟨b2, g2⟩ : ∃ z, z = h0.size := ⟨_, rfl⟩
  rw [← g2] at A2 Ex2 st2
  have g_b2 : n0 ≤ b2 := Nat.le_trans (own_le O0) (Nat.le_of_eq g2.symm)
  have sz_b2 : h0.size ≤ b2 := Nat.le_trans (Keep.refl h0 []).1 (Nat.le_of_eq g2.symm)
  have O2 := O0.ext E2
  have K2 := Keep.ext (Keep.refl h0 []) E2
  have V_b2 : Arv Z h2 b2 kwV (.object "com/example/slipway/slipway/Limit") (3 : Int32) [(.ref wOS), (.ref wARCH), (.ref wLOCALE)] .null := A2
  obtain ⟨T3, X3, e3, st3⟩ := castY X2 hx hZ hown (own_w hw 20) e2 (Ins.self Ex2) (g := (mkF m 6 #[] [(.ref b2)])) rfl rfl (hb hby dprog_35_1_6)
  obtain ⟨fs, hr, hrun, hended, hW, hsame⟩ := X3.leave (v := some (.ref b2)) (fun h => by rw [Bd.returns] at h; cases h)
  refine own_by (W' := (T3.setTop (mkF m 9 #[] [(.ref b2)]))) (fun t k => st1 _ (st2 _ (st3 _ k))) ?_
  refine ⟨_, _, retOut X3 hx Bd.returns rfl (Or.inr (Or.inr (Or.inr (Or.inr ⟨rfl, rfl, rfl⟩)))) (hb hby dprog_35_1_9) hr, hrun, hended, _, _, rfl, ?_, ⟨_, rfl⟩, hW, hsame.mono (by decide) (by decide)⟩
  show QV Z wOS wARCH wLOCALE wV kwV h0 n0 _ T3.heap _
  rw [e3]
  exact ⟨_, rfl, N0, K2, V_b2⟩
theorem pd_1 : parseMethodDescriptor "()[Lcom/example/slipway/slipway/Limit;" = some ⟨[], some (.array (.object "com/example/slipway/slipway/Limit"))⟩ := by decide +kernel
theorem dprog_35_5_0 : decode prog_35_method_5_code 0 = .ok (.invokestatic 40, 3) := by decide +kernel
theorem dprog_35_5_3 : decode prog_35_method_5_code 3 = .ok (.astore_n 1, 1) := by decide +kernel
theorem dprog_35_5_4 : decode prog_35_method_5_code 4 = .ok (.aload_n 1, 1) := by decide +kernel
theorem dprog_35_5_5 : decode prog_35_method_5_code 5 = .ok (.arraylength, 1) := by decide +kernel
theorem dprog_35_5_6 : decode prog_35_method_5_code 6 = .ok (.istore_n 2, 1) := by decide +kernel
theorem dprog_35_5_7 : decode prog_35_method_5_code 7 = .ok (.iconst 0, 1) := by decide +kernel
theorem dprog_35_5_8 : decode prog_35_method_5_code 8 = .ok (.istore_n 3, 1) := by decide +kernel
theorem dprog_35_5_9 : decode prog_35_method_5_code 9 = .ok (.iload_n 3, 1) := by decide +kernel
theorem dprog_35_5_10 : decode prog_35_method_5_code 10 = .ok (.iload_n 2, 1) := by decide +kernel
theorem dprog_35_5_11 : decode prog_35_method_5_code 11 = .ok (.if_icmp .ge 26, 3) := by decide +kernel
theorem dprog_35_5_14 : decode prog_35_method_5_code 14 = .ok (.aload_n 1, 1) := by decide +kernel
theorem dprog_35_5_15 : decode prog_35_method_5_code 15 = .ok (.iload_n 3, 1) := by decide +kernel
theorem dprog_35_5_16 : decode prog_35_method_5_code 16 = .ok (.aaload, 1) := by decide +kernel
theorem dprog_35_5_17 : decode prog_35_method_5_code 17 = .ok (.astore 4, 2) := by decide +kernel
theorem dprog_35_5_19 : decode prog_35_method_5_code 19 = .ok (.aload 4, 2) := by decide +kernel
theorem dprog_35_5_21 : decode prog_35_method_5_code 21 = .ok (.getfield 36, 3) := by decide +kernel
theorem dprog_35_5_24 : decode prog_35_method_5_code 24 = .ok (.iload_n 0, 1) := by decide +kernel
theorem dprog_35_5_25 : decode prog_35_method_5_code 25 = .ok (.if_icmp .ne 6, 3) := by decide +kernel
theorem dprog_35_5_28 : decode prog_35_method_5_code 28 = .ok (.aload 4, 2) := by decide +kernel
theorem dprog_35_5_30 : decode prog_35_method_5_code 30 = .ok (.areturn, 1) := by decide +kernel
theorem dprog_35_5_31 : decode prog_35_method_5_code 31 = .ok (.iinc 3 1, 3) := by decide +kernel
theorem dprog_35_5_34 : decode prog_35_method_5_code 34 = .ok (.goto (-25), 3) := by decide +kernel
theorem dprog_35_5_37 : decode prog_35_method_5_code 37 = .ok (.aconst_null, 1) := by decide +kernel
theorem dprog_35_5_38 : decode prog_35_method_5_code 38 = .ok (.areturn, 1) := by decide +kernel
theorem ef5 (m : MethodId) (p0 : Int32) : entryFrame m #[(.int p0)] 5 = mkF m 0 #[.val (.int p0), .unset, .unset, .unset, .unset] [] := by first | (simp [entryFrame, mkF, argsToLocals, Value.category]; done) | rfl
def F5 (p0 : Int32) (wOS : Addr) (wARCH : Addr) (wLOCALE : Addr) (wV : Addr) (kwV : ClassId) : Value := (if (79 : Int32) = p0 then (.ref wOS) else (if (65 : Int32) = p0 then (.ref wARCH) else (if (76 : Int32) = p0 then (.ref wLOCALE) else .null)))
theorem own_F5 (c : Int32) (wOS : Addr) (wARCH : Addr) (wLOCALE : Addr) (wV : Addr) (kwV : ClassId) : F5 c wOS wARCH wLOCALE wV kwV = if c = 79 then .ref wOS else if c = 65 then .ref wARCH else if c = 76 then .ref wLOCALE else .null := by
  simp only [F5, eq_comm (b := c)]
theorem own_isref (c : Int32) (wOS : Addr) (wARCH : Addr) (wLOCALE : Addr) (wV : Addr) (kwV : ClassId) : (F5 c wOS wARCH wLOCALE wV kwV).isRef = true := by
  unfold F5
  repeat' split
  all_goals rfl
def Q5 (Z : State) (p0 : Int32) (wOS : Addr) (wARCH : Addr) (wLOCALE : Addr) (wV : Addr) (kwV : ClassId) (h0 : Heap) (n0 : Nat) (v : Option Value) (h : Heap) (L : List Loc) : Prop := v = some (F5 p0 wOS wARCH wLOCALE wV kwV) ∧ Fr n0 L ∧ Keep h0 h []
abbrev own_K5 (Z : State) (p0 : Int32) (wOS : Addr) (wARCH : Addr) (wLOCALE : Addr) (wV : Addr) (kwV : ClassId) (h0 : Heap) (n0 : Nat) (s : State) : Outcome → State → Prop := fun o U' => ∃ v L, o = .returned v ∧ Q5 Z p0 wOS wARCH wLOCALE wV kwV h0 n0 v U'.heap L ∧ FrameEnd s o U' L ({ frames := 2, cells := 1, slots := 3, locals := 25 } : Room).cells ({ frames := 2, cells := 1, slots := 3, locals := 25 } : Room).slots
set_option maxRecDepth 65536 in
set_option maxHeartbeats 40000000 in
theorem rm5 (l : Launch) (Z : State) (a0 : Array Value) (hw : ∀ d ∈ tables_1, d.before a0 Z = true) (ws : List Jvm.Cond) (p0 : Int32) (wOS : Addr) (wARCH : Addr) (wLOCALE : Addr) (wV : Addr) (kwV : ClassId) (h0 : Heap) (n0 : Nat) (Z0 : n0 ≤ h0.size) (O0 : Old Z n0 h0) (HW : own_Wd Z wOS wARCH wLOCALE wV kwV) :
    MetFree l (⟨"com/example/slipway/slipway/Limit", "ofLetter", "(C)Lcom/example/slipway/slipway/Limit;"⟩ : MethodName) (head1 (Jvm.Cond.code (⟨"com/example/slipway/slipway/Limit", "ofLetter", "(C)Lcom/example/slipway/slipway/Limit;"⟩ : MethodName) prog_35_method_5_code 5 (some (.object "com/example/slipway/slipway/Limit")) :: ws) ({ frames := 2, cells := 1, slots := 3, locals := 25 } : Room)) (fun a U => a = #[(.int p0)] ∧ Z.Warmed39 U.vm ∧ U.heap = h0) (fun _ _ _ _ _ => True) (fun _ U o U' => ∃ v L, o = .returned v ∧ Q5 Z p0 wOS wARCH wLOCALE wV kwV h0 n0 v U'.heap L ∧ FrameEnd U o U' L ({ frames := 2, cells := 1, slots := 3, locals := 25 } : Room).cells ({ frames := 2, cells := 1, slots := 3, locals := 25 } : Room).slots) := by
  refine MetFree.of_bodySF (plainFor_of_name pn_com_example_slipway_slipway_Limit) hisR ?_
  intro p e s m args below meth c s₁ Bd hml0 hP hK
  obtain ⟨rfl, hZ, hh⟩ := hP
  have hx := Bd.exec
  have hby := Bd.bytes
  have hml : c.maxLocals = 5 := hml0
  have hown : s.vm.findClass "com/example/slipway/slipway/Limit" = some m.cls := findClass_of_methodNamed Bd.named
  have hnm := (name_of_methodNamed Bd.named Bd.method).1
  have X0 : Stand p l e ({ frames := 2, cells := 1, slots := 3, locals := 25 } : Room) s m #[(.int p0)] below meth c s₁ [] 0 0 := Stand.of_body Bd
  have e0 : s₁.heap = h0 := by rw [← hh, Bd.state]; rfl
  have N0 := Fr.nil n0
  refine own_by (p := p) (e := e) (below := below) (K := own_K5 Z p0 wOS wARCH wLOCALE wV kwV h0 n0 s) (W' := s₁.setTop (mkF m 0 #[.val (.int p0), .unset, .unset, .unset, .unset] [])) (fun t k => castTop (ef5 m p0) k) ?_
  obtain ⟨_, _, ⟨T1, L1, k1, n1⟩, -, X1, ⟨Lc1, hQ1, l1, y1, z1⟩, st1⟩ := Jvm.LawKit.callS X0 hx (y := (⟨"com/example/slipway/slipway/Limit", "values", "()[Lcom/example/slipway/slipway/Limit;"⟩ : MethodName)) hown (mvT hZ (own_w hw 4)) (mvT hZ (own_w hw 5)) (mvT hZ (own_w hw 2)) (mvT hZ (own_w hw 6)) (by decide) (backOf (W := 0) (rmV l Z a0 hw [] wOS wARCH wLOCALE wV kwV h0 n0 Z0 O0 HW) hZ (own_w hw 6) (own_w hw 2) (by decide) (by decide)) (g := (mkF m 0 #[.val (.int p0), .unset, .unset, .unset, .unset] [])) rfl (by rw [hml]; rfl) (argsL := []) (rest := []) (lenOf pd_1 rfl) rfl (by show 2 * 0 + _ ≤ _; exact Nat.le_of_eq rfl) (hb hby dprog_35_5_0) (fun _ _ => ⟨rfl, e0, (by decide : 0 + 1 ≤ _), (by decide : 0 + 3 ≤ _)⟩)
  dsimp only [Pt.U, Pt.locs, Pt.cells, Pt.slots] at X1 l1 y1 z1 st1 hQ1
  subst l1 y1 z1
  obtain ⟨q1, rfl, N1q, Kq1, Vq1⟩ := hQ1
  have O1 := Old.keep O0 Kq1 all0
  have K1 := Keep.trans (Keep.refl h0 []) Kq1 all0
  have N1 := Fr.app N0 N1q
  obtain ⟨clu2, Aru2, qu2, Su2, Ngu2, Hau2, Gau2⟩ := id Vq1
  refine own_by (W' := (T1.setTop (mkF m 6 #[.val (.int p0), .val (.ref q1), .unset, .unset, .unset] [(.int clu2.slots.size.toInt32)]))) (fun t k => st1 _ (XS.astoreN X1.here hx rfl (hb hby dprog_35_5_3) rfl rfl (l' := #[.val (.int p0), .val (.ref q1), .unset, .unset, .unset]) rfl (XS.aloadN X1.here hx rfl (hb hby dprog_35_5_4) rfl rfl ((X1.arraylength hx Aru2.1 (State.isArrayOf_alike hZ.alike Aru2.2.1) (g := (mkF m 5 #[.val (.int p0), .val (.ref q1), .unset, .unset, .unset] [(.ref q1)])) rfl rfl (hb hby dprog_35_5_5)) _ k)))) ?_
  rw [len_of Su2 Ngu2]
  refine own_by (W' := (T1.setTop (mkF m 14 #[.val (.int p0), .val (.ref q1), .val (.int (3 : Int32)), .val (.int (0 : Int32)), .unset] []))) (fun t k => XS.istoreN X1.here hx rfl (hb hby dprog_35_5_6) rfl (l' := #[.val (.int p0), .val (.ref q1), .val (.int (3 : Int32)), .unset, .unset]) rfl (XS.iconst X1.here hx rfl (hb hby dprog_35_5_7) (XS.istoreN X1.here hx rfl (hb hby dprog_35_5_8) rfl (l' := #[.val (.int p0), .val (.ref q1), .val (.int (3 : Int32)), .val (.int (0 : Int32)), .unset]) rfl (XS.iloadN X1.here hx rfl (hb hby dprog_35_5_9) rfl (XS.iloadN X1.here hx rfl (hb hby dprog_35_5_10) rfl (XS.icmpNo X1.here hx rfl (hb hby dprog_35_5_11) rfl (tlt (by decide : (0 : Int32) < (3 : Int32))).2.1 k)))))) ?_
  obtain ⟨clu3, Aru3, qu3, Su3, Ngu3, Hau3, Gau3⟩ := id Vq1
  have hinu3 : ¬ ((0 : Int32) < 0 ∨ clu3.slots.size ≤ ((0 : Int32)).toNatClampNeg) := inb_of Su3 ⟨by decide, by decide⟩
  have hatu3 : clu3.slots[((0 : Int32)).toNatClampNeg]? = some (.ref wOS) := Has.at Hau3 hinu3 rfl
  obtain ⟨T4, X4, e4, st4⟩ := getF X1 hx hZ hown (host := "") (Or.inl (own_w hw 22)) Via.refl rfl (HW.2.2.1.ext O1.2) (g := (mkF m 21 #[.val (.int p0), .val (.ref q1), .val (.int (3 : Int32)), .val (.int (0 : Int32)), .val (.ref wOS)] [(.ref wOS)])) rfl rfl (hb hby dprog_35_5_21)
  refine own_by (W' := (T4.setTop (mkF m 24 #[.val (.int p0), .val (.ref q1), .val (.int (3 : Int32)), .val (.int (0 : Int32)), .val (.ref wOS)] [(.int (79 : Int32))]))) (fun t k => XS.aloadN X1.here hx rfl (hb hby dprog_35_5_14) rfl rfl (XS.iloadN X1.here hx rfl (hb hby dprog_35_5_15) rfl ((X1.aaload hx (j := (0 : Int32)) (v := (.ref wOS)) Aru3.1 (State.isArrayOf_alike hZ.alike Aru3.2.1) rfl Aru3.2.2 hinu3 hatu3 (g := (mkF m 16 #[.val (.int p0), .val (.ref q1), .val (.int (3 : Int32)), .val (.int (0 : Int32)), .unset] [(.int (0 : Int32)), (.ref q1)])) rfl rfl (hb hby dprog_35_5_16)) _ (XS.astore X1.here hx rfl (hb hby dprog_35_5_17) rfl rfl (l' := #[.val (.int p0), .val (.ref q1), .val (.int (3 : Int32)), .val (.int (0 : Int32)), .val (.ref wOS)]) rfl (XS.aload X1.here hx rfl (hb hby dprog_35_5_19) rfl rfl (st4 _ k)))))) ?_
  refine own_by (W' := (T4.setTop (mkF m 25 #[.val (.int p0), .val (.ref q1), .val (.int (3 : Int32)), .val (.int (0 : Int32)), .val (.ref wOS)] [(.int p0), (.int (79 : Int32))]))) (fun t k => XS.iloadN X4.here hx rfl (hb hby dprog_35_5_24) rfl k) ?_
  by_cases hc5 : (79 : Int32) = p0
  ·
    obtain ⟨fs, hr, hrun, hended, hW, hsame⟩ := X4.leave (v := some (.ref wOS)) (fun h => by rw [Bd.returns] at h; cases h)
    refine own_by (W' := (T4.setTop (mkF m 30 #[.val (.int p0), .val (.ref q1), .val (.int (3 : Int32)), .val (.int (0 : Int32)), .val (.ref wOS)] [(.ref wOS)]))) (fun t k => XS.icmpNo X4.here hx rfl (hb hby dprog_35_5_25) rfl (teq hc5).2 (XS.aload X4.here hx rfl (hb hby dprog_35_5_28) rfl rfl k)) ?_
    refine ⟨_, _, retOut X4 hx Bd.returns rfl (Or.inr (Or.inr (Or.inr (Or.inr ⟨rfl, rfl, rfl⟩)))) (hb hby dprog_35_5_30) hr, hrun, hended, _, _, rfl, ?_, ⟨_, rfl⟩, hW, hsame.mono (by decide) (by decide)⟩
    show Q5 Z p0 wOS wARCH wLOCALE wV kwV h0 n0 _ T4.heap _
    rw [e4]
    refine ⟨congrArg some ?_, N1, K1⟩
    rw [F5, if_pos hc5]
  ·
    refine own_by (W' := (T4.setTop (mkF m 14 #[.val (.int p0), .val (.ref q1), .val (.int (3 : Int32)), .val (.int (1 : Int32)), .val (.ref wOS)] []))) (fun t k => XS.icmpYes X4.here hx rfl (pc0 := 25) (pc' := 31) rfl (hb hby dprog_35_5_25) rfl (feq hc5).2 (by decide) (by decide) (XS.iinc X4.here hx rfl (hb hby dprog_35_5_31) rfl (l' := #[.val (.int p0), .val (.ref q1), .val (.int (3 : Int32)), .val (.int (1 : Int32)), .val (.ref wOS)]) rfl (XS.goto X4.here hx rfl (pc0 := 34) (pc' := 9) rfl (hb hby dprog_35_5_34) (by decide) (by decide) (XS.iloadN X4.here hx rfl (hb hby dprog_35_5_9) rfl (XS.iloadN X4.here hx rfl (hb hby dprog_35_5_10) rfl (XS.icmpNo X4.here hx rfl (hb hby dprog_35_5_11) rfl (tlt (by decide : (1 : Int32) < (3 : Int32))).2.1 k)))))) ?_
    obtain ⟨clu6, Aru6, qu6, Su6, Ngu6, Hau6, Gau6⟩ := id Vq1
    have hinu6 : ¬ ((1 : Int32) < 0 ∨ clu6.slots.size ≤ ((1 : Int32)).toNatClampNeg) := inb_of Su6 ⟨by decide, by decide⟩
    have hatu6 : clu6.slots[((1 : Int32)).toNatClampNeg]? = some (.ref wARCH) := Has.at Hau6 hinu6 rfl
    obtain ⟨T7, X7, e7, st7⟩ := getF X4 hx hZ hown (host := "") (Or.inl (own_w hw 22)) Via.refl e4 (HW.2.2.2.2.2.1.ext O1.2) (g := (mkF m 21 #[.val (.int p0), .val (.ref q1), .val (.int (3 : Int32)), .val (.int (1 : Int32)), .val (.ref wARCH)] [(.ref wARCH)])) rfl rfl (hb hby dprog_35_5_21)
    refine own_by (W' := (T7.setTop (mkF m 24 #[.val (.int p0), .val (.ref q1), .val (.int (3 : Int32)), .val (.int (1 : Int32)), .val (.ref wARCH)] [(.int (65 : Int32))]))) (fun t k => XS.aloadN X4.here hx rfl (hb hby dprog_35_5_14) rfl rfl (XS.iloadN X4.here hx rfl (hb hby dprog_35_5_15) rfl ((X4.aaload hx (j := (1 : Int32)) (v := (.ref wARCH)) (by rw [e4]; exact Aru6.1) (State.isArrayOf_alike hZ.alike Aru6.2.1) rfl Aru6.2.2 hinu6 hatu6 (g := (mkF m 16 #[.val (.int p0), .val (.ref q1), .val (.int (3 : Int32)), .val (.int (1 : Int32)), .val (.ref wOS)] [(.int (1 : Int32)), (.ref q1)])) rfl rfl (hb hby dprog_35_5_16)) _ (XS.astore X4.here hx rfl (hb hby dprog_35_5_17) rfl rfl (l' := #[.val (.int p0), .val (.ref q1), .val (.int (3 : Int32)), .val (.int (1 : Int32)), .val (.ref wARCH)]) rfl (XS.aload X4.here hx rfl (hb hby dprog_35_5_19) rfl rfl (st7 _ k)))))) ?_
    refine own_by (W' := (T7.setTop (mkF m 25 #[.val (.int p0), .val (.ref q1), .val (.int (3 : Int32)), .val (.int (1 : Int32)), .val (.ref wARCH)] [(.int p0), (.int (65 : Int32))]))) (fun t k => XS.iloadN X7.here hx rfl (hb hby dprog_35_5_24) rfl k) ?_
    by_cases hc8 : (65 : Int32) = p0
    ·
      obtain ⟨fs, hr, hrun, hended, hW, hsame⟩ := X7.leave (v := some (.ref wARCH)) (fun h => by rw [Bd.returns] at h; cases h)
      refine own_by (W' := (T7.setTop (mkF m 30 #[.val (.int p0), .val (.ref q1), .val (.int (3 : Int32)), .val (.int (1 : Int32)), .val (.ref wARCH)] [(.ref wARCH)]))) (fun t k => XS.icmpNo X7.here hx rfl (hb hby dprog_35_5_25) rfl (teq hc8).2 (XS.aload X7.here hx rfl (hb hby dprog_35_5_28) rfl rfl k)) ?_
      refine ⟨_, _, retOut X7 hx Bd.returns rfl (Or.inr (Or.inr (Or.inr (Or.inr ⟨rfl, rfl, rfl⟩)))) (hb hby dprog_35_5_30) hr, hrun, hended, _, _, rfl, ?_, ⟨_, rfl⟩, hW, hsame.mono (by decide) (by decide)⟩
      show Q5 Z p0 wOS wARCH wLOCALE wV kwV h0 n0 _ T7.heap _
      rw [e7]
      refine ⟨congrArg some ?_, N1, K1⟩
      rw [F5, if_neg hc5, if_pos hc8]
    ·
      refine own_by (W' := (T7.setTop (mkF m 14 #[.val (.int p0), .val (.ref q1), .val (.int (3 : Int32)), .val (.int (2 : Int32)), .val (.ref wARCH)] []))) (fun t k => XS.icmpYes X7.here hx rfl (pc0 := 25) (pc' := 31) rfl (hb hby dprog_35_5_25) rfl (feq hc8).2 (by decide) (by decide) (XS.iinc X7.here hx rfl (hb hby dprog_35_5_31) rfl (l' := #[.val (.int p0), .val (.ref q1), .val (.int (3 : Int32)), .val (.int (2 : Int32)), .val (.ref wARCH)]) rfl (XS.goto X7.here hx rfl (pc0 := 34) (pc' := 9) rfl (hb hby dprog_35_5_34) (by decide) (by decide) (XS.iloadN X7.here hx rfl (hb hby dprog_35_5_9) rfl (XS.iloadN X7.here hx rfl (hb hby dprog_35_5_10) rfl (XS.icmpNo X7.here hx rfl (hb hby dprog_35_5_11) rfl (tlt (by decide : (2 : Int32) < (3 : Int32))).2.1 k)))))) ?_
      obtain ⟨clu9, Aru9, qu9, Su9, Ngu9, Hau9, Gau9⟩ := id Vq1
      have hinu9 : ¬ ((2 : Int32) < 0 ∨ clu9.slots.size ≤ ((2 : Int32)).toNatClampNeg) := inb_of Su9 ⟨by decide, by decide⟩
      have hatu9 : clu9.slots[((2 : Int32)).toNatClampNeg]? = some (.ref wLOCALE) := Has.at Hau9 hinu9 rfl
      obtain ⟨T10, X10, e10, st10⟩ := getF X7 hx hZ hown (host := "") (Or.inl (own_w hw 22)) Via.refl e7 (HW.2.2.2.2.2.2.2.2.1.ext O1.2) (g := (mkF m 21 #[.val (.int p0), .val (.ref q1), .val (.int (3 : Int32)), .val (.int (2 : Int32)), .val (.ref wLOCALE)] [(.ref wLOCALE)])) rfl rfl (hb hby dprog_35_5_21)
      refine own_by (W' := (T10.setTop (mkF m 24 #[.val (.int p0), .val (.ref q1), .val (.int (3 : Int32)), .val (.int (2 : Int32)), .val (.ref wLOCALE)] [(.int (76 : Int32))]))) (fun t k => XS.aloadN X7.here hx rfl (hb hby dprog_35_5_14) rfl rfl (XS.iloadN X7.here hx rfl (hb hby dprog_35_5_15) rfl ((X7.aaload hx (j := (2 : Int32)) (v := (.ref wLOCALE)) (by rw [e7]; exact Aru9.1) (State.isArrayOf_alike hZ.alike Aru9.2.1) rfl Aru9.2.2 hinu9 hatu9 (g := (mkF m 16 #[.val (.int p0), .val (.ref q1), .val (.int (3 : Int32)), .val (.int (2 : Int32)), .val (.ref wARCH)] [(.int (2 : Int32)), (.ref q1)])) rfl rfl (hb hby dprog_35_5_16)) _ (XS.astore X7.here hx rfl (hb hby dprog_35_5_17) rfl rfl (l' := #[.val (.int p0), .val (.ref q1), .val (.int (3 : Int32)), .val (.int (2 : Int32)), .val (.ref wLOCALE)]) rfl (XS.aload X7.here hx rfl (hb hby dprog_35_5_19) rfl rfl (st10 _ k)))))) ?_
      refine own_by (W' := (T10.setTop (mkF m 25 #[.val (.int p0), .val (.ref q1), .val (.int (3 : Int32)), .val (.int (2 : Int32)), .val (.ref wLOCALE)] [(.int p0), (.int (76 : Int32))]))) (fun t k => XS.iloadN X10.here hx rfl (hb hby dprog_35_5_24) rfl k) ?_
      by_cases hc11 : (76 : Int32) = p0
      ·
        obtain ⟨fs, hr, hrun, hended, hW, hsame⟩ := X10.leave (v := some (.ref wLOCALE)) (fun h => by rw [Bd.returns] at h; cases h)
        refine own_by (W' := (T10.setTop (mkF m 30 #[.val (.int p0), .val (.ref q1), .val (.int (3 : Int32)), .val (.int (2 : Int32)), .val (.ref wLOCALE)] [(.ref wLOCALE)]))) (fun t k => XS.icmpNo X10.here hx rfl (hb hby dprog_35_5_25) rfl (teq hc11).2 (XS.aload X10.here hx rfl (hb hby dprog_35_5_28) rfl rfl k)) ?_
        refine ⟨_, _, retOut X10 hx Bd.returns rfl (Or.inr (Or.inr (Or.inr (Or.inr ⟨rfl, rfl, rfl⟩)))) (hb hby dprog_35_5_30) hr, hrun, hended, _, _, rfl, ?_, ⟨_, rfl⟩, hW, hsame.mono (by decide) (by decide)⟩
        show Q5 Z p0 wOS wARCH wLOCALE wV kwV h0 n0 _ T10.heap _
        rw [e10]
        refine ⟨congrArg some ?_, N1, K1⟩
        rw [F5, if_neg hc5, if_neg hc8, if_pos hc11]
      ·
        refine own_by (W' := (T10.setTop (mkF m 37 #[.val (.int p0), .val (.ref q1), .val (.int (3 : Int32)), .val (.int (3 : Int32)), .val (.ref wLOCALE)] []))) (fun t k => XS.icmpYes X10.here hx rfl (pc0 := 25) (pc' := 31) rfl (hb hby dprog_35_5_25) rfl (feq hc11).2 (by decide) (by decide) (XS.iinc X10.here hx rfl (hb hby dprog_35_5_31) rfl (l' := #[.val (.int p0), .val (.ref q1), .val (.int (3 : Int32)), .val (.int (3 : Int32)), .val (.ref wLOCALE)]) rfl (XS.goto X10.here hx rfl (pc0 := 34) (pc' := 9) rfl (hb hby dprog_35_5_34) (by decide) (by decide) (XS.iloadN X10.here hx rfl (hb hby dprog_35_5_9) rfl (XS.iloadN X10.here hx rfl (hb hby dprog_35_5_10) rfl (XS.icmpYes X10.here hx rfl (pc0 := 11) (pc' := 37) rfl (hb hby dprog_35_5_11) rfl (flt (by decide : ¬ ((3 : Int32) < (3 : Int32)))).2.1 (by decide) (by decide) k)))))) ?_
        obtain ⟨fs, hr, hrun, hended, hW, hsame⟩ := X10.leave (v := some .null) (fun h => by rw [Bd.returns] at h; cases h)
        refine own_by (W' := (T10.setTop (mkF m 38 #[.val (.int p0), .val (.ref q1), .val (.int (3 : Int32)), .val (.int (3 : Int32)), .val (.ref wLOCALE)] [.null]))) (fun t k => XS.aconstNull X10.here hx rfl (hb hby dprog_35_5_37) k) ?_
        refine ⟨_, _, retOut X10 hx Bd.returns rfl (Or.inr (Or.inr (Or.inr (Or.inr ⟨rfl, rfl, rfl⟩)))) (hb hby dprog_35_5_38) hr, hrun, hended, _, _, rfl, ?_, ⟨_, rfl⟩, hW, hsame.mono (by decide) (by decide)⟩
        show Q5 Z p0 wOS wARCH wLOCALE wV kwV h0 n0 _ T10.heap _
        rw [e10]
        refine ⟨congrArg some ?_, N1, K1⟩
        rw [F5, if_neg hc5, if_neg hc8, if_neg hc11]
theorem pd_2 : parseMethodDescriptor "(C)Lcom/example/slipway/slipway/Limit;" = some ⟨[.char], some (.object "com/example/slipway/slipway/Limit")⟩ := by decide +kernel
theorem pn_com_example_slipway_slipway_LimitOfLetterPinLaw : plainName "com/example/slipway/slipway/LimitOfLetterPinLaw" = true := by first | (simp [plainName, overriddenIn]; done) | decide +kernel
theorem efL (m : MethodId) (p0 : Int32) (p1 : Int32) : entryFrame m #[(.int p0), (.int p1)] maxLocals = mkF m 0 #[.val (.int p0), .val (.int p1), .unset, .unset, .unset, .unset] [] := by first | (simp [entryFrame, mkF, argsToLocals, Value.category, maxLocals]; done) | rfl
def QL (Z : State) (p0 : Int32) (p1 : Int32) (wOS : Addr) (wARCH : Addr) (wLOCALE : Addr) (wV : Addr) (kwV : ClassId) (h0 : Heap) (n0 : Nat) (v : Option Value) (h : Heap) (L : List Loc) : Prop := v = some (.int 1) ∧ Fr n0 L
abbrev own_KL (Z : State) (p0 : Int32) (p1 : Int32) (wOS : Addr) (wARCH : Addr) (wLOCALE : Addr) (wV : Addr) (kwV : ClassId) (h0 : Heap) (n0 : Nat) (s : State) : Outcome → State → Prop := fun o U' => ∃ v L, o = .returned v ∧ QL Z p0 p1 wOS wARCH wLOCALE wV kwV h0 n0 v U'.heap L ∧ FrameEnd s o U' L room_1.cells room_1.slots
set_option maxRecDepth 65536 in
set_option maxHeartbeats 40000000 in
theorem rmL (l : Launch) (Z : State) (a0 : Array Value) (hw : ∀ d ∈ tables_1, d.before a0 Z = true) (ws : List Jvm.Cond) (p0 : Int32) (p1 : Int32) (wOS : Addr) (wARCH : Addr) (wLOCALE : Addr) (wV : Addr) (kwV : ClassId) (h0 : Heap) (n0 : Nat) (Z0 : n0 ≤ h0.size) (O0 : Old Z n0 h0) (HW : own_Wd Z wOS wARCH wLOCALE wV kwV) :
    MetFree l x (head1 (Jvm.Cond.code x code maxLocals ret :: ws) room_1) (fun a U => a = #[(.int p0), (.int p1)] ∧ Z.Warmed39 U.vm ∧ U.heap = h0) (fun _ _ _ _ _ => True) (fun _ U o U' => ∃ v L, o = .returned v ∧ QL Z p0 p1 wOS wARCH wLOCALE wV kwV h0 n0 v U'.heap L ∧ FrameEnd U o U' L room_1.cells room_1.slots) := by
  refine MetFree.of_bodySF (plainFor_of_name pn_com_example_slipway_slipway_LimitOfLetterPinLaw) hisR ?_
  intro p e s m args below meth c s₁ Bd hml0 hP hK
  obtain ⟨rfl, hZ, hh⟩ := hP
  have hx := Bd.exec
  have hby := Bd.bytes
  have hml : c.maxLocals = 6 := hml0
  have hown : s.vm.findClass "com/example/slipway/slipway/LimitOfLetterPinLaw" = some m.cls := findClass_of_methodNamed Bd.named
  have hnm := (name_of_methodNamed Bd.named Bd.method).1
  have X0 : Stand p l e room_1 s m #[(.int p0), (.int p1)] below meth c s₁ [] 0 0 := Stand.of_body Bd
  have e0 : s₁.heap = h0 := by rw [← hh, Bd.state]; rfl
  have N0 := Fr.nil n0
  refine own_by (p := p) (e := e) (below := below) (K := own_KL Z p0 p1 wOS wARCH wLOCALE wV kwV h0 n0 s) (W' := s₁.setTop (mkF m 0 #[.val (.int p0), .val (.int p1), .unset, .unset, .unset, .unset] [])) (fun t k => castTop (efL m p0 p1) k) ?_
  refine own_by (W' := (s₁.setTop (mkF m 5 #[.val (.int p0), .val (.int p1), .val (.int (p0 &&& (7 : Int32))), .unset, .unset, .unset] []))) (fun t k => XS.iloadN X0.here hx rfl (hb hby at_0) rfl (XS.bipush X0.here hx rfl (hb hby at_1) (XS.iand X0.here hx rfl (hb hby at_3) rfl (XS.istoreN X0.here hx rfl (hb hby at_4) rfl (l' := #[.val (.int p0), .val (.int p1), .val (.int (p0 &&& (7 : Int32))), .unset, .unset, .unset]) rfl k)))) ?_
  generalize hv_sel : (p0 &&& (7 : Int32)) = sel
  refine own_by (W' := (s₁.setTop (mkF m 6 #[.val (.int p0), .val (.int p1), .val (.int sel), .unset, .unset, .unset] [(.int sel)]))) (fun t k => XS.iloadN X0.here hx rfl (hb hby at_5) rfl k) ?_
  by_cases hc1 : sel = (0 : Int32)
  ·
    obtain ⟨_, _, ⟨T2, L2, k2, n2⟩, -, X2, ⟨Lc2, hQ2, l2, y2, z2⟩, st2⟩ := Jvm.LawKit.callS X0 hx (y := (⟨"com/example/slipway/slipway/Limit", "ofLetter", "(C)Lcom/example/slipway/slipway/Limit;"⟩ : MethodName)) hown (mvT hZ (own_w hw 0)) (mvT hZ (own_w hw 1)) (mvT hZ (own_w hw 2)) (mvT hZ (own_w hw 3)) (by decide) (backOf (W := 0) (rm5 l Z a0 hw [] (79 : Int32) wOS wARCH wLOCALE wV kwV h0 n0 Z0 O0 HW) hZ (own_w hw 3) (own_w hw 2) (by decide) (by decide)) (g := (mkF m 55 #[.val (.int p0), .val (.int p1), .val (.int sel), .val (.int (79 : Int32)), .unset, .unset] [(.int (79 : Int32))])) rfl (by rw [hml]; rfl) (argsL := [(.int (79 : Int32))]) (rest := []) (lenOf pd_2 rfl) rfl (by show 2 * 0 + _ ≤ _; exact Nat.le_of_eq rfl) (hb hby at_55) (fun _ _ => ⟨rfl, e0, (by decide : 0 + 1 ≤ _), (by decide : 0 + 3 ≤ _)⟩)
    dsimp only [Pt.U, Pt.locs, Pt.cells, Pt.slots] at X2 l2 y2 z2 st2 hQ2
    subst l2 y2 z2
    obtain ⟨rfl, N2q, Kq2⟩ := hQ2
    have O2 := Old.keep O0 Kq2 all0
    have K2 := Keep.trans (Keep.refl h0 []) Kq2 all0
    have N2 := Fr.app N0 N2q
    refine own_by (W' := (T2.setTop (mkF m 58 #[.val (.int p0), .val (.int p1), .val (.int sel), .val (.int (79 : Int32)), .unset, .unset] [(F5 (79 : Int32) wOS wARCH wLOCALE wV kwV)]))) (fun t k => XS.ifNo X0.here hx rfl (hb hby at_6) rfl ((if0 _ _).trans (teq hc1).2) (XS.bipush X0.here hx rfl (hb hby at_9) (XS.istoreN X0.here hx rfl (hb hby at_11) rfl (l' := #[.val (.int p0), .val (.int p1), .val (.int sel), .val (.int (79 : Int32)), .unset, .unset]) rfl (XS.goto X0.here hx rfl (pc0 := 12) (pc' := 54) rfl (hb hby at_12) (by decide) (by decide) (XS.iloadN X0.here hx rfl (hb hby at_54) rfl (st2 _ k)))))) ?_
    obtain ⟨T3, X3, e3, st3⟩ := getS (host := "") X2 hx hZ hown (own_w hw 24) Via.refl rfl (HW.1.ext O2.2) (g := (mkF m 66 #[.val (.int p0), .val (.int p1), .val (.int sel), .val (.int (79 : Int32)), .val (F5 (79 : Int32) wOS wARCH wLOCALE wV kwV), .unset] [])) rfl (hb hby at_66)
    refine own_by (W' := (T3.setTop (mkF m 71 #[.val (.int p0), .val (.int p1), .val (.int sel), .val (.int (79 : Int32)), .val (F5 (79 : Int32) wOS wARCH wLOCALE wV kwV), .val (.ref wOS)] []))) (fun t k => XS.astore X2.here hx rfl (hb hby at_58) rfl (own_isref (79 : Int32) wOS wARCH wLOCALE wV kwV) (l' := #[.val (.int p0), .val (.int p1), .val (.int sel), .val (.int (79 : Int32)), .val (F5 (79 : Int32) wOS wARCH wLOCALE wV kwV), .unset]) (XS.store1 rfl (Or.inl rfl) (own_cat1 (own_isref (79 : Int32) wOS wARCH wLOCALE wV kwV))) (XS.iloadN X2.here hx rfl (hb hby at_60) rfl (XS.bipush X2.here hx rfl (hb hby at_61) (XS.icmpNo X2.here hx rfl (hb hby at_63) rfl (teq (rfl : (79 : Int32) = (79 : Int32))).2 (st3 _ (XS.astore X3.here hx rfl (hb hby at_69) rfl rfl (l' := #[.val (.int p0), .val (.int p1), .val (.int sel), .val (.int (79 : Int32)), .val (F5 (79 : Int32) wOS wARCH wLOCALE wV kwV), .val (.ref wOS)]) rfl k)))))) ?_
    have ho4 : ((F5 (79 : Int32) wOS wARCH wLOCALE wV kwV) : Value) = (.ref wOS) := by rw [own_F5]; rfl
    refine own_by (W' := (T3.setTop (mkF m 117 #[.val (.int p0), .val (.int p1), .val (.int sel), .val (.int (79 : Int32)), .val (F5 (79 : Int32) wOS wARCH wLOCALE wV kwV), .val (.ref wOS)] [(.int (1 : Int32))]))) (fun t k => XS.goto X3.here hx rfl (pc0 := 71) (pc' := 105) rfl (hb hby at_71) (by decide) (by decide) (XS.aload X3.here hx rfl (hb hby at_105) rfl (own_isref (79 : Int32) wOS wARCH wLOCALE wV kwV) (XS.aload X3.here hx rfl (hb hby at_107) rfl rfl (Jvm.RoadKit.acmp (g := (mkF m 109 #[.val (.int p0), .val (.int p1), .val (.int sel), .val (.int (79 : Int32)), .val (F5 (79 : Int32) wOS wARCH wLOCALE wV kwV), .val (.ref wOS)] [(.ref wOS), (F5 (79 : Int32) wOS wARCH wLOCALE wV kwV)])) X3 hx rfl (own_isref (79 : Int32) wOS wARCH wLOCALE wV kwV) rfl (pc0 := 109) (pc' := 112) (same := true) rfl (hb hby at_109) rfl (decide_eq_true ho4) (by decide) (by decide) (XS.iconst X3.here hx rfl (hb hby at_112) (XS.goto X3.here hx rfl (pc0 := 113) (pc' := 117) rfl (hb hby at_113) (by decide) (by decide) k)))))) ?_
    obtain ⟨fs, hr, hrun, hended, hW, hsame⟩ := X3.leave (v := some (.int (1 : Int32))) (fun h => by rw [Bd.returns] at h; cases h)
    refine ⟨_, _, retOut X3 hx Bd.returns rfl (Or.inl ⟨rfl, Or.inr (Or.inl rfl), _, rfl⟩) (hb hby at_117) hr, hrun, hended, _, _, rfl, ?_, ⟨_, rfl⟩, hW, hsame.mono (by decide) (by decide)⟩
    exact ⟨rfl, N2⟩
  ·
    refine own_by (W' := (s₁.setTop (mkF m 17 #[.val (.int p0), .val (.int p1), .val (.int sel), .unset, .unset, .unset] [(.int (1 : Int32)), (.int sel)]))) (fun t k => XS.ifYes X0.here hx rfl (pc0 := 6) (pc' := 15) rfl (hb hby at_6) rfl ((if0 _ _).trans (feq hc1).2) (by decide) (by decide) (XS.iloadN X0.here hx rfl (hb hby at_15) rfl (XS.iconst X0.here hx rfl (hb hby at_16) k))) ?_
    by_cases hc5 : sel = (1 : Int32)
    ·
      obtain ⟨_, _, ⟨T6, L6, k6, n6⟩, -, X6, ⟨Lc6, hQ6, l6, y6, z6⟩, st6⟩ := Jvm.LawKit.callS X0 hx (y := (⟨"com/example/slipway/slipway/Limit", "ofLetter", "(C)Lcom/example/slipway/slipway/Limit;"⟩ : MethodName)) hown (mvT hZ (own_w hw 0)) (mvT hZ (own_w hw 1)) (mvT hZ (own_w hw 2)) (mvT hZ (own_w hw 3)) (by decide) (backOf (W := 0) (rm5 l Z a0 hw [] (65 : Int32) wOS wARCH wLOCALE wV kwV h0 n0 Z0 O0 HW) hZ (own_w hw 3) (own_w hw 2) (by decide) (by decide)) (g := (mkF m 55 #[.val (.int p0), .val (.int p1), .val (.int sel), .val (.int (65 : Int32)), .unset, .unset] [(.int (65 : Int32))])) rfl (by rw [hml]; rfl) (argsL := [(.int (65 : Int32))]) (rest := []) (lenOf pd_2 rfl) rfl (by show 2 * 0 + _ ≤ _; exact Nat.le_of_eq rfl) (hb hby at_55) (fun _ _ => ⟨rfl, e0, (by decide : 0 + 1 ≤ _), (by decide : 0 + 3 ≤ _)⟩)
      dsimp only [Pt.U, Pt.locs, Pt.cells, Pt.slots] at X6 l6 y6 z6 st6 hQ6
      subst l6 y6 z6
      obtain ⟨rfl, N6q, Kq6⟩ := hQ6
      have O6 := Old.keep O0 Kq6 all0
      have K6 := Keep.trans (Keep.refl h0 []) Kq6 all0
      have N6 := Fr.app N0 N6q
      refine own_by (W' := (T6.setTop (mkF m 58 #[.val (.int p0), .val (.int p1), .val (.int sel), .val (.int (65 : Int32)), .unset, .unset] [(F5 (65 : Int32) wOS wARCH wLOCALE wV kwV)]))) (fun t k => XS.icmpNo X0.here hx rfl (hb hby at_17) rfl (teq hc5).2 (XS.bipush X0.here hx rfl (hb hby at_20) (XS.istoreN X0.here hx rfl (hb hby at_22) rfl (l' := #[.val (.int p0), .val (.int p1), .val (.int sel), .val (.int (65 : Int32)), .unset, .unset]) rfl (XS.goto X0.here hx rfl (pc0 := 23) (pc' := 54) rfl (hb hby at_23) (by decide) (by decide) (XS.iloadN X0.here hx rfl (hb hby at_54) rfl (st6 _ k)))))) ?_
      refine own_by (W' := (T6.setTop (mkF m 77 #[.val (.int p0), .val (.int p1), .val (.int sel), .val (.int (65 : Int32)), .val (F5 (65 : Int32) wOS wARCH wLOCALE wV kwV), .unset] [(.int (65 : Int32)), (.int (65 : Int32))]))) (fun t k => XS.astore X6.here hx rfl (hb hby at_58) rfl (own_isref (65 : Int32) wOS wARCH wLOCALE wV kwV) (l' := #[.val (.int p0), .val (.int p1), .val (.int sel), .val (.int (65 : Int32)), .val (F5 (65 : Int32) wOS wARCH wLOCALE wV kwV), .unset]) (XS.store1 rfl (Or.inl rfl) (own_cat1 (own_isref (65 : Int32) wOS wARCH wLOCALE wV kwV))) (XS.iloadN X6.here hx rfl (hb hby at_60) rfl (XS.bipush X6.here hx rfl (hb hby at_61) (XS.icmpYes X6.here hx rfl (pc0 := 63) (pc' := 74) rfl (hb hby at_63) rfl (feq (by decide : ¬ ((65 : Int32) = (79 : Int32)))).2 (by decide) (by decide) (XS.iloadN X6.here hx rfl (hb hby at_74) rfl (XS.bipush X6.here hx rfl (hb hby at_75) k)))))) ?_
      obtain ⟨T7, X7, e7, st7⟩ := getS (host := "") X6 hx hZ hown (own_w hw 26) Via.refl rfl (HW.2.2.2.1.ext O6.2) (g := (mkF m 80 #[.val (.int p0), .val (.int p1), .val (.int sel), .val (.int (65 : Int32)), .val (F5 (65 : Int32) wOS wARCH wLOCALE wV kwV), .unset] [])) rfl (hb hby at_80)
      refine own_by (W' := (T7.setTop (mkF m 109 #[.val (.int p0), .val (.int p1), .val (.int sel), .val (.int (65 : Int32)), .val (F5 (65 : Int32) wOS wARCH wLOCALE wV kwV), .val (.ref wARCH)] [(.ref wARCH), (F5 (65 : Int32) wOS wARCH wLOCALE wV kwV)]))) (fun t k => XS.icmpNo X6.here hx rfl (hb hby at_77) rfl (teq (rfl : (65 : Int32) = (65 : Int32))).2 (st7 _ (XS.astore X7.here hx rfl (hb hby at_83) rfl rfl (l' := #[.val (.int p0), .val (.int p1), .val (.int sel), .val (.int (65 : Int32)), .val (F5 (65 : Int32) wOS wARCH wLOCALE wV kwV), .val (.ref wARCH)]) rfl (XS.goto X7.here hx rfl (pc0 := 85) (pc' := 105) rfl (hb hby at_85) (by decide) (by decide) (XS.aload X7.here hx rfl (hb hby at_105) rfl (own_isref (65 : Int32) wOS wARCH wLOCALE wV kwV) (XS.aload X7.here hx rfl (hb hby at_107) rfl rfl k)))))) ?_
      have ho8 : ((F5 (65 : Int32) wOS wARCH wLOCALE wV kwV) : Value) = (.ref wARCH) := by rw [own_F5]; rfl
      obtain ⟨fs, hr, hrun, hended, hW, hsame⟩ := X7.leave (v := some (.int (1 : Int32))) (fun h => by rw [Bd.returns] at h; cases h)
      refine own_by (W' := (T7.setTop (mkF m 117 #[.val (.int p0), .val (.int p1), .val (.int sel), .val (.int (65 : Int32)), .val (F5 (65 : Int32) wOS wARCH wLOCALE wV kwV), .val (.ref wARCH)] [(.int (1 : Int32))]))) (fun t k => Jvm.RoadKit.acmp (g := (mkF m 109 #[.val (.int p0), .val (.int p1), .val (.int sel), .val (.int (65 : Int32)), .val (F5 (65 : Int32) wOS wARCH wLOCALE wV kwV), .val (.ref wARCH)] [(.ref wARCH), (F5 (65 : Int32) wOS wARCH wLOCALE wV kwV)])) X7 hx rfl (own_isref (65 : Int32) wOS wARCH wLOCALE wV kwV) rfl (pc0 := 109) (pc' := 112) (same := true) rfl (hb hby at_109) rfl (decide_eq_true ho8) (by decide) (by decide) (XS.iconst X7.here hx rfl (hb hby at_112) (XS.goto X7.here hx rfl (pc0 := 113) (pc' := 117) rfl (hb hby at_113) (by decide) (by decide) k))) ?_
      refine ⟨_, _, retOut X7 hx Bd.returns rfl (Or.inl ⟨rfl, Or.inr (Or.inl rfl), _, rfl⟩) (hb hby at_117) hr, hrun, hended, _, _, rfl, ?_, ⟨_, rfl⟩, hW, hsame.mono (by decide) (by decide)⟩
      exact ⟨rfl, N6⟩
    ·
      refine own_by (W' := (s₁.setTop (mkF m 28 #[.val (.int p0), .val (.int p1), .val (.int sel), .unset, .unset, .unset] [(.int (2 : Int32)), (.int sel)]))) (fun t k => XS.icmpYes X0.here hx rfl (pc0 := 17) (pc' := 26) rfl (hb hby at_17) rfl (feq hc5).2 (by decide) (by decide) (XS.iloadN X0.here hx rfl (hb hby at_26) rfl (XS.iconst X0.here hx rfl (hb hby at_27) k))) ?_
      by_cases hc9 : sel = (2 : Int32)
      ·
        obtain ⟨_, _, ⟨T10, L10, k10, n10⟩, -, X10, ⟨Lc10, hQ10, l10, y10, z10⟩, st10⟩ := Jvm.LawKit.callS X0 hx (y := (⟨"com/example/slipway/slipway/Limit", "ofLetter", "(C)Lcom/example/slipway/slipway/Limit;"⟩ : MethodName)) hown (mvT hZ (own_w hw 0)) (mvT hZ (own_w hw 1)) (mvT hZ (own_w hw 2)) (mvT hZ (own_w hw 3)) (by decide) (backOf (W := 0) (rm5 l Z a0 hw [] (76 : Int32) wOS wARCH wLOCALE wV kwV h0 n0 Z0 O0 HW) hZ (own_w hw 3) (own_w hw 2) (by decide) (by decide)) (g := (mkF m 55 #[.val (.int p0), .val (.int p1), .val (.int sel), .val (.int (76 : Int32)), .unset, .unset] [(.int (76 : Int32))])) rfl (by rw [hml]; rfl) (argsL := [(.int (76 : Int32))]) (rest := []) (lenOf pd_2 rfl) rfl (by show 2 * 0 + _ ≤ _; exact Nat.le_of_eq rfl) (hb hby at_55) (fun _ _ => ⟨rfl, e0, (by decide : 0 + 1 ≤ _), (by decide : 0 + 3 ≤ _)⟩)
        dsimp only [Pt.U, Pt.locs, Pt.cells, Pt.slots] at X10 l10 y10 z10 st10 hQ10
        subst l10 y10 z10
        obtain ⟨rfl, N10q, Kq10⟩ := hQ10
        have O10 := Old.keep O0 Kq10 all0
        have K10 := Keep.trans (Keep.refl h0 []) Kq10 all0
        have N10 := Fr.app N0 N10q
        refine own_by (W' := (T10.setTop (mkF m 58 #[.val (.int p0), .val (.int p1), .val (.int sel), .val (.int (76 : Int32)), .unset, .unset] [(F5 (76 : Int32) wOS wARCH wLOCALE wV kwV)]))) (fun t k => XS.icmpNo X0.here hx rfl (hb hby at_28) rfl (teq hc9).2 (XS.bipush X0.here hx rfl (hb hby at_31) (XS.istoreN X0.here hx rfl (hb hby at_33) rfl (l' := #[.val (.int p0), .val (.int p1), .val (.int sel), .val (.int (76 : Int32)), .unset, .unset]) rfl (XS.goto X0.here hx rfl (pc0 := 34) (pc' := 54) rfl (hb hby at_34) (by decide) (by decide) (XS.iloadN X0.here hx rfl (hb hby at_54) rfl (st10 _ k)))))) ?_
        refine own_by (W' := (T10.setTop (mkF m 77 #[.val (.int p0), .val (.int p1), .val (.int sel), .val (.int (76 : Int32)), .val (F5 (76 : Int32) wOS wARCH wLOCALE wV kwV), .unset] [(.int (65 : Int32)), (.int (76 : Int32))]))) (fun t k => XS.astore X10.here hx rfl (hb hby at_58) rfl (own_isref (76 : Int32) wOS wARCH wLOCALE wV kwV) (l' := #[.val (.int p0), .val (.int p1), .val (.int sel), .val (.int (76 : Int32)), .val (F5 (76 : Int32) wOS wARCH wLOCALE wV kwV), .unset]) (XS.store1 rfl (Or.inl rfl) (own_cat1 (own_isref (76 : Int32) wOS wARCH wLOCALE wV kwV))) (XS.iloadN X10.here hx rfl (hb hby at_60) rfl (XS.bipush X10.here hx rfl (hb hby at_61) (XS.icmpYes X10.here hx rfl (pc0 := 63) (pc' := 74) rfl (hb hby at_63) rfl (feq (by decide : ¬ ((76 : Int32) = (79 : Int32)))).2 (by decide) (by decide) (XS.iloadN X10.here hx rfl (hb hby at_74) rfl (XS.bipush X10.here hx rfl (hb hby at_75) k)))))) ?_
        obtain ⟨T11, X11, e11, st11⟩ := getS (host := "") X10 hx hZ hown (own_w hw 27) Via.refl rfl (HW.2.2.2.2.2.2.1.ext O10.2) (g := (mkF m 94 #[.val (.int p0), .val (.int p1), .val (.int sel), .val (.int (76 : Int32)), .val (F5 (76 : Int32) wOS wARCH wLOCALE wV kwV), .unset] [])) rfl (hb hby at_94)
        refine own_by (W' := (T11.setTop (mkF m 99 #[.val (.int p0), .val (.int p1), .val (.int sel), .val (.int (76 : Int32)), .val (F5 (76 : Int32) wOS wARCH wLOCALE wV kwV), .val (.ref wLOCALE)] []))) (fun t k => XS.icmpYes X10.here hx rfl (pc0 := 77) (pc' := 88) rfl (hb hby at_77) rfl (feq (by decide : ¬ ((76 : Int32) = (65 : Int32)))).2 (by decide) (by decide) (XS.iloadN X10.here hx rfl (hb hby at_88) rfl (XS.bipush X10.here hx rfl (hb hby at_89) (XS.icmpNo X10.here hx rfl (hb hby at_91) rfl (teq (rfl : (76 : Int32) = (76 : Int32))).2 (st11 _ (XS.astore X11.here hx rfl (hb hby at_97) rfl rfl (l' := #[.val (.int p0), .val (.int p1), .val (.int sel), .val (.int (76 : Int32)), .val (F5 (76 : Int32) wOS wARCH wLOCALE wV kwV), .val (.ref wLOCALE)]) rfl k)))))) ?_
        have ho12 : ((F5 (76 : Int32) wOS wARCH wLOCALE wV kwV) : Value) = (.ref wLOCALE) := by rw [own_F5]; rfl
        refine own_by (W' := (T11.setTop (mkF m 117 #[.val (.int p0), .val (.int p1), .val (.int sel), .val (.int (76 : Int32)), .val (F5 (76 : Int32) wOS wARCH wLOCALE wV kwV), .val (.ref wLOCALE)] [(.int (1 : Int32))]))) (fun t k => XS.goto X11.here hx rfl (pc0 := 99) (pc' := 105) rfl (hb hby at_99) (by decide) (by decide) (XS.aload X11.here hx rfl (hb hby at_105) rfl (own_isref (76 : Int32) wOS wARCH wLOCALE wV kwV) (XS.aload X11.here hx rfl (hb hby at_107) rfl rfl (Jvm.RoadKit.acmp (g := (mkF m 109 #[.val (.int p0), .val (.int p1), .val (.int sel), .val (.int (76 : Int32)), .val (F5 (76 : Int32) wOS wARCH wLOCALE wV kwV), .val (.ref wLOCALE)] [(.ref wLOCALE), (F5 (76 : Int32) wOS wARCH wLOCALE wV kwV)])) X11 hx rfl (own_isref (76 : Int32) wOS wARCH wLOCALE wV kwV) rfl (pc0 := 109) (pc' := 112) (same := true) rfl (hb hby at_109) rfl (decide_eq_true ho12) (by decide) (by decide) (XS.iconst X11.here hx rfl (hb hby at_112) (XS.goto X11.here hx rfl (pc0 := 113) (pc' := 117) rfl (hb hby at_113) (by decide) (by decide) k)))))) ?_
        obtain ⟨fs, hr, hrun, hended, hW, hsame⟩ := X11.leave (v := some (.int (1 : Int32))) (fun h => by rw [Bd.returns] at h; cases h)
        refine ⟨_, _, retOut X11 hx Bd.returns rfl (Or.inl ⟨rfl, Or.inr (Or.inl rfl), _, rfl⟩) (hb hby at_117) hr, hrun, hended, _, _, rfl, ?_, ⟨_, rfl⟩, hW, hsame.mono (by decide) (by decide)⟩
        exact ⟨rfl, N10⟩
      ·
        refine own_by (W' := (s₁.setTop (mkF m 39 #[.val (.int p0), .val (.int p1), .val (.int sel), .unset, .unset, .unset] [(.int (3 : Int32)), (.int sel)]))) (fun t k => XS.icmpYes X0.here hx rfl (pc0 := 28) (pc' := 37) rfl (hb hby at_28) rfl (feq hc9).2 (by decide) (by decide) (XS.iloadN X0.here hx rfl (hb hby at_37) rfl (XS.iconst X0.here hx rfl (hb hby at_38) k))) ?_
        by_cases hc13 : sel = (3 : Int32)
        ·
          obtain ⟨_, _, ⟨T14, L14, k14, n14⟩, -, X14, ⟨Lc14, hQ14, l14, y14, z14⟩, st14⟩ := Jvm.LawKit.callS X0 hx (y := (⟨"com/example/slipway/slipway/Limit", "ofLetter", "(C)Lcom/example/slipway/slipway/Limit;"⟩ : MethodName)) hown (mvT hZ (own_w hw 0)) (mvT hZ (own_w hw 1)) (mvT hZ (own_w hw 2)) (mvT hZ (own_w hw 3)) (by decide) (backOf (W := 0) (rm5 l Z a0 hw [] (111 : Int32) wOS wARCH wLOCALE wV kwV h0 n0 Z0 O0 HW) hZ (own_w hw 3) (own_w hw 2) (by decide) (by decide)) (g := (mkF m 55 #[.val (.int p0), .val (.int p1), .val (.int sel), .val (.int (111 : Int32)), .unset, .unset] [(.int (111 : Int32))])) rfl (by rw [hml]; rfl) (argsL := [(.int (111 : Int32))]) (rest := []) (lenOf pd_2 rfl) rfl (by show 2 * 0 + _ ≤ _; exact Nat.le_of_eq rfl) (hb hby at_55) (fun _ _ => ⟨rfl, e0, (by decide : 0 + 1 ≤ _), (by decide : 0 + 3 ≤ _)⟩)
          dsimp only [Pt.U, Pt.locs, Pt.cells, Pt.slots] at X14 l14 y14 z14 st14 hQ14
          subst l14 y14 z14
          obtain ⟨rfl, N14q, Kq14⟩ := hQ14
          have O14 := Old.keep O0 Kq14 all0
          have K14 := Keep.trans (Keep.refl h0 []) Kq14 all0
          have N14 := Fr.app N0 N14q
          refine own_by (W' := (T14.setTop (mkF m 58 #[.val (.int p0), .val (.int p1), .val (.int sel), .val (.int (111 : Int32)), .unset, .unset] [(F5 (111 : Int32) wOS wARCH wLOCALE wV kwV)]))) (fun t k => XS.icmpNo X0.here hx rfl (hb hby at_39) rfl (teq hc13).2 (XS.bipush X0.here hx rfl (hb hby at_42) (XS.istoreN X0.here hx rfl (hb hby at_44) rfl (l' := #[.val (.int p0), .val (.int p1), .val (.int sel), .val (.int (111 : Int32)), .unset, .unset]) rfl (XS.goto X0.here hx rfl (pc0 := 45) (pc' := 54) rfl (hb hby at_45) (by decide) (by decide) (XS.iloadN X0.here hx rfl (hb hby at_54) rfl (st14 _ k)))))) ?_
          refine own_by (W' := (T14.setTop (mkF m 77 #[.val (.int p0), .val (.int p1), .val (.int sel), .val (.int (111 : Int32)), .val (F5 (111 : Int32) wOS wARCH wLOCALE wV kwV), .unset] [(.int (65 : Int32)), (.int (111 : Int32))]))) (fun t k => XS.astore X14.here hx rfl (hb hby at_58) rfl (own_isref (111 : Int32) wOS wARCH wLOCALE wV kwV) (l' := #[.val (.int p0), .val (.int p1), .val (.int sel), .val (.int (111 : Int32)), .val (F5 (111 : Int32) wOS wARCH wLOCALE wV kwV), .unset]) (XS.store1 rfl (Or.inl rfl) (own_cat1 (own_isref (111 : Int32) wOS wARCH wLOCALE wV kwV))) (XS.iloadN X14.here hx rfl (hb hby at_60) rfl (XS.bipush X14.here hx rfl (hb hby at_61) (XS.icmpYes X14.here hx rfl (pc0 := 63) (pc' := 74) rfl (hb hby at_63) rfl (feq (by decide : ¬ ((111 : Int32) = (79 : Int32)))).2 (by decide) (by decide) (XS.iloadN X14.here hx rfl (hb hby at_74) rfl (XS.bipush X14.here hx rfl (hb hby at_75) k)))))) ?_
          refine own_by (W' := (T14.setTop (mkF m 105 #[.val (.int p0), .val (.int p1), .val (.int sel), .val (.int (111 : Int32)), .val (F5 (111 : Int32) wOS wARCH wLOCALE wV kwV), .val .null] []))) (fun t k => XS.icmpYes X14.here hx rfl (pc0 := 77) (pc' := 88) rfl (hb hby at_77) rfl (feq (by decide : ¬ ((111 : Int32) = (65 : Int32)))).2 (by decide) (by decide) (XS.iloadN X14.here hx rfl (hb hby at_88) rfl (XS.bipush X14.here hx rfl (hb hby at_89) (XS.icmpYes X14.here hx rfl (pc0 := 91) (pc' := 102) rfl (hb hby at_91) rfl (feq (by decide : ¬ ((111 : Int32) = (76 : Int32)))).2 (by decide) (by decide) (XS.aconstNull X14.here hx rfl (hb hby at_102) (XS.astore X14.here hx rfl (hb hby at_103) rfl rfl (l' := #[.val (.int p0), .val (.int p1), .val (.int sel), .val (.int (111 : Int32)), .val (F5 (111 : Int32) wOS wARCH wLOCALE wV kwV), .val .null]) rfl k)))))) ?_
          have ho15 : ((F5 (111 : Int32) wOS wARCH wLOCALE wV kwV) : Value) = .null := by rw [own_F5]; rfl
          obtain ⟨fs, hr, hrun, hended, hW, hsame⟩ := X14.leave (v := some (.int (1 : Int32))) (fun h => by rw [Bd.returns] at h; cases h)
          refine own_by (W' := (T14.setTop (mkF m 117 #[.val (.int p0), .val (.int p1), .val (.int sel), .val (.int (111 : Int32)), .val (F5 (111 : Int32) wOS wARCH wLOCALE wV kwV), .val .null] [(.int (1 : Int32))]))) (fun t k => XS.aload X14.here hx rfl (hb hby at_105) rfl (own_isref (111 : Int32) wOS wARCH wLOCALE wV kwV) (XS.aload X14.here hx rfl (hb hby at_107) rfl rfl (Jvm.RoadKit.acmp (g := (mkF m 109 #[.val (.int p0), .val (.int p1), .val (.int sel), .val (.int (111 : Int32)), .val (F5 (111 : Int32) wOS wARCH wLOCALE wV kwV), .val .null] [.null, (F5 (111 : Int32) wOS wARCH wLOCALE wV kwV)])) X14 hx rfl (own_isref (111 : Int32) wOS wARCH wLOCALE wV kwV) rfl (pc0 := 109) (pc' := 112) (same := true) rfl (hb hby at_109) rfl (decide_eq_true ho15) (by decide) (by decide) (XS.iconst X14.here hx rfl (hb hby at_112) (XS.goto X14.here hx rfl (pc0 := 113) (pc' := 117) rfl (hb hby at_113) (by decide) (by decide) k))))) ?_
          refine ⟨_, _, retOut X14 hx Bd.returns rfl (Or.inl ⟨rfl, Or.inr (Or.inl rfl), _, rfl⟩) (hb hby at_117) hr, hrun, hended, _, _, rfl, ?_, ⟨_, rfl⟩, hW, hsame.mono (by decide) (by decide)⟩
          exact ⟨rfl, N14⟩
        ·
          refine own_by (W' := (s₁.setTop (mkF m 54 #[.val (.int p0), .val (.int p1), .val (.int sel), .val (.int ((p1 &&& (65535 : Int32)).toUInt32.toUInt16.toUInt32.toInt32)), .unset, .unset] []))) (fun t k => XS.icmpYes X0.here hx rfl (pc0 := 39) (pc' := 48) rfl (hb hby at_39) rfl (feq hc13).2 (by decide) (by decide) (XS.iloadN X0.here hx rfl (hb hby at_48) rfl ((X0.ldcInt hx hown (mvT hZ (own_w hw 25)) (g := (mkF m 49 #[.val (.int p0), .val (.int p1), .val (.int sel), .unset, .unset, .unset] [(.int p1)])) rfl (hb hby at_49)) _ (XS.iand X0.here hx rfl (hb hby at_51) rfl (XS.i2c X0.here hx rfl (hb hby at_52) rfl (XS.istoreN X0.here hx rfl (hb hby at_53) rfl (l' := #[.val (.int p0), .val (.int p1), .val (.int sel), .val (.int ((p1 &&& (65535 : Int32)).toUInt32.toUInt16.toUInt32.toInt32)), .unset, .unset]) rfl k)))))) ?_
          generalize hv_cc : ((p1 &&& (65535 : Int32)).toUInt32.toUInt16.toUInt32.toInt32) = cc
          obtain ⟨_, _, ⟨T16, L16, k16, n16⟩, -, X16, ⟨Lc16, hQ16, l16, y16, z16⟩, st16⟩ := Jvm.LawKit.callS X0 hx (y := (⟨"com/example/slipway/slipway/Limit", "ofLetter", "(C)Lcom/example/slipway/slipway/Limit;"⟩ : MethodName)) hown (mvT hZ (own_w hw 0)) (mvT hZ (own_w hw 1)) (mvT hZ (own_w hw 2)) (mvT hZ (own_w hw 3)) (by decide) (backOf (W := 0) (rm5 l Z a0 hw [] cc wOS wARCH wLOCALE wV kwV h0 n0 Z0 O0 HW) hZ (own_w hw 3) (own_w hw 2) (by decide) (by decide)) (g := (mkF m 55 #[.val (.int p0), .val (.int p1), .val (.int sel), .val (.int cc), .unset, .unset] [(.int cc)])) rfl (by rw [hml]; rfl) (argsL := [(.int cc)]) (rest := []) (lenOf pd_2 rfl) rfl (by show 2 * 0 + _ ≤ _; exact Nat.le_of_eq rfl) (hb hby at_55) (fun _ _ => ⟨rfl, e0, (by decide : 0 + 1 ≤ _), (by decide : 0 + 3 ≤ _)⟩)
          dsimp only [Pt.U, Pt.locs, Pt.cells, Pt.slots] at X16 l16 y16 z16 st16 hQ16
          subst l16 y16 z16
          obtain ⟨rfl, N16q, Kq16⟩ := hQ16
          have O16 := Old.keep O0 Kq16 all0
          have K16 := Keep.trans (Keep.refl h0 []) Kq16 all0
          have N16 := Fr.app N0 N16q
          refine own_by (W' := (T16.setTop (mkF m 63 #[.val (.int p0), .val (.int p1), .val (.int sel), .val (.int cc), .val (F5 cc wOS wARCH wLOCALE wV kwV), .unset] [(.int (79 : Int32)), (.int cc)]))) (fun t k => XS.iloadN X0.here hx rfl (hb hby at_54) rfl (st16 _ (XS.astore X16.here hx rfl (hb hby at_58) rfl (own_isref cc wOS wARCH wLOCALE wV kwV) (l' := #[.val (.int p0), .val (.int p1), .val (.int sel), .val (.int cc), .val (F5 cc wOS wARCH wLOCALE wV kwV), .unset]) (XS.store1 rfl (Or.inl rfl) (own_cat1 (own_isref cc wOS wARCH wLOCALE wV kwV))) (XS.iloadN X16.here hx rfl (hb hby at_60) rfl (XS.bipush X16.here hx rfl (hb hby at_61) k))))) ?_
          by_cases hc17 : cc = (79 : Int32)
          ·
            obtain ⟨T18, X18, e18, st18⟩ := getS (host := "") X16 hx hZ hown (own_w hw 24) Via.refl rfl (HW.1.ext O16.2) (g := (mkF m 66 #[.val (.int p0), .val (.int p1), .val (.int sel), .val (.int cc), .val (F5 cc wOS wARCH wLOCALE wV kwV), .unset] [])) rfl (hb hby at_66)
            refine own_by (W' := (T18.setTop (mkF m 109 #[.val (.int p0), .val (.int p1), .val (.int sel), .val (.int cc), .val (F5 cc wOS wARCH wLOCALE wV kwV), .val (.ref wOS)] [(.ref wOS), (F5 cc wOS wARCH wLOCALE wV kwV)]))) (fun t k => XS.icmpNo X16.here hx rfl (hb hby at_63) rfl (teq hc17).2 (st18 _ (XS.astore X18.here hx rfl (hb hby at_69) rfl rfl (l' := #[.val (.int p0), .val (.int p1), .val (.int sel), .val (.int cc), .val (F5 cc wOS wARCH wLOCALE wV kwV), .val (.ref wOS)]) rfl (XS.goto X18.here hx rfl (pc0 := 71) (pc' := 105) rfl (hb hby at_71) (by decide) (by decide) (XS.aload X18.here hx rfl (hb hby at_105) rfl (own_isref cc wOS wARCH wLOCALE wV kwV) (XS.aload X18.here hx rfl (hb hby at_107) rfl rfl k)))))) ?_
            have ho19 : ((F5 cc wOS wARCH wLOCALE wV kwV) : Value) = (.ref wOS) := by rw [own_F5, if_pos hc17]
            obtain ⟨fs, hr, hrun, hended, hW, hsame⟩ := X18.leave (v := some (.int (1 : Int32))) (fun h => by rw [Bd.returns] at h; cases h)
            refine own_by (W' := (T18.setTop (mkF m 117 #[.val (.int p0), .val (.int p1), .val (.int sel), .val (.int cc), .val (F5 cc wOS wARCH wLOCALE wV kwV), .val (.ref wOS)] [(.int (1 : Int32))]))) (fun t k => Jvm.RoadKit.acmp (g := (mkF m 109 #[.val (.int p0), .val (.int p1), .val (.int sel), .val (.int cc), .val (F5 cc wOS wARCH wLOCALE wV kwV), .val (.ref wOS)] [(.ref wOS), (F5 cc wOS wARCH wLOCALE wV kwV)])) X18 hx rfl (own_isref cc wOS wARCH wLOCALE wV kwV) rfl (pc0 := 109) (pc' := 112) (same := true) rfl (hb hby at_109) rfl (decide_eq_true ho19) (by decide) (by decide) (XS.iconst X18.here hx rfl (hb hby at_112) (XS.goto X18.here hx rfl (pc0 := 113) (pc' := 117) rfl (hb hby at_113) (by decide) (by decide) k))) ?_
            refine ⟨_, _, retOut X18 hx Bd.returns rfl (Or.inl ⟨rfl, Or.inr (Or.inl rfl), _, rfl⟩) (hb hby at_117) hr, hrun, hended, _, _, rfl, ?_, ⟨_, rfl⟩, hW, hsame.mono (by decide) (by decide)⟩
            exact ⟨rfl, N16⟩
          ·
            refine own_by (W' := (T16.setTop (mkF m 77 #[.val (.int p0), .val (.int p1), .val (.int sel), .val (.int cc), .val (F5 cc wOS wARCH wLOCALE wV kwV), .unset] [(.int (65 : Int32)), (.int cc)]))) (fun t k => XS.icmpYes X16.here hx rfl (pc0 := 63) (pc' := 74) rfl (hb hby at_63) rfl (feq hc17).2 (by decide) (by decide) (XS.iloadN X16.here hx rfl (hb hby at_74) rfl (XS.bipush X16.here hx rfl (hb hby at_75) k))) ?_
            by_cases hc20 : cc = (65 : Int32)
            ·
              obtain ⟨T21, X21, e21, st21⟩ := getS (host := "") X16 hx hZ hown (own_w hw 26) Via.refl rfl (HW.2.2.2.1.ext O16.2) (g := (mkF m 80 #[.val (.int p0), .val (.int p1), .val (.int sel), .val (.int cc), .val (F5 cc wOS wARCH wLOCALE wV kwV), .unset] [])) rfl (hb hby at_80)
              refine own_by (W' := (T21.setTop (mkF m 109 #[.val (.int p0), .val (.int p1), .val (.int sel), .val (.int cc), .val (F5 cc wOS wARCH wLOCALE wV kwV), .val (.ref wARCH)] [(.ref wARCH), (F5 cc wOS wARCH wLOCALE wV kwV)]))) (fun t k => XS.icmpNo X16.here hx rfl (hb hby at_77) rfl (teq hc20).2 (st21 _ (XS.astore X21.here hx rfl (hb hby at_83) rfl rfl (l' := #[.val (.int p0), .val (.int p1), .val (.int sel), .val (.int cc), .val (F5 cc wOS wARCH wLOCALE wV kwV), .val (.ref wARCH)]) rfl (XS.goto X21.here hx rfl (pc0 := 85) (pc' := 105) rfl (hb hby at_85) (by decide) (by decide) (XS.aload X21.here hx rfl (hb hby at_105) rfl (own_isref cc wOS wARCH wLOCALE wV kwV) (XS.aload X21.here hx rfl (hb hby at_107) rfl rfl k)))))) ?_
              have ho22 : ((F5 cc wOS wARCH wLOCALE wV kwV) : Value) = (.ref wARCH) := by rw [own_F5, if_neg hc17, if_pos hc20]
              obtain ⟨fs, hr, hrun, hended, hW, hsame⟩ := X21.leave (v := some (.int (1 : Int32))) (fun h => by rw [Bd.returns] at h; cases h)
              refine own_by (W' := (T21.setTop (mkF m 117 #[.val (.int p0), .val (.int p1), .val (.int sel), .val (.int cc), .val (F5 cc wOS wARCH wLOCALE wV kwV), .val (.ref wARCH)] [(.int (1 : Int32))]))) (fun t k => Jvm.RoadKit.acmp (g := (mkF m 109 #[.val (.int p0), .val (.int p1), .val (.int sel), .val (.int cc), .val (F5 cc wOS wARCH wLOCALE wV kwV), .val (.ref wARCH)] [(.ref wARCH), (F5 cc wOS wARCH wLOCALE wV kwV)])) X21 hx rfl (own_isref cc wOS wARCH wLOCALE wV kwV) rfl (pc0 := 109) (pc' := 112) (same := true) rfl (hb hby at_109) rfl (decide_eq_true ho22) (by decide) (by decide) (XS.iconst X21.here hx rfl (hb hby at_112) (XS.goto X21.here hx rfl (pc0 := 113) (pc' := 117) rfl (hb hby at_113) (by decide) (by decide) k))) ?_
              refine ⟨_, _, retOut X21 hx Bd.returns rfl (Or.inl ⟨rfl, Or.inr (Or.inl rfl), _, rfl⟩) (hb hby at_117) hr, hrun, hended, _, _, rfl, ?_, ⟨_, rfl⟩, hW, hsame.mono (by decide) (by decide)⟩
              exact ⟨rfl, N16⟩
            ·
              refine own_by (W' := (T16.setTop (mkF m 91 #[.val (.int p0), .val (.int p1), .val (.int sel), .val (.int cc), .val (F5 cc wOS wARCH wLOCALE wV kwV), .unset] [(.int (76 : Int32)), (.int cc)]))) (fun t k => XS.icmpYes X16.here hx rfl (pc0 := 77) (pc' := 88) rfl (hb hby at_77) rfl (feq hc20).2 (by decide) (by decide) (XS.iloadN X16.here hx rfl (hb hby at_88) rfl (XS.bipush X16.here hx rfl (hb hby at_89) k))) ?_
              by_cases hc23 : cc = (76 : Int32)
              ·
                obtain ⟨T24, X24, e24, st24⟩ := getS (host := "") X16 hx hZ hown (own_w hw 27) Via.refl rfl (HW.2.2.2.2.2.2.1.ext O16.2) (g := (mkF m 94 #[.val (.int p0), .val (.int p1), .val (.int sel), .val (.int cc), .val (F5 cc wOS wARCH wLOCALE wV kwV), .unset] [])) rfl (hb hby at_94)
                refine own_by (W' := (T24.setTop (mkF m 109 #[.val (.int p0), .val (.int p1), .val (.int sel), .val (.int cc), .val (F5 cc wOS wARCH wLOCALE wV kwV), .val (.ref wLOCALE)] [(.ref wLOCALE), (F5 cc wOS wARCH wLOCALE wV kwV)]))) (fun t k => XS.icmpNo X16.here hx rfl (hb hby at_91) rfl (teq hc23).2 (st24 _ (XS.astore X24.here hx rfl (hb hby at_97) rfl rfl (l' := #[.val (.int p0), .val (.int p1), .val (.int sel), .val (.int cc), .val (F5 cc wOS wARCH wLOCALE wV kwV), .val (.ref wLOCALE)]) rfl (XS.goto X24.here hx rfl (pc0 := 99) (pc' := 105) rfl (hb hby at_99) (by decide) (by decide) (XS.aload X24.here hx rfl (hb hby at_105) rfl (own_isref cc wOS wARCH wLOCALE wV kwV) (XS.aload X24.here hx rfl (hb hby at_107) rfl rfl k)))))) ?_
                have ho25 : ((F5 cc wOS wARCH wLOCALE wV kwV) : Value) = (.ref wLOCALE) := by rw [own_F5, if_neg hc17, if_neg hc20, if_pos hc23]
                obtain ⟨fs, hr, hrun, hended, hW, hsame⟩ := X24.leave (v := some (.int (1 : Int32))) (fun h => by rw [Bd.returns] at h; cases h)
                refine own_by (W' := (T24.setTop (mkF m 117 #[.val (.int p0), .val (.int p1), .val (.int sel), .val (.int cc), .val (F5 cc wOS wARCH wLOCALE wV kwV), .val (.ref wLOCALE)] [(.int (1 : Int32))]))) (fun t k => Jvm.RoadKit.acmp (g := (mkF m 109 #[.val (.int p0), .val (.int p1), .val (.int sel), .val (.int cc), .val (F5 cc wOS wARCH wLOCALE wV kwV), .val (.ref wLOCALE)] [(.ref wLOCALE), (F5 cc wOS wARCH wLOCALE wV kwV)])) X24 hx rfl (own_isref cc wOS wARCH wLOCALE wV kwV) rfl (pc0 := 109) (pc' := 112) (same := true) rfl (hb hby at_109) rfl (decide_eq_true ho25) (by decide) (by decide) (XS.iconst X24.here hx rfl (hb hby at_112) (XS.goto X24.here hx rfl (pc0 := 113) (pc' := 117) rfl (hb hby at_113) (by decide) (by decide) k))) ?_
                refine ⟨_, _, retOut X24 hx Bd.returns rfl (Or.inl ⟨rfl, Or.inr (Or.inl rfl), _, rfl⟩) (hb hby at_117) hr, hrun, hended, _, _, rfl, ?_, ⟨_, rfl⟩, hW, hsame.mono (by decide) (by decide)⟩
                exact ⟨rfl, N16⟩
              ·
                have ho26 : ((F5 cc wOS wARCH wLOCALE wV kwV) : Value) = .null := by rw [own_F5, if_neg hc17, if_neg hc20, if_neg hc23]
                refine own_by (W' := (T16.setTop (mkF m 112 #[.val (.int p0), .val (.int p1), .val (.int sel), .val (.int cc), .val (F5 cc wOS wARCH wLOCALE wV kwV), .val .null] []))) (fun t k => XS.icmpYes X16.here hx rfl (pc0 := 91) (pc' := 102) rfl (hb hby at_91) rfl (feq hc23).2 (by decide) (by decide) (XS.aconstNull X16.here hx rfl (hb hby at_102) (XS.astore X16.here hx rfl (hb hby at_103) rfl rfl (l' := #[.val (.int p0), .val (.int p1), .val (.int sel), .val (.int cc), .val (F5 cc wOS wARCH wLOCALE wV kwV), .val .null]) rfl (XS.aload X16.here hx rfl (hb hby at_105) rfl (own_isref cc wOS wARCH wLOCALE wV kwV) (XS.aload X16.here hx rfl (hb hby at_107) rfl rfl (Jvm.RoadKit.acmp (g := (mkF m 109 #[.val (.int p0), .val (.int p1), .val (.int sel), .val (.int cc), .val (F5 cc wOS wARCH wLOCALE wV kwV), .val .null] [.null, (F5 cc wOS wARCH wLOCALE wV kwV)])) X16 hx rfl (own_isref cc wOS wARCH wLOCALE wV kwV) rfl (pc0 := 109) (pc' := 112) (same := true) rfl (hb hby at_109) rfl (decide_eq_true ho26) (by decide) (by decide) k)))))) ?_
                obtain ⟨fs, hr, hrun, hended, hW, hsame⟩ := X16.leave (v := some (.int (1 : Int32))) (fun h => by rw [Bd.returns] at h; cases h)
                refine own_by (W' := (T16.setTop (mkF m 117 #[.val (.int p0), .val (.int p1), .val (.int sel), .val (.int cc), .val (F5 cc wOS wARCH wLOCALE wV kwV), .val .null] [(.int (1 : Int32))]))) (fun t k => XS.iconst X16.here hx rfl (hb hby at_112) (XS.goto X16.here hx rfl (pc0 := 113) (pc' := 117) rfl (hb hby at_113) (by decide) (by decide) k)) ?_
                refine ⟨_, _, retOut X16 hx Bd.returns rfl (Or.inl ⟨rfl, Or.inr (Or.inl rfl), _, rfl⟩) (hb hby at_117) hr, hrun, hended, _, _, rfl, ?_, ⟨_, rfl⟩, hW, hsame.mono (by decide) (by decide)⟩
                exact ⟨rfl, N16⟩
set_option maxRecDepth 65536 in
set_option maxHeartbeats 40000000 in
theorem comes_1 {Post : Tables → Env → Array Value → State → Outcome → State → Prop} (hpost : ∀ tb e args s v u, (limb_1_1.after args s (.returned v) u = true ∧ limb_1_2.after args s (.returned v) u = true ∧ True) → FrameEnd s (.returned v) u (Jvm.fieldLocs frame_1_writes args s ++ Jvm.arrayLocs frame_1_arrays args s ++ Jvm.staticLocs frame_1_statics s) 16 128 → Post tb e args s (.returned v) u) :
    ArmFor flags0 classFile x code maxLocals ret World_1 tables_1 room_1 Calls_1 rest_1 Pre_1 Post := by
  intro l hfl _ _ p e ha hc hk s m args below hf hA hF happ hP
  obtain ⟨hcalls, hrest, hpre⟩ := hP
  obtain ⟨-, -, -, hnamed, -, -, -, hat⟩ := (Spec.applies_iff hf).mp happ
  obtain ⟨hg, hn⟩ := and_e (Cond.before_iff.mp (show (Jvm.Cond.and given_1 narrow_1).before args s = true from hpre))
  obtain ⟨ga1, gb1⟩ := and_e hg
  obtain ⟨ga2, gb2⟩ := and_e gb1
  obtain ⟨w0, w1, rfl⟩ : ∃ w0 w1 : Value, args = #[w0, w1] := by
    have hs : args.size = 2 := by simpa [Cond.value, given_1] using ga1
    obtain ⟨L⟩ := args
    match L, hs with
    | [w0, w1], _ => exact ⟨w0, w1, rfl⟩
  have hw := fun d (hd : d ∈ tables_1) => atoms_spec (ws := Jvm.Cond.code x code maxLocals ret :: tables_1) hat d (List.mem_cons_of_mem _ hd)
  have hfit : Fit s := fun {y c} hc i hi => by
    obtain ⟨ha, rfl⟩ := Array.getElem?_eq_some_iff.mp hc
    have q := List.all_eq_true.mp ((Array.all_eq_true_iff_forall_mem.mp hF) _ (Array.getElem_mem ha)) i (List.mem_range.mpr hi)
    simpa [Array.getElem?_eq_getElem hi] using q
  obtain ⟨i0, ei0⟩ := is_v ga2
  obtain rfl : w0 = (.int i0) := Option.some.inj ei0
  obtain ⟨i1, ei1⟩ := is_v gb2
  obtain rfl : w1 = (.int i1) := Option.some.inj ei1
  obtain ⟨ga3, gb3⟩ := and_e hn
  obtain ⟨ga4, gb4⟩ := and_e gb3
  obtain ⟨ga5, gb5⟩ := and_e gb4
  obtain ⟨ga6, gb6⟩ := and_e gb5
  obtain ⟨ga7, gb7⟩ := and_e gb6
  obtain ⟨ga8, gb8⟩ := and_e gb7
  obtain ⟨ga9, gb9⟩ := and_e gb8
  obtain ⟨ga10, gb10⟩ := and_e gb9
  obtain ⟨ga11, gb11⟩ := and_e gb10
  obtain ⟨ga12, gb12⟩ := and_e gb11
  obtain ⟨ga13, gb13⟩ := and_e gb12
  obtain ⟨wOS, ev_wOS, Sx_wOS, Ex_wOS⟩ := own_sta ga6 (Or.inr ⟨(own_w hw 2), (own_w hw 16)⟩)
  have Fx_wOS_letter := own_fldI ev_wOS ga12
  obtain ⟨wARCH, ev_wARCH, Sx_wARCH, Ex_wARCH⟩ := own_sta ga8 (Or.inr ⟨(own_w hw 2), (own_w hw 17)⟩)
  have Fx_wARCH_letter := own_fldI ev_wARCH ga13
  obtain ⟨wLOCALE, ev_wLOCALE, Sx_wLOCALE, Ex_wLOCALE⟩ := own_sta ga10 (Or.inr ⟨(own_w hw 2), (own_w hw 18)⟩)
  have Fx_wLOCALE_letter := own_fldI ev_wLOCALE gb13
  obtain ⟨wV, ev_wV, Sx_wV, Ex_wV⟩ := own_sta ga4 (Or.inl (own_w hw 19))
  obtain ⟨cl_wV, Ar_wV⟩ := Arr.start ev_wV ga3
  obtain ⟨lt_wV, le_wV⟩ := own_len ev_wV Ar_wV ga5
  have Vx_wV : Arv s s.heap wV cl_wV.cls (.object "com/example/slipway/slipway/Limit") (3 : Int32) [(.ref wOS), (.ref wARCH), (.ref wLOCALE)] .null := Arv.start hfit Ar_wV lt_wV le_wV (by decide) rfl ⟨own_elem ev_wV Ar_wV ev_wOS ga7, own_elem ev_wV Ar_wV ev_wARCH ga9, own_elem ev_wV Ar_wV ev_wLOCALE ga11, trivial⟩
  obtain ⟨n, o, h1, h2, h3, _, L, rfl, ⟨rfl, N⟩, hq⟩ := rmL l s _ hw tables_1 i0 i1 wOS wARCH wLOCALE wV cl_wV.cls s.heap s.heap.size (Nat.le_refl _) (Old.start s) ⟨Sx_wOS, Ex_wOS, Fx_wOS_letter, Sx_wARCH, Ex_wARCH, Fx_wARCH_letter, Sx_wLOCALE, Ex_wLOCALE, Fx_wLOCALE_letter, Sx_wV, Ex_wV, Vx_wV⟩ p e ha hc hk s m _ below hf ((Spec.applies_iff_loose hf).mp happ).1 ⟨rfl, State.Warmed39.refl s, rfl⟩ trivial
  refine ⟨n, _, h1, h2, h3, hpost _ _ _ _ _ _ ⟨Cond.after_iff.mpr rfl, Cond.after_iff.mpr (eq_i res_at (Term.int_eval (1)) rfl), trivial⟩ ⟨hq.1, hq.2.1, (hq.2.2.sift fun y hy => Or.inr (N y hy)).mono (by decide) (by decide)⟩⟩
theorem main_1_1 : Claimed_1_1 := comes_1 fun _ _ _ _ _ _ h hF => ⟨h.1, hF⟩
theorem main_1_2 : Claimed_1_2 := comes_1 fun _ _ _ _ _ _ h hF => ⟨h.2.1, hF⟩
end Jvm.Pilot.@@N@@
namespace Jvm.Pilot.@@N@@
open Jvm Jvm.ClassFile Sem Op Lib Jvm.Free Jvm.Stand Jvm.Pilot.@@N@@.Jvm.D
/-! MADE BY PROGRAM (witnessworld.py) out of the Statement's table words and the real class files: 13 classes; the members and pool entries that the words name. The judged class is class 1, her method 1. -/
namespace start1
open Jvm.ClassFile
def u (s : String) : CpInfo := .utf8 (stringToUtf16 s)
/-- a pool by its gaps: so many unusable entries, then the entry; so many at the end -/
def gap : Nat → List CpInfo → List CpInfo
  | 0, r => r
  | n + 1, r => .unusable :: gap n r
def poolList (es : List (Nat × CpInfo)) (last : Nat) : List CpInfo := es.foldr (fun e r => gap e.1 (e.2 :: r)) (gap last [])
def pool (es : List (Nat × CpInfo)) (last : Nat) : Array CpInfo := ⟨poolList es last⟩
def fileOf (pool : Array CpInfo) (this : Nat) (attrs : Array Attribute := #[]) (ms : Array MethodInfo := #[]) (fl : Nat := 33) (sup : Nat := 0) (ifs : Array Nat := #[]) (fds : Array FieldInfo := #[]) : ClassFile where
  minorVersion := 0
  majorVersion := 65
  constantPool := pool
  accessFlags := fl
  thisClass := this
  superClass := sup
  interfaces := ifs
  fields := fds
  methods := ms
  attributes := attrs
def plain (name : String) (sup : Option ClassId) : Class where
  name := name
  kind := .ordinary
  loader := none
  accessFlags := 33
  super := sup
  interfaces := #[]
  cf := none
  fields := #[]
  methods := #[]
  instanceTypes := #[]
  staticTypes := #[]
  resolved := #[]
  callSites := []
  init := .initialized
  statics := none
  mirror := none

def pool0 : Array CpInfo := pool [(5, u "<init>"), (0, u "()V"), (1, .class_ 10), (1, u "java/lang/Object"), (85, u "clone"), (0, u "()Ljava/lang/Object;")] 26

def k0m0 : Method := { name := "<init>", desc := "()V", sig := { parameters := [], returnType := none }, accessFlags := 1, code := none }
def k0m1 : Method := { name := "clone", desc := "()Ljava/lang/Object;", sig := { parameters := [], returnType := some (.object "java/lang/Object") }, accessFlags := 260, code := none }
/-- java/lang/Object -/
def k0 : Class := { plain "java/lang/Object" none with
  accessFlags := 33
  interfaces := #[]
  cf := some (fileOf pool0 8 #[] #[{ accessFlags := 1, nameIndex := 5, descriptorIndex := 6, attributes := #[] }, { accessFlags := 260, nameIndex := 96, descriptorIndex := 97, attributes := #[] }] 33 0 #[] #[])
  fields := #[]
  methods := #[k0m0, k0m1]
  instanceTypes := #[]
  staticTypes := #[]
  resolved := Array.replicate 124 none
  statics := none }

def pool1 : Array CpInfo := pool [(2, .class_ 4), (1, u "java/lang/Object"), (0, u "<init>"), (0, u "()V"), (0, .integer 65535), (0, .methodref 9 10), (0, .class_ 11), (0, .nameAndType 12 13), (0, u "com/example/slipway/slipway/Limit"), (0, u "ofLetter"), (0, u "(C)Lcom/example/slipway/slipway/Limit;"), (0, .fieldref 9 15), (0, .nameAndType 16 17), (0, u "OS"), (0, u "Lcom/example/slipway/slipway/Limit;"), (0, .fieldref 9 19), (0, .nameAndType 20 17), (0, u "ARCH"), (0, .fieldref 9 22), (0, .nameAndType 23 17), (0, u "LOCALE"), (0, .class_ 25), (0, u "com/example/slipway/slipway/LimitOfLetterPinLaw"), (2, u "law"), (0, u "(II)Z")] 3

def k1m0 : Method := { name := "<init>", desc := "()V", sig := { parameters := [], returnType := none }, accessFlags := 1, code := none }
def k1c1 : Code := { maxStack := 2, maxLocals := 6, code := code, exceptionTable := #[], attributes := #[] }
def k1m1 : Method := { name := "law", desc := "(II)Z", sig := { parameters := [.int, .int], returnType := some .boolean }, accessFlags := 9, code := some k1c1 }
/-- com/example/slipway/slipway/LimitOfLetterPinLaw -/
def k1 : Class := { plain "com/example/slipway/slipway/LimitOfLetterPinLaw" (some 0) with
  accessFlags := 49
  interfaces := #[]
  cf := some (fileOf pool1 24 #[] #[{ accessFlags := 1, nameIndex := 5, descriptorIndex := 6, attributes := #[] }, { accessFlags := 9, nameIndex := 28, descriptorIndex := 29, attributes := #[] }] 49 2 #[] #[])
  fields := #[]
  methods := #[k1m0, k1m1]
  instanceTypes := #[]
  staticTypes := #[]
  resolved := Array.replicate 33 none
  statics := none }

def pool2 : Array CpInfo := pool [(1, .class_ 2), (0, u "java/lang/constant/Constable"), (0, .class_ 4), (0, u "java/lang/Object")] 6

/-- java/lang/constant/Constable -/
def k2 : Class := { plain "java/lang/constant/Constable" (some 0) with
  accessFlags := 1537
  interfaces := #[]
  cf := some (fileOf pool2 1 #[] #[] 1537 3 #[] #[])
  fields := #[]
  methods := #[]
  instanceTypes := #[]
  staticTypes := #[]
  resolved := Array.replicate 11 none
  statics := none }

def pool3 : Array CpInfo := pool [(1, .class_ 2), (0, u "java/lang/Comparable"), (0, .class_ 4), (0, u "java/lang/Object")] 7

/-- java/lang/Comparable -/
def k3 : Class := { plain "java/lang/Comparable" (some 0) with
  accessFlags := 1537
  interfaces := #[]
  cf := some (fileOf pool3 1 #[] #[] 1537 3 #[] #[])
  fields := #[]
  methods := #[]
  instanceTypes := #[]
  staticTypes := #[]
  resolved := Array.replicate 12 none
  statics := none }

def pool4 : Array CpInfo := pool [(1, .class_ 2), (0, u "java/io/Serializable"), (0, .class_ 4), (0, u "java/lang/Object")] 2

/-- java/io/Serializable -/
def k4 : Class := { plain "java/io/Serializable" (some 0) with
  accessFlags := 1537
  interfaces := #[]
  cf := some (fileOf pool4 1 #[] #[] 1537 3 #[] #[])
  fields := #[]
  methods := #[]
  instanceTypes := #[]
  staticTypes := #[]
  resolved := Array.replicate 7 none
  statics := none }

def pool5 : Array CpInfo := pool [(2, .class_ 4), (1, u "java/lang/Enum"), (0, u "name"), (0, u "Ljava/lang/String;"), (2, u "ordinal"), (0, u "I"), (1, .class_ 14), (1, u "java/lang/Object"), (4, u "hash"), (86, .class_ 108), (1, u "java/lang/Enum$EnumDesc"), (2, .class_ 112), (0, u "java/lang/constant/Constable"), (0, .class_ 114), (0, u "java/lang/Comparable"), (0, .class_ 116), (0, u "java/io/Serializable")] 87

/-- java/lang/Enum -/
def k5 : Class := { plain "java/lang/Enum" (some 0) with
  accessFlags := 1057
  interfaces := #[2, 3, 4]
  cf := some (fileOf pool5 2 #[.nestMembers #[106]] #[] 1057 12 #[111, 113, 115] #[{ accessFlags := 18, nameIndex := 5, descriptorIndex := 6, attributes := #[] }, { accessFlags := 18, nameIndex := 9, descriptorIndex := 10, attributes := #[] }, { accessFlags := 2, nameIndex := 19, descriptorIndex := 10, attributes := #[] }])
  fields := #[{ name := "name", type := (.object "java/lang/String"), accessFlags := 18, slot := 0, constantValue := 0 }, { name := "ordinal", type := .int, accessFlags := 18, slot := 1, constantValue := 0 }, { name := "hash", type := .int, accessFlags := 2, slot := 2, constantValue := 0 }]
  methods := #[]
  instanceTypes := #[(.object "java/lang/String"), .int, .int]
  staticTypes := #[]
  resolved := Array.replicate 204 none
  statics := none }

def pool6 : Array CpInfo := pool [(1, .class_ 2), (0, u "com/example/slipway/slipway/Limit"), (2, u "OS"), (0, u "Lcom/example/slipway/slipway/Limit;"), (2, u "ARCH"), (2, u "LOCALE"), (0, .fieldref 1 14), (0, .nameAndType 15 16), (0, u "$VALUES"), (0, u "[Lcom/example/slipway/slipway/Limit;"), (0, .methodref 18 19), (0, .class_ 16), (0, .nameAndType 20 21), (0, u "clone"), (0, u "()Ljava/lang/Object;"), (1, .class_ 25), (1, u "java/lang/Enum"), (8, u "key"), (0, u "Ljava/lang/String;"), (0, .fieldref 1 37), (0, .nameAndType 38 39), (0, u "letter"), (0, u "C"), (0, .methodref 1 41), (0, .nameAndType 42 43), (0, u "values"), (0, u "()[Lcom/example/slipway/slipway/Limit;"), (87, u "ofLetter"), (0, u "(C)Lcom/example/slipway/slipway/Limit;")] 35

def k6c0 : Code := { maxStack := 1, maxLocals := 0, code := prog_35_method_1_code, exceptionTable := #[], attributes := #[] }
def k6m0 : Method := { name := "values", desc := "()[Lcom/example/slipway/slipway/Limit;", sig := { parameters := [], returnType := some (.array (.object "com/example/slipway/slipway/Limit")) }, accessFlags := 9, code := some k6c0 }
def k6c1 : Code := { maxStack := 2, maxLocals := 5, code := prog_35_method_5_code, exceptionTable := #[], attributes := #[] }
def k6m1 : Method := { name := "ofLetter", desc := "(C)Lcom/example/slipway/slipway/Limit;", sig := { parameters := [.char], returnType := some (.object "com/example/slipway/slipway/Limit") }, accessFlags := 8, code := some k6c1 }
/-- com/example/slipway/slipway/Limit -/
def k6 : Class := { plain "com/example/slipway/slipway/Limit" (some 5) with
  accessFlags := 16432
  interfaces := #[]
  cf := some (fileOf pool6 1 #[] #[{ accessFlags := 9, nameIndex := 42, descriptorIndex := 43, attributes := #[] }, { accessFlags := 8, nameIndex := 131, descriptorIndex := 132, attributes := #[] }] 16432 23 #[] #[{ accessFlags := 16409, nameIndex := 5, descriptorIndex := 6, attributes := #[] }, { accessFlags := 16409, nameIndex := 9, descriptorIndex := 6, attributes := #[] }, { accessFlags := 16409, nameIndex := 12, descriptorIndex := 6, attributes := #[] }, { accessFlags := 18, nameIndex := 34, descriptorIndex := 35, attributes := #[] }, { accessFlags := 18, nameIndex := 38, descriptorIndex := 39, attributes := #[] }, { accessFlags := 4122, nameIndex := 15, descriptorIndex := 16, attributes := #[] }])
  fields := #[{ name := "OS", type := (.object "com/example/slipway/slipway/Limit"), accessFlags := 16409, slot := 0, constantValue := 0 }, { name := "ARCH", type := (.object "com/example/slipway/slipway/Limit"), accessFlags := 16409, slot := 1, constantValue := 0 }, { name := "LOCALE", type := (.object "com/example/slipway/slipway/Limit"), accessFlags := 16409, slot := 2, constantValue := 0 }, { name := "key", type := (.object "java/lang/String"), accessFlags := 18, slot := 3, constantValue := 0 }, { name := "letter", type := .char, accessFlags := 18, slot := 4, constantValue := 0 }, { name := "$VALUES", type := (.array (.object "com/example/slipway/slipway/Limit")), accessFlags := 4122, slot := 3, constantValue := 0 }]
  methods := #[k6m0, k6m1]
  instanceTypes := #[(.object "java/lang/String"), .int, .int, (.object "java/lang/String"), .char]
  staticTypes := #[(.object "com/example/slipway/slipway/Limit"), (.object "com/example/slipway/slipway/Limit"), (.object "com/example/slipway/slipway/Limit"), (.array (.object "com/example/slipway/slipway/Limit"))]
  resolved := Array.replicate 168 none
  statics := some 0 }

def pool7 : Array CpInfo := pool [(1, .class_ 2), (0, u "java/lang/Cloneable"), (0, .class_ 4), (0, u "java/lang/Object")] 2

/-- java/lang/Cloneable -/
def k7 : Class := { plain "java/lang/Cloneable" (some 0) with
  accessFlags := 1537
  interfaces := #[]
  cf := some (fileOf pool7 1 #[] #[] 1537 3 #[] #[])
  fields := #[]
  methods := #[]
  instanceTypes := #[]
  staticTypes := #[]
  resolved := Array.replicate 7 none
  statics := none }

/-- the primitive byte -/
def k8 : Class := { plain "byte" none with kind := .primitive 'B', accessFlags := 0x411 }
/-- [B -/
def k9 : Class := { plain "[B" (some 0) with kind := .array 8 .byte, interfaces := #[7, 4], accessFlags := 1041 }

/-- the primitive int -/
def k10 : Class := { plain "int" none with kind := .primitive 'I', accessFlags := 0x411 }
/-- [I -/
def k11 : Class := { plain "[I" (some 0) with kind := .array 10 .int, interfaces := #[7, 4], accessFlags := 1041 }

/-- [Lcom/example/slipway/slipway/Limit; -/
def k12 : Class := { plain "[Lcom/example/slipway/slipway/Limit;" (some 0) with kind := .array 6 (.object "com/example/slipway/slipway/Limit"), interfaces := #[7, 4], accessFlags := 1041 }

def heap : Heap := #[{ cls := 6, slots := #[.ref 2, .ref 3, .ref 4, .ref 1], vm := .statics 6 },
  { cls := 12, slots := #[.ref 2, .ref 3, .ref 4], vm := .none },
  { cls := 6, slots := #[.null, .int 0, .int 0, .null, .int 79], vm := .none },
  { cls := 6, slots := #[.null, .int 0, .int 0, .null, .int 65], vm := .none },
  { cls := 6, slots := #[.null, .int 0, .int 0, .null, .int 76], vm := .none }]
def classes : Array Class := #[k0, k1, k2, k3, k4, k5, k6, k7, k8, k9, k10, k11, k12]
def interned : List (Array UInt16 × Addr) := []
def slotsUsed : Nat := 22
def theMethod : MethodId := ⟨1, 1⟩
def args0 : Array Value := #[.int 1, .int 66]
def aboutOver (below : List Frame) : State where
  vm := { classes := classes, interned := interned.toArray }
  heap := heap
  slotsUsed := slotsUsed
  threads := #[{ frames := .invoking theMethod args0 :: below }]
def below0 : List Frame := [.native { method := ⟨0, 0⟩, args := #[] }]
def about1 : State := aboutOver below0
def p0 : Program := .bare "" "" ""
def e0 : Env := launch0.env 0 0 0
theorem w_frames : about1.frames = Frame.invoking theMethod args0 :: below0 := rfl
set_option maxRecDepth 65536 in
theorem w_args : argsFit about1.vm theMethod args0 = true := by decide +kernel
set_option maxRecDepth 65536 in
theorem w_heap : heapFits about1 = true := by decide +kernel
set_option maxRecDepth 65536 in
theorem w_runnable : about1.curStatus? = some .runnable := by decide +kernel
set_option maxRecDepth 65536 in
theorem w_alone : about1.alone = true := by decide +kernel
set_option maxRecDepth 65536 in
theorem w_named : about1.methodNamed? x = some theMethod := by decide +kernel
set_option maxRecDepth 65536 in
theorem w_hears : about1.hears theMethod below0 = true := by decide +kernel
set_option maxRecDepth 65536 in
theorem w_ripe : about1.ripe theMethod args0 below0 = true := by decide +kernel
theorem w_running : about1.status = .running := rfl
set_option maxRecDepth 65536 in
theorem w_room : about1.hasRoom e0.platform room_1 = true :=
  launch0.hasRoom_least _ room_1 (by decide +kernel) (by decide +kernel) (by decide +kernel) (by decide +kernel) (by decide +kernel) (by decide +kernel)
theorem allAtoms_all (ts : List Jvm.Cond) (a : Array Jvm.Value) (st : Jvm.State) : (allAtoms ts).before a st = ts.all (fun c => c.before a st) := by
  induction ts with
  | nil => rfl
  | cons c t ih =>
    show (Jvm.Cond.and c (allAtoms t)).before a st = _
    rw [Jvm.Cond.before_and, ih, List.all_cons]
def words1 : List Jvm.Cond := Jvm.Cond.code x code maxLocals ret :: tables_1
/-- a 'code' word, met by the world's own term for the bytes: nothing is compared byte by byte -/
theorem code_word {y : MethodName} {bytes : ByteArray} {mx : Nat} {rt : Option FieldType} {a : Array Value} {s : State} {m : MethodId} {meth : Method} {c : Code} (h1 : s.methodNamed? y = some m) (h2 : s.vm.method? m = some meth) (h3 : meth.code = some c) (h4 : c.code = bytes)
    (h5 : (c.maxLocals == mx && c.exceptionTable.isEmpty && decide (c.maxStack ≤ mostOperands) && decide (meth.sig.returnType = rt) && !meth.locks && decide (parseMethodDescriptor y.desc = some meth.sig)) = true) : (Jvm.Cond.code y bytes mx rt).before a s = true := by
  simp only [Bool.and_eq_true, beq_iff_eq, Bool.not_eq_true', decide_eq_true_eq] at h5
  obtain ⟨⟨⟨⟨⟨g1, g2⟩, g3⟩, g4⟩, g5⟩, g6⟩ := h5
  simp [Cond.before, Cond.holds, Cond.value, h1, h2, h3, h4, g1, g2, g3, g4, g5, g6]
def isCode : Jvm.Cond → Bool
  | .code _ _ _ _ => true
  | _ => false
theorem all_split {L : List Jvm.Cond} {P : Jvm.Cond → Bool} (h1 : L.all (fun c => isCode c || P c) = true) (h2 : ∀ c ∈ L.filter isCode, P c = true) : L.all P = true := by
  refine List.all_eq_true.mpr fun c hc => ?_
  have h := List.all_eq_true.mp h1 c hc
  rcases Bool.eq_false_or_eq_true (isCode c) with hi | hi
  · exact h2 c (List.mem_filter.mpr ⟨hc, hi⟩)
  · simpa [hi] using h
set_option maxRecDepth 65536 in
theorem w_c0 : (Jvm.Cond.code x code maxLocals ret).before args0 about1 = true := code_word (m := ⟨1, 1⟩) (meth := k1m1) (c := k1c1) (by decide +kernel) rfl rfl rfl (by decide +kernel)
set_option maxRecDepth 65536 in
theorem w_c1 : (Jvm.Cond.code ({ cls := "com/example/slipway/slipway/Limit", name := "ofLetter", desc := "(C)Lcom/example/slipway/slipway/Limit;" } : Jvm.MethodName) prog_35_method_5_code (5 : Nat) (Option.some (Jvm.ClassFile.FieldType.object "com/example/slipway/slipway/Limit"))).before args0 about1 = true := code_word (m := ⟨6, 1⟩) (meth := k6m1) (c := k6c1) (by decide +kernel) rfl rfl rfl (by decide +kernel)
set_option maxRecDepth 65536 in
theorem w_c2 : (Jvm.Cond.code ({ cls := "com/example/slipway/slipway/Limit", name := "values", desc := "()[Lcom/example/slipway/slipway/Limit;" } : Jvm.MethodName) prog_35_method_1_code (0 : Nat) (Option.some (Jvm.ClassFile.FieldType.array (Jvm.ClassFile.FieldType.object "com/example/slipway/slipway/Limit")))).before args0 about1 = true := code_word (m := ⟨6, 0⟩) (meth := k6m0) (c := k6c0) (by decide +kernel) rfl rfl rfl (by decide +kernel)
def codes1 : List Jvm.Cond := [Jvm.Cond.code x code maxLocals ret, Jvm.Cond.code ({ cls := "com/example/slipway/slipway/Limit", name := "ofLetter", desc := "(C)Lcom/example/slipway/slipway/Limit;" } : Jvm.MethodName) prog_35_method_5_code (5 : Nat) (Option.some (Jvm.ClassFile.FieldType.object "com/example/slipway/slipway/Limit")), Jvm.Cond.code ({ cls := "com/example/slipway/slipway/Limit", name := "values", desc := "()[Lcom/example/slipway/slipway/Limit;" } : Jvm.MethodName) prog_35_method_1_code (0 : Nat) (Option.some (Jvm.ClassFile.FieldType.array (Jvm.ClassFile.FieldType.object "com/example/slipway/slipway/Limit")))]
set_option maxRecDepth 65536 in
theorem codes_eq : words1.filter isCode = codes1 := rfl
theorem w_codes : ∀ c ∈ words1.filter isCode, c.before args0 about1 = true := by
  rw [codes_eq]
  intro c hc
  simp only [codes1, List.mem_cons, List.not_mem_nil, or_false] at hc
  rcases hc with rfl | rfl | rfl
  · exact w_c0
  · exact w_c1
  · exact w_c2
set_option maxRecDepth 65536 in
theorem w_t1 : (words1.take 24).all (fun c => isCode c || c.before args0 about1) = true := by decide +kernel
set_option maxRecDepth 65536 in
theorem w_t2 : (words1.drop 24).all (fun c => isCode c || c.before args0 about1) = true := by decide +kernel
theorem w_tables : (allAtoms (Jvm.Cond.code x code maxLocals ret :: tables_1)).before args0 about1 = true := by
  rw [allAtoms_all]
  show words1.all (fun c => c.before args0 about1) = true
  refine all_split ?_ w_codes
  rw [← List.take_append_drop 24 words1, List.all_append, w_t1, w_t2]
  rfl
set_option maxRecDepth 65536 in
theorem w_case : (Jvm.Cond.and given_1 narrow_1).before args0 about1 = true := by decide +kernel
theorem w_applies : (headSpec (Jvm.Cond.code x code maxLocals ret :: tables_1) room_1).applies x e0.platform about1 = true :=
  (Spec.applies_iff w_frames).mpr ⟨w_running, w_runnable, w_alone, w_named, w_hears, w_ripe, w_room, w_tables⟩
theorem atStart : AtStart classFile x code maxLocals ret World_1 tables_1 room_1 Calls_1 rest_1 Pre_1 launch0 p0 e0 about1 theMethod args0 below0 :=
  ⟨lists_1, trivial, launch0.admits_env _ _ _, launch0.least_env, fairChoices_fair.cas, fairChoices_fair.clock, w_frames, w_args, w_heap, w_applies, trivial, trivial, w_case⟩
end start1
theorem witness_1 : WitnessClaimed_1 := ⟨start1.p0, start1.e0, start1.about1, start1.theMethod, start1.args0, start1.below0, start1.atStart⟩
end Jvm.Pilot.@@N@@
