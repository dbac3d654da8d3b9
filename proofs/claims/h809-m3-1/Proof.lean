import JvmDerived
import JvmDerived.Pilot.@@N@@Statement
import JvmDerived.Pilot.@@N@@Code
set_option linter.unusedVariables false
set_option linter.unusedSimpArgs false
namespace Jvm.Pilot.@@N@@
open Jvm Jvm.ClassFile Sem Op Lib Jvm.Free Jvm.Stand Jvm.LawKit Jvm.RoadKit Bundle Jvm.Pilot.@@N@@.Jvm.D
/-- from the state W the run comes to an end of which K holds -/
abbrev own_Gl (p : Program) (e : Env) (below : List Frame) (K : Outcome → State → Prop) (W : State) : Prop := ∃ s₂ o, Steps p.tables e below W s₂ ∧ s₂.status = .running ∧ Ended s₂ below o ∧ K o s₂
theorem own_by {p : Program} {e : Env} {below : List Frame} {K : Outcome → State → Prop} {W W' : State} (st : ∀ t, Steps p.tables e below W' t → Steps p.tables e below W t) (h : own_Gl p e below K W') : own_Gl p e below K W := by
  obtain ⟨s₂, o, h1, h2⟩ := h; exact ⟨s₂, o, st _ h1, h2⟩
theorem own_tr {p : Program} {e : Env} {below : List Frame} {K : Outcome → State → Prop} {W W' : State} (st : Steps p.tables e below W W') (h : own_Gl p e below K W') : own_Gl p e below K W := own_by (fun _ k => st.trans k) h
theorem own_w {Z : State} {a0 : Array Value} (hw : ∀ d ∈ tables_1, d.before a0 Z = true) (i : Nat) {d : Jvm.Cond} (h : tables_1[i]? = some d := by rfl) : d.before a0 Z = true := hw _ (List.mem_of_getElem? h)
theorem own_le {Z : State} {n0 : Nat} {h : Heap} (O : Old Z n0 h) : n0 ≤ h.size := O.1 ▸ O.2.1
theorem own_lclt {x y : Int64} (h : x < y) : ifCond.holds .lt (lcmpW x y) = true ∧ ifCond.holds .ge (lcmpW x y) = false := by
  have h1 : ¬ x > y := fun q => by rw [Int64.lt_iff_toInt_lt] at h; have q' : y < x := q; rw [Int64.lt_iff_toInt_lt] at q'; omega
  have h2 : ¬ x = y := fun q => by subst q; rw [Int64.lt_iff_toInt_lt] at h; omega
  rw [lcmpW, if_neg h1, if_neg h2]; exact ⟨by decide, by decide⟩
theorem own_lcnlt {x y : Int64} (h : ¬ x < y) : ifCond.holds .lt (lcmpW x y) = false ∧ ifCond.holds .ge (lcmpW x y) = true := by
  by_cases h1 : x > y
  · rw [lcmpW, if_pos h1]; exact ⟨by decide, by decide⟩
  · have h2 : x = y := by
      have q1 : ¬ y < x := h1
      rw [Int64.lt_iff_toInt_lt] at h q1; exact Int64.toInt_inj.mp (by omega)
    rw [lcmpW, if_neg h1, if_pos h2]; exact ⟨by decide, by decide⟩
theorem own_lcgt {x y : Int64} (h : y < x) : ifCond.holds .gt (lcmpW x y) = true ∧ ifCond.holds .le (lcmpW x y) = false := by
  have h1 : x > y := h
  rw [lcmpW, if_pos h1]; exact ⟨by decide, by decide⟩
theorem own_lcngt {x y : Int64} (h : ¬ y < x) : ifCond.holds .gt (lcmpW x y) = false ∧ ifCond.holds .le (lcmpW x y) = true := by
  have h1 : ¬ x > y := h
  rw [lcmpW, if_neg h1]
  by_cases h2 : x = y
  · rw [if_pos h2]; exact ⟨by decide, by decide⟩
  · rw [if_neg h2]; exact ⟨by decide, by decide⟩
theorem own_lceq {x y : Int64} (h : x = y) : ifCond.holds .eq (lcmpW x y) = true ∧ ifCond.holds .ne (lcmpW x y) = false := by
  subst h
  have h1 : ¬ x > x := fun q => by have q' : x < x := q; rw [Int64.lt_iff_toInt_lt] at q'; omega
  rw [lcmpW, if_neg h1, if_pos rfl]; exact ⟨by decide, by decide⟩
theorem own_lcne {x y : Int64} (h : ¬ x = y) : ifCond.holds .eq (lcmpW x y) = false ∧ ifCond.holds .ne (lcmpW x y) = true := by
  by_cases h1 : x > y
  · rw [lcmpW, if_pos h1]; exact ⟨by decide, by decide⟩
  · rw [lcmpW, if_neg h1, if_neg h]; exact ⟨by decide, by decide⟩
theorem own_sta {Z : State} {args : Array Value} {C n d K : String} (h : (Jvm.Cond.exactly (Jvm.Term.static C n d) K).value args Z none Z [] = some true) (hi : (Jvm.Cond.initializedFor C n d).before args Z = true ∨ ((Jvm.Cond.initialized C).before args Z = true ∧ (Jvm.Cond.laysStatic C n d).before args Z = true)) :
    ∃ a, (Jvm.Term.static C n d).eval args Z none [] Z = some (.ref a) ∧ Sta Z Z.heap C n d (.ref a) ∧ Exa Z Z.heap a K := by
  obtain ⟨a, ev⟩ := exa_v h
  exact ⟨a, ev, Sta.start ev hi, Exa.start ev h⟩
theorem own_fldI {Z : State} {args : Array Value} {t : Jvm.Term} {a : Addr} {C n d : String} {k : Int32} (ev : t.eval args Z none [] Z = some (.ref a)) (h : (Jvm.Cond.eq (Jvm.Term.field t C n d) (Jvm.Term.int k)).value args Z none Z [] = some true) : Fld Z Z.heap a C n d (.int k) := by
  obtain ⟨x, y, hx, hy, -, -⟩ := cmp_v (Or.inl h)
  cases Option.some.inj ((Term.int_eval k).symm.trans hy)
  refine Fld.start ?_
  rw [← fld_at ev, hx]
  cases x <;> simp_all [Cond.value, Term.eval]
theorem own_fldJ {Z : State} {args : Array Value} {t : Jvm.Term} {a : Addr} {C n d : String} {k : Int64} (ev : t.eval args Z none [] Z = some (.ref a)) (h : (Jvm.Cond.eq (Jvm.Term.field t C n d) (Jvm.Term.long k)).value args Z none Z [] = some true) : Fld Z Z.heap a C n d (.long k) := by
  obtain ⟨x, y, hx, hy, -, -⟩ := cmp_v (Or.inl h)
  have hy' : (Jvm.Term.long k).eval args Z none [] Z = some (.long k) := by simp [Term.eval]
  cases Option.some.inj (hy'.symm.trans hy)
  refine Fld.start ?_
  rw [← fld_at ev, hx]
  cases x <;> simp_all [Cond.value, Term.eval]
theorem own_len {Z : State} {args : Array Value} {t : Jvm.Term} {a : Addr} {cl : Cell} {ty : FieldType} {n : Int32} (ev : t.eval args Z none [] Z = some (.ref a)) (A : Arr Z Z.heap a cl ty) (h : (Jvm.Cond.eq (Jvm.Term.length t) (Jvm.Term.int n)).value args Z none Z [] = some true) : cl.slots.size < 2 ^ 31 ∧ cl.slots.size.toInt32 = n := by
  have ha : Z.arrayAt? a = some cl := Arr.fin (U := Z) (Vm.Alike.refl _) A
  by_cases hq : cl.slots.size < 2 ^ 31
  · refine ⟨hq, ?_⟩
    have e1 := len_f (args := args) (first := Z) (o := none) (idx := []) ev ha hq
    simpa [Cond.value, e1, Term.int_eval] using h
  · exfalso
    obtain ⟨x, y, hx, -⟩ := cmp_v (Or.inl h)
    simp [Term.eval, ev, ha] at hx
    omega
theorem own_elem {Z : State} {args : Array Value} {t u : Jvm.Term} {a w : Addr} {cl : Cell} {ty : FieldType} {j : Int32} (ev : t.eval args Z none [] Z = some (.ref a)) (A : Arr Z Z.heap a cl ty) (evu : u.eval args Z none [] Z = some (.ref w)) (h : (Jvm.Cond.eq (Jvm.Term.elem t (Jvm.Term.int j)) u).value args Z none Z [] = some true) : cl.slots[j.toNatClampNeg]? = some (.ref w) := by
  obtain ⟨x, y, hx, hy, k1, k2⟩ := cmp_v (Or.inl h)
  cases Option.some.inj (evu.symm.trans hy)
  have q := (elem_in hx ev (Term.int_eval j) A.1).2
  rw [q]
  cases x <;> simp [Cond.value, hx, evu] at h ⊢
  exact h
def own_Wd (Z : State) (wVISIBILITY_TIMEOUT : Addr) (wMESSAGE_RETENTION_PERIOD : Addr) (wDELAY_SECONDS : Addr) (wMAXIMUM_MESSAGE_SIZE : Addr) (wRECEIVE_MESSAGE_WAIT_TIME_SECONDS : Addr) : Prop := Sta Z Z.heap "com/example/vast_queue/vastqueue/engine/QueueSetting" "VISIBILITY_TIMEOUT" "Lcom/example/vast_queue/vastqueue/engine/QueueSetting;" (.ref wVISIBILITY_TIMEOUT) ∧ Exa Z Z.heap wVISIBILITY_TIMEOUT "com/example/vast_queue/vastqueue/engine/QueueSetting" ∧ Fld Z Z.heap wVISIBILITY_TIMEOUT "com/example/vast_queue/vastqueue/engine/QueueSetting" "min" "I" (.int (0 : Int32)) ∧ Fld Z Z.heap wVISIBILITY_TIMEOUT "com/example/vast_queue/vastqueue/engine/QueueSetting" "max" "I" (.int (43200 : Int32)) ∧ Sta Z Z.heap "com/example/vast_queue/vastqueue/engine/QueueSetting" "MESSAGE_RETENTION_PERIOD" "Lcom/example/vast_queue/vastqueue/engine/QueueSetting;" (.ref wMESSAGE_RETENTION_PERIOD) ∧ Exa Z Z.heap wMESSAGE_RETENTION_PERIOD "com/example/vast_queue/vastqueue/engine/QueueSetting" ∧ Fld Z Z.heap wMESSAGE_RETENTION_PERIOD "com/example/vast_queue/vastqueue/engine/QueueSetting" "min" "I" (.int (60 : Int32)) ∧ Fld Z Z.heap wMESSAGE_RETENTION_PERIOD "com/example/vast_queue/vastqueue/engine/QueueSetting" "max" "I" (.int (1209600 : Int32)) ∧ Sta Z Z.heap "com/example/vast_queue/vastqueue/engine/QueueSetting" "DELAY_SECONDS" "Lcom/example/vast_queue/vastqueue/engine/QueueSetting;" (.ref wDELAY_SECONDS) ∧ Exa Z Z.heap wDELAY_SECONDS "com/example/vast_queue/vastqueue/engine/QueueSetting" ∧ Fld Z Z.heap wDELAY_SECONDS "com/example/vast_queue/vastqueue/engine/QueueSetting" "min" "I" (.int (0 : Int32)) ∧ Fld Z Z.heap wDELAY_SECONDS "com/example/vast_queue/vastqueue/engine/QueueSetting" "max" "I" (.int (900 : Int32)) ∧ Sta Z Z.heap "com/example/vast_queue/vastqueue/engine/QueueSetting" "MAXIMUM_MESSAGE_SIZE" "Lcom/example/vast_queue/vastqueue/engine/QueueSetting;" (.ref wMAXIMUM_MESSAGE_SIZE) ∧ Exa Z Z.heap wMAXIMUM_MESSAGE_SIZE "com/example/vast_queue/vastqueue/engine/QueueSetting" ∧ Fld Z Z.heap wMAXIMUM_MESSAGE_SIZE "com/example/vast_queue/vastqueue/engine/QueueSetting" "min" "I" (.int (1024 : Int32)) ∧ Fld Z Z.heap wMAXIMUM_MESSAGE_SIZE "com/example/vast_queue/vastqueue/engine/QueueSetting" "max" "I" (.int (1048576 : Int32)) ∧ Sta Z Z.heap "com/example/vast_queue/vastqueue/engine/QueueSetting" "RECEIVE_MESSAGE_WAIT_TIME_SECONDS" "Lcom/example/vast_queue/vastqueue/engine/QueueSetting;" (.ref wRECEIVE_MESSAGE_WAIT_TIME_SECONDS) ∧ Exa Z Z.heap wRECEIVE_MESSAGE_WAIT_TIME_SECONDS "com/example/vast_queue/vastqueue/engine/QueueSetting" ∧ Fld Z Z.heap wRECEIVE_MESSAGE_WAIT_TIME_SECONDS "com/example/vast_queue/vastqueue/engine/QueueSetting" "min" "I" (.int (0 : Int32)) ∧ Fld Z Z.heap wRECEIVE_MESSAGE_WAIT_TIME_SECONDS "com/example/vast_queue/vastqueue/engine/QueueSetting" "max" "I" (.int (20 : Int32))
theorem dprog_42_5_0 : decode prog_42_method_5_code 0 = .ok (.lload_n 1, 1) := by decide +kernel
theorem dprog_42_5_1 : decode prog_42_method_5_code 1 = .ok (.aload_n 0, 1) := by decide +kernel
theorem dprog_42_5_2 : decode prog_42_method_5_code 2 = .ok (.getfield 42, 3) := by decide +kernel
theorem dprog_42_5_5 : decode prog_42_method_5_code 5 = .ok (.i2l, 1) := by decide +kernel
theorem dprog_42_5_6 : decode prog_42_method_5_code 6 = .ok (.lcmp, 1) := by decide +kernel
theorem dprog_42_5_7 : decode prog_42_method_5_code 7 = .ok (.ifCond .lt 17, 3) := by decide +kernel
theorem dprog_42_5_10 : decode prog_42_method_5_code 10 = .ok (.lload_n 1, 1) := by decide +kernel
theorem dprog_42_5_11 : decode prog_42_method_5_code 11 = .ok (.aload_n 0, 1) := by decide +kernel
theorem dprog_42_5_12 : decode prog_42_method_5_code 12 = .ok (.getfield 46, 3) := by decide +kernel
theorem dprog_42_5_15 : decode prog_42_method_5_code 15 = .ok (.i2l, 1) := by decide +kernel
theorem dprog_42_5_16 : decode prog_42_method_5_code 16 = .ok (.lcmp, 1) := by decide +kernel
theorem dprog_42_5_17 : decode prog_42_method_5_code 17 = .ok (.ifCond .gt 7, 3) := by decide +kernel
theorem dprog_42_5_20 : decode prog_42_method_5_code 20 = .ok (.iconst 1, 1) := by decide +kernel
theorem dprog_42_5_21 : decode prog_42_method_5_code 21 = .ok (.goto 4, 3) := by decide +kernel
theorem dprog_42_5_24 : decode prog_42_method_5_code 24 = .ok (.iconst 0, 1) := by decide +kernel
theorem dprog_42_5_25 : decode prog_42_method_5_code 25 = .ok (.ireturn, 1) := by decide +kernel
theorem pn_com_example_vast_queue_vastqueue_engine_QueueSetting : plainName "com/example/vast_queue/vastqueue/engine/QueueSetting" = true := by first | (simp [plainName, overriddenIn]; done) | decide +kernel
theorem ef5 (m : MethodId) (r0 : Addr) (q1 : Int64) : entryFrame m #[(.ref r0), (.long q1)] 3 = mkF m 0 #[.val (.ref r0), .val (.long q1), .second] [] := by first | (simp [entryFrame, mkF, argsToLocals, Value.category]; done) | rfl
def F5 (r0 : Addr) (q1 : Int64) (lo : Int32) (hi : Int32) : Int32 := (if q1 < (lo.toInt64) then (0 : Int32) else (if (hi.toInt64) < q1 then (0 : Int32) else (1 : Int32)))
def Q5 (Z : State) (r0 : Addr) (q1 : Int64) (lo : Int32) (hi : Int32) (h0 : Heap) (n0 : Nat) (v : Option Value) (h : Heap) (L : List Loc) : Prop := v = some (.int (F5 r0 q1 lo hi)) ∧ Fr n0 L ∧ h = h0
abbrev own_K5 (Z : State) (r0 : Addr) (q1 : Int64) (lo : Int32) (hi : Int32) (h0 : Heap) (n0 : Nat) (s : State) : Outcome → State → Prop := fun o U' => ∃ v L, o = .returned v ∧ Q5 Z r0 q1 lo hi h0 n0 v U'.heap L ∧ FrameEnd s o U' L ({ frames := 0, cells := 0, slots := 0, locals := 0 } : Room).cells ({ frames := 0, cells := 0, slots := 0, locals := 0 } : Room).slots
set_option maxRecDepth 65536 in
set_option maxHeartbeats 40000000 in
theorem rm5 (l : Launch) (Z : State) (a0 : Array Value) (hw : ∀ d ∈ tables_1, d.before a0 Z = true) (ws : List Jvm.Cond) (r0 : Addr) (q1 : Int64) (lo : Int32) (hi : Int32) (h0 : Heap) (n0 : Nat) (Z0 : n0 ≤ h0.size) (Fmin : Fld Z h0 r0 "com/example/vast_queue/vastqueue/engine/QueueSetting" "min" "I" (.int lo)) (Fmax : Fld Z h0 r0 "com/example/vast_queue/vastqueue/engine/QueueSetting" "max" "I" (.int hi)) :
    MetFree l (⟨"com/example/vast_queue/vastqueue/engine/QueueSetting", "allows", "(J)Z"⟩ : MethodName) (head1 (Jvm.Cond.code (⟨"com/example/vast_queue/vastqueue/engine/QueueSetting", "allows", "(J)Z"⟩ : MethodName) prog_42_method_5_code 3 (some .boolean) :: ws) ({ frames := 0, cells := 0, slots := 0, locals := 0 } : Room)) (fun a U => a = #[(.ref r0), (.long q1)] ∧ Z.Warmed39 U.vm ∧ U.heap = h0) (fun _ _ _ _ _ => True) (fun _ U o U' => ∃ v L, o = .returned v ∧ Q5 Z r0 q1 lo hi h0 n0 v U'.heap L ∧ FrameEnd U o U' L ({ frames := 0, cells := 0, slots := 0, locals := 0 } : Room).cells ({ frames := 0, cells := 0, slots := 0, locals := 0 } : Room).slots) := by
  refine MetFree.of_bodySF (plainFor_of_name pn_com_example_vast_queue_vastqueue_engine_QueueSetting) hisR ?_
  intro p e s m args below meth c s₁ Bd hml0 hP hK
  obtain ⟨rfl, hZ, hh⟩ := hP
  have hx := Bd.exec
  have hby := Bd.bytes
  have hml : c.maxLocals = 3 := hml0
  have hown : s.vm.findClass "com/example/vast_queue/vastqueue/engine/QueueSetting" = some m.cls := findClass_of_methodNamed Bd.named
  have hnm := (name_of_methodNamed Bd.named Bd.method).1
  have X0 : Stand p l e ({ frames := 0, cells := 0, slots := 0, locals := 0 } : Room) s m #[(.ref r0), (.long q1)] below meth c s₁ [] 0 0 := Stand.of_body Bd
  have e0 : s₁.heap = h0 := by rw [← hh, Bd.state]; rfl
  have N0 := Fr.nil n0
  refine own_by (p := p) (e := e) (below := below) (K := own_K5 Z r0 q1 lo hi h0 n0 s) (W' := s₁.setTop (mkF m 0 #[.val (.ref r0), .val (.long q1), .second] [])) (fun t k => castTop (ef5 m r0 q1) k) ?_
  obtain ⟨T1, X1, e1, st1⟩ := getF X0 hx hZ hown (host := "") (Or.inl (own_w hw 10)) Via.refl e0 Fmin (g := (mkF m 2 #[.val (.ref r0), .val (.long q1), .second] [(.ref r0), (.long q1)])) rfl rfl (hb hby dprog_42_5_2)
  refine own_by (W' := (T1.setTop (mkF m 7 #[.val (.ref r0), .val (.long q1), .second] [(.int (lcmpW q1 (lo.toInt64)))]))) (fun t k => XS.lloadN X0.here hx rfl (hb hby dprog_42_5_0) rfl (XS.aloadN X0.here hx rfl (hb hby dprog_42_5_1) rfl rfl (st1 _ (XS.i2l X1.here hx rfl (hb hby dprog_42_5_5) rfl (XS.lcmp X1.here hx rfl (hb hby dprog_42_5_6) rfl k))))) ?_
  by_cases hc2 : q1 < (lo.toInt64)
  ·
    obtain ⟨fs, hr, hrun, hended, hW, hsame⟩ := X1.leave (v := some (.int (0 : Int32))) (fun h => by rw [Bd.returns] at h; cases h)
    refine own_by (W' := (T1.setTop (mkF m 25 #[.val (.ref r0), .val (.long q1), .second] [(.int (0 : Int32))]))) (fun t k => XS.ifYes X1.here hx rfl (pc0 := 7) (pc' := 24) rfl (hb hby dprog_42_5_7) rfl (own_lclt hc2).1 (by decide) (by decide) (XS.iconst X1.here hx rfl (hb hby dprog_42_5_24) k)) ?_
    refine ⟨_, _, retOut X1 hx Bd.returns rfl (Or.inl ⟨rfl, Or.inr (Or.inl rfl), _, rfl⟩) (hb hby dprog_42_5_25) hr, hrun, hended, _, _, rfl, ?_, ⟨_, rfl⟩, hW, hsame.mono (by decide) (by decide)⟩
    refine ⟨congrArg (fun z => some (Value.int z)) ?_, N0, e1⟩
    rw [F5, if_pos hc2]
  ·
    obtain ⟨T3, X3, e3, st3⟩ := getF X1 hx hZ hown (host := "") (Or.inl (own_w hw 12)) Via.refl e1 Fmax (g := (mkF m 12 #[.val (.ref r0), .val (.long q1), .second] [(.ref r0), (.long q1)])) rfl rfl (hb hby dprog_42_5_12)
    refine own_by (W' := (T3.setTop (mkF m 17 #[.val (.ref r0), .val (.long q1), .second] [(.int (lcmpW q1 (hi.toInt64)))]))) (fun t k => XS.ifNo X1.here hx rfl (hb hby dprog_42_5_7) rfl (own_lcnlt hc2).1 (XS.lloadN X1.here hx rfl (hb hby dprog_42_5_10) rfl (XS.aloadN X1.here hx rfl (hb hby dprog_42_5_11) rfl rfl (st3 _ (XS.i2l X3.here hx rfl (hb hby dprog_42_5_15) rfl (XS.lcmp X3.here hx rfl (hb hby dprog_42_5_16) rfl k)))))) ?_
    by_cases hc4 : (hi.toInt64) < q1
    ·
      obtain ⟨fs, hr, hrun, hended, hW, hsame⟩ := X3.leave (v := some (.int (0 : Int32))) (fun h => by rw [Bd.returns] at h; cases h)
      refine own_by (W' := (T3.setTop (mkF m 25 #[.val (.ref r0), .val (.long q1), .second] [(.int (0 : Int32))]))) (fun t k => XS.ifYes X3.here hx rfl (pc0 := 17) (pc' := 24) rfl (hb hby dprog_42_5_17) rfl (own_lcgt hc4).1 (by decide) (by decide) (XS.iconst X3.here hx rfl (hb hby dprog_42_5_24) k)) ?_
      refine ⟨_, _, retOut X3 hx Bd.returns rfl (Or.inl ⟨rfl, Or.inr (Or.inl rfl), _, rfl⟩) (hb hby dprog_42_5_25) hr, hrun, hended, _, _, rfl, ?_, ⟨_, rfl⟩, hW, hsame.mono (by decide) (by decide)⟩
      refine ⟨congrArg (fun z => some (Value.int z)) ?_, N0, e3⟩
      rw [F5, if_neg hc2, if_pos hc4]
    ·
      obtain ⟨fs, hr, hrun, hended, hW, hsame⟩ := X3.leave (v := some (.int (1 : Int32))) (fun h => by rw [Bd.returns] at h; cases h)
      refine own_by (W' := (T3.setTop (mkF m 25 #[.val (.ref r0), .val (.long q1), .second] [(.int (1 : Int32))]))) (fun t k => XS.ifNo X3.here hx rfl (hb hby dprog_42_5_17) rfl (own_lcngt hc4).1 (XS.iconst X3.here hx rfl (hb hby dprog_42_5_20) (XS.goto X3.here hx rfl (pc0 := 21) (pc' := 25) rfl (hb hby dprog_42_5_21) (by decide) (by decide) k))) ?_
      refine ⟨_, _, retOut X3 hx Bd.returns rfl (Or.inl ⟨rfl, Or.inr (Or.inl rfl), _, rfl⟩) (hb hby dprog_42_5_25) hr, hrun, hended, _, _, rfl, ?_, ⟨_, rfl⟩, hW, hsame.mono (by decide) (by decide)⟩
      refine ⟨congrArg (fun z => some (Value.int z)) ?_, N0, e3⟩
      rw [F5, if_neg hc2, if_neg hc4]
theorem pd_1 : parseMethodDescriptor "(J)Z" = some ⟨[.long], some .boolean⟩ := by decide +kernel
theorem pn_com_example_vast_queue_vastqueue_engine_QueueSettingAllowsPinLaw : plainName "com/example/vast_queue/vastqueue/engine/QueueSettingAllowsPinLaw" = true := by first | (simp [plainName, overriddenIn]; done) | decide +kernel
theorem efL (m : MethodId) (p0 : Int32) (p1 : Int32) (q2 : Int64) : entryFrame m #[(.int p0), (.int p1), (.long q2)] maxLocals = mkF m 0 #[.val (.int p0), .val (.int p1), .val (.long q2), .second, .unset, .unset, .unset, .unset, .unset, .unset, .unset, .unset, .unset, .unset] [] := by first | (simp [entryFrame, mkF, argsToLocals, Value.category, maxLocals]; done) | rfl
def QL (Z : State) (p0 : Int32) (p1 : Int32) (q2 : Int64) (wVISIBILITY_TIMEOUT : Addr) (wMESSAGE_RETENTION_PERIOD : Addr) (wDELAY_SECONDS : Addr) (wMAXIMUM_MESSAGE_SIZE : Addr) (wRECEIVE_MESSAGE_WAIT_TIME_SECONDS : Addr) (h0 : Heap) (n0 : Nat) (v : Option Value) (h : Heap) (L : List Loc) : Prop := v = some (.int 1) ∧ Fr n0 L
abbrev own_KL (Z : State) (p0 : Int32) (p1 : Int32) (q2 : Int64) (wVISIBILITY_TIMEOUT : Addr) (wMESSAGE_RETENTION_PERIOD : Addr) (wDELAY_SECONDS : Addr) (wMAXIMUM_MESSAGE_SIZE : Addr) (wRECEIVE_MESSAGE_WAIT_TIME_SECONDS : Addr) (h0 : Heap) (n0 : Nat) (s : State) : Outcome → State → Prop := fun o U' => ∃ v L, o = .returned v ∧ QL Z p0 p1 q2 wVISIBILITY_TIMEOUT wMESSAGE_RETENTION_PERIOD wDELAY_SECONDS wMAXIMUM_MESSAGE_SIZE wRECEIVE_MESSAGE_WAIT_TIME_SECONDS h0 n0 v U'.heap L ∧ FrameEnd s o U' L room_1.cells room_1.slots
set_option maxRecDepth 65536 in
set_option maxHeartbeats 40000000 in
theorem rmL (l : Launch) (Z : State) (a0 : Array Value) (hw : ∀ d ∈ tables_1, d.before a0 Z = true) (ws : List Jvm.Cond) (p0 : Int32) (p1 : Int32) (q2 : Int64) (wVISIBILITY_TIMEOUT : Addr) (wMESSAGE_RETENTION_PERIOD : Addr) (wDELAY_SECONDS : Addr) (wMAXIMUM_MESSAGE_SIZE : Addr) (wRECEIVE_MESSAGE_WAIT_TIME_SECONDS : Addr) (h0 : Heap) (n0 : Nat) (Z0 : n0 ≤ h0.size) (O0 : Old Z n0 h0) (HW : own_Wd Z wVISIBILITY_TIMEOUT wMESSAGE_RETENTION_PERIOD wDELAY_SECONDS wMAXIMUM_MESSAGE_SIZE wRECEIVE_MESSAGE_WAIT_TIME_SECONDS) :
    MetFree l x (head1 (Jvm.Cond.code x code maxLocals ret :: ws) room_1) (fun a U => a = #[(.int p0), (.int p1), (.long q2)] ∧ Z.Warmed39 U.vm ∧ U.heap = h0) (fun _ _ _ _ _ => True) (fun _ U o U' => ∃ v L, o = .returned v ∧ QL Z p0 p1 q2 wVISIBILITY_TIMEOUT wMESSAGE_RETENTION_PERIOD wDELAY_SECONDS wMAXIMUM_MESSAGE_SIZE wRECEIVE_MESSAGE_WAIT_TIME_SECONDS h0 n0 v U'.heap L ∧ FrameEnd U o U' L room_1.cells room_1.slots) := by
  refine MetFree.of_bodySF (plainFor_of_name pn_com_example_vast_queue_vastqueue_engine_QueueSettingAllowsPinLaw) hisR ?_
  intro p e s m args below meth c s₁ Bd hml0 hP hK
  obtain ⟨rfl, hZ, hh⟩ := hP
  have hx := Bd.exec
  have hby := Bd.bytes
  have hml : c.maxLocals = 14 := hml0
  have hown : s.vm.findClass "com/example/vast_queue/vastqueue/engine/QueueSettingAllowsPinLaw" = some m.cls := findClass_of_methodNamed Bd.named
  have hnm := (name_of_methodNamed Bd.named Bd.method).1
  have X0 : Stand p l e room_1 s m #[(.int p0), (.int p1), (.long q2)] below meth c s₁ [] 0 0 := Stand.of_body Bd
  have e0 : s₁.heap = h0 := by rw [← hh, Bd.state]; rfl
  have N0 := Fr.nil n0
  refine own_by (p := p) (e := e) (below := below) (K := own_KL Z p0 p1 q2 wVISIBILITY_TIMEOUT wMESSAGE_RETENTION_PERIOD wDELAY_SECONDS wMAXIMUM_MESSAGE_SIZE wRECEIVE_MESSAGE_WAIT_TIME_SECONDS h0 n0 s) (W' := s₁.setTop (mkF m 0 #[.val (.int p0), .val (.int p1), .val (.long q2), .second, .unset, .unset, .unset, .unset, .unset, .unset, .unset, .unset, .unset, .unset] [])) (fun t k => castTop (efL m p0 p1 q2) k) ?_
  have cut239 : ∀ (Tc : State) {lc : List Loc} (Xc : Stand p l e room_1 s m #[(.int p0), (.int p1), (.long q2)] below meth c Tc lc 0 0) (Nc : Fr n0 lc) (kv4 : Int32) (sA : Addr) (lo : Int64) (hi : Int64) (lo32 : Int32) (hi32 : Int32) (m10 : Int32) (xx : Int64) (ec : Tc.heap = h0) (Exs : Exa Z Z.heap sA "com/example/vast_queue/vastqueue/engine/QueueSetting") (Fmin : Fld Z Z.heap sA "com/example/vast_queue/vastqueue/engine/QueueSetting" "min" "I" (.int lo32)) (Fmax : Fld Z Z.heap sA "com/example/vast_queue/vastqueue/engine/QueueSetting" "max" "I" (.int hi32)) (elo : lo32.toInt64 = lo) (ehi : hi32.toInt64 = hi), own_Gl p e below (own_KL Z p0 p1 q2 wVISIBILITY_TIMEOUT wMESSAGE_RETENTION_PERIOD wDELAY_SECONDS wMAXIMUM_MESSAGE_SIZE wRECEIVE_MESSAGE_WAIT_TIME_SECONDS h0 n0 s) (Tc.setTop (mkF m 239 #[.val (.int p0), .val (.int p1), .val (.long q2), .second, .val (.int kv4), .val (.ref sA), .val (.long lo), .second, .val (.long hi), .second, .val (.int m10), .val (.long xx), .second, .unset] [])) := by
    intro Tc lc Xc Nc kv4 sA lo hi lo32 hi32 m10 xx ec Exs Fmin Fmax elo ehi
    refine own_by (W' := (Tc.setTop (mkF m 244 #[.val (.int p0), .val (.int p1), .val (.long q2), .second, .val (.int kv4), .val (.ref sA), .val (.long lo), .second, .val (.long hi), .second, .val (.int m10), .val (.long xx), .second, .unset] [(.int (lcmpW lo xx))]))) (fun t k => XS.lload Xc.here hx rfl (hb hby at_239) rfl (XS.lload Xc.here hx rfl (hb hby at_241) rfl (XS.lcmp Xc.here hx rfl (hb hby at_243) rfl k))) ?_
    by_cases hc1 : xx < lo
    ·
      obtain ⟨cq2, kq2, q2a, q2b, q2c⟩ := isOf hZ ec (Exs.ext O0.2)
      obtain ⟨_, _, ⟨T2, L2, k2, n2⟩, -, X2, ⟨Lc2, hQ2, l2, y2, z2⟩, st2⟩ := Xc.virtualBack hx (y := (⟨"com/example/vast_queue/vastqueue/engine/QueueSetting", "allows", "(J)Z"⟩ : MethodName)) (z := (⟨"com/example/vast_queue/vastqueue/engine/QueueSetting", "allows", "(J)Z"⟩ : MethodName)) hown (mvT hZ (own_w hw 5)) (mvT hZ (own_w hw 6)) (notFace_of_selects (args := #[]) (mvT hZ (own_w hw 8))) (mvT hZ (own_w hw 8)) (mvT hZ (own_w hw 7)) (by decide) (backOf (W := 0) (rm5 l Z a0 hw [] sA xx lo32 hi32 h0 n0 Z0 (Fmin.ext O0.2) (Fmax.ext O0.2)) hZ (own_w hw 9) (own_w hw 2) (by decide) (by decide)) q2a q2c (g := (mkF m 266 #[.val (.int p0), .val (.int p1), .val (.long q2), .second, .val (.int kv4), .val (.ref sA), .val (.long lo), .second, .val (.long hi), .second, .val (.int m10), .val (.long xx), .second, .val (.int (0 : Int32))] [(.long xx), (.ref sA)])) rfl (by rw [hml]; rfl) (Steps.refl _) (argsL := [(.long xx)]) (rest := []) (lenOf pd_1 rfl) rfl (by show 2 * 0 + _ ≤ _; exact Nat.le_of_eq rfl) (hb hby at_266) (fun _ _ => ⟨rfl, ec, (by decide : 0 + 0 ≤ _), (by decide : 0 + 0 ≤ _)⟩)
      dsimp only [Pt.U, Pt.locs, Pt.cells, Pt.slots] at X2 l2 y2 z2 st2 hQ2
      subst l2 y2 z2
      obtain ⟨rfl, N2q, e2⟩ := hQ2
      have N2 := Fr.app Nc N2q
      refine own_by (W' := (T2.setTop (mkF m 269 #[.val (.int p0), .val (.int p1), .val (.long q2), .second, .val (.int kv4), .val (.ref sA), .val (.long lo), .second, .val (.long hi), .second, .val (.int m10), .val (.long xx), .second, .val (.int (0 : Int32))] [(.int (F5 sA xx lo32 hi32))]))) (fun t k => XS.ifYes Xc.here hx rfl (pc0 := 244) (pc' := 259) rfl (hb hby at_244) rfl (own_lcgt hc1).1 (by decide) (by decide) (XS.iconst Xc.here hx rfl (hb hby at_259) (XS.istore Xc.here hx rfl (hb hby at_260) rfl (l' := #[.val (.int p0), .val (.int p1), .val (.long q2), .second, .val (.int kv4), .val (.ref sA), .val (.long lo), .second, .val (.long hi), .second, .val (.int m10), .val (.long xx), .second, .val (.int (0 : Int32))]) rfl (XS.aload Xc.here hx rfl (hb hby at_262) rfl rfl (XS.lload Xc.here hx rfl (hb hby at_264) rfl (Steps.trans st2 k)))))) ?_
      have ho3 : (F5 sA xx lo32 hi32) = (0 : Int32) := by rw [F5, elo, ehi, if_pos hc1]
      obtain ⟨fs, hr, hrun, hended, hW, hsame⟩ := X2.leave (v := some (.int (1 : Int32))) (fun h => by rw [Bd.returns] at h; cases h)
      refine own_by (W' := (T2.setTop (mkF m 279 #[.val (.int p0), .val (.int p1), .val (.long q2), .second, .val (.int kv4), .val (.ref sA), .val (.long lo), .second, .val (.long hi), .second, .val (.int m10), .val (.long xx), .second, .val (.int (0 : Int32))] [(.int (1 : Int32))]))) (fun t k => XS.iload X2.here hx rfl (hb hby at_269) rfl (XS.icmpNo X2.here hx rfl (hb hby at_271) rfl (teq ho3).2 (XS.iconst X2.here hx rfl (hb hby at_274) (XS.goto X2.here hx rfl (pc0 := 275) (pc' := 279) rfl (hb hby at_275) (by decide) (by decide) k)))) ?_
      refine ⟨_, _, retOut X2 hx Bd.returns rfl (Or.inl ⟨rfl, Or.inr (Or.inl rfl), _, rfl⟩) (hb hby at_279) hr, hrun, hended, _, _, rfl, ?_, ⟨_, rfl⟩, hW, hsame.mono (by decide) (by decide)⟩
      exact ⟨rfl, N2⟩
    ·
      refine own_by (W' := (Tc.setTop (mkF m 252 #[.val (.int p0), .val (.int p1), .val (.long q2), .second, .val (.int kv4), .val (.ref sA), .val (.long lo), .second, .val (.long hi), .second, .val (.int m10), .val (.long xx), .second, .unset] [(.int (lcmpW xx hi))]))) (fun t k => XS.ifNo Xc.here hx rfl (hb hby at_244) rfl (own_lcngt hc1).1 (XS.lload Xc.here hx rfl (hb hby at_247) rfl (XS.lload Xc.here hx rfl (hb hby at_249) rfl (XS.lcmp Xc.here hx rfl (hb hby at_251) rfl k)))) ?_
      by_cases hc4 : hi < xx
      ·
        obtain ⟨cq5, kq5, q5a, q5b, q5c⟩ := isOf hZ ec (Exs.ext O0.2)
        obtain ⟨_, _, ⟨T5, L5, k5, n5⟩, -, X5, ⟨Lc5, hQ5, l5, y5, z5⟩, st5⟩ := Xc.virtualBack hx (y := (⟨"com/example/vast_queue/vastqueue/engine/QueueSetting", "allows", "(J)Z"⟩ : MethodName)) (z := (⟨"com/example/vast_queue/vastqueue/engine/QueueSetting", "allows", "(J)Z"⟩ : MethodName)) hown (mvT hZ (own_w hw 5)) (mvT hZ (own_w hw 6)) (notFace_of_selects (args := #[]) (mvT hZ (own_w hw 8))) (mvT hZ (own_w hw 8)) (mvT hZ (own_w hw 7)) (by decide) (backOf (W := 0) (rm5 l Z a0 hw [] sA xx lo32 hi32 h0 n0 Z0 (Fmin.ext O0.2) (Fmax.ext O0.2)) hZ (own_w hw 9) (own_w hw 2) (by decide) (by decide)) q5a q5c (g := (mkF m 266 #[.val (.int p0), .val (.int p1), .val (.long q2), .second, .val (.int kv4), .val (.ref sA), .val (.long lo), .second, .val (.long hi), .second, .val (.int m10), .val (.long xx), .second, .val (.int (0 : Int32))] [(.long xx), (.ref sA)])) rfl (by rw [hml]; rfl) (Steps.refl _) (argsL := [(.long xx)]) (rest := []) (lenOf pd_1 rfl) rfl (by show 2 * 0 + _ ≤ _; exact Nat.le_of_eq rfl) (hb hby at_266) (fun _ _ => ⟨rfl, ec, (by decide : 0 + 0 ≤ _), (by decide : 0 + 0 ≤ _)⟩)
        dsimp only [Pt.U, Pt.locs, Pt.cells, Pt.slots] at X5 l5 y5 z5 st5 hQ5
        subst l5 y5 z5
        obtain ⟨rfl, N5q, e5⟩ := hQ5
        have N5 := Fr.app Nc N5q
        refine own_by (W' := (T5.setTop (mkF m 269 #[.val (.int p0), .val (.int p1), .val (.long q2), .second, .val (.int kv4), .val (.ref sA), .val (.long lo), .second, .val (.long hi), .second, .val (.int m10), .val (.long xx), .second, .val (.int (0 : Int32))] [(.int (F5 sA xx lo32 hi32))]))) (fun t k => XS.ifYes Xc.here hx rfl (pc0 := 252) (pc' := 259) rfl (hb hby at_252) rfl (own_lcgt hc4).1 (by decide) (by decide) (XS.iconst Xc.here hx rfl (hb hby at_259) (XS.istore Xc.here hx rfl (hb hby at_260) rfl (l' := #[.val (.int p0), .val (.int p1), .val (.long q2), .second, .val (.int kv4), .val (.ref sA), .val (.long lo), .second, .val (.long hi), .second, .val (.int m10), .val (.long xx), .second, .val (.int (0 : Int32))]) rfl (XS.aload Xc.here hx rfl (hb hby at_262) rfl rfl (XS.lload Xc.here hx rfl (hb hby at_264) rfl (Steps.trans st5 k)))))) ?_
        have ho6 : (F5 sA xx lo32 hi32) = (0 : Int32) := by rw [F5, elo, ehi, if_neg hc1, if_pos hc4]
        obtain ⟨fs, hr, hrun, hended, hW, hsame⟩ := X5.leave (v := some (.int (1 : Int32))) (fun h => by rw [Bd.returns] at h; cases h)
        refine own_by (W' := (T5.setTop (mkF m 279 #[.val (.int p0), .val (.int p1), .val (.long q2), .second, .val (.int kv4), .val (.ref sA), .val (.long lo), .second, .val (.long hi), .second, .val (.int m10), .val (.long xx), .second, .val (.int (0 : Int32))] [(.int (1 : Int32))]))) (fun t k => XS.iload X5.here hx rfl (hb hby at_269) rfl (XS.icmpNo X5.here hx rfl (hb hby at_271) rfl (teq ho6).2 (XS.iconst X5.here hx rfl (hb hby at_274) (XS.goto X5.here hx rfl (pc0 := 275) (pc' := 279) rfl (hb hby at_275) (by decide) (by decide) k)))) ?_
        refine ⟨_, _, retOut X5 hx Bd.returns rfl (Or.inl ⟨rfl, Or.inr (Or.inl rfl), _, rfl⟩) (hb hby at_279) hr, hrun, hended, _, _, rfl, ?_, ⟨_, rfl⟩, hW, hsame.mono (by decide) (by decide)⟩
        exact ⟨rfl, N5⟩
      ·
        refine own_by (W' := (Tc.setTop (mkF m 266 #[.val (.int p0), .val (.int p1), .val (.long q2), .second, .val (.int kv4), .val (.ref sA), .val (.long lo), .second, .val (.long hi), .second, .val (.int m10), .val (.long xx), .second, .val (.int (1 : Int32))] [(.long xx), (.ref sA)]))) (fun t k => XS.ifNo Xc.here hx rfl (hb hby at_252) rfl (own_lcngt hc4).1 (XS.iconst Xc.here hx rfl (hb hby at_255) (XS.goto Xc.here hx rfl (pc0 := 256) (pc' := 260) rfl (hb hby at_256) (by decide) (by decide) (XS.istore Xc.here hx rfl (hb hby at_260) rfl (l' := #[.val (.int p0), .val (.int p1), .val (.long q2), .second, .val (.int kv4), .val (.ref sA), .val (.long lo), .second, .val (.long hi), .second, .val (.int m10), .val (.long xx), .second, .val (.int (1 : Int32))]) rfl (XS.aload Xc.here hx rfl (hb hby at_262) rfl rfl (XS.lload Xc.here hx rfl (hb hby at_264) rfl k)))))) ?_
        obtain ⟨cq7, kq7, q7a, q7b, q7c⟩ := isOf hZ ec (Exs.ext O0.2)
        obtain ⟨_, _, ⟨T7, L7, k7, n7⟩, -, X7, ⟨Lc7, hQ7, l7, y7, z7⟩, st7⟩ := Xc.virtualBack hx (y := (⟨"com/example/vast_queue/vastqueue/engine/QueueSetting", "allows", "(J)Z"⟩ : MethodName)) (z := (⟨"com/example/vast_queue/vastqueue/engine/QueueSetting", "allows", "(J)Z"⟩ : MethodName)) hown (mvT hZ (own_w hw 5)) (mvT hZ (own_w hw 6)) (notFace_of_selects (args := #[]) (mvT hZ (own_w hw 8))) (mvT hZ (own_w hw 8)) (mvT hZ (own_w hw 7)) (by decide) (backOf (W := 0) (rm5 l Z a0 hw [] sA xx lo32 hi32 h0 n0 Z0 (Fmin.ext O0.2) (Fmax.ext O0.2)) hZ (own_w hw 9) (own_w hw 2) (by decide) (by decide)) q7a q7c (g := (mkF m 266 #[.val (.int p0), .val (.int p1), .val (.long q2), .second, .val (.int kv4), .val (.ref sA), .val (.long lo), .second, .val (.long hi), .second, .val (.int m10), .val (.long xx), .second, .val (.int (1 : Int32))] [(.long xx), (.ref sA)])) rfl (by rw [hml]; rfl) (Steps.refl _) (argsL := [(.long xx)]) (rest := []) (lenOf pd_1 rfl) rfl (by show 2 * 0 + _ ≤ _; exact Nat.le_of_eq rfl) (hb hby at_266) (fun _ _ => ⟨rfl, ec, (by decide : 0 + 0 ≤ _), (by decide : 0 + 0 ≤ _)⟩)
        dsimp only [Pt.U, Pt.locs, Pt.cells, Pt.slots] at X7 l7 y7 z7 st7 hQ7
        subst l7 y7 z7
        obtain ⟨rfl, N7q, e7⟩ := hQ7
        have N7 := Fr.app Nc N7q
        have ho8 : (F5 sA xx lo32 hi32) = (1 : Int32) := by rw [F5, elo, ehi, if_neg hc1, if_neg hc4]
        obtain ⟨fs, hr, hrun, hended, hW, hsame⟩ := X7.leave (v := some (.int (1 : Int32))) (fun h => by rw [Bd.returns] at h; cases h)
        refine own_by (W' := (T7.setTop (mkF m 279 #[.val (.int p0), .val (.int p1), .val (.long q2), .second, .val (.int kv4), .val (.ref sA), .val (.long lo), .second, .val (.long hi), .second, .val (.int m10), .val (.long xx), .second, .val (.int (1 : Int32))] [(.int (1 : Int32))]))) (fun t k => Steps.trans st7 (XS.iload X7.here hx rfl (hb hby at_269) rfl (XS.icmpNo X7.here hx rfl (hb hby at_271) rfl (teq ho8).2 (XS.iconst X7.here hx rfl (hb hby at_274) (XS.goto X7.here hx rfl (pc0 := 275) (pc' := 279) rfl (hb hby at_275) (by decide) (by decide) k))))) ?_
        refine ⟨_, _, retOut X7 hx Bd.returns rfl (Or.inl ⟨rfl, Or.inr (Or.inl rfl), _, rfl⟩) (hb hby at_279) hr, hrun, hended, _, _, rfl, ?_, ⟨_, rfl⟩, hW, hsame.mono (by decide) (by decide)⟩
        exact ⟨rfl, N7⟩
  have cut112 : ∀ (Tc : State) {lc : List Loc} (Xc : Stand p l e room_1 s m #[(.int p0), (.int p1), (.long q2)] below meth c Tc lc 0 0) (Nc : Fr n0 lc) (kv4 : Int32) (sA : Addr) (lo : Int64) (hi : Int64) (lo32 : Int32) (hi32 : Int32) (ec : Tc.heap = h0) (Exs : Exa Z Z.heap sA "com/example/vast_queue/vastqueue/engine/QueueSetting") (Fmin : Fld Z Z.heap sA "com/example/vast_queue/vastqueue/engine/QueueSetting" "min" "I" (.int lo32)) (Fmax : Fld Z Z.heap sA "com/example/vast_queue/vastqueue/engine/QueueSetting" "max" "I" (.int hi32)) (elo : lo32.toInt64 = lo) (ehi : hi32.toInt64 = hi), own_Gl p e below (own_KL Z p0 p1 q2 wVISIBILITY_TIMEOUT wMESSAGE_RETENTION_PERIOD wDELAY_SECONDS wMAXIMUM_MESSAGE_SIZE wRECEIVE_MESSAGE_WAIT_TIME_SECONDS h0 n0 s) (Tc.setTop (mkF m 112 #[.val (.int p0), .val (.int p1), .val (.long q2), .second, .val (.int kv4), .val (.ref sA), .val (.long lo), .second, .val (.long hi), .second, .unset, .unset, .unset, .unset] [])) := by
    intro Tc lc Xc Nc kv4 sA lo hi lo32 hi32 ec Exs Fmin Fmax elo ehi
    refine own_by (W' := (Tc.setTop (mkF m 118 #[.val (.int p0), .val (.int p1), .val (.long q2), .second, .val (.int kv4), .val (.ref sA), .val (.long lo), .second, .val (.long hi), .second, .val (.int (p1 &&& (7 : Int32))), .unset, .unset, .unset] []))) (fun t k => XS.iloadN Xc.here hx rfl (hb hby at_112) rfl (XS.bipush Xc.here hx rfl (hb hby at_113) (XS.iand Xc.here hx rfl (hb hby at_115) rfl (XS.istore Xc.here hx rfl (hb hby at_116) rfl (l' := #[.val (.int p0), .val (.int p1), .val (.long q2), .second, .val (.int kv4), .val (.ref sA), .val (.long lo), .second, .val (.long hi), .second, .val (.int (p1 &&& (7 : Int32))), .unset, .unset, .unset]) rfl k)))) ?_
    generalize hv_mm : (p1 &&& (7 : Int32)) = mm
    refine own_by (W' := (Tc.setTop (mkF m 120 #[.val (.int p0), .val (.int p1), .val (.long q2), .second, .val (.int kv4), .val (.ref sA), .val (.long lo), .second, .val (.long hi), .second, .val (.int mm), .unset, .unset, .unset] [(.int mm)]))) (fun t k => XS.iload Xc.here hx rfl (hb hby at_118) rfl k) ?_
    by_cases hc9 : mm = (0 : Int32)
    ·
      refine own_by (W' := (Tc.setTop (mkF m 239 #[.val (.int p0), .val (.int p1), .val (.long q2), .second, .val (.int kv4), .val (.ref sA), .val (.long lo), .second, .val (.long hi), .second, .val (.int mm), .val (.long q2), .second, .unset] []))) (fun t k => XS.ifNo Xc.here hx rfl (hb hby at_120) rfl ((if0 _ _).trans (teq hc9).2) (XS.lloadN Xc.here hx rfl (hb hby at_123) rfl (XS.lstore Xc.here hx rfl (hb hby at_124) rfl (l' := #[.val (.int p0), .val (.int p1), .val (.long q2), .second, .val (.int kv4), .val (.ref sA), .val (.long lo), .second, .val (.long hi), .second, .val (.int mm), .val (.long q2), .second, .unset]) rfl (XS.goto Xc.here hx rfl (pc0 := 126) (pc' := 239) rfl (hb hby at_126) (by decide) (by decide) k)))) ?_
      exact cut239 _ Xc Nc (kv4) (sA) (lo) (hi) (lo32) (hi32) (mm) (q2) ec (Exs) (Fmin) (Fmax) (elo) (ehi)
    ·
      refine own_by (W' := (Tc.setTop (mkF m 132 #[.val (.int p0), .val (.int p1), .val (.long q2), .second, .val (.int kv4), .val (.ref sA), .val (.long lo), .second, .val (.long hi), .second, .val (.int mm), .unset, .unset, .unset] [(.int (1 : Int32)), (.int mm)]))) (fun t k => XS.ifYes Xc.here hx rfl (pc0 := 120) (pc' := 129) rfl (hb hby at_120) rfl ((if0 _ _).trans (feq hc9).2) (by decide) (by decide) (XS.iload Xc.here hx rfl (hb hby at_129) rfl (XS.iconst Xc.here hx rfl (hb hby at_131) k))) ?_
      by_cases hc10 : mm = (1 : Int32)
      ·
        refine own_by (W' := (Tc.setTop (mkF m 141 #[.val (.int p0), .val (.int p1), .val (.long q2), .second, .val (.int kv4), .val (.ref sA), .val (.long lo), .second, .val (.long hi), .second, .val (.int mm), .val (.long (lo - (1 : Int64))), .second, .unset] []))) (fun t k => XS.icmpNo Xc.here hx rfl (hb hby at_132) rfl (teq hc10).2 (XS.lload Xc.here hx rfl (hb hby at_135) rfl (XS.lconst Xc.here hx rfl (hb hby at_137) (XS.lsub Xc.here hx rfl (hb hby at_138) rfl (XS.lstore Xc.here hx rfl (hb hby at_139) rfl (l' := #[.val (.int p0), .val (.int p1), .val (.long q2), .second, .val (.int kv4), .val (.ref sA), .val (.long lo), .second, .val (.long hi), .second, .val (.int mm), .val (.long (lo - (1 : Int64))), .second, .unset]) rfl k))))) ?_
        generalize hv_v11 : (lo - (1 : Int64)) = v11
        refine own_by (W' := (Tc.setTop (mkF m 239 #[.val (.int p0), .val (.int p1), .val (.long q2), .second, .val (.int kv4), .val (.ref sA), .val (.long lo), .second, .val (.long hi), .second, .val (.int mm), .val (.long v11), .second, .unset] []))) (fun t k => XS.goto Xc.here hx rfl (pc0 := 141) (pc' := 239) rfl (hb hby at_141) (by decide) (by decide) k) ?_
        exact cut239 _ Xc Nc (kv4) (sA) (lo) (hi) (lo32) (hi32) (mm) (v11) ec (Exs) (Fmin) (Fmax) (elo) (ehi)
      ·
        refine own_by (W' := (Tc.setTop (mkF m 147 #[.val (.int p0), .val (.int p1), .val (.long q2), .second, .val (.int kv4), .val (.ref sA), .val (.long lo), .second, .val (.long hi), .second, .val (.int mm), .unset, .unset, .unset] [(.int (2 : Int32)), (.int mm)]))) (fun t k => XS.icmpYes Xc.here hx rfl (pc0 := 132) (pc' := 144) rfl (hb hby at_132) rfl (feq hc10).2 (by decide) (by decide) (XS.iload Xc.here hx rfl (hb hby at_144) rfl (XS.iconst Xc.here hx rfl (hb hby at_146) k))) ?_
        by_cases hc12 : mm = (2 : Int32)
        ·
          refine own_by (W' := (Tc.setTop (mkF m 239 #[.val (.int p0), .val (.int p1), .val (.long q2), .second, .val (.int kv4), .val (.ref sA), .val (.long lo), .second, .val (.long hi), .second, .val (.int mm), .val (.long lo), .second, .unset] []))) (fun t k => XS.icmpNo Xc.here hx rfl (hb hby at_147) rfl (teq hc12).2 (XS.lload Xc.here hx rfl (hb hby at_150) rfl (XS.lstore Xc.here hx rfl (hb hby at_152) rfl (l' := #[.val (.int p0), .val (.int p1), .val (.long q2), .second, .val (.int kv4), .val (.ref sA), .val (.long lo), .second, .val (.long hi), .second, .val (.int mm), .val (.long lo), .second, .unset]) rfl (XS.goto Xc.here hx rfl (pc0 := 154) (pc' := 239) rfl (hb hby at_154) (by decide) (by decide) k)))) ?_
          exact cut239 _ Xc Nc (kv4) (sA) (lo) (hi) (lo32) (hi32) (mm) (lo) ec (Exs) (Fmin) (Fmax) (elo) (ehi)
        ·
          refine own_by (W' := (Tc.setTop (mkF m 160 #[.val (.int p0), .val (.int p1), .val (.long q2), .second, .val (.int kv4), .val (.ref sA), .val (.long lo), .second, .val (.long hi), .second, .val (.int mm), .unset, .unset, .unset] [(.int (3 : Int32)), (.int mm)]))) (fun t k => XS.icmpYes Xc.here hx rfl (pc0 := 147) (pc' := 157) rfl (hb hby at_147) rfl (feq hc12).2 (by decide) (by decide) (XS.iload Xc.here hx rfl (hb hby at_157) rfl (XS.iconst Xc.here hx rfl (hb hby at_159) k))) ?_
          by_cases hc13 : mm = (3 : Int32)
          ·
            refine own_by (W' := (Tc.setTop (mkF m 239 #[.val (.int p0), .val (.int p1), .val (.long q2), .second, .val (.int kv4), .val (.ref sA), .val (.long lo), .second, .val (.long hi), .second, .val (.int mm), .val (.long hi), .second, .unset] []))) (fun t k => XS.icmpNo Xc.here hx rfl (hb hby at_160) rfl (teq hc13).2 (XS.lload Xc.here hx rfl (hb hby at_163) rfl (XS.lstore Xc.here hx rfl (hb hby at_165) rfl (l' := #[.val (.int p0), .val (.int p1), .val (.long q2), .second, .val (.int kv4), .val (.ref sA), .val (.long lo), .second, .val (.long hi), .second, .val (.int mm), .val (.long hi), .second, .unset]) rfl (XS.goto Xc.here hx rfl (pc0 := 167) (pc' := 239) rfl (hb hby at_167) (by decide) (by decide) k)))) ?_
            exact cut239 _ Xc Nc (kv4) (sA) (lo) (hi) (lo32) (hi32) (mm) (hi) ec (Exs) (Fmin) (Fmax) (elo) (ehi)
          ·
            refine own_by (W' := (Tc.setTop (mkF m 173 #[.val (.int p0), .val (.int p1), .val (.long q2), .second, .val (.int kv4), .val (.ref sA), .val (.long lo), .second, .val (.long hi), .second, .val (.int mm), .unset, .unset, .unset] [(.int (4 : Int32)), (.int mm)]))) (fun t k => XS.icmpYes Xc.here hx rfl (pc0 := 160) (pc' := 170) rfl (hb hby at_160) rfl (feq hc13).2 (by decide) (by decide) (XS.iload Xc.here hx rfl (hb hby at_170) rfl (XS.iconst Xc.here hx rfl (hb hby at_172) k))) ?_
            by_cases hc14 : mm = (4 : Int32)
            ·
              refine own_by (W' := (Tc.setTop (mkF m 182 #[.val (.int p0), .val (.int p1), .val (.long q2), .second, .val (.int kv4), .val (.ref sA), .val (.long lo), .second, .val (.long hi), .second, .val (.int mm), .val (.long (hi + (1 : Int64))), .second, .unset] []))) (fun t k => XS.icmpNo Xc.here hx rfl (hb hby at_173) rfl (teq hc14).2 (XS.lload Xc.here hx rfl (hb hby at_176) rfl (XS.lconst Xc.here hx rfl (hb hby at_178) (XS.ladd Xc.here hx rfl (hb hby at_179) rfl (XS.lstore Xc.here hx rfl (hb hby at_180) rfl (l' := #[.val (.int p0), .val (.int p1), .val (.long q2), .second, .val (.int kv4), .val (.ref sA), .val (.long lo), .second, .val (.long hi), .second, .val (.int mm), .val (.long (hi + (1 : Int64))), .second, .unset]) rfl k))))) ?_
              generalize hv_v15 : (hi + (1 : Int64)) = v15
              refine own_by (W' := (Tc.setTop (mkF m 239 #[.val (.int p0), .val (.int p1), .val (.long q2), .second, .val (.int kv4), .val (.ref sA), .val (.long lo), .second, .val (.long hi), .second, .val (.int mm), .val (.long v15), .second, .unset] []))) (fun t k => XS.goto Xc.here hx rfl (pc0 := 182) (pc' := 239) rfl (hb hby at_182) (by decide) (by decide) k) ?_
              exact cut239 _ Xc Nc (kv4) (sA) (lo) (hi) (lo32) (hi32) (mm) (v15) ec (Exs) (Fmin) (Fmax) (elo) (ehi)
            ·
              refine own_by (W' := (Tc.setTop (mkF m 188 #[.val (.int p0), .val (.int p1), .val (.long q2), .second, .val (.int kv4), .val (.ref sA), .val (.long lo), .second, .val (.long hi), .second, .val (.int mm), .unset, .unset, .unset] [(.int (5 : Int32)), (.int mm)]))) (fun t k => XS.icmpYes Xc.here hx rfl (pc0 := 173) (pc' := 185) rfl (hb hby at_173) rfl (feq hc14).2 (by decide) (by decide) (XS.iload Xc.here hx rfl (hb hby at_185) rfl (XS.iconst Xc.here hx rfl (hb hby at_187) k))) ?_
              by_cases hc16 : mm = (5 : Int32)
              ·
                refine own_by (W' := (Tc.setTop (mkF m 198 #[.val (.int p0), .val (.int p1), .val (.long q2), .second, .val (.int kv4), .val (.ref sA), .val (.long lo), .second, .val (.long hi), .second, .val (.int mm), .val (.long (q2 &&& (2097151 : Int64))), .second, .unset] []))) (fun t k => XS.icmpNo Xc.here hx rfl (hb hby at_188) rfl (teq hc16).2 (XS.lloadN Xc.here hx rfl (hb hby at_191) rfl ((Xc.ldc2Long hx hown (mvT hZ (own_w hw 30)) (g := (mkF m 192 #[.val (.int p0), .val (.int p1), .val (.long q2), .second, .val (.int kv4), .val (.ref sA), .val (.long lo), .second, .val (.long hi), .second, .val (.int mm), .unset, .unset, .unset] [(.long q2)])) rfl (hb hby at_192)) _ (XS.land Xc.here hx rfl (hb hby at_195) rfl (XS.lstore Xc.here hx rfl (hb hby at_196) rfl (l' := #[.val (.int p0), .val (.int p1), .val (.long q2), .second, .val (.int kv4), .val (.ref sA), .val (.long lo), .second, .val (.long hi), .second, .val (.int mm), .val (.long (q2 &&& (2097151 : Int64))), .second, .unset]) rfl k))))) ?_
                generalize hv_v17 : (q2 &&& (2097151 : Int64)) = v17
                refine own_by (W' := (Tc.setTop (mkF m 239 #[.val (.int p0), .val (.int p1), .val (.long q2), .second, .val (.int kv4), .val (.ref sA), .val (.long lo), .second, .val (.long hi), .second, .val (.int mm), .val (.long v17), .second, .unset] []))) (fun t k => XS.goto Xc.here hx rfl (pc0 := 198) (pc' := 239) rfl (hb hby at_198) (by decide) (by decide) k) ?_
                exact cut239 _ Xc Nc (kv4) (sA) (lo) (hi) (lo32) (hi32) (mm) (v17) ec (Exs) (Fmin) (Fmax) (elo) (ehi)
              ·
                refine own_by (W' := (Tc.setTop (mkF m 205 #[.val (.int p0), .val (.int p1), .val (.long q2), .second, .val (.int kv4), .val (.ref sA), .val (.long lo), .second, .val (.long hi), .second, .val (.int mm), .unset, .unset, .unset] [(.int (6 : Int32)), (.int mm)]))) (fun t k => XS.icmpYes Xc.here hx rfl (pc0 := 188) (pc' := 201) rfl (hb hby at_188) rfl (feq hc16).2 (by decide) (by decide) (XS.iload Xc.here hx rfl (hb hby at_201) rfl (XS.bipush Xc.here hx rfl (hb hby at_203) k))) ?_
                by_cases hc18 : mm = (6 : Int32)
                ·
                  refine own_by (W' := (Tc.setTop (mkF m 216 #[.val (.int p0), .val (.int p1), .val (.long q2), .second, .val (.int kv4), .val (.ref sA), .val (.long lo), .second, .val (.long hi), .second, .val (.int mm), .unset, .unset, .unset] [(.long (lo + (q2 - (q2 / (64 : Int64)) * (64 : Int64))))]))) (fun t k => XS.icmpNo Xc.here hx rfl (hb hby at_205) rfl (teq hc18).2 (XS.lload Xc.here hx rfl (hb hby at_208) rfl (XS.lloadN Xc.here hx rfl (hb hby at_210) rfl ((Xc.ldc2Long hx hown (mvT hZ (own_w hw 20)) (g := (mkF m 211 #[.val (.int p0), .val (.int p1), .val (.long q2), .second, .val (.int kv4), .val (.ref sA), .val (.long lo), .second, .val (.long hi), .second, .val (.int mm), .unset, .unset, .unset] [(.long q2), (.long lo)])) rfl (hb hby at_211)) _ (XS.lrem Xc.here hx rfl (hb hby at_214) rfl (by decide) (XS.ladd Xc.here hx rfl (hb hby at_215) rfl k)))))) ?_
                  refine own_by (W' := (Tc.setTop (mkF m 222 #[.val (.int p0), .val (.int p1), .val (.long q2), .second, .val (.int kv4), .val (.ref sA), .val (.long lo), .second, .val (.long hi), .second, .val (.int mm), .val (.long ((lo + (q2 - (q2 / (64 : Int64)) * (64 : Int64))) - (32 : Int64))), .second, .unset] []))) (fun t k => (Xc.ldc2Long hx hown (mvT hZ (own_w hw 21)) (g := (mkF m 216 #[.val (.int p0), .val (.int p1), .val (.long q2), .second, .val (.int kv4), .val (.ref sA), .val (.long lo), .second, .val (.long hi), .second, .val (.int mm), .unset, .unset, .unset] [(.long (lo + (q2 - (q2 / (64 : Int64)) * (64 : Int64))))])) rfl (hb hby at_216)) _ (XS.lsub Xc.here hx rfl (hb hby at_219) rfl (XS.lstore Xc.here hx rfl (hb hby at_220) rfl (l' := #[.val (.int p0), .val (.int p1), .val (.long q2), .second, .val (.int kv4), .val (.ref sA), .val (.long lo), .second, .val (.long hi), .second, .val (.int mm), .val (.long ((lo + (q2 - (q2 / (64 : Int64)) * (64 : Int64))) - (32 : Int64))), .second, .unset]) rfl k))) ?_
                  generalize hv_v19 : ((lo + (q2 - (q2 / (64 : Int64)) * (64 : Int64))) - (32 : Int64)) = v19
                  refine own_by (W' := (Tc.setTop (mkF m 239 #[.val (.int p0), .val (.int p1), .val (.long q2), .second, .val (.int kv4), .val (.ref sA), .val (.long lo), .second, .val (.long hi), .second, .val (.int mm), .val (.long v19), .second, .unset] []))) (fun t k => XS.goto Xc.here hx rfl (pc0 := 222) (pc' := 239) rfl (hb hby at_222) (by decide) (by decide) k) ?_
                  exact cut239 _ Xc Nc (kv4) (sA) (lo) (hi) (lo32) (hi32) (mm) (v19) ec (Exs) (Fmin) (Fmax) (elo) (ehi)
                ·
                  refine own_by (W' := (Tc.setTop (mkF m 233 #[.val (.int p0), .val (.int p1), .val (.long q2), .second, .val (.int kv4), .val (.ref sA), .val (.long lo), .second, .val (.long hi), .second, .val (.int mm), .unset, .unset, .unset] [(.long (hi + (q2 - (q2 / (64 : Int64)) * (64 : Int64))))]))) (fun t k => XS.icmpYes Xc.here hx rfl (pc0 := 205) (pc' := 225) rfl (hb hby at_205) rfl (feq hc18).2 (by decide) (by decide) (XS.lload Xc.here hx rfl (hb hby at_225) rfl (XS.lloadN Xc.here hx rfl (hb hby at_227) rfl ((Xc.ldc2Long hx hown (mvT hZ (own_w hw 20)) (g := (mkF m 228 #[.val (.int p0), .val (.int p1), .val (.long q2), .second, .val (.int kv4), .val (.ref sA), .val (.long lo), .second, .val (.long hi), .second, .val (.int mm), .unset, .unset, .unset] [(.long q2), (.long hi)])) rfl (hb hby at_228)) _ (XS.lrem Xc.here hx rfl (hb hby at_231) rfl (by decide) (XS.ladd Xc.here hx rfl (hb hby at_232) rfl k)))))) ?_
                  refine own_by (W' := (Tc.setTop (mkF m 239 #[.val (.int p0), .val (.int p1), .val (.long q2), .second, .val (.int kv4), .val (.ref sA), .val (.long lo), .second, .val (.long hi), .second, .val (.int mm), .val (.long ((hi + (q2 - (q2 / (64 : Int64)) * (64 : Int64))) - (32 : Int64))), .second, .unset] []))) (fun t k => (Xc.ldc2Long hx hown (mvT hZ (own_w hw 21)) (g := (mkF m 233 #[.val (.int p0), .val (.int p1), .val (.long q2), .second, .val (.int kv4), .val (.ref sA), .val (.long lo), .second, .val (.long hi), .second, .val (.int mm), .unset, .unset, .unset] [(.long (hi + (q2 - (q2 / (64 : Int64)) * (64 : Int64))))])) rfl (hb hby at_233)) _ (XS.lsub Xc.here hx rfl (hb hby at_236) rfl (XS.lstore Xc.here hx rfl (hb hby at_237) rfl (l' := #[.val (.int p0), .val (.int p1), .val (.long q2), .second, .val (.int kv4), .val (.ref sA), .val (.long lo), .second, .val (.long hi), .second, .val (.int mm), .val (.long ((hi + (q2 - (q2 / (64 : Int64)) * (64 : Int64))) - (32 : Int64))), .second, .unset]) rfl k))) ?_
                  generalize hv_v20 : ((hi + (q2 - (q2 / (64 : Int64)) * (64 : Int64))) - (32 : Int64)) = v20
                  exact cut239 _ Xc Nc (kv4) (sA) (lo) (hi) (lo32) (hi32) (mm) (v20) ec (Exs) (Fmin) (Fmax) (elo) (ehi)
  refine own_by (W' := (s₁.setTop (mkF m 8 #[.val (.int p0), .val (.int p1), .val (.long q2), .second, .val (.int ((p0 &&& (2147483647 : Int32)) % (5 : Int32))), .unset, .unset, .unset, .unset, .unset, .unset, .unset, .unset, .unset] []))) (fun t k => XS.iloadN X0.here hx rfl (hb hby at_0) rfl ((X0.ldcInt hx hown (mvT hZ (own_w hw 0)) (g := (mkF m 1 #[.val (.int p0), .val (.int p1), .val (.long q2), .second, .unset, .unset, .unset, .unset, .unset, .unset, .unset, .unset, .unset, .unset] [(.int p0)])) rfl (hb hby at_1)) _ (XS.iand X0.here hx rfl (hb hby at_3) rfl (XS.iconst X0.here hx rfl (hb hby at_4) (iremM X0 hx rfl (hb hby at_5) rfl (by decide) (XS.istore X0.here hx rfl (hb hby at_6) rfl (l' := #[.val (.int p0), .val (.int p1), .val (.long q2), .second, .val (.int ((p0 &&& (2147483647 : Int32)) % (5 : Int32))), .unset, .unset, .unset, .unset, .unset, .unset, .unset, .unset, .unset]) rfl k)))))) ?_
  generalize hv_kk : ((p0 &&& (2147483647 : Int32)) % (5 : Int32)) = kk
  refine own_by (W' := (s₁.setTop (mkF m 10 #[.val (.int p0), .val (.int p1), .val (.long q2), .second, .val (.int kk), .unset, .unset, .unset, .unset, .unset, .unset, .unset, .unset, .unset] [(.int kk)]))) (fun t k => XS.iload X0.here hx rfl (hb hby at_8) rfl k) ?_
  by_cases hc21 : kk = (0 : Int32)
  ·
    obtain ⟨T22, X22, e22, st22⟩ := getS (host := "") X0 hx hZ hown (own_w hw 1) Via.refl e0 (HW.1.ext O0.2) (g := (mkF m 13 #[.val (.int p0), .val (.int p1), .val (.long q2), .second, .val (.int kk), .unset, .unset, .unset, .unset, .unset, .unset, .unset, .unset, .unset] [])) rfl (hb hby at_13)
    refine own_by (W' := (T22.setTop (mkF m 24 #[.val (.int p0), .val (.int p1), .val (.long q2), .second, .val (.int kk), .val (.ref wVISIBILITY_TIMEOUT), .val (.long (0 : Int64)), .second, .unset, .unset, .unset, .unset, .unset, .unset] [(.long (43200 : Int64))]))) (fun t k => XS.ifNo X0.here hx rfl (hb hby at_10) rfl ((if0 _ _).trans (teq hc21).2) (st22 _ (XS.astore X22.here hx rfl (hb hby at_16) rfl rfl (l' := #[.val (.int p0), .val (.int p1), .val (.long q2), .second, .val (.int kk), .val (.ref wVISIBILITY_TIMEOUT), .unset, .unset, .unset, .unset, .unset, .unset, .unset, .unset]) rfl (XS.lconst X22.here hx rfl (hb hby at_18) (XS.lstore X22.here hx rfl (hb hby at_19) rfl (l' := #[.val (.int p0), .val (.int p1), .val (.long q2), .second, .val (.int kk), .val (.ref wVISIBILITY_TIMEOUT), .val (.long (0 : Int64)), .second, .unset, .unset, .unset, .unset, .unset, .unset]) rfl ((X22.ldc2Long hx hown (mvT hZ (own_w hw 4)) (g := (mkF m 21 #[.val (.int p0), .val (.int p1), .val (.long q2), .second, .val (.int kk), .val (.ref wVISIBILITY_TIMEOUT), .val (.long (0 : Int64)), .second, .unset, .unset, .unset, .unset, .unset, .unset] [])) rfl (hb hby at_21)) _ k)))))) ?_
    refine own_by (W' := (T22.setTop (mkF m 112 #[.val (.int p0), .val (.int p1), .val (.long q2), .second, .val (.int kk), .val (.ref wVISIBILITY_TIMEOUT), .val (.long (0 : Int64)), .second, .val (.long (43200 : Int64)), .second, .unset, .unset, .unset, .unset] []))) (fun t k => XS.lstore X22.here hx rfl (hb hby at_24) rfl (l' := #[.val (.int p0), .val (.int p1), .val (.long q2), .second, .val (.int kk), .val (.ref wVISIBILITY_TIMEOUT), .val (.long (0 : Int64)), .second, .val (.long (43200 : Int64)), .second, .unset, .unset, .unset, .unset]) rfl (XS.goto X22.here hx rfl (pc0 := 26) (pc' := 112) rfl (hb hby at_26) (by decide) (by decide) k)) ?_
    exact cut112 _ X22 N0 (kk) (wVISIBILITY_TIMEOUT) ((0 : Int64)) ((43200 : Int64)) ((0 : Int32)) ((43200 : Int32)) e22 (HW.2.1) (HW.2.2.1) (HW.2.2.2.1) (by decide) (by decide)
  ·
    refine own_by (W' := (s₁.setTop (mkF m 32 #[.val (.int p0), .val (.int p1), .val (.long q2), .second, .val (.int kk), .unset, .unset, .unset, .unset, .unset, .unset, .unset, .unset, .unset] [(.int (1 : Int32)), (.int kk)]))) (fun t k => XS.ifYes X0.here hx rfl (pc0 := 10) (pc' := 29) rfl (hb hby at_10) rfl ((if0 _ _).trans (feq hc21).2) (by decide) (by decide) (XS.iload X0.here hx rfl (hb hby at_29) rfl (XS.iconst X0.here hx rfl (hb hby at_31) k))) ?_
    by_cases hc23 : kk = (1 : Int32)
    ·
      obtain ⟨T24, X24, e24, st24⟩ := getS (host := "") X0 hx hZ hown (own_w hw 26) Via.refl e0 (HW.2.2.2.2.1.ext O0.2) (g := (mkF m 35 #[.val (.int p0), .val (.int p1), .val (.long q2), .second, .val (.int kk), .unset, .unset, .unset, .unset, .unset, .unset, .unset, .unset, .unset] [])) rfl (hb hby at_35)
      refine own_by (W' := (T24.setTop (mkF m 48 #[.val (.int p0), .val (.int p1), .val (.long q2), .second, .val (.int kk), .val (.ref wMESSAGE_RETENTION_PERIOD), .val (.long (60 : Int64)), .second, .unset, .unset, .unset, .unset, .unset, .unset] [(.long (1209600 : Int64))]))) (fun t k => XS.icmpNo X0.here hx rfl (hb hby at_32) rfl (teq hc23).2 (st24 _ (XS.astore X24.here hx rfl (hb hby at_38) rfl rfl (l' := #[.val (.int p0), .val (.int p1), .val (.long q2), .second, .val (.int kk), .val (.ref wMESSAGE_RETENTION_PERIOD), .unset, .unset, .unset, .unset, .unset, .unset, .unset, .unset]) rfl ((X24.ldc2Long hx hown (mvT hZ (own_w hw 28)) (g := (mkF m 40 #[.val (.int p0), .val (.int p1), .val (.long q2), .second, .val (.int kk), .val (.ref wMESSAGE_RETENTION_PERIOD), .unset, .unset, .unset, .unset, .unset, .unset, .unset, .unset] [])) rfl (hb hby at_40)) _ (XS.lstore X24.here hx rfl (hb hby at_43) rfl (l' := #[.val (.int p0), .val (.int p1), .val (.long q2), .second, .val (.int kk), .val (.ref wMESSAGE_RETENTION_PERIOD), .val (.long (60 : Int64)), .second, .unset, .unset, .unset, .unset, .unset, .unset]) rfl ((X24.ldc2Long hx hown (mvT hZ (own_w hw 29)) (g := (mkF m 45 #[.val (.int p0), .val (.int p1), .val (.long q2), .second, .val (.int kk), .val (.ref wMESSAGE_RETENTION_PERIOD), .val (.long (60 : Int64)), .second, .unset, .unset, .unset, .unset, .unset, .unset] [])) rfl (hb hby at_45)) _ k)))))) ?_
      refine own_by (W' := (T24.setTop (mkF m 112 #[.val (.int p0), .val (.int p1), .val (.long q2), .second, .val (.int kk), .val (.ref wMESSAGE_RETENTION_PERIOD), .val (.long (60 : Int64)), .second, .val (.long (1209600 : Int64)), .second, .unset, .unset, .unset, .unset] []))) (fun t k => XS.lstore X24.here hx rfl (hb hby at_48) rfl (l' := #[.val (.int p0), .val (.int p1), .val (.long q2), .second, .val (.int kk), .val (.ref wMESSAGE_RETENTION_PERIOD), .val (.long (60 : Int64)), .second, .val (.long (1209600 : Int64)), .second, .unset, .unset, .unset, .unset]) rfl (XS.goto X24.here hx rfl (pc0 := 50) (pc' := 112) rfl (hb hby at_50) (by decide) (by decide) k)) ?_
      exact cut112 _ X24 N0 (kk) (wMESSAGE_RETENTION_PERIOD) ((60 : Int64)) ((1209600 : Int64)) ((60 : Int32)) ((1209600 : Int32)) e24 (HW.2.2.2.2.2.1) (HW.2.2.2.2.2.2.1) (HW.2.2.2.2.2.2.2.1) (by decide) (by decide)
    ·
      refine own_by (W' := (s₁.setTop (mkF m 56 #[.val (.int p0), .val (.int p1), .val (.long q2), .second, .val (.int kk), .unset, .unset, .unset, .unset, .unset, .unset, .unset, .unset, .unset] [(.int (2 : Int32)), (.int kk)]))) (fun t k => XS.icmpYes X0.here hx rfl (pc0 := 32) (pc' := 53) rfl (hb hby at_32) rfl (feq hc23).2 (by decide) (by decide) (XS.iload X0.here hx rfl (hb hby at_53) rfl (XS.iconst X0.here hx rfl (hb hby at_55) k))) ?_
      by_cases hc25 : kk = (2 : Int32)
      ·
        obtain ⟨T26, X26, e26, st26⟩ := getS (host := "") X0 hx hZ hown (own_w hw 14) Via.refl e0 (HW.2.2.2.2.2.2.2.2.1.ext O0.2) (g := (mkF m 59 #[.val (.int p0), .val (.int p1), .val (.long q2), .second, .val (.int kk), .unset, .unset, .unset, .unset, .unset, .unset, .unset, .unset, .unset] [])) rfl (hb hby at_59)
        refine own_by (W' := (T26.setTop (mkF m 70 #[.val (.int p0), .val (.int p1), .val (.long q2), .second, .val (.int kk), .val (.ref wDELAY_SECONDS), .val (.long (0 : Int64)), .second, .unset, .unset, .unset, .unset, .unset, .unset] [(.long (900 : Int64))]))) (fun t k => XS.icmpNo X0.here hx rfl (hb hby at_56) rfl (teq hc25).2 (st26 _ (XS.astore X26.here hx rfl (hb hby at_62) rfl rfl (l' := #[.val (.int p0), .val (.int p1), .val (.long q2), .second, .val (.int kk), .val (.ref wDELAY_SECONDS), .unset, .unset, .unset, .unset, .unset, .unset, .unset, .unset]) rfl (XS.lconst X26.here hx rfl (hb hby at_64) (XS.lstore X26.here hx rfl (hb hby at_65) rfl (l' := #[.val (.int p0), .val (.int p1), .val (.long q2), .second, .val (.int kk), .val (.ref wDELAY_SECONDS), .val (.long (0 : Int64)), .second, .unset, .unset, .unset, .unset, .unset, .unset]) rfl ((X26.ldc2Long hx hown (mvT hZ (own_w hw 16)) (g := (mkF m 67 #[.val (.int p0), .val (.int p1), .val (.long q2), .second, .val (.int kk), .val (.ref wDELAY_SECONDS), .val (.long (0 : Int64)), .second, .unset, .unset, .unset, .unset, .unset, .unset] [])) rfl (hb hby at_67)) _ k)))))) ?_
        refine own_by (W' := (T26.setTop (mkF m 112 #[.val (.int p0), .val (.int p1), .val (.long q2), .second, .val (.int kk), .val (.ref wDELAY_SECONDS), .val (.long (0 : Int64)), .second, .val (.long (900 : Int64)), .second, .unset, .unset, .unset, .unset] []))) (fun t k => XS.lstore X26.here hx rfl (hb hby at_70) rfl (l' := #[.val (.int p0), .val (.int p1), .val (.long q2), .second, .val (.int kk), .val (.ref wDELAY_SECONDS), .val (.long (0 : Int64)), .second, .val (.long (900 : Int64)), .second, .unset, .unset, .unset, .unset]) rfl (XS.goto X26.here hx rfl (pc0 := 72) (pc' := 112) rfl (hb hby at_72) (by decide) (by decide) k)) ?_
        exact cut112 _ X26 N0 (kk) (wDELAY_SECONDS) ((0 : Int64)) ((900 : Int64)) ((0 : Int32)) ((900 : Int32)) e26 (HW.2.2.2.2.2.2.2.2.2.1) (HW.2.2.2.2.2.2.2.2.2.2.1) (HW.2.2.2.2.2.2.2.2.2.2.2.1) (by decide) (by decide)
      ·
        refine own_by (W' := (s₁.setTop (mkF m 78 #[.val (.int p0), .val (.int p1), .val (.long q2), .second, .val (.int kk), .unset, .unset, .unset, .unset, .unset, .unset, .unset, .unset, .unset] [(.int (3 : Int32)), (.int kk)]))) (fun t k => XS.icmpYes X0.here hx rfl (pc0 := 56) (pc' := 75) rfl (hb hby at_56) rfl (feq hc25).2 (by decide) (by decide) (XS.iload X0.here hx rfl (hb hby at_75) rfl (XS.iconst X0.here hx rfl (hb hby at_77) k))) ?_
        by_cases hc27 : kk = (3 : Int32)
        ·
          obtain ⟨T28, X28, e28, st28⟩ := getS (host := "") X0 hx hZ hown (own_w hw 22) Via.refl e0 (HW.2.2.2.2.2.2.2.2.2.2.2.2.1.ext O0.2) (g := (mkF m 81 #[.val (.int p0), .val (.int p1), .val (.long q2), .second, .val (.int kk), .unset, .unset, .unset, .unset, .unset, .unset, .unset, .unset, .unset] [])) rfl (hb hby at_81)
          refine own_by (W' := (T28.setTop (mkF m 94 #[.val (.int p0), .val (.int p1), .val (.long q2), .second, .val (.int kk), .val (.ref wMAXIMUM_MESSAGE_SIZE), .val (.long (1024 : Int64)), .second, .unset, .unset, .unset, .unset, .unset, .unset] [(.long (1048576 : Int64))]))) (fun t k => XS.icmpNo X0.here hx rfl (hb hby at_78) rfl (teq hc27).2 (st28 _ (XS.astore X28.here hx rfl (hb hby at_84) rfl rfl (l' := #[.val (.int p0), .val (.int p1), .val (.long q2), .second, .val (.int kk), .val (.ref wMAXIMUM_MESSAGE_SIZE), .unset, .unset, .unset, .unset, .unset, .unset, .unset, .unset]) rfl ((X28.ldc2Long hx hown (mvT hZ (own_w hw 24)) (g := (mkF m 86 #[.val (.int p0), .val (.int p1), .val (.long q2), .second, .val (.int kk), .val (.ref wMAXIMUM_MESSAGE_SIZE), .unset, .unset, .unset, .unset, .unset, .unset, .unset, .unset] [])) rfl (hb hby at_86)) _ (XS.lstore X28.here hx rfl (hb hby at_89) rfl (l' := #[.val (.int p0), .val (.int p1), .val (.long q2), .second, .val (.int kk), .val (.ref wMAXIMUM_MESSAGE_SIZE), .val (.long (1024 : Int64)), .second, .unset, .unset, .unset, .unset, .unset, .unset]) rfl ((X28.ldc2Long hx hown (mvT hZ (own_w hw 25)) (g := (mkF m 91 #[.val (.int p0), .val (.int p1), .val (.long q2), .second, .val (.int kk), .val (.ref wMAXIMUM_MESSAGE_SIZE), .val (.long (1024 : Int64)), .second, .unset, .unset, .unset, .unset, .unset, .unset] [])) rfl (hb hby at_91)) _ k)))))) ?_
          refine own_by (W' := (T28.setTop (mkF m 112 #[.val (.int p0), .val (.int p1), .val (.long q2), .second, .val (.int kk), .val (.ref wMAXIMUM_MESSAGE_SIZE), .val (.long (1024 : Int64)), .second, .val (.long (1048576 : Int64)), .second, .unset, .unset, .unset, .unset] []))) (fun t k => XS.lstore X28.here hx rfl (hb hby at_94) rfl (l' := #[.val (.int p0), .val (.int p1), .val (.long q2), .second, .val (.int kk), .val (.ref wMAXIMUM_MESSAGE_SIZE), .val (.long (1024 : Int64)), .second, .val (.long (1048576 : Int64)), .second, .unset, .unset, .unset, .unset]) rfl (XS.goto X28.here hx rfl (pc0 := 96) (pc' := 112) rfl (hb hby at_96) (by decide) (by decide) k)) ?_
          exact cut112 _ X28 N0 (kk) (wMAXIMUM_MESSAGE_SIZE) ((1024 : Int64)) ((1048576 : Int64)) ((1024 : Int32)) ((1048576 : Int32)) e28 (HW.2.2.2.2.2.2.2.2.2.2.2.2.2.1) (HW.2.2.2.2.2.2.2.2.2.2.2.2.2.2.1) (HW.2.2.2.2.2.2.2.2.2.2.2.2.2.2.2.1) (by decide) (by decide)
        ·
          obtain ⟨T29, X29, e29, st29⟩ := getS (host := "") X0 hx hZ hown (own_w hw 17) Via.refl e0 (HW.2.2.2.2.2.2.2.2.2.2.2.2.2.2.2.2.1.ext O0.2) (g := (mkF m 99 #[.val (.int p0), .val (.int p1), .val (.long q2), .second, .val (.int kk), .unset, .unset, .unset, .unset, .unset, .unset, .unset, .unset, .unset] [])) rfl (hb hby at_99)
          refine own_by (W' := (T29.setTop (mkF m 110 #[.val (.int p0), .val (.int p1), .val (.long q2), .second, .val (.int kk), .val (.ref wRECEIVE_MESSAGE_WAIT_TIME_SECONDS), .val (.long (0 : Int64)), .second, .unset, .unset, .unset, .unset, .unset, .unset] [(.long (20 : Int64))]))) (fun t k => XS.icmpYes X0.here hx rfl (pc0 := 78) (pc' := 99) rfl (hb hby at_78) rfl (feq hc27).2 (by decide) (by decide) (st29 _ (XS.astore X29.here hx rfl (hb hby at_102) rfl rfl (l' := #[.val (.int p0), .val (.int p1), .val (.long q2), .second, .val (.int kk), .val (.ref wRECEIVE_MESSAGE_WAIT_TIME_SECONDS), .unset, .unset, .unset, .unset, .unset, .unset, .unset, .unset]) rfl (XS.lconst X29.here hx rfl (hb hby at_104) (XS.lstore X29.here hx rfl (hb hby at_105) rfl (l' := #[.val (.int p0), .val (.int p1), .val (.long q2), .second, .val (.int kk), .val (.ref wRECEIVE_MESSAGE_WAIT_TIME_SECONDS), .val (.long (0 : Int64)), .second, .unset, .unset, .unset, .unset, .unset, .unset]) rfl ((X29.ldc2Long hx hown (mvT hZ (own_w hw 19)) (g := (mkF m 107 #[.val (.int p0), .val (.int p1), .val (.long q2), .second, .val (.int kk), .val (.ref wRECEIVE_MESSAGE_WAIT_TIME_SECONDS), .val (.long (0 : Int64)), .second, .unset, .unset, .unset, .unset, .unset, .unset] [])) rfl (hb hby at_107)) _ k)))))) ?_
          refine own_by (W' := (T29.setTop (mkF m 112 #[.val (.int p0), .val (.int p1), .val (.long q2), .second, .val (.int kk), .val (.ref wRECEIVE_MESSAGE_WAIT_TIME_SECONDS), .val (.long (0 : Int64)), .second, .val (.long (20 : Int64)), .second, .unset, .unset, .unset, .unset] []))) (fun t k => XS.lstore X29.here hx rfl (hb hby at_110) rfl (l' := #[.val (.int p0), .val (.int p1), .val (.long q2), .second, .val (.int kk), .val (.ref wRECEIVE_MESSAGE_WAIT_TIME_SECONDS), .val (.long (0 : Int64)), .second, .val (.long (20 : Int64)), .second, .unset, .unset, .unset, .unset]) rfl k) ?_
          exact cut112 _ X29 N0 (kk) (wRECEIVE_MESSAGE_WAIT_TIME_SECONDS) ((0 : Int64)) ((20 : Int64)) ((0 : Int32)) ((20 : Int32)) e29 (HW.2.2.2.2.2.2.2.2.2.2.2.2.2.2.2.2.2.1) (HW.2.2.2.2.2.2.2.2.2.2.2.2.2.2.2.2.2.2.1) (HW.2.2.2.2.2.2.2.2.2.2.2.2.2.2.2.2.2.2.2) (by decide) (by decide)
set_option maxRecDepth 65536 in
set_option maxHeartbeats 40000000 in
theorem comes_1 {Post : Tables → Env → Array Value → State → Outcome → State → Prop} (hpost : ∀ tb e args s v u, (limb_1_1.after args s (.returned v) u = true ∧ limb_1_2.after args s (.returned v) u = true ∧ True) → FrameEnd s (.returned v) u (Jvm.fieldLocs frame_1_writes args s ++ Jvm.arrayLocs frame_1_arrays args s ++ Jvm.staticLocs frame_1_statics s) 0 0 → Post tb e args s (.returned v) u) :
    ArmFor flags0 classFile x code maxLocals ret World_1 tables_1 room_1 Calls_1 rest_1 Pre_1 Post := by
  intro l hfl _ _ p e ha hc hk s m args below hf hA hF happ hP
  obtain ⟨hcalls, hrest, hpre⟩ := hP
  obtain ⟨-, -, -, hnamed, -, -, -, hat⟩ := (Spec.applies_iff hf).mp happ
  obtain ⟨hg, hn⟩ := and_e (Cond.before_iff.mp (show (Jvm.Cond.and given_1 narrow_1).before args s = true from hpre))
  obtain ⟨ga1, gb1⟩ := and_e hg
  obtain ⟨ga2, gb2⟩ := and_e gb1
  obtain ⟨ga3, gb3⟩ := and_e gb2
  obtain ⟨w0, w1, w2, rfl⟩ : ∃ w0 w1 w2 : Value, args = #[w0, w1, w2] := by
    have hs : args.size = 3 := by simpa [Cond.value, given_1] using ga1
    obtain ⟨L⟩ := args
    match L, hs with
    | [w0, w1, w2], _ => exact ⟨w0, w1, w2, rfl⟩
  have hw := fun d (hd : d ∈ tables_1) => atoms_spec (ws := Jvm.Cond.code x code maxLocals ret :: tables_1) hat d (List.mem_cons_of_mem _ hd)
  have hfit : Fit s := fun {y c} hc i hi => by
    obtain ⟨ha, rfl⟩ := Array.getElem?_eq_some_iff.mp hc
    have q := List.all_eq_true.mp ((Array.all_eq_true_iff_forall_mem.mp hF) _ (Array.getElem_mem ha)) i (List.mem_range.mpr hi)
    simpa [Array.getElem?_eq_getElem hi] using q
  obtain ⟨i0, ei0⟩ := is_v ga2
  obtain rfl : w0 = (.int i0) := Option.some.inj ei0
  obtain ⟨i1, ei1⟩ := is_v ga3
  obtain rfl : w1 = (.int i1) := Option.some.inj ei1
  obtain ⟨i2, ei2⟩ := isL_v gb3
  obtain rfl : w2 = (.long i2) := Option.some.inj ei2
  obtain ⟨ga4, gb4⟩ := and_e hn
  obtain ⟨ga5, gb5⟩ := and_e gb4
  obtain ⟨ga6, gb6⟩ := and_e gb5
  obtain ⟨ga7, gb7⟩ := and_e gb6
  obtain ⟨ga8, gb8⟩ := and_e gb7
  obtain ⟨ga9, gb9⟩ := and_e gb8
  obtain ⟨ga10, gb10⟩ := and_e gb9
  obtain ⟨ga11, gb11⟩ := and_e gb10
  obtain ⟨ga12, gb12⟩ := and_e gb11
  obtain ⟨ga13, gb13⟩ := and_e gb12
  obtain ⟨ga14, gb14⟩ := and_e gb13
  obtain ⟨ga15, gb15⟩ := and_e gb14
  obtain ⟨ga16, gb16⟩ := and_e gb15
  obtain ⟨ga17, gb17⟩ := and_e gb16
  obtain ⟨wVISIBILITY_TIMEOUT, ev_wVISIBILITY_TIMEOUT, Sx_wVISIBILITY_TIMEOUT, Ex_wVISIBILITY_TIMEOUT⟩ := own_sta ga4 (Or.inr ⟨(own_w hw 2), (own_w hw 3)⟩)
  have Fx_wVISIBILITY_TIMEOUT_min := own_fldI ev_wVISIBILITY_TIMEOUT ga5
  have Fx_wVISIBILITY_TIMEOUT_max := own_fldI ev_wVISIBILITY_TIMEOUT ga6
  obtain ⟨wMESSAGE_RETENTION_PERIOD, ev_wMESSAGE_RETENTION_PERIOD, Sx_wMESSAGE_RETENTION_PERIOD, Ex_wMESSAGE_RETENTION_PERIOD⟩ := own_sta ga16 (Or.inr ⟨(own_w hw 2), (own_w hw 27)⟩)
  have Fx_wMESSAGE_RETENTION_PERIOD_min := own_fldI ev_wMESSAGE_RETENTION_PERIOD ga17
  have Fx_wMESSAGE_RETENTION_PERIOD_max := own_fldI ev_wMESSAGE_RETENTION_PERIOD gb17
  obtain ⟨wDELAY_SECONDS, ev_wDELAY_SECONDS, Sx_wDELAY_SECONDS, Ex_wDELAY_SECONDS⟩ := own_sta ga7 (Or.inr ⟨(own_w hw 2), (own_w hw 15)⟩)
  have Fx_wDELAY_SECONDS_min := own_fldI ev_wDELAY_SECONDS ga8
  have Fx_wDELAY_SECONDS_max := own_fldI ev_wDELAY_SECONDS ga9
  obtain ⟨wMAXIMUM_MESSAGE_SIZE, ev_wMAXIMUM_MESSAGE_SIZE, Sx_wMAXIMUM_MESSAGE_SIZE, Ex_wMAXIMUM_MESSAGE_SIZE⟩ := own_sta ga13 (Or.inr ⟨(own_w hw 2), (own_w hw 23)⟩)
  have Fx_wMAXIMUM_MESSAGE_SIZE_min := own_fldI ev_wMAXIMUM_MESSAGE_SIZE ga14
  have Fx_wMAXIMUM_MESSAGE_SIZE_max := own_fldI ev_wMAXIMUM_MESSAGE_SIZE ga15
  obtain ⟨wRECEIVE_MESSAGE_WAIT_TIME_SECONDS, ev_wRECEIVE_MESSAGE_WAIT_TIME_SECONDS, Sx_wRECEIVE_MESSAGE_WAIT_TIME_SECONDS, Ex_wRECEIVE_MESSAGE_WAIT_TIME_SECONDS⟩ := own_sta ga10 (Or.inr ⟨(own_w hw 2), (own_w hw 18)⟩)
  have Fx_wRECEIVE_MESSAGE_WAIT_TIME_SECONDS_min := own_fldI ev_wRECEIVE_MESSAGE_WAIT_TIME_SECONDS ga11
  have Fx_wRECEIVE_MESSAGE_WAIT_TIME_SECONDS_max := own_fldI ev_wRECEIVE_MESSAGE_WAIT_TIME_SECONDS ga12
  obtain ⟨n, o, h1, h2, h3, _, L, rfl, ⟨rfl, N⟩, hq⟩ := rmL l s _ hw tables_1 i0 i1 i2 wVISIBILITY_TIMEOUT wMESSAGE_RETENTION_PERIOD wDELAY_SECONDS wMAXIMUM_MESSAGE_SIZE wRECEIVE_MESSAGE_WAIT_TIME_SECONDS s.heap s.heap.size (Nat.le_refl _) (Old.start s) ⟨Sx_wVISIBILITY_TIMEOUT, Ex_wVISIBILITY_TIMEOUT, Fx_wVISIBILITY_TIMEOUT_min, Fx_wVISIBILITY_TIMEOUT_max, Sx_wMESSAGE_RETENTION_PERIOD, Ex_wMESSAGE_RETENTION_PERIOD, Fx_wMESSAGE_RETENTION_PERIOD_min, Fx_wMESSAGE_RETENTION_PERIOD_max, Sx_wDELAY_SECONDS, Ex_wDELAY_SECONDS, Fx_wDELAY_SECONDS_min, Fx_wDELAY_SECONDS_max, Sx_wMAXIMUM_MESSAGE_SIZE, Ex_wMAXIMUM_MESSAGE_SIZE, Fx_wMAXIMUM_MESSAGE_SIZE_min, Fx_wMAXIMUM_MESSAGE_SIZE_max, Sx_wRECEIVE_MESSAGE_WAIT_TIME_SECONDS, Ex_wRECEIVE_MESSAGE_WAIT_TIME_SECONDS, Fx_wRECEIVE_MESSAGE_WAIT_TIME_SECONDS_min, Fx_wRECEIVE_MESSAGE_WAIT_TIME_SECONDS_max⟩ p e ha hc hk s m _ below hf ((Spec.applies_iff_loose hf).mp happ).1 ⟨rfl, State.Warmed39.refl s, rfl⟩ trivial
  refine ⟨n, _, h1, h2, h3, hpost _ _ _ _ _ _ ⟨Cond.after_iff.mpr rfl, Cond.after_iff.mpr (eq_i res_at (Term.int_eval (1)) rfl), trivial⟩ ⟨hq.1, hq.2.1, (hq.2.2.sift fun y hy => Or.inr (N y hy)).mono (by decide) (by decide)⟩⟩
theorem main_1_1 : Claimed_1_1 := comes_1 fun _ _ _ _ _ _ h hF => ⟨h.1, hF⟩
theorem main_1_2 : Claimed_1_2 := comes_1 fun _ _ _ _ _ _ h hF => ⟨h.2.1, hF⟩
end Jvm.Pilot.@@N@@
namespace Jvm.Pilot.@@N@@
open Jvm Jvm.ClassFile Sem Op Lib Jvm.Free Jvm.Stand Jvm.Pilot.@@N@@.Jvm.D
/-! MADE BY PROGRAM (witnessworld.py) out of the Statement's table words and the real class files: 12 classes; the members and pool entries that the words name. The judged class is class 1, her method 1. -/
namespace start1
open Jvm.ClassFile
def u (s : String) : CpInfo := .utf8 (stringToUtf16 s)
/-- a pool by its gaps: so many unusable entries, then the entry; so many at the end -/
def gap : Nat → List CpInfo → List CpInfo
  | 0, r => r
  | n + 1, r => .unusable :: gap n r
def poolList (es : List (Nat × CpInfo)) (last : Nat) : List CpInfo := es.foldr (fun e r => gap e.1 (e.2 :: r)) (gap last [])
def pool (es : List (Nat × CpInfo)) (last : Nat) : Array CpInfo := ⟨poolList es last⟩
def fileOf (pool : Array CpInfo) (this : Nat) (attrs : Array Attribute := #[]) (ms : Array MethodInfo := #[]) (fl : Nat := 33) (sup : Nat := 0) (ifs : Array Nat := #[]) (fds : Array FieldInfo := #[]) : ClassFile where
  minorVersion := 0
  majorVersion := 65
  constantPool := pool
  accessFlags := fl
  thisClass := this
  superClass := sup
  interfaces := ifs
  fields := fds
  methods := ms
  attributes := attrs
def plain (name : String) (sup : Option ClassId) : Class where
  name := name
  kind := .ordinary
  loader := none
  accessFlags := 33
  super := sup
  interfaces := #[]
  cf := none
  fields := #[]
  methods := #[]
  instanceTypes := #[]
  staticTypes := #[]
  resolved := #[]
  callSites := []
  init := .initialized
  statics := none
  mirror := none

def pool0 : Array CpInfo := pool [(5, u "<init>"), (0, u "()V"), (1, .class_ 10), (1, u "java/lang/Object")] 113

def k0m0 : Method := { name := "<init>", desc := "()V", sig := { parameters := [], returnType := none }, accessFlags := 1, code := none }
/-- java/lang/Object -/
def k0 : Class := { plain "java/lang/Object" none with
  accessFlags := 33
  interfaces := #[]
  cf := some (fileOf pool0 8 #[] #[{ accessFlags := 1, nameIndex := 5, descriptorIndex := 6, attributes := #[] }] 33 0 #[] #[])
  fields := #[]
  methods := #[k0m0]
  instanceTypes := #[]
  staticTypes := #[]
  resolved := Array.replicate 124 none
  statics := none }

def pool1 : Array CpInfo := pool [(2, .class_ 4), (1, u "java/lang/Object"), (0, u "<init>"), (0, u "()V"), (0, .integer 2147483647), (0, .fieldref 9 10), (0, .class_ 11), (0, .nameAndType 12 13), (0, u "com/example/vast_queue/vastqueue/engine/QueueSetting"), (0, u "VISIBILITY_TIMEOUT"), (0, u "Lcom/example/vast_queue/vastqueue/engine/QueueSetting;"), (0, .long 43200), (1, .fieldref 9 17), (0, .nameAndType 18 13), (0, u "MESSAGE_RETENTION_PERIOD"), (0, .long 60), (1, .long 1209600), (1, .fieldref 9 24), (0, .nameAndType 25 13), (0, u "DELAY_SECONDS"), (0, .long 900), (1, .fieldref 9 29), (0, .nameAndType 30 13), (0, u "MAXIMUM_MESSAGE_SIZE"), (0, .long 1024), (1, .long 1048576), (1, .fieldref 9 36), (0, .nameAndType 37 13), (0, u "RECEIVE_MESSAGE_WAIT_TIME_SECONDS"), (0, .long 20), (1, .long 2097151), (1, .long 64), (1, .long 32), (1, .methodref 9 47), (0, .nameAndType 48 49), (0, u "allows"), (0, u "(J)Z"), (0, .class_ 51), (0, u "com/example/vast_queue/vastqueue/engine/QueueSettingAllowsPinLaw"), (2, u "law"), (0, u "(IIJ)Z")] 3

def k1m0 : Method := { name := "<init>", desc := "()V", sig := { parameters := [], returnType := none }, accessFlags := 1, code := none }
def k1c1 : Code := { maxStack := 6, maxLocals := 14, code := code, exceptionTable := #[], attributes := #[] }
def k1m1 : Method := { name := "law", desc := "(IIJ)Z", sig := { parameters := [.int, .int, .long], returnType := some .boolean }, accessFlags := 9, code := some k1c1 }
/-- com/example/vast_queue/vastqueue/engine/QueueSettingAllowsPinLaw -/
def k1 : Class := { plain "com/example/vast_queue/vastqueue/engine/QueueSettingAllowsPinLaw" (some 0) with
  accessFlags := 49
  interfaces := #[]
  cf := some (fileOf pool1 50 #[] #[{ accessFlags := 1, nameIndex := 5, descriptorIndex := 6, attributes := #[] }, { accessFlags := 9, nameIndex := 54, descriptorIndex := 55, attributes := #[] }] 49 2 #[] #[])
  fields := #[]
  methods := #[k1m0, k1m1]
  instanceTypes := #[]
  staticTypes := #[]
  resolved := Array.replicate 59 none
  statics := none }

def pool2 : Array CpInfo := pool [(1, .class_ 2), (0, u "java/lang/constant/Constable"), (0, .class_ 4), (0, u "java/lang/Object")] 6

/-- java/lang/constant/Constable -/
def k2 : Class := { plain "java/lang/constant/Constable" (some 0) with
  accessFlags := 1537
  interfaces := #[]
  cf := some (fileOf pool2 1 #[] #[] 1537 3 #[] #[])
  fields := #[]
  methods := #[]
  instanceTypes := #[]
  staticTypes := #[]
  resolved := Array.replicate 11 none
  statics := none }

def pool3 : Array CpInfo := pool [(1, .class_ 2), (0, u "java/lang/Comparable"), (0, .class_ 4), (0, u "java/lang/Object")] 7

/-- java/lang/Comparable -/
def k3 : Class := { plain "java/lang/Comparable" (some 0) with
  accessFlags := 1537
  interfaces := #[]
  cf := some (fileOf pool3 1 #[] #[] 1537 3 #[] #[])
  fields := #[]
  methods := #[]
  instanceTypes := #[]
  staticTypes := #[]
  resolved := Array.replicate 12 none
  statics := none }

def pool4 : Array CpInfo := pool [(1, .class_ 2), (0, u "java/io/Serializable"), (0, .class_ 4), (0, u "java/lang/Object")] 2

/-- java/io/Serializable -/
def k4 : Class := { plain "java/io/Serializable" (some 0) with
  accessFlags := 1537
  interfaces := #[]
  cf := some (fileOf pool4 1 #[] #[] 1537 3 #[] #[])
  fields := #[]
  methods := #[]
  instanceTypes := #[]
  staticTypes := #[]
  resolved := Array.replicate 7 none
  statics := none }

def pool5 : Array CpInfo := pool [(2, .class_ 4), (1, u "java/lang/Enum"), (0, u "name"), (0, u "Ljava/lang/String;"), (2, u "ordinal"), (0, u "I"), (1, .class_ 14), (1, u "java/lang/Object"), (4, u "hash"), (86, .class_ 108), (1, u "java/lang/Enum$EnumDesc"), (2, .class_ 112), (0, u "java/lang/constant/Constable"), (0, .class_ 114), (0, u "java/lang/Comparable"), (0, .class_ 116), (0, u "java/io/Serializable")] 87

/-- java/lang/Enum -/
def k5 : Class := { plain "java/lang/Enum" (some 0) with
  accessFlags := 1057
  interfaces := #[2, 3, 4]
  cf := some (fileOf pool5 2 #[.nestMembers #[106]] #[] 1057 12 #[111, 113, 115] #[{ accessFlags := 18, nameIndex := 5, descriptorIndex := 6, attributes := #[] }, { accessFlags := 18, nameIndex := 9, descriptorIndex := 10, attributes := #[] }, { accessFlags := 2, nameIndex := 19, descriptorIndex := 10, attributes := #[] }])
  fields := #[{ name := "name", type := (.object "java/lang/String"), accessFlags := 18, slot := 0, constantValue := 0 }, { name := "ordinal", type := .int, accessFlags := 18, slot := 1, constantValue := 0 }, { name := "hash", type := .int, accessFlags := 2, slot := 2, constantValue := 0 }]
  methods := #[]
  instanceTypes := #[(.object "java/lang/String"), .int, .int]
  staticTypes := #[]
  resolved := Array.replicate 204 none
  statics := none }

def pool6 : Array CpInfo := pool [(1, .class_ 2), (0, u "com/example/vast_queue/vastqueue/engine/QueueSetting"), (2, u "VISIBILITY_TIMEOUT"), (0, u "Lcom/example/vast_queue/vastqueue/engine/QueueSetting;"), (2, u "MESSAGE_RETENTION_PERIOD"), (2, u "DELAY_SECONDS"), (2, u "MAXIMUM_MESSAGE_SIZE"), (2, u "RECEIVE_MESSAGE_WAIT_TIME_SECONDS"), (2, u "$VALUES"), (0, u "[Lcom/example/vast_queue/vastqueue/engine/QueueSetting;"), (6, .class_ 31), (1, u "java/lang/Enum"), (8, u "attributeName"), (0, u "Ljava/lang/String;"), (0, .fieldref 1 43), (0, .nameAndType 44 45), (0, u "min"), (0, u "I"), (0, .fieldref 1 47), (0, .nameAndType 48 45), (0, u "max"), (2, u "defaultValue"), (45, u "MAX_MESSAGE_BYTES"), (8, u "allows"), (0, u "(J)Z")] 10

def k6c0 : Code := { maxStack := 4, maxLocals := 3, code := prog_42_method_5_code, exceptionTable := #[], attributes := #[] }
def k6m0 : Method := { name := "allows", desc := "(J)Z", sig := { parameters := [.long], returnType := some .boolean }, accessFlags := 1, code := some k6c0 }
/-- com/example/vast_queue/vastqueue/engine/QueueSetting -/
def k6 : Class := { plain "com/example/vast_queue/vastqueue/engine/QueueSetting" (some 5) with
  accessFlags := 16433
  interfaces := #[]
  cf := some (fileOf pool6 1 #[] #[{ accessFlags := 1, nameIndex := 106, descriptorIndex := 107, attributes := #[] }] 16433 29 #[] #[{ accessFlags := 16409, nameIndex := 5, descriptorIndex := 6, attributes := #[] }, { accessFlags := 16409, nameIndex := 9, descriptorIndex := 6, attributes := #[] }, { accessFlags := 16409, nameIndex := 12, descriptorIndex := 6, attributes := #[] }, { accessFlags := 16409, nameIndex := 15, descriptorIndex := 6, attributes := #[] }, { accessFlags := 16409, nameIndex := 18, descriptorIndex := 6, attributes := #[] }, { accessFlags := 25, nameIndex := 97, descriptorIndex := 45, attributes := #[] }, { accessFlags := 18, nameIndex := 40, descriptorIndex := 41, attributes := #[] }, { accessFlags := 18, nameIndex := 44, descriptorIndex := 45, attributes := #[] }, { accessFlags := 18, nameIndex := 48, descriptorIndex := 45, attributes := #[] }, { accessFlags := 18, nameIndex := 51, descriptorIndex := 45, attributes := #[] }, { accessFlags := 4122, nameIndex := 21, descriptorIndex := 22, attributes := #[] }])
  fields := #[{ name := "VISIBILITY_TIMEOUT", type := (.object "com/example/vast_queue/vastqueue/engine/QueueSetting"), accessFlags := 16409, slot := 0, constantValue := 0 }, { name := "MESSAGE_RETENTION_PERIOD", type := (.object "com/example/vast_queue/vastqueue/engine/QueueSetting"), accessFlags := 16409, slot := 1, constantValue := 0 }, { name := "DELAY_SECONDS", type := (.object "com/example/vast_queue/vastqueue/engine/QueueSetting"), accessFlags := 16409, slot := 2, constantValue := 0 }, { name := "MAXIMUM_MESSAGE_SIZE", type := (.object "com/example/vast_queue/vastqueue/engine/QueueSetting"), accessFlags := 16409, slot := 3, constantValue := 0 }, { name := "RECEIVE_MESSAGE_WAIT_TIME_SECONDS", type := (.object "com/example/vast_queue/vastqueue/engine/QueueSetting"), accessFlags := 16409, slot := 4, constantValue := 0 }, { name := "MAX_MESSAGE_BYTES", type := .int, accessFlags := 25, slot := 5, constantValue := 0 }, { name := "attributeName", type := (.object "java/lang/String"), accessFlags := 18, slot := 3, constantValue := 0 }, { name := "min", type := .int, accessFlags := 18, slot := 4, constantValue := 0 }, { name := "max", type := .int, accessFlags := 18, slot := 5, constantValue := 0 }, { name := "defaultValue", type := .int, accessFlags := 18, slot := 6, constantValue := 0 }, { name := "$VALUES", type := (.array (.object "com/example/vast_queue/vastqueue/engine/QueueSetting")), accessFlags := 4122, slot := 6, constantValue := 0 }]
  methods := #[k6m0]
  instanceTypes := #[(.object "java/lang/String"), .int, .int, (.object "java/lang/String"), .int, .int, .int]
  staticTypes := #[(.object "com/example/vast_queue/vastqueue/engine/QueueSetting"), (.object "com/example/vast_queue/vastqueue/engine/QueueSetting"), (.object "com/example/vast_queue/vastqueue/engine/QueueSetting"), (.object "com/example/vast_queue/vastqueue/engine/QueueSetting"), (.object "com/example/vast_queue/vastqueue/engine/QueueSetting"), .int, (.array (.object "com/example/vast_queue/vastqueue/engine/QueueSetting"))]
  resolved := Array.replicate 118 none
  statics := some 0 }

def pool7 : Array CpInfo := pool [(1, u "java/lang/Cloneable"), (0, .class_ 1), (0, u "java/lang/Object"), (0, .class_ 3)] 3

/-- java/lang/Cloneable -/
def k7 : Class := { plain "java/lang/Cloneable" (some 0) with
  accessFlags := 1537
  interfaces := #[]
  cf := some (fileOf pool7 2 #[] #[] 1537 4 #[] #[])
  fields := #[]
  methods := #[]
  instanceTypes := #[]
  staticTypes := #[]
  resolved := Array.replicate 8 none
  statics := none }

/-- the primitive byte -/
def k8 : Class := { plain "byte" none with kind := .primitive 'B', accessFlags := 0x411 }
/-- [B -/
def k9 : Class := { plain "[B" (some 0) with kind := .array 8 .byte, interfaces := #[7, 4], accessFlags := 1041 }

/-- the primitive int -/
def k10 : Class := { plain "int" none with kind := .primitive 'I', accessFlags := 0x411 }
/-- [I -/
def k11 : Class := { plain "[I" (some 0) with kind := .array 10 .int, interfaces := #[7, 4], accessFlags := 1041 }

def heap : Heap := #[{ cls := 6, slots := #[.ref 1, .ref 2, .ref 3, .ref 4, .ref 5, .int 0, .null], vm := .statics 6 },
  { cls := 6, slots := #[.null, .int 0, .int 0, .null, .int 0, .int 43200, .int 0], vm := .none },
  { cls := 6, slots := #[.null, .int 0, .int 0, .null, .int 60, .int 1209600, .int 0], vm := .none },
  { cls := 6, slots := #[.null, .int 0, .int 0, .null, .int 0, .int 900, .int 0], vm := .none },
  { cls := 6, slots := #[.null, .int 0, .int 0, .null, .int 1024, .int 1048576, .int 0], vm := .none },
  { cls := 6, slots := #[.null, .int 0, .int 0, .null, .int 0, .int 20, .int 0], vm := .none }]
def classes : Array Class := #[k0, k1, k2, k3, k4, k5, k6, k7, k8, k9, k10, k11]
def interned : List (Array UInt16 × Addr) := []
def slotsUsed : Nat := 42
def theMethod : MethodId := ⟨1, 1⟩
def args0 : Array Value := #[.int 1, .int 2, .long 3]
def aboutOver (below : List Frame) : State where
  vm := { classes := classes, interned := interned.toArray }
  heap := heap
  slotsUsed := slotsUsed
  threads := #[{ frames := .invoking theMethod args0 :: below }]
def below0 : List Frame := [.native { method := ⟨0, 0⟩, args := #[] }]
def about1 : State := aboutOver below0
def p0 : Program := .bare "" "" ""
def e0 : Env := launch0.env 0 0 0
theorem w_frames : about1.frames = Frame.invoking theMethod args0 :: below0 := rfl
set_option maxRecDepth 65536 in
theorem w_args : argsFit about1.vm theMethod args0 = true := by decide +kernel
set_option maxRecDepth 65536 in
theorem w_heap : heapFits about1 = true := by decide +kernel
set_option maxRecDepth 65536 in
theorem w_runnable : about1.curStatus? = some .runnable := by decide +kernel
set_option maxRecDepth 65536 in
theorem w_alone : about1.alone = true := by decide +kernel
set_option maxRecDepth 65536 in
theorem w_named : about1.methodNamed? x = some theMethod := by decide +kernel
set_option maxRecDepth 65536 in
theorem w_hears : about1.hears theMethod below0 = true := by decide +kernel
set_option maxRecDepth 65536 in
theorem w_ripe : about1.ripe theMethod args0 below0 = true := by decide +kernel
theorem w_running : about1.status = .running := rfl
set_option maxRecDepth 65536 in
theorem w_room : about1.hasRoom e0.platform room_1 = true :=
  launch0.hasRoom_least _ room_1 (by decide +kernel) (by decide +kernel) (by decide +kernel) (by decide +kernel) (by decide +kernel) (by decide +kernel)
theorem allAtoms_all (ts : List Jvm.Cond) (a : Array Jvm.Value) (st : Jvm.State) : (allAtoms ts).before a st = ts.all (fun c => c.before a st) := by
  induction ts with
  | nil => rfl
  | cons c t ih =>
    show (Jvm.Cond.and c (allAtoms t)).before a st = _
    rw [Jvm.Cond.before_and, ih, List.all_cons]
def words1 : List Jvm.Cond := Jvm.Cond.code x code maxLocals ret :: tables_1
/-- a 'code' word, met by the world's own term for the bytes: nothing is compared byte by byte -/
theorem code_word {y : MethodName} {bytes : ByteArray} {mx : Nat} {rt : Option FieldType} {a : Array Value} {s : State} {m : MethodId} {meth : Method} {c : Code} (h1 : s.methodNamed? y = some m) (h2 : s.vm.method? m = some meth) (h3 : meth.code = some c) (h4 : c.code = bytes)
    (h5 : (c.maxLocals == mx && c.exceptionTable.isEmpty && decide (c.maxStack ≤ mostOperands) && decide (meth.sig.returnType = rt) && !meth.locks && decide (parseMethodDescriptor y.desc = some meth.sig)) = true) : (Jvm.Cond.code y bytes mx rt).before a s = true := by
  simp only [Bool.and_eq_true, beq_iff_eq, Bool.not_eq_true', decide_eq_true_eq] at h5
  obtain ⟨⟨⟨⟨⟨g1, g2⟩, g3⟩, g4⟩, g5⟩, g6⟩ := h5
  simp [Cond.before, Cond.holds, Cond.value, h1, h2, h3, h4, g1, g2, g3, g4, g5, g6]
def isCode : Jvm.Cond → Bool
  | .code _ _ _ _ => true
  | _ => false
theorem all_split {L : List Jvm.Cond} {P : Jvm.Cond → Bool} (h1 : L.all (fun c => isCode c || P c) = true) (h2 : ∀ c ∈ L.filter isCode, P c = true) : L.all P = true := by
  refine List.all_eq_true.mpr fun c hc => ?_
  have h := List.all_eq_true.mp h1 c hc
  rcases Bool.eq_false_or_eq_true (isCode c) with hi | hi
  · exact h2 c (List.mem_filter.mpr ⟨hc, hi⟩)
  · simpa [hi] using h
set_option maxRecDepth 65536 in
theorem w_c0 : (Jvm.Cond.code x code maxLocals ret).before args0 about1 = true := code_word (m := ⟨1, 1⟩) (meth := k1m1) (c := k1c1) (by decide +kernel) rfl rfl rfl (by decide +kernel)
set_option maxRecDepth 65536 in
theorem w_c1 : (Jvm.Cond.code ({ cls := "com/example/vast_queue/vastqueue/engine/QueueSetting", name := "allows", desc := "(J)Z" } : Jvm.MethodName) prog_42_method_5_code (3 : Nat) (Option.some Jvm.ClassFile.FieldType.boolean)).before args0 about1 = true := code_word (m := ⟨6, 0⟩) (meth := k6m0) (c := k6c0) (by decide +kernel) rfl rfl rfl (by decide +kernel)
def codes1 : List Jvm.Cond := [Jvm.Cond.code x code maxLocals ret, Jvm.Cond.code ({ cls := "com/example/vast_queue/vastqueue/engine/QueueSetting", name := "allows", desc := "(J)Z" } : Jvm.MethodName) prog_42_method_5_code (3 : Nat) (Option.some Jvm.ClassFile.FieldType.boolean)]
set_option maxRecDepth 65536 in
theorem codes_eq : words1.filter isCode = codes1 := rfl
theorem w_codes : ∀ c ∈ words1.filter isCode, c.before args0 about1 = true := by
  rw [codes_eq]
  intro c hc
  simp only [codes1, List.mem_cons, List.not_mem_nil, or_false] at hc
  rcases hc with rfl | rfl
  · exact w_c0
  · exact w_c1
set_option maxRecDepth 65536 in
theorem w_t1 : (words1.take 24).all (fun c => isCode c || c.before args0 about1) = true := by decide +kernel
set_option maxRecDepth 65536 in
theorem w_t2 : (words1.drop 24).all (fun c => isCode c || c.before args0 about1) = true := by decide +kernel
theorem w_tables : (allAtoms (Jvm.Cond.code x code maxLocals ret :: tables_1)).before args0 about1 = true := by
  rw [allAtoms_all]
  show words1.all (fun c => c.before args0 about1) = true
  refine all_split ?_ w_codes
  rw [← List.take_append_drop 24 words1, List.all_append, w_t1, w_t2]
  rfl
set_option maxRecDepth 65536 in
theorem w_case : (Jvm.Cond.and given_1 narrow_1).before args0 about1 = true := by decide +kernel
theorem w_applies : (headSpec (Jvm.Cond.code x code maxLocals ret :: tables_1) room_1).applies x e0.platform about1 = true :=
  (Spec.applies_iff w_frames).mpr ⟨w_running, w_runnable, w_alone, w_named, w_hears, w_ripe, w_room, w_tables⟩
theorem atStart : AtStart classFile x code maxLocals ret World_1 tables_1 room_1 Calls_1 rest_1 Pre_1 launch0 p0 e0 about1 theMethod args0 below0 :=
  ⟨lists_1, trivial, launch0.admits_env _ _ _, launch0.least_env, fairChoices_fair.cas, fairChoices_fair.clock, w_frames, w_args, w_heap, w_applies, trivial, trivial, w_case⟩
end start1
theorem witness_1 : WitnessClaimed_1 := ⟨start1.p0, start1.e0, start1.about1, start1.theMethod, start1.args0, start1.below0, start1.atStart⟩
end Jvm.Pilot.@@N@@
