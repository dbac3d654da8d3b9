import JvmDerived
import JvmDerived.Pilot.@@N@@Statement
import JvmDerived.Pilot.@@N@@Code
set_option linter.unusedVariables false
set_option linter.unusedSimpArgs false
@@BLOCK:NumsL.lean.txt@@
namespace Jvm.Pilot.@@N@@
open Jvm Jvm.ClassFile Sem Op Lib Jvm.Free Jvm.Stand Jvm.LawKit Jvm.RoadKit Bundle Jvm.Pilot.@@N@@.Jvm.D
/-- from the state W the run comes to an end of which K holds -/
abbrev own_Gl (p : Program) (e : Env) (below : List Frame) (K : Outcome → State → Prop) (W : State) : Prop := ∃ s₂ o, Steps p.tables e below W s₂ ∧ s₂.status = .running ∧ Ended s₂ below o ∧ K o s₂
theorem own_by {p : Program} {e : Env} {below : List Frame} {K : Outcome → State → Prop} {W W' : State} (st : ∀ t, Steps p.tables e below W' t → Steps p.tables e below W t) (h : own_Gl p e below K W') : own_Gl p e below K W := by
  obtain ⟨s₂, o, h1, h2⟩ := h; exact ⟨s₂, o, st _ h1, h2⟩
theorem own_tr {p : Program} {e : Env} {below : List Frame} {K : Outcome → State → Prop} {W W' : State} (st : Steps p.tables e below W W') (h : own_Gl p e below K W') : own_Gl p e below K W := own_by (fun _ k => st.trans k) h
theorem own_w {Z : State} {a0 : Array Value} (hw : ∀ d ∈ tables_1, d.before a0 Z = true) (i : Nat) {d : Jvm.Cond} (h : tables_1[i]? = some d := by rfl) : d.before a0 Z = true := hw _ (List.mem_of_getElem? h)
theorem own_le {Z : State} {n0 : Nat} {h : Heap} (O : Old Z n0 h) : n0 ≤ h.size := O.1 ▸ O.2.1
theorem own_lclt {x y : Int64} (h : x < y) : ifCond.holds .lt (lcmpW x y) = true ∧ ifCond.holds .ge (lcmpW x y) = false := by
  have h1 : ¬ x > y := fun q => by rw [Int64.lt_iff_toInt_lt] at h; have q' : y < x := q; rw [Int64.lt_iff_toInt_lt] at q'; omega
  have h2 : ¬ x = y := fun q => by subst q; rw [Int64.lt_iff_toInt_lt] at h; omega
  rw [lcmpW, if_neg h1, if_neg h2]; exact ⟨by decide, by decide⟩
theorem own_lcnlt {x y : Int64} (h : ¬ x < y) : ifCond.holds .lt (lcmpW x y) = false ∧ ifCond.holds .ge (lcmpW x y) = true := by
  by_cases h1 : x > y
  · rw [lcmpW, if_pos h1]; exact ⟨by decide, by decide⟩
  · have h2 : x = y := by
      have q1 : ¬ y < x := h1
      rw [Int64.lt_iff_toInt_lt] at h q1; exact Int64.toInt_inj.mp (by omega)
    rw [lcmpW, if_neg h1, if_pos h2]; exact ⟨by decide, by decide⟩
theorem own_lcgt {x y : Int64} (h : y < x) : ifCond.holds .gt (lcmpW x y) = true ∧ ifCond.holds .le (lcmpW x y) = false := by
  have h1 : x > y := h
  rw [lcmpW, if_pos h1]; exact ⟨by decide, by decide⟩
theorem own_lcngt {x y : Int64} (h : ¬ y < x) : ifCond.holds .gt (lcmpW x y) = false ∧ ifCond.holds .le (lcmpW x y) = true := by
  have h1 : ¬ x > y := h
  rw [lcmpW, if_neg h1]
  by_cases h2 : x = y
  · rw [if_pos h2]; exact ⟨by decide, by decide⟩
  · rw [if_neg h2]; exact ⟨by decide, by decide⟩
theorem own_lceq {x y : Int64} (h : x = y) : ifCond.holds .eq (lcmpW x y) = true ∧ ifCond.holds .ne (lcmpW x y) = false := by
  subst h
  have h1 : ¬ x > x := fun q => by have q' : x < x := q; rw [Int64.lt_iff_toInt_lt] at q'; omega
  rw [lcmpW, if_neg h1, if_pos rfl]; exact ⟨by decide, by decide⟩
theorem own_lcne {x y : Int64} (h : ¬ x = y) : ifCond.holds .eq (lcmpW x y) = false ∧ ifCond.holds .ne (lcmpW x y) = true := by
  by_cases h1 : x > y
  · rw [lcmpW, if_pos h1]; exact ⟨by decide, by decide⟩
  · rw [lcmpW, if_neg h1, if_neg h]; exact ⟨by decide, by decide⟩
theorem dprog_65_3_0 : decode prog_65_method_3_code 0 = .ok (.iload_n 0, 1) := by decide +kernel
theorem dprog_65_3_1 : decode prog_65_method_3_code 1 = .ok (.bipush 97, 2) := by decide +kernel
theorem dprog_65_3_3 : decode prog_65_method_3_code 3 = .ok (.if_icmp .lt 9, 3) := by decide +kernel
theorem dprog_65_3_6 : decode prog_65_method_3_code 6 = .ok (.iload_n 0, 1) := by decide +kernel
theorem dprog_65_3_7 : decode prog_65_method_3_code 7 = .ok (.bipush 122, 2) := by decide +kernel
theorem dprog_65_3_9 : decode prog_65_method_3_code 9 = .ok (.if_icmp .le 39, 3) := by decide +kernel
theorem dprog_65_3_12 : decode prog_65_method_3_code 12 = .ok (.iload_n 0, 1) := by decide +kernel
theorem dprog_65_3_13 : decode prog_65_method_3_code 13 = .ok (.bipush 65, 2) := by decide +kernel
theorem dprog_65_3_15 : decode prog_65_method_3_code 15 = .ok (.if_icmp .lt 9, 3) := by decide +kernel
theorem dprog_65_3_18 : decode prog_65_method_3_code 18 = .ok (.iload_n 0, 1) := by decide +kernel
theorem dprog_65_3_19 : decode prog_65_method_3_code 19 = .ok (.bipush 90, 2) := by decide +kernel
theorem dprog_65_3_21 : decode prog_65_method_3_code 21 = .ok (.if_icmp .le 27, 3) := by decide +kernel
theorem dprog_65_3_24 : decode prog_65_method_3_code 24 = .ok (.iload_n 0, 1) := by decide +kernel
theorem dprog_65_3_25 : decode prog_65_method_3_code 25 = .ok (.bipush 48, 2) := by decide +kernel
theorem dprog_65_3_27 : decode prog_65_method_3_code 27 = .ok (.if_icmp .lt 9, 3) := by decide +kernel
theorem dprog_65_3_30 : decode prog_65_method_3_code 30 = .ok (.iload_n 0, 1) := by decide +kernel
theorem dprog_65_3_31 : decode prog_65_method_3_code 31 = .ok (.bipush 57, 2) := by decide +kernel
theorem dprog_65_3_33 : decode prog_65_method_3_code 33 = .ok (.if_icmp .le 15, 3) := by decide +kernel
theorem dprog_65_3_36 : decode prog_65_method_3_code 36 = .ok (.iload_n 0, 1) := by decide +kernel
theorem dprog_65_3_37 : decode prog_65_method_3_code 37 = .ok (.bipush 45, 2) := by decide +kernel
theorem dprog_65_3_39 : decode prog_65_method_3_code 39 = .ok (.if_icmp .eq 9, 3) := by decide +kernel
theorem dprog_65_3_42 : decode prog_65_method_3_code 42 = .ok (.iload_n 0, 1) := by decide +kernel
theorem dprog_65_3_43 : decode prog_65_method_3_code 43 = .ok (.bipush 95, 2) := by decide +kernel
theorem dprog_65_3_45 : decode prog_65_method_3_code 45 = .ok (.if_icmp .ne 7, 3) := by decide +kernel
theorem dprog_65_3_48 : decode prog_65_method_3_code 48 = .ok (.iconst 1, 1) := by decide +kernel
theorem dprog_65_3_49 : decode prog_65_method_3_code 49 = .ok (.goto 4, 3) := by decide +kernel
theorem dprog_65_3_52 : decode prog_65_method_3_code 52 = .ok (.iconst 0, 1) := by decide +kernel
theorem dprog_65_3_53 : decode prog_65_method_3_code 53 = .ok (.ireturn, 1) := by decide +kernel
theorem pn_com_example_vast_queue_vastqueue_operations_Identifier : plainName "com/example/vast_queue/vastqueue/operations/Identifier" = true := by first | (simp [plainName, overriddenIn]; done) | decide +kernel
theorem ef1 (m : MethodId) (p0 : Int32) : entryFrame m #[(.int p0)] 1 = mkF m 0 #[.val (.int p0)] [] := by first | (simp [entryFrame, mkF, argsToLocals, Value.category]; done) | rfl
def F1 (p0 : Int32) : Int32 := (if p0 < (97 : Int32) then (if p0 < (65 : Int32) then (if p0 < (48 : Int32) then (if p0 = (45 : Int32) then (1 : Int32) else (if p0 = (95 : Int32) then (1 : Int32) else (0 : Int32))) else (if (57 : Int32) < p0 then (if p0 = (45 : Int32) then (1 : Int32) else (if p0 = (95 : Int32) then (1 : Int32) else (0 : Int32))) else (1 : Int32))) else (if (90 : Int32) < p0 then (if p0 < (48 : Int32) then (if p0 = (45 : Int32) then (1 : Int32) else (if p0 = (95 : Int32) then (1 : Int32) else (0 : Int32))) else (if (57 : Int32) < p0 then (if p0 = (45 : Int32) then (1 : Int32) else (if p0 = (95 : Int32) then (1 : Int32) else (0 : Int32))) else (1 : Int32))) else (1 : Int32))) else (if (122 : Int32) < p0 then (if p0 < (65 : Int32) then (if p0 < (48 : Int32) then (if p0 = (45 : Int32) then (1 : Int32) else (if p0 = (95 : Int32) then (1 : Int32) else (0 : Int32))) else (if (57 : Int32) < p0 then (if p0 = (45 : Int32) then (1 : Int32) else (if p0 = (95 : Int32) then (1 : Int32) else (0 : Int32))) else (1 : Int32))) else (if (90 : Int32) < p0 then (if p0 < (48 : Int32) then (if p0 = (45 : Int32) then (1 : Int32) else (if p0 = (95 : Int32) then (1 : Int32) else (0 : Int32))) else (if (57 : Int32) < p0 then (if p0 = (45 : Int32) then (1 : Int32) else (if p0 = (95 : Int32) then (1 : Int32) else (0 : Int32))) else (1 : Int32))) else (1 : Int32))) else (1 : Int32)))
def Q1 (Z : State) (p0 : Int32) (h0 : Heap) (n0 : Nat) (v : Option Value) (h : Heap) (L : List Loc) : Prop := v = some (.int (F1 p0)) ∧ Fr n0 L ∧ h = h0
abbrev own_K1 (Z : State) (p0 : Int32) (h0 : Heap) (n0 : Nat) (s : State) : Outcome → State → Prop := fun o U' => ∃ v L, o = .returned v ∧ Q1 Z p0 h0 n0 v U'.heap L ∧ FrameEnd s o U' L ({ frames := 0, cells := 0, slots := 0, locals := 0 } : Room).cells ({ frames := 0, cells := 0, slots := 0, locals := 0 } : Room).slots
set_option maxRecDepth 65536 in
set_option maxHeartbeats 40000000 in
theorem rm1 (l : Launch) (Z : State) (a0 : Array Value) (hw : ∀ d ∈ tables_1, d.before a0 Z = true) (ws : List Jvm.Cond) (p0 : Int32) (h0 : Heap) (n0 : Nat) (Z0 : n0 ≤ h0.size) :
    MetFree l (⟨"com/example/vast_queue/vastqueue/operations/Identifier", "allows", "(C)Z"⟩ : MethodName) (head1 (Jvm.Cond.code (⟨"com/example/vast_queue/vastqueue/operations/Identifier", "allows", "(C)Z"⟩ : MethodName) prog_65_method_3_code 1 (some .boolean) :: ws) ({ frames := 0, cells := 0, slots := 0, locals := 0 } : Room)) (fun a U => a = #[(.int p0)] ∧ Z.Warmed39 U.vm ∧ U.heap = h0) (fun _ _ _ _ _ => True) (fun _ U o U' => ∃ v L, o = .returned v ∧ Q1 Z p0 h0 n0 v U'.heap L ∧ FrameEnd U o U' L ({ frames := 0, cells := 0, slots := 0, locals := 0 } : Room).cells ({ frames := 0, cells := 0, slots := 0, locals := 0 } : Room).slots) := by
  refine MetFree.of_bodySF (plainFor_of_name pn_com_example_vast_queue_vastqueue_operations_Identifier) hisR ?_
  intro p e s m args below meth c s₁ Bd hml0 hP hK
  obtain ⟨rfl, hZ, hh⟩ := hP
  have hx := Bd.exec
  have hby := Bd.bytes
  have hml : c.maxLocals = 1 := hml0
  have hown : s.vm.findClass "com/example/vast_queue/vastqueue/operations/Identifier" = some m.cls := findClass_of_methodNamed Bd.named
  have hnm := (name_of_methodNamed Bd.named Bd.method).1
  have X0 : Stand p l e ({ frames := 0, cells := 0, slots := 0, locals := 0 } : Room) s m #[(.int p0)] below meth c s₁ [] 0 0 := Stand.of_body Bd
  have e0 : s₁.heap = h0 := by rw [← hh, Bd.state]; rfl
  have N0 := Fr.nil n0
  refine own_by (p := p) (e := e) (below := below) (K := own_K1 Z p0 h0 n0 s) (W' := s₁.setTop (mkF m 0 #[.val (.int p0)] [])) (fun t k => castTop (ef1 m p0) k) ?_
  refine own_by (W' := (s₁.setTop (mkF m 3 #[.val (.int p0)] [(.int (97 : Int32)), (.int p0)]))) (fun t k => XS.iloadN X0.here hx rfl (hb hby dprog_65_3_0) rfl (XS.bipush X0.here hx rfl (hb hby dprog_65_3_1) k)) ?_
  by_cases hc1 : p0 < (97 : Int32)
  ·
    refine own_by (W' := (s₁.setTop (mkF m 15 #[.val (.int p0)] [(.int (65 : Int32)), (.int p0)]))) (fun t k => XS.icmpYes X0.here hx rfl (pc0 := 3) (pc' := 12) rfl (hb hby dprog_65_3_3) rfl (tlt hc1).1 (by decide) (by decide) (XS.iloadN X0.here hx rfl (hb hby dprog_65_3_12) rfl (XS.bipush X0.here hx rfl (hb hby dprog_65_3_13) k))) ?_
    by_cases hc2 : p0 < (65 : Int32)
    ·
      refine own_by (W' := (s₁.setTop (mkF m 27 #[.val (.int p0)] [(.int (48 : Int32)), (.int p0)]))) (fun t k => XS.icmpYes X0.here hx rfl (pc0 := 15) (pc' := 24) rfl (hb hby dprog_65_3_15) rfl (tlt hc2).1 (by decide) (by decide) (XS.iloadN X0.here hx rfl (hb hby dprog_65_3_24) rfl (XS.bipush X0.here hx rfl (hb hby dprog_65_3_25) k))) ?_
      by_cases hc3 : p0 < (48 : Int32)
      ·
        refine own_by (W' := (s₁.setTop (mkF m 39 #[.val (.int p0)] [(.int (45 : Int32)), (.int p0)]))) (fun t k => XS.icmpYes X0.here hx rfl (pc0 := 27) (pc' := 36) rfl (hb hby dprog_65_3_27) rfl (tlt hc3).1 (by decide) (by decide) (XS.iloadN X0.here hx rfl (hb hby dprog_65_3_36) rfl (XS.bipush X0.here hx rfl (hb hby dprog_65_3_37) k))) ?_
        by_cases hc4 : p0 = (45 : Int32)
        ·
          obtain ⟨fs, hr, hrun, hended, hW, hsame⟩ := X0.leave (v := some (.int (1 : Int32))) (fun h => by rw [Bd.returns] at h; cases h)
          refine own_by (W' := (s₁.setTop (mkF m 53 #[.val (.int p0)] [(.int (1 : Int32))]))) (fun t k => XS.icmpYes X0.here hx rfl (pc0 := 39) (pc' := 48) rfl (hb hby dprog_65_3_39) rfl (teq hc4).1 (by decide) (by decide) (XS.iconst X0.here hx rfl (hb hby dprog_65_3_48) (XS.goto X0.here hx rfl (pc0 := 49) (pc' := 53) rfl (hb hby dprog_65_3_49) (by decide) (by decide) k))) ?_
          refine ⟨_, _, retOut X0 hx Bd.returns rfl (Or.inl ⟨rfl, Or.inr (Or.inl rfl), _, rfl⟩) (hb hby dprog_65_3_53) hr, hrun, hended, _, _, rfl, ?_, ⟨_, rfl⟩, hW, hsame.mono (by decide) (by decide)⟩
          refine ⟨congrArg (fun z => some (Value.int z)) ?_, N0, e0⟩
          rw [F1, if_pos hc1, if_pos hc2, if_pos hc3, if_pos hc4]
        ·
          refine own_by (W' := (s₁.setTop (mkF m 45 #[.val (.int p0)] [(.int (95 : Int32)), (.int p0)]))) (fun t k => XS.icmpNo X0.here hx rfl (hb hby dprog_65_3_39) rfl (feq hc4).1 (XS.iloadN X0.here hx rfl (hb hby dprog_65_3_42) rfl (XS.bipush X0.here hx rfl (hb hby dprog_65_3_43) k))) ?_
          by_cases hc5 : p0 = (95 : Int32)
          ·
            obtain ⟨fs, hr, hrun, hended, hW, hsame⟩ := X0.leave (v := some (.int (1 : Int32))) (fun h => by rw [Bd.returns] at h; cases h)
            refine own_by (W' := (s₁.setTop (mkF m 53 #[.val (.int p0)] [(.int (1 : Int32))]))) (fun t k => XS.icmpNo X0.here hx rfl (hb hby dprog_65_3_45) rfl (teq hc5).2 (XS.iconst X0.here hx rfl (hb hby dprog_65_3_48) (XS.goto X0.here hx rfl (pc0 := 49) (pc' := 53) rfl (hb hby dprog_65_3_49) (by decide) (by decide) k))) ?_
            refine ⟨_, _, retOut X0 hx Bd.returns rfl (Or.inl ⟨rfl, Or.inr (Or.inl rfl), _, rfl⟩) (hb hby dprog_65_3_53) hr, hrun, hended, _, _, rfl, ?_, ⟨_, rfl⟩, hW, hsame.mono (by decide) (by decide)⟩
            refine ⟨congrArg (fun z => some (Value.int z)) ?_, N0, e0⟩
            rw [F1, if_pos hc1, if_pos hc2, if_pos hc3, if_neg hc4, if_pos hc5]
          ·
            obtain ⟨fs, hr, hrun, hended, hW, hsame⟩ := X0.leave (v := some (.int (0 : Int32))) (fun h => by rw [Bd.returns] at h; cases h)
            refine own_by (W' := (s₁.setTop (mkF m 53 #[.val (.int p0)] [(.int (0 : Int32))]))) (fun t k => XS.icmpYes X0.here hx rfl (pc0 := 45) (pc' := 52) rfl (hb hby dprog_65_3_45) rfl (feq hc5).2 (by decide) (by decide) (XS.iconst X0.here hx rfl (hb hby dprog_65_3_52) k)) ?_
            refine ⟨_, _, retOut X0 hx Bd.returns rfl (Or.inl ⟨rfl, Or.inr (Or.inl rfl), _, rfl⟩) (hb hby dprog_65_3_53) hr, hrun, hended, _, _, rfl, ?_, ⟨_, rfl⟩, hW, hsame.mono (by decide) (by decide)⟩
            refine ⟨congrArg (fun z => some (Value.int z)) ?_, N0, e0⟩
            rw [F1, if_pos hc1, if_pos hc2, if_pos hc3, if_neg hc4, if_neg hc5]
      ·
        refine own_by (W' := (s₁.setTop (mkF m 33 #[.val (.int p0)] [(.int (57 : Int32)), (.int p0)]))) (fun t k => XS.icmpNo X0.here hx rfl (hb hby dprog_65_3_27) rfl (flt hc3).1 (XS.iloadN X0.here hx rfl (hb hby dprog_65_3_30) rfl (XS.bipush X0.here hx rfl (hb hby dprog_65_3_31) k))) ?_
        by_cases hc6 : (57 : Int32) < p0
        ·
          refine own_by (W' := (s₁.setTop (mkF m 39 #[.val (.int p0)] [(.int (45 : Int32)), (.int p0)]))) (fun t k => XS.icmpNo X0.here hx rfl (hb hby dprog_65_3_33) rfl (tlt hc6).2.2.2 (XS.iloadN X0.here hx rfl (hb hby dprog_65_3_36) rfl (XS.bipush X0.here hx rfl (hb hby dprog_65_3_37) k))) ?_
          by_cases hc7 : p0 = (45 : Int32)
          ·
            obtain ⟨fs, hr, hrun, hended, hW, hsame⟩ := X0.leave (v := some (.int (1 : Int32))) (fun h => by rw [Bd.returns] at h; cases h)
            refine own_by (W' := (s₁.setTop (mkF m 53 #[.val (.int p0)] [(.int (1 : Int32))]))) (fun t k => XS.icmpYes X0.here hx rfl (pc0 := 39) (pc' := 48) rfl (hb hby dprog_65_3_39) rfl (teq hc7).1 (by decide) (by decide) (XS.iconst X0.here hx rfl (hb hby dprog_65_3_48) (XS.goto X0.here hx rfl (pc0 := 49) (pc' := 53) rfl (hb hby dprog_65_3_49) (by decide) (by decide) k))) ?_
            refine ⟨_, _, retOut X0 hx Bd.returns rfl (Or.inl ⟨rfl, Or.inr (Or.inl rfl), _, rfl⟩) (hb hby dprog_65_3_53) hr, hrun, hended, _, _, rfl, ?_, ⟨_, rfl⟩, hW, hsame.mono (by decide) (by decide)⟩
            refine ⟨congrArg (fun z => some (Value.int z)) ?_, N0, e0⟩
            rw [F1, if_pos hc1, if_pos hc2, if_neg hc3, if_pos hc6, if_pos hc7]
          ·
            refine own_by (W' := (s₁.setTop (mkF m 45 #[.val (.int p0)] [(.int (95 : Int32)), (.int p0)]))) (fun t k => XS.icmpNo X0.here hx rfl (hb hby dprog_65_3_39) rfl (feq hc7).1 (XS.iloadN X0.here hx rfl (hb hby dprog_65_3_42) rfl (XS.bipush X0.here hx rfl (hb hby dprog_65_3_43) k))) ?_
            by_cases hc8 : p0 = (95 : Int32)
            ·
              obtain ⟨fs, hr, hrun, hended, hW, hsame⟩ := X0.leave (v := some (.int (1 : Int32))) (fun h => by rw [Bd.returns] at h; cases h)
              refine own_by (W' := (s₁.setTop (mkF m 53 #[.val (.int p0)] [(.int (1 : Int32))]))) (fun t k => XS.icmpNo X0.here hx rfl (hb hby dprog_65_3_45) rfl (teq hc8).2 (XS.iconst X0.here hx rfl (hb hby dprog_65_3_48) (XS.goto X0.here hx rfl (pc0 := 49) (pc' := 53) rfl (hb hby dprog_65_3_49) (by decide) (by decide) k))) ?_
              refine ⟨_, _, retOut X0 hx Bd.returns rfl (Or.inl ⟨rfl, Or.inr (Or.inl rfl), _, rfl⟩) (hb hby dprog_65_3_53) hr, hrun, hended, _, _, rfl, ?_, ⟨_, rfl⟩, hW, hsame.mono (by decide) (by decide)⟩
              refine ⟨congrArg (fun z => some (Value.int z)) ?_, N0, e0⟩
              rw [F1, if_pos hc1, if_pos hc2, if_neg hc3, if_pos hc6, if_neg hc7, if_pos hc8]
            ·
              obtain ⟨fs, hr, hrun, hended, hW, hsame⟩ := X0.leave (v := some (.int (0 : Int32))) (fun h => by rw [Bd.returns] at h; cases h)
              refine own_by (W' := (s₁.setTop (mkF m 53 #[.val (.int p0)] [(.int (0 : Int32))]))) (fun t k => XS.icmpYes X0.here hx rfl (pc0 := 45) (pc' := 52) rfl (hb hby dprog_65_3_45) rfl (feq hc8).2 (by decide) (by decide) (XS.iconst X0.here hx rfl (hb hby dprog_65_3_52) k)) ?_
              refine ⟨_, _, retOut X0 hx Bd.returns rfl (Or.inl ⟨rfl, Or.inr (Or.inl rfl), _, rfl⟩) (hb hby dprog_65_3_53) hr, hrun, hended, _, _, rfl, ?_, ⟨_, rfl⟩, hW, hsame.mono (by decide) (by decide)⟩
              refine ⟨congrArg (fun z => some (Value.int z)) ?_, N0, e0⟩
              rw [F1, if_pos hc1, if_pos hc2, if_neg hc3, if_pos hc6, if_neg hc7, if_neg hc8]
        ·
          obtain ⟨fs, hr, hrun, hended, hW, hsame⟩ := X0.leave (v := some (.int (1 : Int32))) (fun h => by rw [Bd.returns] at h; cases h)
          refine own_by (W' := (s₁.setTop (mkF m 53 #[.val (.int p0)] [(.int (1 : Int32))]))) (fun t k => XS.icmpYes X0.here hx rfl (pc0 := 33) (pc' := 48) rfl (hb hby dprog_65_3_33) rfl (flt hc6).2.2.2 (by decide) (by decide) (XS.iconst X0.here hx rfl (hb hby dprog_65_3_48) (XS.goto X0.here hx rfl (pc0 := 49) (pc' := 53) rfl (hb hby dprog_65_3_49) (by decide) (by decide) k))) ?_
          refine ⟨_, _, retOut X0 hx Bd.returns rfl (Or.inl ⟨rfl, Or.inr (Or.inl rfl), _, rfl⟩) (hb hby dprog_65_3_53) hr, hrun, hended, _, _, rfl, ?_, ⟨_, rfl⟩, hW, hsame.mono (by decide) (by decide)⟩
          refine ⟨congrArg (fun z => some (Value.int z)) ?_, N0, e0⟩
          rw [F1, if_pos hc1, if_pos hc2, if_neg hc3, if_neg hc6]
    ·
      refine own_by (W' := (s₁.setTop (mkF m 21 #[.val (.int p0)] [(.int (90 : Int32)), (.int p0)]))) (fun t k => XS.icmpNo X0.here hx rfl (hb hby dprog_65_3_15) rfl (flt hc2).1 (XS.iloadN X0.here hx rfl (hb hby dprog_65_3_18) rfl (XS.bipush X0.here hx rfl (hb hby dprog_65_3_19) k))) ?_
      by_cases hc9 : (90 : Int32) < p0
      ·
        refine own_by (W' := (s₁.setTop (mkF m 27 #[.val (.int p0)] [(.int (48 : Int32)), (.int p0)]))) (fun t k => XS.icmpNo X0.here hx rfl (hb hby dprog_65_3_21) rfl (tlt hc9).2.2.2 (XS.iloadN X0.here hx rfl (hb hby dprog_65_3_24) rfl (XS.bipush X0.here hx rfl (hb hby dprog_65_3_25) k))) ?_
        by_cases hc10 : p0 < (48 : Int32)
        ·
          refine own_by (W' := (s₁.setTop (mkF m 39 #[.val (.int p0)] [(.int (45 : Int32)), (.int p0)]))) (fun t k => XS.icmpYes X0.here hx rfl (pc0 := 27) (pc' := 36) rfl (hb hby dprog_65_3_27) rfl (tlt hc10).1 (by decide) (by decide) (XS.iloadN X0.here hx rfl (hb hby dprog_65_3_36) rfl (XS.bipush X0.here hx rfl (hb hby dprog_65_3_37) k))) ?_
          by_cases hc11 : p0 = (45 : Int32)
          ·
            obtain ⟨fs, hr, hrun, hended, hW, hsame⟩ := X0.leave (v := some (.int (1 : Int32))) (fun h => by rw [Bd.returns] at h; cases h)
            refine own_by (W' := (s₁.setTop (mkF m 53 #[.val (.int p0)] [(.int (1 : Int32))]))) (fun t k => XS.icmpYes X0.here hx rfl (pc0 := 39) (pc' := 48) rfl (hb hby dprog_65_3_39) rfl (teq hc11).1 (by decide) (by decide) (XS.iconst X0.here hx rfl (hb hby dprog_65_3_48) (XS.goto X0.here hx rfl (pc0 := 49) (pc' := 53) rfl (hb hby dprog_65_3_49) (by decide) (by decide) k))) ?_
            refine ⟨_, _, retOut X0 hx Bd.returns rfl (Or.inl ⟨rfl, Or.inr (Or.inl rfl), _, rfl⟩) (hb hby dprog_65_3_53) hr, hrun, hended, _, _, rfl, ?_, ⟨_, rfl⟩, hW, hsame.mono (by decide) (by decide)⟩
            refine ⟨congrArg (fun z => some (Value.int z)) ?_, N0, e0⟩
            rw [F1, if_pos hc1, if_neg hc2, if_pos hc9, if_pos hc10, if_pos hc11]
          ·
            refine own_by (W' := (s₁.setTop (mkF m 45 #[.val (.int p0)] [(.int (95 : Int32)), (.int p0)]))) (fun t k => XS.icmpNo X0.here hx rfl (hb hby dprog_65_3_39) rfl (feq hc11).1 (XS.iloadN X0.here hx rfl (hb hby dprog_65_3_42) rfl (XS.bipush X0.here hx rfl (hb hby dprog_65_3_43) k))) ?_
            by_cases hc12 : p0 = (95 : Int32)
            ·
              obtain ⟨fs, hr, hrun, hended, hW, hsame⟩ := X0.leave (v := some (.int (1 : Int32))) (fun h => by rw [Bd.returns] at h; cases h)
              refine own_by (W' := (s₁.setTop (mkF m 53 #[.val (.int p0)] [(.int (1 : Int32))]))) (fun t k => XS.icmpNo X0.here hx rfl (hb hby dprog_65_3_45) rfl (teq hc12).2 (XS.iconst X0.here hx rfl (hb hby dprog_65_3_48) (XS.goto X0.here hx rfl (pc0 := 49) (pc' := 53) rfl (hb hby dprog_65_3_49) (by decide) (by decide) k))) ?_
              refine ⟨_, _, retOut X0 hx Bd.returns rfl (Or.inl ⟨rfl, Or.inr (Or.inl rfl), _, rfl⟩) (hb hby dprog_65_3_53) hr, hrun, hended, _, _, rfl, ?_, ⟨_, rfl⟩, hW, hsame.mono (by decide) (by decide)⟩
              refine ⟨congrArg (fun z => some (Value.int z)) ?_, N0, e0⟩
              rw [F1, if_pos hc1, if_neg hc2, if_pos hc9, if_pos hc10, if_neg hc11, if_pos hc12]
            ·
              obtain ⟨fs, hr, hrun, hended, hW, hsame⟩ := X0.leave (v := some (.int (0 : Int32))) (fun h => by rw [Bd.returns] at h; cases h)
              refine own_by (W' := (s₁.setTop (mkF m 53 #[.val (.int p0)] [(.int (0 : Int32))]))) (fun t k => XS.icmpYes X0.here hx rfl (pc0 := 45) (pc' := 52) rfl (hb hby dprog_65_3_45) rfl (feq hc12).2 (by decide) (by decide) (XS.iconst X0.here hx rfl (hb hby dprog_65_3_52) k)) ?_
              refine ⟨_, _, retOut X0 hx Bd.returns rfl (Or.inl ⟨rfl, Or.inr (Or.inl rfl), _, rfl⟩) (hb hby dprog_65_3_53) hr, hrun, hended, _, _, rfl, ?_, ⟨_, rfl⟩, hW, hsame.mono (by decide) (by decide)⟩
              refine ⟨congrArg (fun z => some (Value.int z)) ?_, N0, e0⟩
              rw [F1, if_pos hc1, if_neg hc2, if_pos hc9, if_pos hc10, if_neg hc11, if_neg hc12]
        ·
          refine own_by (W' := (s₁.setTop (mkF m 33 #[.val (.int p0)] [(.int (57 : Int32)), (.int p0)]))) (fun t k => XS.icmpNo X0.here hx rfl (hb hby dprog_65_3_27) rfl (flt hc10).1 (XS.iloadN X0.here hx rfl (hb hby dprog_65_3_30) rfl (XS.bipush X0.here hx rfl (hb hby dprog_65_3_31) k))) ?_
          by_cases hc13 : (57 : Int32) < p0
          ·
            refine own_by (W' := (s₁.setTop (mkF m 39 #[.val (.int p0)] [(.int (45 : Int32)), (.int p0)]))) (fun t k => XS.icmpNo X0.here hx rfl (hb hby dprog_65_3_33) rfl (tlt hc13).2.2.2 (XS.iloadN X0.here hx rfl (hb hby dprog_65_3_36) rfl (XS.bipush X0.here hx rfl (hb hby dprog_65_3_37) k))) ?_
            by_cases hc14 : p0 = (45 : Int32)
            ·
              obtain ⟨fs, hr, hrun, hended, hW, hsame⟩ := X0.leave (v := some (.int (1 : Int32))) (fun h => by rw [Bd.returns] at h; cases h)
              refine own_by (W' := (s₁.setTop (mkF m 53 #[.val (.int p0)] [(.int (1 : Int32))]))) (fun t k => XS.icmpYes X0.here hx rfl (pc0 := 39) (pc' := 48) rfl (hb hby dprog_65_3_39) rfl (teq hc14).1 (by decide) (by decide) (XS.iconst X0.here hx rfl (hb hby dprog_65_3_48) (XS.goto X0.here hx rfl (pc0 := 49) (pc' := 53) rfl (hb hby dprog_65_3_49) (by decide) (by decide) k))) ?_
              refine ⟨_, _, retOut X0 hx Bd.returns rfl (Or.inl ⟨rfl, Or.inr (Or.inl rfl), _, rfl⟩) (hb hby dprog_65_3_53) hr, hrun, hended, _, _, rfl, ?_, ⟨_, rfl⟩, hW, hsame.mono (by decide) (by decide)⟩
              refine ⟨congrArg (fun z => some (Value.int z)) ?_, N0, e0⟩
              rw [F1, if_pos hc1, if_neg hc2, if_pos hc9, if_neg hc10, if_pos hc13, if_pos hc14]
            ·
              refine own_by (W' := (s₁.setTop (mkF m 45 #[.val (.int p0)] [(.int (95 : Int32)), (.int p0)]))) (fun t k => XS.icmpNo X0.here hx rfl (hb hby dprog_65_3_39) rfl (feq hc14).1 (XS.iloadN X0.here hx rfl (hb hby dprog_65_3_42) rfl (XS.bipush X0.here hx rfl (hb hby dprog_65_3_43) k))) ?_
              by_cases hc15 : p0 = (95 : Int32)
              ·
                obtain ⟨fs, hr, hrun, hended, hW, hsame⟩ := X0.leave (v := some (.int (1 : Int32))) (fun h => by rw [Bd.returns] at h; cases h)
                refine own_by (W' := (s₁.setTop (mkF m 53 #[.val (.int p0)] [(.int (1 : Int32))]))) (fun t k => XS.icmpNo X0.here hx rfl (hb hby dprog_65_3_45) rfl (teq hc15).2 (XS.iconst X0.here hx rfl (hb hby dprog_65_3_48) (XS.goto X0.here hx rfl (pc0 := 49) (pc' := 53) rfl (hb hby dprog_65_3_49) (by decide) (by decide) k))) ?_
                refine ⟨_, _, retOut X0 hx Bd.returns rfl (Or.inl ⟨rfl, Or.inr (Or.inl rfl), _, rfl⟩) (hb hby dprog_65_3_53) hr, hrun, hended, _, _, rfl, ?_, ⟨_, rfl⟩, hW, hsame.mono (by decide) (by decide)⟩
                refine ⟨congrArg (fun z => some (Value.int z)) ?_, N0, e0⟩
                rw [F1, if_pos hc1, if_neg hc2, if_pos hc9, if_neg hc10, if_pos hc13, if_neg hc14, if_pos hc15]
              ·
                obtain ⟨fs, hr, hrun, hended, hW, hsame⟩ := X0.leave (v := some (.int (0 : Int32))) (fun h => by rw [Bd.returns] at h; cases h)
                refine own_by (W' := (s₁.setTop (mkF m 53 #[.val (.int p0)] [(.int (0 : Int32))]))) (fun t k => XS.icmpYes X0.here hx rfl (pc0 := 45) (pc' := 52) rfl (hb hby dprog_65_3_45) rfl (feq hc15).2 (by decide) (by decide) (XS.iconst X0.here hx rfl (hb hby dprog_65_3_52) k)) ?_
                refine ⟨_, _, retOut X0 hx Bd.returns rfl (Or.inl ⟨rfl, Or.inr (Or.inl rfl), _, rfl⟩) (hb hby dprog_65_3_53) hr, hrun, hended, _, _, rfl, ?_, ⟨_, rfl⟩, hW, hsame.mono (by decide) (by decide)⟩
                refine ⟨congrArg (fun z => some (Value.int z)) ?_, N0, e0⟩
                rw [F1, if_pos hc1, if_neg hc2, if_pos hc9, if_neg hc10, if_pos hc13, if_neg hc14, if_neg hc15]
          ·
            obtain ⟨fs, hr, hrun, hended, hW, hsame⟩ := X0.leave (v := some (.int (1 : Int32))) (fun h => by rw [Bd.returns] at h; cases h)
            refine own_by (W' := (s₁.setTop (mkF m 53 #[.val (.int p0)] [(.int (1 : Int32))]))) (fun t k => XS.icmpYes X0.here hx rfl (pc0 := 33) (pc' := 48) rfl (hb hby dprog_65_3_33) rfl (flt hc13).2.2.2 (by decide) (by decide) (XS.iconst X0.here hx rfl (hb hby dprog_65_3_48) (XS.goto X0.here hx rfl (pc0 := 49) (pc' := 53) rfl (hb hby dprog_65_3_49) (by decide) (by decide) k))) ?_
            refine ⟨_, _, retOut X0 hx Bd.returns rfl (Or.inl ⟨rfl, Or.inr (Or.inl rfl), _, rfl⟩) (hb hby dprog_65_3_53) hr, hrun, hended, _, _, rfl, ?_, ⟨_, rfl⟩, hW, hsame.mono (by decide) (by decide)⟩
            refine ⟨congrArg (fun z => some (Value.int z)) ?_, N0, e0⟩
            rw [F1, if_pos hc1, if_neg hc2, if_pos hc9, if_neg hc10, if_neg hc13]
      ·
        obtain ⟨fs, hr, hrun, hended, hW, hsame⟩ := X0.leave (v := some (.int (1 : Int32))) (fun h => by rw [Bd.returns] at h; cases h)
        refine own_by (W' := (s₁.setTop (mkF m 53 #[.val (.int p0)] [(.int (1 : Int32))]))) (fun t k => XS.icmpYes X0.here hx rfl (pc0 := 21) (pc' := 48) rfl (hb hby dprog_65_3_21) rfl (flt hc9).2.2.2 (by decide) (by decide) (XS.iconst X0.here hx rfl (hb hby dprog_65_3_48) (XS.goto X0.here hx rfl (pc0 := 49) (pc' := 53) rfl (hb hby dprog_65_3_49) (by decide) (by decide) k))) ?_
        refine ⟨_, _, retOut X0 hx Bd.returns rfl (Or.inl ⟨rfl, Or.inr (Or.inl rfl), _, rfl⟩) (hb hby dprog_65_3_53) hr, hrun, hended, _, _, rfl, ?_, ⟨_, rfl⟩, hW, hsame.mono (by decide) (by decide)⟩
        refine ⟨congrArg (fun z => some (Value.int z)) ?_, N0, e0⟩
        rw [F1, if_pos hc1, if_neg hc2, if_neg hc9]
  ·
    refine own_by (W' := (s₁.setTop (mkF m 9 #[.val (.int p0)] [(.int (122 : Int32)), (.int p0)]))) (fun t k => XS.icmpNo X0.here hx rfl (hb hby dprog_65_3_3) rfl (flt hc1).1 (XS.iloadN X0.here hx rfl (hb hby dprog_65_3_6) rfl (XS.bipush X0.here hx rfl (hb hby dprog_65_3_7) k))) ?_
    by_cases hc16 : (122 : Int32) < p0
    ·
      refine own_by (W' := (s₁.setTop (mkF m 15 #[.val (.int p0)] [(.int (65 : Int32)), (.int p0)]))) (fun t k => XS.icmpNo X0.here hx rfl (hb hby dprog_65_3_9) rfl (tlt hc16).2.2.2 (XS.iloadN X0.here hx rfl (hb hby dprog_65_3_12) rfl (XS.bipush X0.here hx rfl (hb hby dprog_65_3_13) k))) ?_
      by_cases hc17 : p0 < (65 : Int32)
      ·
        refine own_by (W' := (s₁.setTop (mkF m 27 #[.val (.int p0)] [(.int (48 : Int32)), (.int p0)]))) (fun t k => XS.icmpYes X0.here hx rfl (pc0 := 15) (pc' := 24) rfl (hb hby dprog_65_3_15) rfl (tlt hc17).1 (by decide) (by decide) (XS.iloadN X0.here hx rfl (hb hby dprog_65_3_24) rfl (XS.bipush X0.here hx rfl (hb hby dprog_65_3_25) k))) ?_
        by_cases hc18 : p0 < (48 : Int32)
        ·
          refine own_by (W' := (s₁.setTop (mkF m 39 #[.val (.int p0)] [(.int (45 : Int32)), (.int p0)]))) (fun t k => XS.icmpYes X0.here hx rfl (pc0 := 27) (pc' := 36) rfl (hb hby dprog_65_3_27) rfl (tlt hc18).1 (by decide) (by decide) (XS.iloadN X0.here hx rfl (hb hby dprog_65_3_36) rfl (XS.bipush X0.here hx rfl (hb hby dprog_65_3_37) k))) ?_
          by_cases hc19 : p0 = (45 : Int32)
          ·
            obtain ⟨fs, hr, hrun, hended, hW, hsame⟩ := X0.leave (v := some (.int (1 : Int32))) (fun h => by rw [Bd.returns] at h; cases h)
            refine own_by (W' := (s₁.setTop (mkF m 53 #[.val (.int p0)] [(.int (1 : Int32))]))) (fun t k => XS.icmpYes X0.here hx rfl (pc0 := 39) (pc' := 48) rfl (hb hby dprog_65_3_39) rfl (teq hc19).1 (by decide) (by decide) (XS.iconst X0.here hx rfl (hb hby dprog_65_3_48) (XS.goto X0.here hx rfl (pc0 := 49) (pc' := 53) rfl (hb hby dprog_65_3_49) (by decide) (by decide) k))) ?_
            refine ⟨_, _, retOut X0 hx Bd.returns rfl (Or.inl ⟨rfl, Or.inr (Or.inl rfl), _, rfl⟩) (hb hby dprog_65_3_53) hr, hrun, hended, _, _, rfl, ?_, ⟨_, rfl⟩, hW, hsame.mono (by decide) (by decide)⟩
            refine ⟨congrArg (fun z => some (Value.int z)) ?_, N0, e0⟩
            rw [F1, if_neg hc1, if_pos hc16, if_pos hc17, if_pos hc18, if_pos hc19]
          ·
            refine own_by (W' := (s₁.setTop (mkF m 45 #[.val (.int p0)] [(.int (95 : Int32)), (.int p0)]))) (fun t k => XS.icmpNo X0.here hx rfl (hb hby dprog_65_3_39) rfl (feq hc19).1 (XS.iloadN X0.here hx rfl (hb hby dprog_65_3_42) rfl (XS.bipush X0.here hx rfl (hb hby dprog_65_3_43) k))) ?_
            by_cases hc20 : p0 = (95 : Int32)
            ·
              obtain ⟨fs, hr, hrun, hended, hW, hsame⟩ := X0.leave (v := some (.int (1 : Int32))) (fun h => by rw [Bd.returns] at h; cases h)
              refine own_by (W' := (s₁.setTop (mkF m 53 #[.val (.int p0)] [(.int (1 : Int32))]))) (fun t k => XS.icmpNo X0.here hx rfl (hb hby dprog_65_3_45) rfl (teq hc20).2 (XS.iconst X0.here hx rfl (hb hby dprog_65_3_48) (XS.goto X0.here hx rfl (pc0 := 49) (pc' := 53) rfl (hb hby dprog_65_3_49) (by decide) (by decide) k))) ?_
              refine ⟨_, _, retOut X0 hx Bd.returns rfl (Or.inl ⟨rfl, Or.inr (Or.inl rfl), _, rfl⟩) (hb hby dprog_65_3_53) hr, hrun, hended, _, _, rfl, ?_, ⟨_, rfl⟩, hW, hsame.mono (by decide) (by decide)⟩
              refine ⟨congrArg (fun z => some (Value.int z)) ?_, N0, e0⟩
              rw [F1, if_neg hc1, if_pos hc16, if_pos hc17, if_pos hc18, if_neg hc19, if_pos hc20]
            ·
              obtain ⟨fs, hr, hrun, hended, hW, hsame⟩ := X0.leave (v := some (.int (0 : Int32))) (fun h => by rw [Bd.returns] at h; cases h)
              refine own_by (W' := (s₁.setTop (mkF m 53 #[.val (.int p0)] [(.int (0 : Int32))]))) (fun t k => XS.icmpYes X0.here hx rfl (pc0 := 45) (pc' := 52) rfl (hb hby dprog_65_3_45) rfl (feq hc20).2 (by decide) (by decide) (XS.iconst X0.here hx rfl (hb hby dprog_65_3_52) k)) ?_
              refine ⟨_, _, retOut X0 hx Bd.returns rfl (Or.inl ⟨rfl, Or.inr (Or.inl rfl), _, rfl⟩) (hb hby dprog_65_3_53) hr, hrun, hended, _, _, rfl, ?_, ⟨_, rfl⟩, hW, hsame.mono (by decide) (by decide)⟩
              refine ⟨congrArg (fun z => some (Value.int z)) ?_, N0, e0⟩
              rw [F1, if_neg hc1, if_pos hc16, if_pos hc17, if_pos hc18, if_neg hc19, if_neg hc20]
        ·
          refine own_by (W' := (s₁.setTop (mkF m 33 #[.val (.int p0)] [(.int (57 : Int32)), (.int p0)]))) (fun t k => XS.icmpNo X0.here hx rfl (hb hby dprog_65_3_27) rfl (flt hc18).1 (XS.iloadN X0.here hx rfl (hb hby dprog_65_3_30) rfl (XS.bipush X0.here hx rfl (hb hby dprog_65_3_31) k))) ?_
          by_cases hc21 : (57 : Int32) < p0
          ·
            refine own_by (W' := (s₁.setTop (mkF m 39 #[.val (.int p0)] [(.int (45 : Int32)), (.int p0)]))) (fun t k => XS.icmpNo X0.here hx rfl (hb hby dprog_65_3_33) rfl (tlt hc21).2.2.2 (XS.iloadN X0.here hx rfl (hb hby dprog_65_3_36) rfl (XS.bipush X0.here hx rfl (hb hby dprog_65_3_37) k))) ?_
            by_cases hc22 : p0 = (45 : Int32)
            ·
              obtain ⟨fs, hr, hrun, hended, hW, hsame⟩ := X0.leave (v := some (.int (1 : Int32))) (fun h => by rw [Bd.returns] at h; cases h)
              refine own_by (W' := (s₁.setTop (mkF m 53 #[.val (.int p0)] [(.int (1 : Int32))]))) (fun t k => XS.icmpYes X0.here hx rfl (pc0 := 39) (pc' := 48) rfl (hb hby dprog_65_3_39) rfl (teq hc22).1 (by decide) (by decide) (XS.iconst X0.here hx rfl (hb hby dprog_65_3_48) (XS.goto X0.here hx rfl (pc0 := 49) (pc' := 53) rfl (hb hby dprog_65_3_49) (by decide) (by decide) k))) ?_
              refine ⟨_, _, retOut X0 hx Bd.returns rfl (Or.inl ⟨rfl, Or.inr (Or.inl rfl), _, rfl⟩) (hb hby dprog_65_3_53) hr, hrun, hended, _, _, rfl, ?_, ⟨_, rfl⟩, hW, hsame.mono (by decide) (by decide)⟩
              refine ⟨congrArg (fun z => some (Value.int z)) ?_, N0, e0⟩
              rw [F1, if_neg hc1, if_pos hc16, if_pos hc17, if_neg hc18, if_pos hc21, if_pos hc22]
            ·
              refine own_by (W' := (s₁.setTop (mkF m 45 #[.val (.int p0)] [(.int (95 : Int32)), (.int p0)]))) (fun t k => XS.icmpNo X0.here hx rfl (hb hby dprog_65_3_39) rfl (feq hc22).1 (XS.iloadN X0.here hx rfl (hb hby dprog_65_3_42) rfl (XS.bipush X0.here hx rfl (hb hby dprog_65_3_43) k))) ?_
              by_cases hc23 : p0 = (95 : Int32)
              ·
                obtain ⟨fs, hr, hrun, hended, hW, hsame⟩ := X0.leave (v := some (.int (1 : Int32))) (fun h => by rw [Bd.returns] at h; cases h)
                refine own_by (W' := (s₁.setTop (mkF m 53 #[.val (.int p0)] [(.int (1 : Int32))]))) (fun t k => XS.icmpNo X0.here hx rfl (hb hby dprog_65_3_45) rfl (teq hc23).2 (XS.iconst X0.here hx rfl (hb hby dprog_65_3_48) (XS.goto X0.here hx rfl (pc0 := 49) (pc' := 53) rfl (hb hby dprog_65_3_49) (by decide) (by decide) k))) ?_
                refine ⟨_, _, retOut X0 hx Bd.returns rfl (Or.inl ⟨rfl, Or.inr (Or.inl rfl), _, rfl⟩) (hb hby dprog_65_3_53) hr, hrun, hended, _, _, rfl, ?_, ⟨_, rfl⟩, hW, hsame.mono (by decide) (by decide)⟩
                refine ⟨congrArg (fun z => some (Value.int z)) ?_, N0, e0⟩
                rw [F1, if_neg hc1, if_pos hc16, if_pos hc17, if_neg hc18, if_pos hc21, if_neg hc22, if_pos hc23]
              ·
                obtain ⟨fs, hr, hrun, hended, hW, hsame⟩ := X0.leave (v := some (.int (0 : Int32))) (fun h => by rw [Bd.returns] at h; cases h)
                refine own_by (W' := (s₁.setTop (mkF m 53 #[.val (.int p0)] [(.int (0 : Int32))]))) (fun t k => XS.icmpYes X0.here hx rfl (pc0 := 45) (pc' := 52) rfl (hb hby dprog_65_3_45) rfl (feq hc23).2 (by decide) (by decide) (XS.iconst X0.here hx rfl (hb hby dprog_65_3_52) k)) ?_
                refine ⟨_, _, retOut X0 hx Bd.returns rfl (Or.inl ⟨rfl, Or.inr (Or.inl rfl), _, rfl⟩) (hb hby dprog_65_3_53) hr, hrun, hended, _, _, rfl, ?_, ⟨_, rfl⟩, hW, hsame.mono (by decide) (by decide)⟩
                refine ⟨congrArg (fun z => some (Value.int z)) ?_, N0, e0⟩
                rw [F1, if_neg hc1, if_pos hc16, if_pos hc17, if_neg hc18, if_pos hc21, if_neg hc22, if_neg hc23]
          ·
            obtain ⟨fs, hr, hrun, hended, hW, hsame⟩ := X0.leave (v := some (.int (1 : Int32))) (fun h => by rw [Bd.returns] at h; cases h)
            refine own_by (W' := (s₁.setTop (mkF m 53 #[.val (.int p0)] [(.int (1 : Int32))]))) (fun t k => XS.icmpYes X0.here hx rfl (pc0 := 33) (pc' := 48) rfl (hb hby dprog_65_3_33) rfl (flt hc21).2.2.2 (by decide) (by decide) (XS.iconst X0.here hx rfl (hb hby dprog_65_3_48) (XS.goto X0.here hx rfl (pc0 := 49) (pc' := 53) rfl (hb hby dprog_65_3_49) (by decide) (by decide) k))) ?_
            refine ⟨_, _, retOut X0 hx Bd.returns rfl (Or.inl ⟨rfl, Or.inr (Or.inl rfl), _, rfl⟩) (hb hby dprog_65_3_53) hr, hrun, hended, _, _, rfl, ?_, ⟨_, rfl⟩, hW, hsame.mono (by decide) (by decide)⟩
            refine ⟨congrArg (fun z => some (Value.int z)) ?_, N0, e0⟩
            rw [F1, if_neg hc1, if_pos hc16, if_pos hc17, if_neg hc18, if_neg hc21]
      ·
        refine own_by (W' := (s₁.setTop (mkF m 21 #[.val (.int p0)] [(.int (90 : Int32)), (.int p0)]))) (fun t k => XS.icmpNo X0.here hx rfl (hb hby dprog_65_3_15) rfl (flt hc17).1 (XS.iloadN X0.here hx rfl (hb hby dprog_65_3_18) rfl (XS.bipush X0.here hx rfl (hb hby dprog_65_3_19) k))) ?_
        by_cases hc24 : (90 : Int32) < p0
        ·
          refine own_by (W' := (s₁.setTop (mkF m 27 #[.val (.int p0)] [(.int (48 : Int32)), (.int p0)]))) (fun t k => XS.icmpNo X0.here hx rfl (hb hby dprog_65_3_21) rfl (tlt hc24).2.2.2 (XS.iloadN X0.here hx rfl (hb hby dprog_65_3_24) rfl (XS.bipush X0.here hx rfl (hb hby dprog_65_3_25) k))) ?_
          by_cases hc25 : p0 < (48 : Int32)
          ·
            refine own_by (W' := (s₁.setTop (mkF m 39 #[.val (.int p0)] [(.int (45 : Int32)), (.int p0)]))) (fun t k => XS.icmpYes X0.here hx rfl (pc0 := 27) (pc' := 36) rfl (hb hby dprog_65_3_27) rfl (tlt hc25).1 (by decide) (by decide) (XS.iloadN X0.here hx rfl (hb hby dprog_65_3_36) rfl (XS.bipush X0.here hx rfl (hb hby dprog_65_3_37) k))) ?_
            by_cases hc26 : p0 = (45 : Int32)
            ·
              obtain ⟨fs, hr, hrun, hended, hW, hsame⟩ := X0.leave (v := some (.int (1 : Int32))) (fun h => by rw [Bd.returns] at h; cases h)
              refine own_by (W' := (s₁.setTop (mkF m 53 #[.val (.int p0)] [(.int (1 : Int32))]))) (fun t k => XS.icmpYes X0.here hx rfl (pc0 := 39) (pc' := 48) rfl (hb hby dprog_65_3_39) rfl (teq hc26).1 (by decide) (by decide) (XS.iconst X0.here hx rfl (hb hby dprog_65_3_48) (XS.goto X0.here hx rfl (pc0 := 49) (pc' := 53) rfl (hb hby dprog_65_3_49) (by decide) (by decide) k))) ?_
              refine ⟨_, _, retOut X0 hx Bd.returns rfl (Or.inl ⟨rfl, Or.inr (Or.inl rfl), _, rfl⟩) (hb hby dprog_65_3_53) hr, hrun, hended, _, _, rfl, ?_, ⟨_, rfl⟩, hW, hsame.mono (by decide) (by decide)⟩
              refine ⟨congrArg (fun z => some (Value.int z)) ?_, N0, e0⟩
              rw [F1, if_neg hc1, if_pos hc16, if_neg hc17, if_pos hc24, if_pos hc25, if_pos hc26]
            ·
              refine own_by (W' := (s₁.setTop (mkF m 45 #[.val (.int p0)] [(.int (95 : Int32)), (.int p0)]))) (fun t k => XS.icmpNo X0.here hx rfl (hb hby dprog_65_3_39) rfl (feq hc26).1 (XS.iloadN X0.here hx rfl (hb hby dprog_65_3_42) rfl (XS.bipush X0.here hx rfl (hb hby dprog_65_3_43) k))) ?_
              by_cases hc27 : p0 = (95 : Int32)
              ·
                obtain ⟨fs, hr, hrun, hended, hW, hsame⟩ := X0.leave (v := some (.int (1 : Int32))) (fun h => by rw [Bd.returns] at h; cases h)
                refine own_by (W' := (s₁.setTop (mkF m 53 #[.val (.int p0)] [(.int (1 : Int32))]))) (fun t k => XS.icmpNo X0.here hx rfl (hb hby dprog_65_3_45) rfl (teq hc27).2 (XS.iconst X0.here hx rfl (hb hby dprog_65_3_48) (XS.goto X0.here hx rfl (pc0 := 49) (pc' := 53) rfl (hb hby dprog_65_3_49) (by decide) (by decide) k))) ?_
                refine ⟨_, _, retOut X0 hx Bd.returns rfl (Or.inl ⟨rfl, Or.inr (Or.inl rfl), _, rfl⟩) (hb hby dprog_65_3_53) hr, hrun, hended, _, _, rfl, ?_, ⟨_, rfl⟩, hW, hsame.mono (by decide) (by decide)⟩
                refine ⟨congrArg (fun z => some (Value.int z)) ?_, N0, e0⟩
                rw [F1, if_neg hc1, if_pos hc16, if_neg hc17, if_pos hc24, if_pos hc25, if_neg hc26, if_pos hc27]
              ·
                obtain ⟨fs, hr, hrun, hended, hW, hsame⟩ := X0.leave (v := some (.int (0 : Int32))) (fun h => by rw [Bd.returns] at h; cases h)
                refine own_by (W' := (s₁.setTop (mkF m 53 #[.val (.int p0)] [(.int (0 : Int32))]))) (fun t k => XS.icmpYes X0.here hx rfl (pc0 := 45) (pc' := 52) rfl (hb hby dprog_65_3_45) rfl (feq hc27).2 (by decide) (by decide) (XS.iconst X0.here hx rfl (hb hby dprog_65_3_52) k)) ?_
                refine ⟨_, _, retOut X0 hx Bd.returns rfl (Or.inl ⟨rfl, Or.inr (Or.inl rfl), _, rfl⟩) (hb hby dprog_65_3_53) hr, hrun, hended, _, _, rfl, ?_, ⟨_, rfl⟩, hW, hsame.mono (by decide) (by decide)⟩
                refine ⟨congrArg (fun z => some (Value.int z)) ?_, N0, e0⟩
                rw [F1, if_neg hc1, if_pos hc16, if_neg hc17, if_pos hc24, if_pos hc25, if_neg hc26, if_neg hc27]
          ·
            refine own_by (W' := (s₁.setTop (mkF m 33 #[.val (.int p0)] [(.int (57 : Int32)), (.int p0)]))) (fun t k => XS.icmpNo X0.here hx rfl (hb hby dprog_65_3_27) rfl (flt hc25).1 (XS.iloadN X0.here hx rfl (hb hby dprog_65_3_30) rfl (XS.bipush X0.here hx rfl (hb hby dprog_65_3_31) k))) ?_
            by_cases hc28 : (57 : Int32) < p0
            ·
              refine own_by (W' := (s₁.setTop (mkF m 39 #[.val (.int p0)] [(.int (45 : Int32)), (.int p0)]))) (fun t k => XS.icmpNo X0.here hx rfl (hb hby dprog_65_3_33) rfl (tlt hc28).2.2.2 (XS.iloadN X0.here hx rfl (hb hby dprog_65_3_36) rfl (XS.bipush X0.here hx rfl (hb hby dprog_65_3_37) k))) ?_
              by_cases hc29 : p0 = (45 : Int32)
              ·
                obtain ⟨fs, hr, hrun, hended, hW, hsame⟩ := X0.leave (v := some (.int (1 : Int32))) (fun h => by rw [Bd.returns] at h; cases h)
                refine own_by (W' := (s₁.setTop (mkF m 53 #[.val (.int p0)] [(.int (1 : Int32))]))) (fun t k => XS.icmpYes X0.here hx rfl (pc0 := 39) (pc' := 48) rfl (hb hby dprog_65_3_39) rfl (teq hc29).1 (by decide) (by decide) (XS.iconst X0.here hx rfl (hb hby dprog_65_3_48) (XS.goto X0.here hx rfl (pc0 := 49) (pc' := 53) rfl (hb hby dprog_65_3_49) (by decide) (by decide) k))) ?_
                refine ⟨_, _, retOut X0 hx Bd.returns rfl (Or.inl ⟨rfl, Or.inr (Or.inl rfl), _, rfl⟩) (hb hby dprog_65_3_53) hr, hrun, hended, _, _, rfl, ?_, ⟨_, rfl⟩, hW, hsame.mono (by decide) (by decide)⟩
                refine ⟨congrArg (fun z => some (Value.int z)) ?_, N0, e0⟩
                rw [F1, if_neg hc1, if_pos hc16, if_neg hc17, if_pos hc24, if_neg hc25, if_pos hc28, if_pos hc29]
              ·
                refine own_by (W' := (s₁.setTop (mkF m 45 #[.val (.int p0)] [(.int (95 : Int32)), (.int p0)]))) (fun t k => XS.icmpNo X0.here hx rfl (hb hby dprog_65_3_39) rfl (feq hc29).1 (XS.iloadN X0.here hx rfl (hb hby dprog_65_3_42) rfl (XS.bipush X0.here hx rfl (hb hby dprog_65_3_43) k))) ?_
                by_cases hc30 : p0 = (95 : Int32)
                ·
                  obtain ⟨fs, hr, hrun, hended, hW, hsame⟩ := X0.leave (v := some (.int (1 : Int32))) (fun h => by rw [Bd.returns] at h; cases h)
                  refine own_by (W' := (s₁.setTop (mkF m 53 #[.val (.int p0)] [(.int (1 : Int32))]))) (fun t k => XS.icmpNo X0.here hx rfl (hb hby dprog_65_3_45) rfl (teq hc30).2 (XS.iconst X0.here hx rfl (hb hby dprog_65_3_48) (XS.goto X0.here hx rfl (pc0 := 49) (pc' := 53) rfl (hb hby dprog_65_3_49) (by decide) (by decide) k))) ?_
                  refine ⟨_, _, retOut X0 hx Bd.returns rfl (Or.inl ⟨rfl, Or.inr (Or.inl rfl), _, rfl⟩) (hb hby dprog_65_3_53) hr, hrun, hended, _, _, rfl, ?_, ⟨_, rfl⟩, hW, hsame.mono (by decide) (by decide)⟩
                  refine ⟨congrArg (fun z => some (Value.int z)) ?_, N0, e0⟩
                  rw [F1, if_neg hc1, if_pos hc16, if_neg hc17, if_pos hc24, if_neg hc25, if_pos hc28, if_neg hc29, if_pos hc30]
                ·
                  obtain ⟨fs, hr, hrun, hended, hW, hsame⟩ := X0.leave (v := some (.int (0 : Int32))) (fun h => by rw [Bd.returns] at h; cases h)
                  refine own_by (W' := (s₁.setTop (mkF m 53 #[.val (.int p0)] [(.int (0 : Int32))]))) (fun t k => XS.icmpYes X0.here hx rfl (pc0 := 45) (pc' := 52) rfl (hb hby dprog_65_3_45) rfl (feq hc30).2 (by decide) (by decide) (XS.iconst X0.here hx rfl (hb hby dprog_65_3_52) k)) ?_
                  refine ⟨_, _, retOut X0 hx Bd.returns rfl (Or.inl ⟨rfl, Or.inr (Or.inl rfl), _, rfl⟩) (hb hby dprog_65_3_53) hr, hrun, hended, _, _, rfl, ?_, ⟨_, rfl⟩, hW, hsame.mono (by decide) (by decide)⟩
                  refine ⟨congrArg (fun z => some (Value.int z)) ?_, N0, e0⟩
                  rw [F1, if_neg hc1, if_pos hc16, if_neg hc17, if_pos hc24, if_neg hc25, if_pos hc28, if_neg hc29, if_neg hc30]
            ·
              obtain ⟨fs, hr, hrun, hended, hW, hsame⟩ := X0.leave (v := some (.int (1 : Int32))) (fun h => by rw [Bd.returns] at h; cases h)
              refine own_by (W' := (s₁.setTop (mkF m 53 #[.val (.int p0)] [(.int (1 : Int32))]))) (fun t k => XS.icmpYes X0.here hx rfl (pc0 := 33) (pc' := 48) rfl (hb hby dprog_65_3_33) rfl (flt hc28).2.2.2 (by decide) (by decide) (XS.iconst X0.here hx rfl (hb hby dprog_65_3_48) (XS.goto X0.here hx rfl (pc0 := 49) (pc' := 53) rfl (hb hby dprog_65_3_49) (by decide) (by decide) k))) ?_
              refine ⟨_, _, retOut X0 hx Bd.returns rfl (Or.inl ⟨rfl, Or.inr (Or.inl rfl), _, rfl⟩) (hb hby dprog_65_3_53) hr, hrun, hended, _, _, rfl, ?_, ⟨_, rfl⟩, hW, hsame.mono (by decide) (by decide)⟩
              refine ⟨congrArg (fun z => some (Value.int z)) ?_, N0, e0⟩
              rw [F1, if_neg hc1, if_pos hc16, if_neg hc17, if_pos hc24, if_neg hc25, if_neg hc28]
        ·
          obtain ⟨fs, hr, hrun, hended, hW, hsame⟩ := X0.leave (v := some (.int (1 : Int32))) (fun h => by rw [Bd.returns] at h; cases h)
          refine own_by (W' := (s₁.setTop (mkF m 53 #[.val (.int p0)] [(.int (1 : Int32))]))) (fun t k => XS.icmpYes X0.here hx rfl (pc0 := 21) (pc' := 48) rfl (hb hby dprog_65_3_21) rfl (flt hc24).2.2.2 (by decide) (by decide) (XS.iconst X0.here hx rfl (hb hby dprog_65_3_48) (XS.goto X0.here hx rfl (pc0 := 49) (pc' := 53) rfl (hb hby dprog_65_3_49) (by decide) (by decide) k))) ?_
          refine ⟨_, _, retOut X0 hx Bd.returns rfl (Or.inl ⟨rfl, Or.inr (Or.inl rfl), _, rfl⟩) (hb hby dprog_65_3_53) hr, hrun, hended, _, _, rfl, ?_, ⟨_, rfl⟩, hW, hsame.mono (by decide) (by decide)⟩
          refine ⟨congrArg (fun z => some (Value.int z)) ?_, N0, e0⟩
          rw [F1, if_neg hc1, if_pos hc16, if_neg hc17, if_neg hc24]
    ·
      obtain ⟨fs, hr, hrun, hended, hW, hsame⟩ := X0.leave (v := some (.int (1 : Int32))) (fun h => by rw [Bd.returns] at h; cases h)
      refine own_by (W' := (s₁.setTop (mkF m 53 #[.val (.int p0)] [(.int (1 : Int32))]))) (fun t k => XS.icmpYes X0.here hx rfl (pc0 := 9) (pc' := 48) rfl (hb hby dprog_65_3_9) rfl (flt hc16).2.2.2 (by decide) (by decide) (XS.iconst X0.here hx rfl (hb hby dprog_65_3_48) (XS.goto X0.here hx rfl (pc0 := 49) (pc' := 53) rfl (hb hby dprog_65_3_49) (by decide) (by decide) k))) ?_
      refine ⟨_, _, retOut X0 hx Bd.returns rfl (Or.inl ⟨rfl, Or.inr (Or.inl rfl), _, rfl⟩) (hb hby dprog_65_3_53) hr, hrun, hended, _, _, rfl, ?_, ⟨_, rfl⟩, hW, hsame.mono (by decide) (by decide)⟩
      refine ⟨congrArg (fun z => some (Value.int z)) ?_, N0, e0⟩
      rw [F1, if_neg hc1, if_neg hc16]
theorem dmethod_2_0 : decode method_2_code 0 = .ok (.iload_n 0, 1) := by decide +kernel
theorem dmethod_2_1 : decode method_2_code 1 = .ok (.istore_n 1, 1) := by decide +kernel
theorem dmethod_2_2 : decode method_2_code 2 = .ok (.iload_n 1, 1) := by decide +kernel
theorem dmethod_2_3 : decode method_2_code 3 = .ok (.sipush 128, 3) := by decide +kernel
theorem dmethod_2_6 : decode method_2_code 6 = .ok (.if_icmp .lt 5, 3) := by decide +kernel
theorem dmethod_2_9 : decode method_2_code 9 = .ok (.iconst 0, 1) := by decide +kernel
theorem dmethod_2_10 : decode method_2_code 10 = .ok (.ireturn, 1) := by decide +kernel
theorem dmethod_2_11 : decode method_2_code 11 = .ok (.iload_n 1, 1) := by decide +kernel
theorem dmethod_2_12 : decode method_2_code 12 = .ok (.bipush 64, 2) := by decide +kernel
theorem dmethod_2_14 : decode method_2_code 14 = .ok (.if_icmp .ge 21, 3) := by decide +kernel
theorem dmethod_2_17 : decode method_2_code 17 = .ok (.ldc2_w 9, 3) := by decide +kernel
theorem dmethod_2_20 : decode method_2_code 20 = .ok (.iload_n 1, 1) := by decide +kernel
theorem dmethod_2_21 : decode method_2_code 21 = .ok (.lushr, 1) := by decide +kernel
theorem dmethod_2_22 : decode method_2_code 22 = .ok (.lconst 1, 1) := by decide +kernel
theorem dmethod_2_23 : decode method_2_code 23 = .ok (.land, 1) := by decide +kernel
theorem dmethod_2_24 : decode method_2_code 24 = .ok (.lconst 0, 1) := by decide +kernel
theorem dmethod_2_25 : decode method_2_code 25 = .ok (.lcmp, 1) := by decide +kernel
theorem dmethod_2_26 : decode method_2_code 26 = .ok (.ifCond .eq 7, 3) := by decide +kernel
theorem dmethod_2_29 : decode method_2_code 29 = .ok (.iconst 1, 1) := by decide +kernel
theorem dmethod_2_30 : decode method_2_code 30 = .ok (.goto 4, 3) := by decide +kernel
theorem dmethod_2_33 : decode method_2_code 33 = .ok (.iconst 0, 1) := by decide +kernel
theorem dmethod_2_34 : decode method_2_code 34 = .ok (.ireturn, 1) := by decide +kernel
theorem dmethod_2_35 : decode method_2_code 35 = .ok (.ldc2_w 11, 3) := by decide +kernel
theorem dmethod_2_38 : decode method_2_code 38 = .ok (.iload_n 1, 1) := by decide +kernel
theorem dmethod_2_39 : decode method_2_code 39 = .ok (.bipush 64, 2) := by decide +kernel
theorem dmethod_2_41 : decode method_2_code 41 = .ok (.isub, 1) := by decide +kernel
theorem dmethod_2_42 : decode method_2_code 42 = .ok (.lushr, 1) := by decide +kernel
theorem dmethod_2_43 : decode method_2_code 43 = .ok (.lconst 1, 1) := by decide +kernel
theorem dmethod_2_44 : decode method_2_code 44 = .ok (.land, 1) := by decide +kernel
theorem dmethod_2_45 : decode method_2_code 45 = .ok (.lconst 0, 1) := by decide +kernel
theorem dmethod_2_46 : decode method_2_code 46 = .ok (.lcmp, 1) := by decide +kernel
theorem dmethod_2_47 : decode method_2_code 47 = .ok (.ifCond .eq 7, 3) := by decide +kernel
theorem dmethod_2_50 : decode method_2_code 50 = .ok (.iconst 1, 1) := by decide +kernel
theorem dmethod_2_51 : decode method_2_code 51 = .ok (.goto 4, 3) := by decide +kernel
theorem dmethod_2_54 : decode method_2_code 54 = .ok (.iconst 0, 1) := by decide +kernel
theorem dmethod_2_55 : decode method_2_code 55 = .ok (.ireturn, 1) := by decide +kernel
theorem pn_com_example_vast_queue_vastqueue_operations_IdentifierAllowsPinLaw : plainName "com/example/vast_queue/vastqueue/operations/IdentifierAllowsPinLaw" = true := by first | (simp [plainName, overriddenIn]; done) | decide +kernel
theorem ef2 (m : MethodId) (p0 : Int32) : entryFrame m #[(.int p0)] 2 = mkF m 0 #[.val (.int p0), .unset] [] := by first | (simp [entryFrame, mkF, argsToLocals, Value.category]; done) | rfl
def F2 (p0 : Int32) : Int32 := (if p0 < (128 : Int32) then (if p0 < (64 : Int32) then (if ((((287984085547089920 : Int64).toUInt64 >>> (p0 &&& 0x3f).toInt64.toUInt64).toInt64) &&& (1 : Int64)) = (0 : Int64) then (0 : Int32) else (1 : Int32)) else (if ((((576460745995190270 : Int64).toUInt64 >>> ((p0 - (64 : Int32)) &&& 0x3f).toInt64.toUInt64).toInt64) &&& (1 : Int64)) = (0 : Int64) then (0 : Int32) else (1 : Int32))) else (0 : Int32))
def Q2 (Z : State) (p0 : Int32) (h0 : Heap) (n0 : Nat) (v : Option Value) (h : Heap) (L : List Loc) : Prop := v = some (.int (F2 p0)) ∧ Fr n0 L ∧ h = h0
abbrev own_K2 (Z : State) (p0 : Int32) (h0 : Heap) (n0 : Nat) (s : State) : Outcome → State → Prop := fun o U' => ∃ v L, o = .returned v ∧ Q2 Z p0 h0 n0 v U'.heap L ∧ FrameEnd s o U' L ({ frames := 0, cells := 0, slots := 0, locals := 0 } : Room).cells ({ frames := 0, cells := 0, slots := 0, locals := 0 } : Room).slots
set_option maxRecDepth 65536 in
set_option maxHeartbeats 40000000 in
theorem rm2 (l : Launch) (Z : State) (a0 : Array Value) (hw : ∀ d ∈ tables_1, d.before a0 Z = true) (ws : List Jvm.Cond) (p0 : Int32) (h0 : Heap) (n0 : Nat) (Z0 : n0 ≤ h0.size) :
    MetFree l (⟨"com/example/vast_queue/vastqueue/operations/IdentifierAllowsPinLaw", "expected", "(C)Z"⟩ : MethodName) (head1 (Jvm.Cond.code (⟨"com/example/vast_queue/vastqueue/operations/IdentifierAllowsPinLaw", "expected", "(C)Z"⟩ : MethodName) method_2_code 2 (some .boolean) :: ws) ({ frames := 0, cells := 0, slots := 0, locals := 0 } : Room)) (fun a U => a = #[(.int p0)] ∧ Z.Warmed39 U.vm ∧ U.heap = h0) (fun _ _ _ _ _ => True) (fun _ U o U' => ∃ v L, o = .returned v ∧ Q2 Z p0 h0 n0 v U'.heap L ∧ FrameEnd U o U' L ({ frames := 0, cells := 0, slots := 0, locals := 0 } : Room).cells ({ frames := 0, cells := 0, slots := 0, locals := 0 } : Room).slots) := by
  refine MetFree.of_bodySF (plainFor_of_name pn_com_example_vast_queue_vastqueue_operations_IdentifierAllowsPinLaw) hisR ?_
  intro p e s m args below meth c s₁ Bd hml0 hP hK
  obtain ⟨rfl, hZ, hh⟩ := hP
  have hx := Bd.exec
  have hby := Bd.bytes
  have hml : c.maxLocals = 2 := hml0
  have hown : s.vm.findClass "com/example/vast_queue/vastqueue/operations/IdentifierAllowsPinLaw" = some m.cls := findClass_of_methodNamed Bd.named
  have hnm := (name_of_methodNamed Bd.named Bd.method).1
  have X0 : Stand p l e ({ frames := 0, cells := 0, slots := 0, locals := 0 } : Room) s m #[(.int p0)] below meth c s₁ [] 0 0 := Stand.of_body Bd
  have e0 : s₁.heap = h0 := by rw [← hh, Bd.state]; rfl
  have N0 := Fr.nil n0
  refine own_by (p := p) (e := e) (below := below) (K := own_K2 Z p0 h0 n0 s) (W' := s₁.setTop (mkF m 0 #[.val (.int p0), .unset] [])) (fun t k => castTop (ef2 m p0) k) ?_
  refine own_by (W' := (s₁.setTop (mkF m 6 #[.val (.int p0), .val (.int p0)] [(.int (128 : Int32)), (.int p0)]))) (fun t k => XS.iloadN X0.here hx rfl (hb hby dmethod_2_0) rfl (XS.istoreN X0.here hx rfl (hb hby dmethod_2_1) rfl (l' := #[.val (.int p0), .val (.int p0)]) rfl (XS.iloadN X0.here hx rfl (hb hby dmethod_2_2) rfl (XS.sipush X0.here hx rfl (hb hby dmethod_2_3) k)))) ?_
  by_cases hc1 : p0 < (128 : Int32)
  ·
    refine own_by (W' := (s₁.setTop (mkF m 14 #[.val (.int p0), .val (.int p0)] [(.int (64 : Int32)), (.int p0)]))) (fun t k => XS.icmpYes X0.here hx rfl (pc0 := 6) (pc' := 11) rfl (hb hby dmethod_2_6) rfl (tlt hc1).1 (by decide) (by decide) (XS.iloadN X0.here hx rfl (hb hby dmethod_2_11) rfl (XS.bipush X0.here hx rfl (hb hby dmethod_2_12) k))) ?_
    by_cases hc2 : p0 < (64 : Int32)
    ·
      refine own_by (W' := (s₁.setTop (mkF m 24 #[.val (.int p0), .val (.int p0)] [(.long ((((287984085547089920 : Int64).toUInt64 >>> (p0 &&& 0x3f).toInt64.toUInt64).toInt64) &&& (1 : Int64)))]))) (fun t k => XS.icmpNo X0.here hx rfl (hb hby dmethod_2_14) rfl (tlt hc2).2.1 ((X0.ldc2Long hx hown (mvT hZ (own_w hw 8)) (g := (mkF m 17 #[.val (.int p0), .val (.int p0)] [])) rfl (hb hby dmethod_2_17)) _ (XS.iloadN X0.here hx rfl (hb hby dmethod_2_20) rfl (XS.lushr X0.here hx rfl (hb hby dmethod_2_21) rfl (XS.lconst X0.here hx rfl (hb hby dmethod_2_22) (XS.land X0.here hx rfl (hb hby dmethod_2_23) rfl k)))))) ?_
      refine own_by (W' := (s₁.setTop (mkF m 26 #[.val (.int p0), .val (.int p0)] [(.int (lcmpW ((((287984085547089920 : Int64).toUInt64 >>> (p0 &&& 0x3f).toInt64.toUInt64).toInt64) &&& (1 : Int64)) (0 : Int64)))]))) (fun t k => XS.lconst X0.here hx rfl (hb hby dmethod_2_24) (XS.lcmp X0.here hx rfl (hb hby dmethod_2_25) rfl k)) ?_
      by_cases hc3 : ((((287984085547089920 : Int64).toUInt64 >>> (p0 &&& 0x3f).toInt64.toUInt64).toInt64) &&& (1 : Int64)) = (0 : Int64)
      ·
        obtain ⟨fs, hr, hrun, hended, hW, hsame⟩ := X0.leave (v := some (.int (0 : Int32))) (fun h => by rw [Bd.returns] at h; cases h)
        refine own_by (W' := (s₁.setTop (mkF m 34 #[.val (.int p0), .val (.int p0)] [(.int (0 : Int32))]))) (fun t k => XS.ifYes X0.here hx rfl (pc0 := 26) (pc' := 33) rfl (hb hby dmethod_2_26) rfl (own_lceq hc3).1 (by decide) (by decide) (XS.iconst X0.here hx rfl (hb hby dmethod_2_33) k)) ?_
        refine ⟨_, _, retOut X0 hx Bd.returns rfl (Or.inl ⟨rfl, Or.inr (Or.inl rfl), _, rfl⟩) (hb hby dmethod_2_34) hr, hrun, hended, _, _, rfl, ?_, ⟨_, rfl⟩, hW, hsame.mono (by decide) (by decide)⟩
        refine ⟨congrArg (fun z => some (Value.int z)) ?_, N0, e0⟩
        rw [F2, if_pos hc1, if_pos hc2, if_pos hc3]
      ·
        obtain ⟨fs, hr, hrun, hended, hW, hsame⟩ := X0.leave (v := some (.int (1 : Int32))) (fun h => by rw [Bd.returns] at h; cases h)
        refine own_by (W' := (s₁.setTop (mkF m 34 #[.val (.int p0), .val (.int p0)] [(.int (1 : Int32))]))) (fun t k => XS.ifNo X0.here hx rfl (hb hby dmethod_2_26) rfl (own_lcne hc3).1 (XS.iconst X0.here hx rfl (hb hby dmethod_2_29) (XS.goto X0.here hx rfl (pc0 := 30) (pc' := 34) rfl (hb hby dmethod_2_30) (by decide) (by decide) k))) ?_
        refine ⟨_, _, retOut X0 hx Bd.returns rfl (Or.inl ⟨rfl, Or.inr (Or.inl rfl), _, rfl⟩) (hb hby dmethod_2_34) hr, hrun, hended, _, _, rfl, ?_, ⟨_, rfl⟩, hW, hsame.mono (by decide) (by decide)⟩
        refine ⟨congrArg (fun z => some (Value.int z)) ?_, N0, e0⟩
        rw [F2, if_pos hc1, if_pos hc2, if_neg hc3]
    ·
      refine own_by (W' := (s₁.setTop (mkF m 43 #[.val (.int p0), .val (.int p0)] [(.long (((576460745995190270 : Int64).toUInt64 >>> ((p0 - (64 : Int32)) &&& 0x3f).toInt64.toUInt64).toInt64))]))) (fun t k => XS.icmpYes X0.here hx rfl (pc0 := 14) (pc' := 35) rfl (hb hby dmethod_2_14) rfl (flt hc2).2.1 (by decide) (by decide) ((X0.ldc2Long hx hown (mvT hZ (own_w hw 9)) (g := (mkF m 35 #[.val (.int p0), .val (.int p0)] [])) rfl (hb hby dmethod_2_35)) _ (XS.iloadN X0.here hx rfl (hb hby dmethod_2_38) rfl (XS.bipush X0.here hx rfl (hb hby dmethod_2_39) (XS.isub X0.here hx rfl (hb hby dmethod_2_41) rfl (XS.lushr X0.here hx rfl (hb hby dmethod_2_42) rfl k)))))) ?_
      refine own_by (W' := (s₁.setTop (mkF m 47 #[.val (.int p0), .val (.int p0)] [(.int (lcmpW ((((576460745995190270 : Int64).toUInt64 >>> ((p0 - (64 : Int32)) &&& 0x3f).toInt64.toUInt64).toInt64) &&& (1 : Int64)) (0 : Int64)))]))) (fun t k => XS.lconst X0.here hx rfl (hb hby dmethod_2_43) (XS.land X0.here hx rfl (hb hby dmethod_2_44) rfl (XS.lconst X0.here hx rfl (hb hby dmethod_2_45) (XS.lcmp X0.here hx rfl (hb hby dmethod_2_46) rfl k)))) ?_
      by_cases hc4 : ((((576460745995190270 : Int64).toUInt64 >>> ((p0 - (64 : Int32)) &&& 0x3f).toInt64.toUInt64).toInt64) &&& (1 : Int64)) = (0 : Int64)
      ·
        obtain ⟨fs, hr, hrun, hended, hW, hsame⟩ := X0.leave (v := some (.int (0 : Int32))) (fun h => by rw [Bd.returns] at h; cases h)
        refine own_by (W' := (s₁.setTop (mkF m 55 #[.val (.int p0), .val (.int p0)] [(.int (0 : Int32))]))) (fun t k => XS.ifYes X0.here hx rfl (pc0 := 47) (pc' := 54) rfl (hb hby dmethod_2_47) rfl (own_lceq hc4).1 (by decide) (by decide) (XS.iconst X0.here hx rfl (hb hby dmethod_2_54) k)) ?_
        refine ⟨_, _, retOut X0 hx Bd.returns rfl (Or.inl ⟨rfl, Or.inr (Or.inl rfl), _, rfl⟩) (hb hby dmethod_2_55) hr, hrun, hended, _, _, rfl, ?_, ⟨_, rfl⟩, hW, hsame.mono (by decide) (by decide)⟩
        refine ⟨congrArg (fun z => some (Value.int z)) ?_, N0, e0⟩
        rw [F2, if_pos hc1, if_neg hc2, if_pos hc4]
      ·
        obtain ⟨fs, hr, hrun, hended, hW, hsame⟩ := X0.leave (v := some (.int (1 : Int32))) (fun h => by rw [Bd.returns] at h; cases h)
        refine own_by (W' := (s₁.setTop (mkF m 55 #[.val (.int p0), .val (.int p0)] [(.int (1 : Int32))]))) (fun t k => XS.ifNo X0.here hx rfl (hb hby dmethod_2_47) rfl (own_lcne hc4).1 (XS.iconst X0.here hx rfl (hb hby dmethod_2_50) (XS.goto X0.here hx rfl (pc0 := 51) (pc' := 55) rfl (hb hby dmethod_2_51) (by decide) (by decide) k))) ?_
        refine ⟨_, _, retOut X0 hx Bd.returns rfl (Or.inl ⟨rfl, Or.inr (Or.inl rfl), _, rfl⟩) (hb hby dmethod_2_55) hr, hrun, hended, _, _, rfl, ?_, ⟨_, rfl⟩, hW, hsame.mono (by decide) (by decide)⟩
        refine ⟨congrArg (fun z => some (Value.int z)) ?_, N0, e0⟩
        rw [F2, if_pos hc1, if_neg hc2, if_neg hc4]
  ·
    obtain ⟨fs, hr, hrun, hended, hW, hsame⟩ := X0.leave (v := some (.int (0 : Int32))) (fun h => by rw [Bd.returns] at h; cases h)
    refine own_by (W' := (s₁.setTop (mkF m 10 #[.val (.int p0), .val (.int p0)] [(.int (0 : Int32))]))) (fun t k => XS.icmpNo X0.here hx rfl (hb hby dmethod_2_6) rfl (flt hc1).1 (XS.iconst X0.here hx rfl (hb hby dmethod_2_9) k)) ?_
    refine ⟨_, _, retOut X0 hx Bd.returns rfl (Or.inl ⟨rfl, Or.inr (Or.inl rfl), _, rfl⟩) (hb hby dmethod_2_10) hr, hrun, hended, _, _, rfl, ?_, ⟨_, rfl⟩, hW, hsame.mono (by decide) (by decide)⟩
    refine ⟨congrArg (fun z => some (Value.int z)) ?_, N0, e0⟩
    rw [F2, if_neg hc1]
abbrev own_c (x : Int32) : Int32 := x.toUInt32.toUInt16.toUInt32.toInt32
theorem own_cnat (x : Int32) : ∃ n : Nat, n < 65536 ∧ own_c x = Int32.ofNat n := by
  refine ⟨x.toUInt32.toUInt16.toNat, x.toUInt32.toUInt16.toNat_lt, ?_⟩
  apply Int32.toBitVec_inj.mp
  apply BitVec.eq_of_toNat_eq
  have q : x.toUInt32.toNat = x.toBitVec.toNat := rfl
  simp [own_c]
  omega
theorem own_toInt {n : Nat} (h : n < 65536) : (Int32.ofNat n).toInt = n := Int32.toInt_ofNat_of_lt (by omega)
theorem own_low : ∀ n : Fin 128, F1 (Int32.ofNat n.val) = F2 (Int32.ofNat n.val) := by decide +kernel
theorem own_law (x : Int32) : F1 (own_c x) = F2 (own_c x) := by
  obtain ⟨n, hn, e⟩ := own_cnat x
  rw [e]
  by_cases h : n < 128
  · exact own_low ⟨n, h⟩
  · have t := own_toInt hn
    generalize Int32.ofNat n = c at t
    have l97 : ¬ c < 97 := by rw [Int32.lt_iff_toInt_lt, t, show (97 : Int32).toInt = 97 from rfl]; omega
    have g122 : (122 : Int32) < c := by rw [Int32.lt_iff_toInt_lt, t, show (122 : Int32).toInt = 122 from rfl]; omega
    have l65 : ¬ c < 65 := by rw [Int32.lt_iff_toInt_lt, t, show (65 : Int32).toInt = 65 from rfl]; omega
    have g90 : (90 : Int32) < c := by rw [Int32.lt_iff_toInt_lt, t, show (90 : Int32).toInt = 90 from rfl]; omega
    have l48 : ¬ c < 48 := by rw [Int32.lt_iff_toInt_lt, t, show (48 : Int32).toInt = 48 from rfl]; omega
    have g57 : (57 : Int32) < c := by rw [Int32.lt_iff_toInt_lt, t, show (57 : Int32).toInt = 57 from rfl]; omega
    have n45 : ¬ c = 45 := by rw [← Int32.toInt_inj, t, show (45 : Int32).toInt = 45 from rfl]; omega
    have n95 : ¬ c = 95 := by rw [← Int32.toInt_inj, t, show (95 : Int32).toInt = 95 from rfl]; omega
    have l128 : ¬ c < 128 := by rw [Int32.lt_iff_toInt_lt, t, show (128 : Int32).toInt = 128 from rfl]; omega
    simp only [F1, F2, l97, g122, l65, g90, l48, g57, n45, n95, l128, if_true, if_false]

theorem pd_1 : parseMethodDescriptor "(C)Z" = some ⟨[.char], some .boolean⟩ := by decide +kernel
theorem efL (m : MethodId) (p0 : Int32) (p1 : Int32) : entryFrame m #[(.int p0), (.int p1)] maxLocals = mkF m 0 #[.val (.int p0), .val (.int p1), .unset] [] := by first | (simp [entryFrame, mkF, argsToLocals, Value.category, maxLocals]; done) | rfl
def QL (Z : State) (p0 : Int32) (p1 : Int32) (h0 : Heap) (n0 : Nat) (v : Option Value) (h : Heap) (L : List Loc) : Prop := v = some (.int 1) ∧ Fr n0 L
abbrev own_KL (Z : State) (p0 : Int32) (p1 : Int32) (h0 : Heap) (n0 : Nat) (s : State) : Outcome → State → Prop := fun o U' => ∃ v L, o = .returned v ∧ QL Z p0 p1 h0 n0 v U'.heap L ∧ FrameEnd s o U' L room_1.cells room_1.slots
set_option maxRecDepth 65536 in
set_option maxHeartbeats 40000000 in
theorem rmL (l : Launch) (Z : State) (a0 : Array Value) (hw : ∀ d ∈ tables_1, d.before a0 Z = true) (ws : List Jvm.Cond) (p0 : Int32) (p1 : Int32) (h0 : Heap) (n0 : Nat) (Z0 : n0 ≤ h0.size) :
    MetFree l x (head1 (Jvm.Cond.code x code maxLocals ret :: ws) room_1) (fun a U => a = #[(.int p0), (.int p1)] ∧ Z.Warmed39 U.vm ∧ U.heap = h0) (fun _ _ _ _ _ => True) (fun _ U o U' => ∃ v L, o = .returned v ∧ QL Z p0 p1 h0 n0 v U'.heap L ∧ FrameEnd U o U' L room_1.cells room_1.slots) := by
  refine MetFree.of_bodySF (plainFor_of_name pn_com_example_vast_queue_vastqueue_operations_IdentifierAllowsPinLaw) hisR ?_
  intro p e s m args below meth c s₁ Bd hml0 hP hK
  obtain ⟨rfl, hZ, hh⟩ := hP
  have hx := Bd.exec
  have hby := Bd.bytes
  have hml : c.maxLocals = 3 := hml0
  have hown : s.vm.findClass "com/example/vast_queue/vastqueue/operations/IdentifierAllowsPinLaw" = some m.cls := findClass_of_methodNamed Bd.named
  have hnm := (name_of_methodNamed Bd.named Bd.method).1
  have X0 : Stand p l e room_1 s m #[(.int p0), (.int p1)] below meth c s₁ [] 0 0 := Stand.of_body Bd
  have e0 : s₁.heap = h0 := by rw [← hh, Bd.state]; rfl
  have N0 := Fr.nil n0
  refine own_by (p := p) (e := e) (below := below) (K := own_KL Z p0 p1 h0 n0 s) (W' := s₁.setTop (mkF m 0 #[.val (.int p0), .val (.int p1), .unset] [])) (fun t k => castTop (efL m p0 p1) k) ?_
  refine own_by (W' := (s₁.setTop (mkF m 3 #[.val (.int p0), .val (.int p1), .unset] [(.int (p1 &&& (1 : Int32)))]))) (fun t k => XS.iloadN X0.here hx rfl (hb hby at_0) rfl (XS.iconst X0.here hx rfl (hb hby at_1) (XS.iand X0.here hx rfl (hb hby at_2) rfl k))) ?_
  by_cases hc1 : (p1 &&& (1 : Int32)) = (0 : Int32)
  ·
    obtain ⟨_, _, ⟨T2, L2, k2, n2⟩, -, X2, ⟨Lc2, hQ2, l2, y2, z2⟩, st2⟩ := Jvm.LawKit.callS X0 hx (y := (⟨"com/example/vast_queue/vastqueue/operations/Identifier", "allows", "(C)Z"⟩ : MethodName)) hown (mvT hZ (own_w hw 0)) (mvT hZ (own_w hw 1)) (mvT hZ (own_w hw 2)) (mvT hZ (own_w hw 3)) (by decide) (backOf (W := 0) (rm1 l Z a0 hw [] (p0.toUInt32.toUInt16.toUInt32.toInt32) h0 n0 Z0 ) hZ (own_w hw 3) (own_w hw 2) (by decide) (by decide)) (g := (mkF m 19 #[.val (.int p0), .val (.int p1), .val (.int (p0.toUInt32.toUInt16.toUInt32.toInt32))] [(.int (p0.toUInt32.toUInt16.toUInt32.toInt32))])) rfl (by rw [hml]; rfl) (argsL := [(.int (p0.toUInt32.toUInt16.toUInt32.toInt32))]) (rest := []) (lenOf pd_1 rfl) rfl (by show 2 * 0 + _ ≤ _; exact Nat.le_of_eq rfl) (hb hby at_19) (fun _ _ => ⟨rfl, e0, (by decide : 0 + 0 ≤ _), (by decide : 0 + 0 ≤ _)⟩)
    dsimp only [Pt.U, Pt.locs, Pt.cells, Pt.slots] at X2 l2 y2 z2 st2 hQ2
    subst l2 y2 z2
    obtain ⟨rfl, N2q, e2⟩ := hQ2
    have N2 := Fr.app N0 N2q
    refine own_by (W' := (T2.setTop (mkF m 22 #[.val (.int p0), .val (.int p1), .val (.int (p0.toUInt32.toUInt16.toUInt32.toInt32))] [(.int (F1 (p0.toUInt32.toUInt16.toUInt32.toInt32)))]))) (fun t k => XS.ifYes X0.here hx rfl (pc0 := 3) (pc' := 15) rfl (hb hby at_3) rfl ((if0 _ _).trans (teq hc1).1) (by decide) (by decide) (XS.iloadN X0.here hx rfl (hb hby at_15) rfl (XS.i2c X0.here hx rfl (hb hby at_16) rfl (XS.istoreN X0.here hx rfl (hb hby at_17) rfl (l' := #[.val (.int p0), .val (.int p1), .val (.int (p0.toUInt32.toUInt16.toUInt32.toInt32))]) rfl (XS.iloadN X0.here hx rfl (hb hby at_18) rfl (st2 _ k)))))) ?_
    obtain ⟨_, _, ⟨T3, L3, k3, n3⟩, -, X3, ⟨Lc3, hQ3, l3, y3, z3⟩, st3⟩ := Jvm.LawKit.callS X2 hx (y := (⟨"com/example/vast_queue/vastqueue/operations/IdentifierAllowsPinLaw", "expected", "(C)Z"⟩ : MethodName)) hown (mvT hZ (own_w hw 4)) (mvT hZ (own_w hw 5)) (mvT hZ (own_w hw 6)) (mvT hZ (own_w hw 7)) (by decide) (backOf (W := 1) (rm2 l Z a0 hw [] (p0.toUInt32.toUInt16.toUInt32.toInt32) h0 n0 Z0 ) hZ (own_w hw 7) (own_w hw 6) (by decide) (by decide)) (g := (mkF m 23 #[.val (.int p0), .val (.int p1), .val (.int (p0.toUInt32.toUInt16.toUInt32.toInt32))] [(.int (p0.toUInt32.toUInt16.toUInt32.toInt32)), (.int (F1 (p0.toUInt32.toUInt16.toUInt32.toInt32)))])) rfl (by rw [hml]; rfl) (argsL := [(.int (p0.toUInt32.toUInt16.toUInt32.toInt32))]) (rest := [(.int (F1 (p0.toUInt32.toUInt16.toUInt32.toInt32)))]) (lenOf pd_1 rfl) rfl (by show 2 * 0 + _ ≤ _; exact Nat.le_of_eq rfl) (hb hby at_23) (fun _ _ => ⟨rfl, e2, (by decide : 0 + 0 ≤ _), (by decide : 0 + 0 ≤ _)⟩)
    dsimp only [Pt.U, Pt.locs, Pt.cells, Pt.slots] at X3 l3 y3 z3 st3 hQ3
    subst l3 y3 z3
    obtain ⟨rfl, N3q, e3⟩ := hQ3
    have N3 := Fr.app N2 N3q
    obtain ⟨fs, hr, hrun, hended, hW, hsame⟩ := X3.leave (v := some (.int (1 : Int32))) (fun h => by rw [Bd.returns] at h; cases h)
    refine own_by (W' := (T3.setTop (mkF m 34 #[.val (.int p0), .val (.int p1), .val (.int (p0.toUInt32.toUInt16.toUInt32.toInt32))] [(.int (1 : Int32))]))) (fun t k => XS.iloadN X2.here hx rfl (hb hby at_22) rfl (st3 _ (XS.icmpNo X3.here hx rfl (hb hby at_26) rfl (teq (own_law _)).2 (XS.iconst X3.here hx rfl (hb hby at_29) (XS.goto X3.here hx rfl (pc0 := 30) (pc' := 34) rfl (hb hby at_30) (by decide) (by decide) k))))) ?_
    refine ⟨_, _, retOut X3 hx Bd.returns rfl (Or.inl ⟨rfl, Or.inr (Or.inl rfl), _, rfl⟩) (hb hby at_34) hr, hrun, hended, _, _, rfl, ?_, ⟨_, rfl⟩, hW, hsame.mono (by decide) (by decide)⟩
    exact ⟨rfl, N3⟩
  ·
    refine own_by (W' := (s₁.setTop (mkF m 12 #[.val (.int p0), .val (.int p1), .val (.int ((p0 &&& (127 : Int32)).toUInt32.toUInt16.toUInt32.toInt32))] []))) (fun t k => XS.ifNo X0.here hx rfl (hb hby at_3) rfl ((if0 _ _).trans (feq hc1).1) (XS.iloadN X0.here hx rfl (hb hby at_6) rfl (XS.bipush X0.here hx rfl (hb hby at_7) (XS.iand X0.here hx rfl (hb hby at_9) rfl (XS.i2c X0.here hx rfl (hb hby at_10) rfl (XS.istoreN X0.here hx rfl (hb hby at_11) rfl (l' := #[.val (.int p0), .val (.int p1), .val (.int ((p0 &&& (127 : Int32)).toUInt32.toUInt16.toUInt32.toInt32))]) rfl k)))))) ?_
    obtain ⟨_, _, ⟨T4, L4, k4, n4⟩, -, X4, ⟨Lc4, hQ4, l4, y4, z4⟩, st4⟩ := Jvm.LawKit.callS X0 hx (y := (⟨"com/example/vast_queue/vastqueue/operations/Identifier", "allows", "(C)Z"⟩ : MethodName)) hown (mvT hZ (own_w hw 0)) (mvT hZ (own_w hw 1)) (mvT hZ (own_w hw 2)) (mvT hZ (own_w hw 3)) (by decide) (backOf (W := 0) (rm1 l Z a0 hw [] ((p0 &&& (127 : Int32)).toUInt32.toUInt16.toUInt32.toInt32) h0 n0 Z0 ) hZ (own_w hw 3) (own_w hw 2) (by decide) (by decide)) (g := (mkF m 19 #[.val (.int p0), .val (.int p1), .val (.int ((p0 &&& (127 : Int32)).toUInt32.toUInt16.toUInt32.toInt32))] [(.int ((p0 &&& (127 : Int32)).toUInt32.toUInt16.toUInt32.toInt32))])) rfl (by rw [hml]; rfl) (argsL := [(.int ((p0 &&& (127 : Int32)).toUInt32.toUInt16.toUInt32.toInt32))]) (rest := []) (lenOf pd_1 rfl) rfl (by show 2 * 0 + _ ≤ _; exact Nat.le_of_eq rfl) (hb hby at_19) (fun _ _ => ⟨rfl, e0, (by decide : 0 + 0 ≤ _), (by decide : 0 + 0 ≤ _)⟩)
    dsimp only [Pt.U, Pt.locs, Pt.cells, Pt.slots] at X4 l4 y4 z4 st4 hQ4
    subst l4 y4 z4
    obtain ⟨rfl, N4q, e4⟩ := hQ4
    have N4 := Fr.app N0 N4q
    obtain ⟨_, _, ⟨T5, L5, k5, n5⟩, -, X5, ⟨Lc5, hQ5, l5, y5, z5⟩, st5⟩ := Jvm.LawKit.callS X4 hx (y := (⟨"com/example/vast_queue/vastqueue/operations/IdentifierAllowsPinLaw", "expected", "(C)Z"⟩ : MethodName)) hown (mvT hZ (own_w hw 4)) (mvT hZ (own_w hw 5)) (mvT hZ (own_w hw 6)) (mvT hZ (own_w hw 7)) (by decide) (backOf (W := 1) (rm2 l Z a0 hw [] ((p0 &&& (127 : Int32)).toUInt32.toUInt16.toUInt32.toInt32) h0 n0 Z0 ) hZ (own_w hw 7) (own_w hw 6) (by decide) (by decide)) (g := (mkF m 23 #[.val (.int p0), .val (.int p1), .val (.int ((p0 &&& (127 : Int32)).toUInt32.toUInt16.toUInt32.toInt32))] [(.int ((p0 &&& (127 : Int32)).toUInt32.toUInt16.toUInt32.toInt32)), (.int (F1 ((p0 &&& (127 : Int32)).toUInt32.toUInt16.toUInt32.toInt32)))])) rfl (by rw [hml]; rfl) (argsL := [(.int ((p0 &&& (127 : Int32)).toUInt32.toUInt16.toUInt32.toInt32))]) (rest := [(.int (F1 ((p0 &&& (127 : Int32)).toUInt32.toUInt16.toUInt32.toInt32)))]) (lenOf pd_1 rfl) rfl (by show 2 * 0 + _ ≤ _; exact Nat.le_of_eq rfl) (hb hby at_23) (fun _ _ => ⟨rfl, e4, (by decide : 0 + 0 ≤ _), (by decide : 0 + 0 ≤ _)⟩)
    dsimp only [Pt.U, Pt.locs, Pt.cells, Pt.slots] at X5 l5 y5 z5 st5 hQ5
    subst l5 y5 z5
    obtain ⟨rfl, N5q, e5⟩ := hQ5
    have N5 := Fr.app N4 N5q
    refine own_by (W' := (T5.setTop (mkF m 29 #[.val (.int p0), .val (.int p1), .val (.int ((p0 &&& (127 : Int32)).toUInt32.toUInt16.toUInt32.toInt32))] []))) (fun t k => XS.goto X0.here hx rfl (pc0 := 12) (pc' := 18) rfl (hb hby at_12) (by decide) (by decide) (XS.iloadN X0.here hx rfl (hb hby at_18) rfl (st4 _ (XS.iloadN X4.here hx rfl (hb hby at_22) rfl (st5 _ (XS.icmpNo X5.here hx rfl (hb hby at_26) rfl (teq (own_law _)).2 k)))))) ?_
    obtain ⟨fs, hr, hrun, hended, hW, hsame⟩ := X5.leave (v := some (.int (1 : Int32))) (fun h => by rw [Bd.returns] at h; cases h)
    refine own_by (W' := (T5.setTop (mkF m 34 #[.val (.int p0), .val (.int p1), .val (.int ((p0 &&& (127 : Int32)).toUInt32.toUInt16.toUInt32.toInt32))] [(.int (1 : Int32))]))) (fun t k => XS.iconst X5.here hx rfl (hb hby at_29) (XS.goto X5.here hx rfl (pc0 := 30) (pc' := 34) rfl (hb hby at_30) (by decide) (by decide) k)) ?_
    refine ⟨_, _, retOut X5 hx Bd.returns rfl (Or.inl ⟨rfl, Or.inr (Or.inl rfl), _, rfl⟩) (hb hby at_34) hr, hrun, hended, _, _, rfl, ?_, ⟨_, rfl⟩, hW, hsame.mono (by decide) (by decide)⟩
    exact ⟨rfl, N5⟩
set_option maxRecDepth 65536 in
set_option maxHeartbeats 40000000 in
theorem comes_1 {Post : Tables → Env → Array Value → State → Outcome → State → Prop} (hpost : ∀ tb e args s v u, (limb_1_1.after args s (.returned v) u = true ∧ limb_1_2.after args s (.returned v) u = true ∧ True) → FrameEnd s (.returned v) u (Jvm.fieldLocs frame_1_writes args s ++ Jvm.arrayLocs frame_1_arrays args s ++ Jvm.staticLocs frame_1_statics s) 0 0 → Post tb e args s (.returned v) u) :
    ArmFor flags0 classFile x code maxLocals ret World_1 tables_1 room_1 Calls_1 rest_1 Pre_1 Post := by
  intro l hfl _ _ p e ha hc hk s m args below hf hA hF happ hP
  obtain ⟨hcalls, hrest, hpre⟩ := hP
  obtain ⟨-, -, -, hnamed, -, -, -, hat⟩ := (Spec.applies_iff hf).mp happ
  obtain ⟨hg, hn⟩ := and_e (Cond.before_iff.mp (show (Jvm.Cond.and given_1 narrow_1).before args s = true from hpre))
  obtain ⟨ga1, gb1⟩ := and_e hg
  obtain ⟨ga2, gb2⟩ := and_e gb1
  obtain ⟨w0, w1, rfl⟩ : ∃ w0 w1 : Value, args = #[w0, w1] := by
    have hs : args.size = 2 := by simpa [Cond.value, given_1] using ga1
    obtain ⟨L⟩ := args
    match L, hs with
    | [w0, w1], _ => exact ⟨w0, w1, rfl⟩
  have hw := fun d (hd : d ∈ tables_1) => atoms_spec (ws := Jvm.Cond.code x code maxLocals ret :: tables_1) hat d (List.mem_cons_of_mem _ hd)
  have hfit : Fit s := fun {y c} hc i hi => by
    obtain ⟨ha, rfl⟩ := Array.getElem?_eq_some_iff.mp hc
    have q := List.all_eq_true.mp ((Array.all_eq_true_iff_forall_mem.mp hF) _ (Array.getElem_mem ha)) i (List.mem_range.mpr hi)
    simpa [Array.getElem?_eq_getElem hi] using q
  obtain ⟨i0, ei0⟩ := is_v ga2
  obtain rfl : w0 = (.int i0) := Option.some.inj ei0
  obtain ⟨i1, ei1⟩ := is_v gb2
  obtain rfl : w1 = (.int i1) := Option.some.inj ei1
  obtain ⟨n, o, h1, h2, h3, _, L, rfl, ⟨rfl, N⟩, hq⟩ := rmL l s _ hw tables_1 i0 i1 s.heap s.heap.size (Nat.le_refl _)  p e ha hc hk s m _ below hf ((Spec.applies_iff_loose hf).mp happ).1 ⟨rfl, State.Warmed39.refl s, rfl⟩ trivial
  refine ⟨n, _, h1, h2, h3, hpost _ _ _ _ _ _ ⟨Cond.after_iff.mpr rfl, Cond.after_iff.mpr (eq_i res_at (Term.int_eval (1)) rfl), trivial⟩ ⟨hq.1, hq.2.1, (hq.2.2.sift fun y hy => Or.inr (N y hy)).mono (by decide) (by decide)⟩⟩
theorem main_1_1 : Claimed_1_1 := comes_1 fun _ _ _ _ _ _ h hF => ⟨h.1, hF⟩
theorem main_1_2 : Claimed_1_2 := comes_1 fun _ _ _ _ _ _ h hF => ⟨h.2.1, hF⟩
end Jvm.Pilot.@@N@@
namespace Jvm.Pilot.@@N@@
open Jvm Jvm.ClassFile Sem Op Lib Jvm.Free Jvm.Stand Jvm.Pilot.@@N@@.Jvm.D
/-! MADE BY PROGRAM (witnessworld.py) out of the Statement's table words and the real class files: 9 classes; the members and pool entries that the words name. The judged class is class 1, her method 2. -/
namespace start1
open Jvm.ClassFile
def u (s : String) : CpInfo := .utf8 (stringToUtf16 s)
/-- a pool by its gaps: so many unusable entries, then the entry; so many at the end -/
def gap : Nat → List CpInfo → List CpInfo
  | 0, r => r
  | n + 1, r => .unusable :: gap n r
def poolList (es : List (Nat × CpInfo)) (last : Nat) : List CpInfo := es.foldr (fun e r => gap e.1 (e.2 :: r)) (gap last [])
def pool (es : List (Nat × CpInfo)) (last : Nat) : Array CpInfo := ⟨poolList es last⟩
def fileOf (pool : Array CpInfo) (this : Nat) (attrs : Array Attribute := #[]) (ms : Array MethodInfo := #[]) (fl : Nat := 33) (sup : Nat := 0) (ifs : Array Nat := #[]) (fds : Array FieldInfo := #[]) : ClassFile where
  minorVersion := 0
  majorVersion := 65
  constantPool := pool
  accessFlags := fl
  thisClass := this
  superClass := sup
  interfaces := ifs
  fields := fds
  methods := ms
  attributes := attrs
def plain (name : String) (sup : Option ClassId) : Class where
  name := name
  kind := .ordinary
  loader := none
  accessFlags := 33
  super := sup
  interfaces := #[]
  cf := none
  fields := #[]
  methods := #[]
  instanceTypes := #[]
  staticTypes := #[]
  resolved := #[]
  callSites := []
  init := .initialized
  statics := none
  mirror := none

def pool0 : Array CpInfo := pool [(5, u "<init>"), (0, u "()V"), (1, .class_ 10), (1, u "java/lang/Object")] 113

def k0m0 : Method := { name := "<init>", desc := "()V", sig := { parameters := [], returnType := none }, accessFlags := 1, code := none }
/-- java/lang/Object -/
def k0 : Class := { plain "java/lang/Object" none with
  accessFlags := 33
  interfaces := #[]
  cf := some (fileOf pool0 8 #[] #[{ accessFlags := 1, nameIndex := 5, descriptorIndex := 6, attributes := #[] }] 33 0 #[] #[])
  fields := #[]
  methods := #[k0m0]
  instanceTypes := #[]
  staticTypes := #[]
  resolved := Array.replicate 124 none
  statics := none }

def pool1 : Array CpInfo := pool [(2, .class_ 4), (1, u "java/lang/Object"), (0, u "<init>"), (0, u "()V"), (0, .class_ 8), (0, u "com/example/vast_queue/vastqueue/operations/IdentifierAllowsPinLaw"), (0, .long 287984085547089920), (1, .long 576460745995190270), (1, .methodref 14 15), (0, .class_ 16), (0, .nameAndType 17 18), (0, u "com/example/vast_queue/vastqueue/operations/Identifier"), (0, u "allows"), (0, u "(C)Z"), (0, .methodref 7 20), (0, .nameAndType 21 18), (0, u "expected"), (0, u "LOW"), (0, u "J"), (1, u "HIGH"), (3, u "law"), (0, u "(II)Z")] 2

def k1m0 : Method := { name := "<init>", desc := "()V", sig := { parameters := [], returnType := none }, accessFlags := 2, code := none }
def k1c1 : Code := { maxStack := 4, maxLocals := 2, code := method_2_code, exceptionTable := #[], attributes := #[] }
def k1m1 : Method := { name := "expected", desc := "(C)Z", sig := { parameters := [.char], returnType := some .boolean }, accessFlags := 10, code := some k1c1 }
def k1c2 : Code := { maxStack := 2, maxLocals := 3, code := code, exceptionTable := #[], attributes := #[] }
def k1m2 : Method := { name := "law", desc := "(II)Z", sig := { parameters := [.int, .int], returnType := some .boolean }, accessFlags := 9, code := some k1c2 }
/-- com/example/vast_queue/vastqueue/operations/IdentifierAllowsPinLaw -/
def k1 : Class := { plain "com/example/vast_queue/vastqueue/operations/IdentifierAllowsPinLaw" (some 0) with
  accessFlags := 49
  interfaces := #[]
  cf := some (fileOf pool1 7 #[] #[{ accessFlags := 2, nameIndex := 5, descriptorIndex := 6, attributes := #[] }, { accessFlags := 10, nameIndex := 21, descriptorIndex := 18, attributes := #[] }, { accessFlags := 9, nameIndex := 29, descriptorIndex := 30, attributes := #[] }] 49 2 #[] #[{ accessFlags := 26, nameIndex := 22, descriptorIndex := 23, attributes := #[] }, { accessFlags := 26, nameIndex := 25, descriptorIndex := 23, attributes := #[] }])
  fields := #[{ name := "LOW", type := .long, accessFlags := 26, slot := 0, constantValue := 0 }, { name := "HIGH", type := .long, accessFlags := 26, slot := 1, constantValue := 0 }]
  methods := #[k1m0, k1m1, k1m2]
  instanceTypes := #[]
  staticTypes := #[.long, .long]
  resolved := Array.replicate 33 none
  statics := none }

def pool2 : Array CpInfo := pool [(1, .class_ 2), (0, u "com/example/vast_queue/vastqueue/operations/Identifier"), (1, .class_ 6), (1, u "java/lang/Object"), (0, u "<init>"), (0, u "()V"), (16, u "allows"), (0, u "(C)Z"), (0, u "MAX_LENGTH"), (0, u "I"), (2, u "RULE"), (0, u "Ljava/lang/String;")] 9

def k2m0 : Method := { name := "<init>", desc := "()V", sig := { parameters := [], returnType := none }, accessFlags := 2, code := none }
def k2c1 : Code := { maxStack := 2, maxLocals := 1, code := prog_65_method_3_code, exceptionTable := #[], attributes := #[] }
def k2m1 : Method := { name := "allows", desc := "(C)Z", sig := { parameters := [.char], returnType := some .boolean }, accessFlags := 8, code := some k2c1 }
/-- com/example/vast_queue/vastqueue/operations/Identifier -/
def k2 : Class := { plain "com/example/vast_queue/vastqueue/operations/Identifier" (some 0) with
  accessFlags := 49
  interfaces := #[]
  cf := some (fileOf pool2 1 #[] #[{ accessFlags := 2, nameIndex := 7, descriptorIndex := 8, attributes := #[] }, { accessFlags := 8, nameIndex := 25, descriptorIndex := 26, attributes := #[] }] 49 4 #[] #[{ accessFlags := 25, nameIndex := 27, descriptorIndex := 28, attributes := #[] }, { accessFlags := 25, nameIndex := 31, descriptorIndex := 32, attributes := #[] }])
  fields := #[{ name := "MAX_LENGTH", type := .int, accessFlags := 25, slot := 0, constantValue := 0 }, { name := "RULE", type := (.object "java/lang/String"), accessFlags := 25, slot := 1, constantValue := 0 }]
  methods := #[k2m0, k2m1]
  instanceTypes := #[]
  staticTypes := #[.int, (.object "java/lang/String")]
  resolved := Array.replicate 42 none
  statics := none }

def pool3 : Array CpInfo := pool [(1, u "java/lang/Cloneable"), (0, .class_ 1), (0, u "java/lang/Object"), (0, .class_ 3)] 3

/-- java/lang/Cloneable -/
def k3 : Class := { plain "java/lang/Cloneable" (some 0) with
  accessFlags := 1537
  interfaces := #[]
  cf := some (fileOf pool3 2 #[] #[] 1537 4 #[] #[])
  fields := #[]
  methods := #[]
  instanceTypes := #[]
  staticTypes := #[]
  resolved := Array.replicate 8 none
  statics := none }

def pool4 : Array CpInfo := pool [(1, u "java/io/Serializable"), (0, .class_ 1), (0, u "java/lang/Object"), (0, .class_ 3)] 3

/-- java/io/Serializable -/
def k4 : Class := { plain "java/io/Serializable" (some 0) with
  accessFlags := 1537
  interfaces := #[]
  cf := some (fileOf pool4 2 #[] #[] 1537 4 #[] #[])
  fields := #[]
  methods := #[]
  instanceTypes := #[]
  staticTypes := #[]
  resolved := Array.replicate 8 none
  statics := none }

/-- the primitive byte -/
def k5 : Class := { plain "byte" none with kind := .primitive 'B', accessFlags := 0x411 }
/-- [B -/
def k6 : Class := { plain "[B" (some 0) with kind := .array 5 .byte, interfaces := #[3, 4], accessFlags := 1041 }

/-- the primitive int -/
def k7 : Class := { plain "int" none with kind := .primitive 'I', accessFlags := 0x411 }
/-- [I -/
def k8 : Class := { plain "[I" (some 0) with kind := .array 7 .int, interfaces := #[3, 4], accessFlags := 1041 }

def heap : Heap := #[]
def classes : Array Class := #[k0, k1, k2, k3, k4, k5, k6, k7, k8]
def interned : List (Array UInt16 × Addr) := []
def slotsUsed : Nat := 0
def theMethod : MethodId := ⟨1, 2⟩
def args0 : Array Value := #[.int 65, .int 1]
def aboutOver (below : List Frame) : State where
  vm := { classes := classes, interned := interned.toArray }
  heap := heap
  slotsUsed := slotsUsed
  threads := #[{ frames := .invoking theMethod args0 :: below }]
def below0 : List Frame := [.native { method := ⟨0, 0⟩, args := #[] }]
def about1 : State := aboutOver below0
def p0 : Program := .bare "" "" ""
def e0 : Env := launch0.env 0 0 0
theorem w_frames : about1.frames = Frame.invoking theMethod args0 :: below0 := rfl
set_option maxRecDepth 65536 in
theorem w_args : argsFit about1.vm theMethod args0 = true := by decide +kernel
set_option maxRecDepth 65536 in
theorem w_heap : heapFits about1 = true := by decide +kernel
set_option maxRecDepth 65536 in
theorem w_runnable : about1.curStatus? = some .runnable := by decide +kernel
set_option maxRecDepth 65536 in
theorem w_alone : about1.alone = true := by decide +kernel
set_option maxRecDepth 65536 in
theorem w_named : about1.methodNamed? x = some theMethod := by decide +kernel
set_option maxRecDepth 65536 in
theorem w_hears : about1.hears theMethod below0 = true := by decide +kernel
set_option maxRecDepth 65536 in
theorem w_ripe : about1.ripe theMethod args0 below0 = true := by decide +kernel
theorem w_running : about1.status = .running := rfl
set_option maxRecDepth 65536 in
theorem w_room : about1.hasRoom e0.platform room_1 = true :=
  launch0.hasRoom_least _ room_1 (by decide +kernel) (by decide +kernel) (by decide +kernel) (by decide +kernel) (by decide +kernel) (by decide +kernel)
theorem allAtoms_all (ts : List Jvm.Cond) (a : Array Jvm.Value) (st : Jvm.State) : (allAtoms ts).before a st = ts.all (fun c => c.before a st) := by
  induction ts with
  | nil => rfl
  | cons c t ih =>
    show (Jvm.Cond.and c (allAtoms t)).before a st = _
    rw [Jvm.Cond.before_and, ih, List.all_cons]
def words1 : List Jvm.Cond := Jvm.Cond.code x code maxLocals ret :: tables_1
/-- a 'code' word, met by the world's own term for the bytes: nothing is compared byte by byte -/
theorem code_word {y : MethodName} {bytes : ByteArray} {mx : Nat} {rt : Option FieldType} {a : Array Value} {s : State} {m : MethodId} {meth : Method} {c : Code} (h1 : s.methodNamed? y = some m) (h2 : s.vm.method? m = some meth) (h3 : meth.code = some c) (h4 : c.code = bytes)
    (h5 : (c.maxLocals == mx && c.exceptionTable.isEmpty && decide (c.maxStack ≤ mostOperands) && decide (meth.sig.returnType = rt) && !meth.locks && decide (parseMethodDescriptor y.desc = some meth.sig)) = true) : (Jvm.Cond.code y bytes mx rt).before a s = true := by
  simp only [Bool.and_eq_true, beq_iff_eq, Bool.not_eq_true', decide_eq_true_eq] at h5
  obtain ⟨⟨⟨⟨⟨g1, g2⟩, g3⟩, g4⟩, g5⟩, g6⟩ := h5
  simp [Cond.before, Cond.holds, Cond.value, h1, h2, h3, h4, g1, g2, g3, g4, g5, g6]
def isCode : Jvm.Cond → Bool
  | .code _ _ _ _ => true
  | _ => false
theorem all_split {L : List Jvm.Cond} {P : Jvm.Cond → Bool} (h1 : L.all (fun c => isCode c || P c) = true) (h2 : ∀ c ∈ L.filter isCode, P c = true) : L.all P = true := by
  refine List.all_eq_true.mpr fun c hc => ?_
  have h := List.all_eq_true.mp h1 c hc
  rcases Bool.eq_false_or_eq_true (isCode c) with hi | hi
  · exact h2 c (List.mem_filter.mpr ⟨hc, hi⟩)
  · simpa [hi] using h
set_option maxRecDepth 65536 in
theorem w_c0 : (Jvm.Cond.code x code maxLocals ret).before args0 about1 = true := code_word (m := ⟨1, 2⟩) (meth := k1m2) (c := k1c2) (by decide +kernel) rfl rfl rfl (by decide +kernel)
set_option maxRecDepth 65536 in
theorem w_c1 : (Jvm.Cond.code ({ cls := "com/example/vast_queue/vastqueue/operations/Identifier", name := "allows", desc := "(C)Z" } : Jvm.MethodName) prog_65_method_3_code (1 : Nat) (Option.some Jvm.ClassFile.FieldType.boolean)).before args0 about1 = true := code_word (m := ⟨2, 1⟩) (meth := k2m1) (c := k2c1) (by decide +kernel) rfl rfl rfl (by decide +kernel)
set_option maxRecDepth 65536 in
theorem w_c2 : (Jvm.Cond.code ({ cls := "com/example/vast_queue/vastqueue/operations/IdentifierAllowsPinLaw", name := "expected", desc := "(C)Z" } : Jvm.MethodName) method_2_code (2 : Nat) (Option.some Jvm.ClassFile.FieldType.boolean)).before args0 about1 = true := code_word (m := ⟨1, 1⟩) (meth := k1m1) (c := k1c1) (by decide +kernel) rfl rfl rfl (by decide +kernel)
def codes1 : List Jvm.Cond := [Jvm.Cond.code x code maxLocals ret, Jvm.Cond.code ({ cls := "com/example/vast_queue/vastqueue/operations/Identifier", name := "allows", desc := "(C)Z" } : Jvm.MethodName) prog_65_method_3_code (1 : Nat) (Option.some Jvm.ClassFile.FieldType.boolean), Jvm.Cond.code ({ cls := "com/example/vast_queue/vastqueue/operations/IdentifierAllowsPinLaw", name := "expected", desc := "(C)Z" } : Jvm.MethodName) method_2_code (2 : Nat) (Option.some Jvm.ClassFile.FieldType.boolean)]
set_option maxRecDepth 65536 in
theorem codes_eq : words1.filter isCode = codes1 := rfl
theorem w_codes : ∀ c ∈ words1.filter isCode, c.before args0 about1 = true := by
  rw [codes_eq]
  intro c hc
  simp only [codes1, List.mem_cons, List.not_mem_nil, or_false] at hc
  rcases hc with rfl | rfl | rfl
  · exact w_c0
  · exact w_c1
  · exact w_c2
set_option maxRecDepth 65536 in
theorem w_t1 : words1.all (fun c => isCode c || c.before args0 about1) = true := by decide +kernel
theorem w_tables : (allAtoms (Jvm.Cond.code x code maxLocals ret :: tables_1)).before args0 about1 = true := by
  rw [allAtoms_all]
  show words1.all (fun c => c.before args0 about1) = true
  refine all_split ?_ w_codes
  rw [w_t1]
set_option maxRecDepth 65536 in
theorem w_case : (Jvm.Cond.and given_1 narrow_1).before args0 about1 = true := by decide +kernel
theorem w_applies : (headSpec (Jvm.Cond.code x code maxLocals ret :: tables_1) room_1).applies x e0.platform about1 = true :=
  (Spec.applies_iff w_frames).mpr ⟨w_running, w_runnable, w_alone, w_named, w_hears, w_ripe, w_room, w_tables⟩
theorem atStart : AtStart classFile x code maxLocals ret World_1 tables_1 room_1 Calls_1 rest_1 Pre_1 launch0 p0 e0 about1 theMethod args0 below0 :=
  ⟨lists_1, trivial, launch0.admits_env _ _ _, launch0.least_env, fairChoices_fair.cas, fairChoices_fair.clock, w_frames, w_args, w_heap, w_applies, trivial, trivial, w_case⟩
end start1
theorem witness_1 : WitnessClaimed_1 := ⟨start1.p0, start1.e0, start1.about1, start1.theMethod, start1.args0, start1.below0, start1.atStart⟩
end Jvm.Pilot.@@N@@
