import JvmDerived
import JvmDerived.Pilot.@@N@@Statement
import JvmDerived.Pilot.@@N@@Code
set_option linter.unusedVariables false
set_option linter.unusedSimpArgs false
namespace Jvm.Pilot.@@N@@
open Jvm Jvm.ClassFile Sem Op Lib Jvm.Free Jvm.Stand Jvm.LawKit Jvm.RoadKit Bundle Jvm.Pilot.@@N@@.Jvm.D
/-- from the state W the run comes to an end of which K holds -/
abbrev own_Gl (p : Program) (e : Env) (below : List Frame) (K : Outcome → State → Prop) (W : State) : Prop := ∃ s₂ o, Steps p.tables e below W s₂ ∧ s₂.status = .running ∧ Ended s₂ below o ∧ K o s₂
theorem own_by {p : Program} {e : Env} {below : List Frame} {K : Outcome → State → Prop} {W W' : State} (st : ∀ t, Steps p.tables e below W' t → Steps p.tables e below W t) (h : own_Gl p e below K W') : own_Gl p e below K W := by
  obtain ⟨s₂, o, h1, h2⟩ := h; exact ⟨s₂, o, st _ h1, h2⟩
theorem own_tr {p : Program} {e : Env} {below : List Frame} {K : Outcome → State → Prop} {W W' : State} (st : Steps p.tables e below W W') (h : own_Gl p e below K W') : own_Gl p e below K W := own_by (fun _ k => st.trans k) h
theorem own_w {Z : State} {a0 : Array Value} (hw : ∀ d ∈ tables_1, d.before a0 Z = true) (i : Nat) {d : Jvm.Cond} (h : tables_1[i]? = some d := by rfl) : d.before a0 Z = true := hw _ (List.mem_of_getElem? h)
theorem own_le {Z : State} {n0 : Nat} {h : Heap} (O : Old Z n0 h) : n0 ≤ h.size := O.1 ▸ O.2.1
theorem own_lclt {x y : Int64} (h : x < y) : ifCond.holds .lt (lcmpW x y) = true ∧ ifCond.holds .ge (lcmpW x y) = false := by
  have h1 : ¬ x > y := fun q => by rw [Int64.lt_iff_toInt_lt] at h; have q' : y < x := q; rw [Int64.lt_iff_toInt_lt] at q'; omega
  have h2 : ¬ x = y := fun q => by subst q; rw [Int64.lt_iff_toInt_lt] at h; omega
  rw [lcmpW, if_neg h1, if_neg h2]; exact ⟨by decide, by decide⟩
theorem own_lcnlt {x y : Int64} (h : ¬ x < y) : ifCond.holds .lt (lcmpW x y) = false ∧ ifCond.holds .ge (lcmpW x y) = true := by
  by_cases h1 : x > y
  · rw [lcmpW, if_pos h1]; exact ⟨by decide, by decide⟩
  · have h2 : x = y := by
      have q1 : ¬ y < x := h1
      rw [Int64.lt_iff_toInt_lt] at h q1; exact Int64.toInt_inj.mp (by omega)
    rw [lcmpW, if_neg h1, if_pos h2]; exact ⟨by decide, by decide⟩
theorem own_lcgt {x y : Int64} (h : y < x) : ifCond.holds .gt (lcmpW x y) = true ∧ ifCond.holds .le (lcmpW x y) = false := by
  have h1 : x > y := h
  rw [lcmpW, if_pos h1]; exact ⟨by decide, by decide⟩
theorem own_lcngt {x y : Int64} (h : ¬ y < x) : ifCond.holds .gt (lcmpW x y) = false ∧ ifCond.holds .le (lcmpW x y) = true := by
  have h1 : ¬ x > y := h
  rw [lcmpW, if_neg h1]
  by_cases h2 : x = y
  · rw [if_pos h2]; exact ⟨by decide, by decide⟩
  · rw [if_neg h2]; exact ⟨by decide, by decide⟩
theorem own_lceq {x y : Int64} (h : x = y) : ifCond.holds .eq (lcmpW x y) = true ∧ ifCond.holds .ne (lcmpW x y) = false := by
  subst h
  have h1 : ¬ x > x := fun q => by have q' : x < x := q; rw [Int64.lt_iff_toInt_lt] at q'; omega
  rw [lcmpW, if_neg h1, if_pos rfl]; exact ⟨by decide, by decide⟩
theorem own_lcne {x y : Int64} (h : ¬ x = y) : ifCond.holds .eq (lcmpW x y) = false ∧ ifCond.holds .ne (lcmpW x y) = true := by
  by_cases h1 : x > y
  · rw [lcmpW, if_pos h1]; exact ⟨by decide, by decide⟩
  · rw [lcmpW, if_neg h1, if_neg h]; exact ⟨by decide, by decide⟩
theorem dprog_23_3_0 : decode prog_23_method_3_code 0 = .ok (.iload_n 0, 1) := by decide +kernel
theorem dprog_23_3_1 : decode prog_23_method_3_code 1 = .ok (.bipush 32, 2) := by decide +kernel
theorem dprog_23_3_3 : decode prog_23_method_3_code 3 = .ok (.if_icmp .eq 15, 3) := by decide +kernel
theorem dprog_23_3_6 : decode prog_23_method_3_code 6 = .ok (.iload_n 0, 1) := by decide +kernel
theorem dprog_23_3_7 : decode prog_23_method_3_code 7 = .ok (.bipush 9, 2) := by decide +kernel
theorem dprog_23_3_9 : decode prog_23_method_3_code 9 = .ok (.if_icmp .lt 13, 3) := by decide +kernel
theorem dprog_23_3_12 : decode prog_23_method_3_code 12 = .ok (.iload_n 0, 1) := by decide +kernel
theorem dprog_23_3_13 : decode prog_23_method_3_code 13 = .ok (.bipush 13, 2) := by decide +kernel
theorem dprog_23_3_15 : decode prog_23_method_3_code 15 = .ok (.if_icmp .gt 7, 3) := by decide +kernel
theorem dprog_23_3_18 : decode prog_23_method_3_code 18 = .ok (.iconst 1, 1) := by decide +kernel
theorem dprog_23_3_19 : decode prog_23_method_3_code 19 = .ok (.goto 4, 3) := by decide +kernel
theorem dprog_23_3_22 : decode prog_23_method_3_code 22 = .ok (.iconst 0, 1) := by decide +kernel
theorem dprog_23_3_23 : decode prog_23_method_3_code 23 = .ok (.ireturn, 1) := by decide +kernel
theorem pn_com_example_tagwright_tagwright_text_Hex : plainName "com/example/tagwright/tagwright/text/Hex" = true := by first | (simp [plainName, overriddenIn]; done) | decide +kernel
theorem ef1 (m : MethodId) (p0 : Int32) : entryFrame m #[(.int p0)] 1 = mkF m 0 #[.val (.int p0)] [] := by first | (simp [entryFrame, mkF, argsToLocals, Value.category]; done) | rfl
def F1 (p0 : Int32) : Int32 := (if p0 = (32 : Int32) then (1 : Int32) else (if p0 < (9 : Int32) then (0 : Int32) else (if (13 : Int32) < p0 then (0 : Int32) else (1 : Int32))))
def Q1 (Z : State) (p0 : Int32) (h0 : Heap) (n0 : Nat) (v : Option Value) (h : Heap) (L : List Loc) : Prop := v = some (.int (F1 p0)) ∧ Fr n0 L ∧ h = h0
abbrev own_K1 (Z : State) (p0 : Int32) (h0 : Heap) (n0 : Nat) (s : State) : Outcome → State → Prop := fun o U' => ∃ v L, o = .returned v ∧ Q1 Z p0 h0 n0 v U'.heap L ∧ FrameEnd s o U' L ({ frames := 0, cells := 0, slots := 0, locals := 0 } : Room).cells ({ frames := 0, cells := 0, slots := 0, locals := 0 } : Room).slots
set_option maxRecDepth 65536 in
set_option maxHeartbeats 40000000 in
theorem rm1 (l : Launch) (Z : State) (a0 : Array Value) (hw : ∀ d ∈ tables_1, d.before a0 Z = true) (ws : List Jvm.Cond) (p0 : Int32) (h0 : Heap) (n0 : Nat) (Z0 : n0 ≤ h0.size) :
    MetFree l (⟨"com/example/tagwright/tagwright/text/Hex", "isWhitespace", "(I)Z"⟩ : MethodName) (head1 (Jvm.Cond.code (⟨"com/example/tagwright/tagwright/text/Hex", "isWhitespace", "(I)Z"⟩ : MethodName) prog_23_method_3_code 1 (some .boolean) :: ws) ({ frames := 0, cells := 0, slots := 0, locals := 0 } : Room)) (fun a U => a = #[(.int p0)] ∧ Z.Warmed39 U.vm ∧ U.heap = h0) (fun _ _ _ _ _ => True) (fun _ U o U' => ∃ v L, o = .returned v ∧ Q1 Z p0 h0 n0 v U'.heap L ∧ FrameEnd U o U' L ({ frames := 0, cells := 0, slots := 0, locals := 0 } : Room).cells ({ frames := 0, cells := 0, slots := 0, locals := 0 } : Room).slots) := by
  refine MetFree.of_bodySF (plainFor_of_name pn_com_example_tagwright_tagwright_text_Hex) hisR ?_
  intro p e s m args below meth c s₁ Bd hml0 hP hK
  obtain ⟨rfl, hZ, hh⟩ := hP
  have hx := Bd.exec
  have hby := Bd.bytes
  have hml : c.maxLocals = 1 := hml0
  have hown : s.vm.findClass "com/example/tagwright/tagwright/text/Hex" = some m.cls := findClass_of_methodNamed Bd.named
  have hnm := (name_of_methodNamed Bd.named Bd.method).1
  have X0 : Stand p l e ({ frames := 0, cells := 0, slots := 0, locals := 0 } : Room) s m #[(.int p0)] below meth c s₁ [] 0 0 := Stand.of_body Bd
  have e0 : s₁.heap = h0 := by rw [← hh, Bd.state]; rfl
  have N0 := Fr.nil n0
  refine own_by (p := p) (e := e) (below := below) (K := own_K1 Z p0 h0 n0 s) (W' := s₁.setTop (mkF m 0 #[.val (.int p0)] [])) (fun t k => castTop (ef1 m p0) k) ?_
  refine own_by (W' := (s₁.setTop (mkF m 3 #[.val (.int p0)] [(.int (32 : Int32)), (.int p0)]))) (fun t k => XS.iloadN X0.here hx rfl (hb hby dprog_23_3_0) rfl (XS.bipush X0.here hx rfl (hb hby dprog_23_3_1) k)) ?_
  by_cases hc1 : p0 = (32 : Int32)
  ·
    obtain ⟨fs, hr, hrun, hended, hW, hsame⟩ := X0.leave (v := some (.int (1 : Int32))) (fun h => by rw [Bd.returns] at h; cases h)
    refine own_by (W' := (s₁.setTop (mkF m 23 #[.val (.int p0)] [(.int (1 : Int32))]))) (fun t k => XS.icmpYes X0.here hx rfl (pc0 := 3) (pc' := 18) rfl (hb hby dprog_23_3_3) rfl (teq hc1).1 (by decide) (by decide) (XS.iconst X0.here hx rfl (hb hby dprog_23_3_18) (XS.goto X0.here hx rfl (pc0 := 19) (pc' := 23) rfl (hb hby dprog_23_3_19) (by decide) (by decide) k))) ?_
    refine ⟨_, _, retOut X0 hx Bd.returns rfl (Or.inl ⟨rfl, Or.inr (Or.inl rfl), _, rfl⟩) (hb hby dprog_23_3_23) hr, hrun, hended, _, _, rfl, ?_, ⟨_, rfl⟩, hW, hsame.mono (by decide) (by decide)⟩
    refine ⟨congrArg (fun z => some (Value.int z)) ?_, N0, e0⟩
    rw [F1, if_pos hc1]
  ·
    refine own_by (W' := (s₁.setTop (mkF m 9 #[.val (.int p0)] [(.int (9 : Int32)), (.int p0)]))) (fun t k => XS.icmpNo X0.here hx rfl (hb hby dprog_23_3_3) rfl (feq hc1).1 (XS.iloadN X0.here hx rfl (hb hby dprog_23_3_6) rfl (XS.bipush X0.here hx rfl (hb hby dprog_23_3_7) k))) ?_
    by_cases hc2 : p0 < (9 : Int32)
    ·
      obtain ⟨fs, hr, hrun, hended, hW, hsame⟩ := X0.leave (v := some (.int (0 : Int32))) (fun h => by rw [Bd.returns] at h; cases h)
      refine own_by (W' := (s₁.setTop (mkF m 23 #[.val (.int p0)] [(.int (0 : Int32))]))) (fun t k => XS.icmpYes X0.here hx rfl (pc0 := 9) (pc' := 22) rfl (hb hby dprog_23_3_9) rfl (tlt hc2).1 (by decide) (by decide) (XS.iconst X0.here hx rfl (hb hby dprog_23_3_22) k)) ?_
      refine ⟨_, _, retOut X0 hx Bd.returns rfl (Or.inl ⟨rfl, Or.inr (Or.inl rfl), _, rfl⟩) (hb hby dprog_23_3_23) hr, hrun, hended, _, _, rfl, ?_, ⟨_, rfl⟩, hW, hsame.mono (by decide) (by decide)⟩
      refine ⟨congrArg (fun z => some (Value.int z)) ?_, N0, e0⟩
      rw [F1, if_neg hc1, if_pos hc2]
    ·
      refine own_by (W' := (s₁.setTop (mkF m 15 #[.val (.int p0)] [(.int (13 : Int32)), (.int p0)]))) (fun t k => XS.icmpNo X0.here hx rfl (hb hby dprog_23_3_9) rfl (flt hc2).1 (XS.iloadN X0.here hx rfl (hb hby dprog_23_3_12) rfl (XS.bipush X0.here hx rfl (hb hby dprog_23_3_13) k))) ?_
      by_cases hc3 : (13 : Int32) < p0
      ·
        obtain ⟨fs, hr, hrun, hended, hW, hsame⟩ := X0.leave (v := some (.int (0 : Int32))) (fun h => by rw [Bd.returns] at h; cases h)
        refine own_by (W' := (s₁.setTop (mkF m 23 #[.val (.int p0)] [(.int (0 : Int32))]))) (fun t k => XS.icmpYes X0.here hx rfl (pc0 := 15) (pc' := 22) rfl (hb hby dprog_23_3_15) rfl (tlt hc3).2.2.1 (by decide) (by decide) (XS.iconst X0.here hx rfl (hb hby dprog_23_3_22) k)) ?_
        refine ⟨_, _, retOut X0 hx Bd.returns rfl (Or.inl ⟨rfl, Or.inr (Or.inl rfl), _, rfl⟩) (hb hby dprog_23_3_23) hr, hrun, hended, _, _, rfl, ?_, ⟨_, rfl⟩, hW, hsame.mono (by decide) (by decide)⟩
        refine ⟨congrArg (fun z => some (Value.int z)) ?_, N0, e0⟩
        rw [F1, if_neg hc1, if_neg hc2, if_pos hc3]
      ·
        obtain ⟨fs, hr, hrun, hended, hW, hsame⟩ := X0.leave (v := some (.int (1 : Int32))) (fun h => by rw [Bd.returns] at h; cases h)
        refine own_by (W' := (s₁.setTop (mkF m 23 #[.val (.int p0)] [(.int (1 : Int32))]))) (fun t k => XS.icmpNo X0.here hx rfl (hb hby dprog_23_3_15) rfl (flt hc3).2.2.1 (XS.iconst X0.here hx rfl (hb hby dprog_23_3_18) (XS.goto X0.here hx rfl (pc0 := 19) (pc' := 23) rfl (hb hby dprog_23_3_19) (by decide) (by decide) k))) ?_
        refine ⟨_, _, retOut X0 hx Bd.returns rfl (Or.inl ⟨rfl, Or.inr (Or.inl rfl), _, rfl⟩) (hb hby dprog_23_3_23) hr, hrun, hended, _, _, rfl, ?_, ⟨_, rfl⟩, hW, hsame.mono (by decide) (by decide)⟩
        refine ⟨congrArg (fun z => some (Value.int z)) ?_, N0, e0⟩
        rw [F1, if_neg hc1, if_neg hc2, if_neg hc3]
theorem dmethod_2_0 : decode method_2_code 0 = .ok (.iload_n 0, 1) := by decide +kernel
theorem dmethod_2_1 : decode method_2_code 1 = .ok (.bipush 32, 2) := by decide +kernel
theorem dmethod_2_3 : decode method_2_code 3 = .ok (.if_icmp .eq 33, 3) := by decide +kernel
theorem dmethod_2_6 : decode method_2_code 6 = .ok (.iload_n 0, 1) := by decide +kernel
theorem dmethod_2_7 : decode method_2_code 7 = .ok (.bipush 9, 2) := by decide +kernel
theorem dmethod_2_9 : decode method_2_code 9 = .ok (.if_icmp .eq 27, 3) := by decide +kernel
theorem dmethod_2_12 : decode method_2_code 12 = .ok (.iload_n 0, 1) := by decide +kernel
theorem dmethod_2_13 : decode method_2_code 13 = .ok (.bipush 10, 2) := by decide +kernel
theorem dmethod_2_15 : decode method_2_code 15 = .ok (.if_icmp .eq 21, 3) := by decide +kernel
theorem dmethod_2_18 : decode method_2_code 18 = .ok (.iload_n 0, 1) := by decide +kernel
theorem dmethod_2_19 : decode method_2_code 19 = .ok (.bipush 11, 2) := by decide +kernel
theorem dmethod_2_21 : decode method_2_code 21 = .ok (.if_icmp .eq 15, 3) := by decide +kernel
theorem dmethod_2_24 : decode method_2_code 24 = .ok (.iload_n 0, 1) := by decide +kernel
theorem dmethod_2_25 : decode method_2_code 25 = .ok (.bipush 12, 2) := by decide +kernel
theorem dmethod_2_27 : decode method_2_code 27 = .ok (.if_icmp .eq 9, 3) := by decide +kernel
theorem dmethod_2_30 : decode method_2_code 30 = .ok (.iload_n 0, 1) := by decide +kernel
theorem dmethod_2_31 : decode method_2_code 31 = .ok (.bipush 13, 2) := by decide +kernel
theorem dmethod_2_33 : decode method_2_code 33 = .ok (.if_icmp .ne 7, 3) := by decide +kernel
theorem dmethod_2_36 : decode method_2_code 36 = .ok (.iconst 1, 1) := by decide +kernel
theorem dmethod_2_37 : decode method_2_code 37 = .ok (.goto 4, 3) := by decide +kernel
theorem dmethod_2_40 : decode method_2_code 40 = .ok (.iconst 0, 1) := by decide +kernel
theorem dmethod_2_41 : decode method_2_code 41 = .ok (.ireturn, 1) := by decide +kernel
theorem pn_com_example_tagwright_tagwright_text_HexIsWhitespacePinLaw : plainName "com/example/tagwright/tagwright/text/HexIsWhitespacePinLaw" = true := by first | (simp [plainName, overriddenIn]; done) | decide +kernel
theorem ef2 (m : MethodId) (p0 : Int32) : entryFrame m #[(.int p0)] 1 = mkF m 0 #[.val (.int p0)] [] := by first | (simp [entryFrame, mkF, argsToLocals, Value.category]; done) | rfl
def F2 (p0 : Int32) : Int32 := (if p0 = (32 : Int32) then (1 : Int32) else (if p0 = (9 : Int32) then (1 : Int32) else (if p0 = (10 : Int32) then (1 : Int32) else (if p0 = (11 : Int32) then (1 : Int32) else (if p0 = (12 : Int32) then (1 : Int32) else (if p0 = (13 : Int32) then (1 : Int32) else (0 : Int32)))))))
def Q2 (Z : State) (p0 : Int32) (h0 : Heap) (n0 : Nat) (v : Option Value) (h : Heap) (L : List Loc) : Prop := v = some (.int (F2 p0)) ∧ Fr n0 L ∧ h = h0
abbrev own_K2 (Z : State) (p0 : Int32) (h0 : Heap) (n0 : Nat) (s : State) : Outcome → State → Prop := fun o U' => ∃ v L, o = .returned v ∧ Q2 Z p0 h0 n0 v U'.heap L ∧ FrameEnd s o U' L ({ frames := 0, cells := 0, slots := 0, locals := 0 } : Room).cells ({ frames := 0, cells := 0, slots := 0, locals := 0 } : Room).slots
set_option maxRecDepth 65536 in
set_option maxHeartbeats 40000000 in
theorem rm2 (l : Launch) (Z : State) (a0 : Array Value) (hw : ∀ d ∈ tables_1, d.before a0 Z = true) (ws : List Jvm.Cond) (p0 : Int32) (h0 : Heap) (n0 : Nat) (Z0 : n0 ≤ h0.size) :
    MetFree l (⟨"com/example/tagwright/tagwright/text/HexIsWhitespacePinLaw", "expected", "(I)Z"⟩ : MethodName) (head1 (Jvm.Cond.code (⟨"com/example/tagwright/tagwright/text/HexIsWhitespacePinLaw", "expected", "(I)Z"⟩ : MethodName) method_2_code 1 (some .boolean) :: ws) ({ frames := 0, cells := 0, slots := 0, locals := 0 } : Room)) (fun a U => a = #[(.int p0)] ∧ Z.Warmed39 U.vm ∧ U.heap = h0) (fun _ _ _ _ _ => True) (fun _ U o U' => ∃ v L, o = .returned v ∧ Q2 Z p0 h0 n0 v U'.heap L ∧ FrameEnd U o U' L ({ frames := 0, cells := 0, slots := 0, locals := 0 } : Room).cells ({ frames := 0, cells := 0, slots := 0, locals := 0 } : Room).slots) := by
  refine MetFree.of_bodySF (plainFor_of_name pn_com_example_tagwright_tagwright_text_HexIsWhitespacePinLaw) hisR ?_
  intro p e s m args below meth c s₁ Bd hml0 hP hK
  obtain ⟨rfl, hZ, hh⟩ := hP
  have hx := Bd.exec
  have hby := Bd.bytes
  have hml : c.maxLocals = 1 := hml0
  have hown : s.vm.findClass "com/example/tagwright/tagwright/text/HexIsWhitespacePinLaw" = some m.cls := findClass_of_methodNamed Bd.named
  have hnm := (name_of_methodNamed Bd.named Bd.method).1
  have X0 : Stand p l e ({ frames := 0, cells := 0, slots := 0, locals := 0 } : Room) s m #[(.int p0)] below meth c s₁ [] 0 0 := Stand.of_body Bd
  have e0 : s₁.heap = h0 := by rw [← hh, Bd.state]; rfl
  have N0 := Fr.nil n0
  refine own_by (p := p) (e := e) (below := below) (K := own_K2 Z p0 h0 n0 s) (W' := s₁.setTop (mkF m 0 #[.val (.int p0)] [])) (fun t k => castTop (ef2 m p0) k) ?_
  refine own_by (W' := (s₁.setTop (mkF m 3 #[.val (.int p0)] [(.int (32 : Int32)), (.int p0)]))) (fun t k => XS.iloadN X0.here hx rfl (hb hby dmethod_2_0) rfl (XS.bipush X0.here hx rfl (hb hby dmethod_2_1) k)) ?_
  by_cases hc1 : p0 = (32 : Int32)
  ·
    obtain ⟨fs, hr, hrun, hended, hW, hsame⟩ := X0.leave (v := some (.int (1 : Int32))) (fun h => by rw [Bd.returns] at h; cases h)
    refine own_by (W' := (s₁.setTop (mkF m 41 #[.val (.int p0)] [(.int (1 : Int32))]))) (fun t k => XS.icmpYes X0.here hx rfl (pc0 := 3) (pc' := 36) rfl (hb hby dmethod_2_3) rfl (teq hc1).1 (by decide) (by decide) (XS.iconst X0.here hx rfl (hb hby dmethod_2_36) (XS.goto X0.here hx rfl (pc0 := 37) (pc' := 41) rfl (hb hby dmethod_2_37) (by decide) (by decide) k))) ?_
    refine ⟨_, _, retOut X0 hx Bd.returns rfl (Or.inl ⟨rfl, Or.inr (Or.inl rfl), _, rfl⟩) (hb hby dmethod_2_41) hr, hrun, hended, _, _, rfl, ?_, ⟨_, rfl⟩, hW, hsame.mono (by decide) (by decide)⟩
    refine ⟨congrArg (fun z => some (Value.int z)) ?_, N0, e0⟩
    rw [F2, if_pos hc1]
  ·
    refine own_by (W' := (s₁.setTop (mkF m 9 #[.val (.int p0)] [(.int (9 : Int32)), (.int p0)]))) (fun t k => XS.icmpNo X0.here hx rfl (hb hby dmethod_2_3) rfl (feq hc1).1 (XS.iloadN X0.here hx rfl (hb hby dmethod_2_6) rfl (XS.bipush X0.here hx rfl (hb hby dmethod_2_7) k))) ?_
    by_cases hc2 : p0 = (9 : Int32)
    ·
      obtain ⟨fs, hr, hrun, hended, hW, hsame⟩ := X0.leave (v := some (.int (1 : Int32))) (fun h => by rw [Bd.returns] at h; cases h)
      refine own_by (W' := (s₁.setTop (mkF m 41 #[.val (.int p0)] [(.int (1 : Int32))]))) (fun t k => XS.icmpYes X0.here hx rfl (pc0 := 9) (pc' := 36) rfl (hb hby dmethod_2_9) rfl (teq hc2).1 (by decide) (by decide) (XS.iconst X0.here hx rfl (hb hby dmethod_2_36) (XS.goto X0.here hx rfl (pc0 := 37) (pc' := 41) rfl (hb hby dmethod_2_37) (by decide) (by decide) k))) ?_
      refine ⟨_, _, retOut X0 hx Bd.returns rfl (Or.inl ⟨rfl, Or.inr (Or.inl rfl), _, rfl⟩) (hb hby dmethod_2_41) hr, hrun, hended, _, _, rfl, ?_, ⟨_, rfl⟩, hW, hsame.mono (by decide) (by decide)⟩
      refine ⟨congrArg (fun z => some (Value.int z)) ?_, N0, e0⟩
      rw [F2, if_neg hc1, if_pos hc2]
    ·
      refine own_by (W' := (s₁.setTop (mkF m 15 #[.val (.int p0)] [(.int (10 : Int32)), (.int p0)]))) (fun t k => XS.icmpNo X0.here hx rfl (hb hby dmethod_2_9) rfl (feq hc2).1 (XS.iloadN X0.here hx rfl (hb hby dmethod_2_12) rfl (XS.bipush X0.here hx rfl (hb hby dmethod_2_13) k))) ?_
      by_cases hc3 : p0 = (10 : Int32)
      ·
        obtain ⟨fs, hr, hrun, hended, hW, hsame⟩ := X0.leave (v := some (.int (1 : Int32))) (fun h => by rw [Bd.returns] at h; cases h)
        refine own_by (W' := (s₁.setTop (mkF m 41 #[.val (.int p0)] [(.int (1 : Int32))]))) (fun t k => XS.icmpYes X0.here hx rfl (pc0 := 15) (pc' := 36) rfl (hb hby dmethod_2_15) rfl (teq hc3).1 (by decide) (by decide) (XS.iconst X0.here hx rfl (hb hby dmethod_2_36) (XS.goto X0.here hx rfl (pc0 := 37) (pc' := 41) rfl (hb hby dmethod_2_37) (by decide) (by decide) k))) ?_
        refine ⟨_, _, retOut X0 hx Bd.returns rfl (Or.inl ⟨rfl, Or.inr (Or.inl rfl), _, rfl⟩) (hb hby dmethod_2_41) hr, hrun, hended, _, _, rfl, ?_, ⟨_, rfl⟩, hW, hsame.mono (by decide) (by decide)⟩
        refine ⟨congrArg (fun z => some (Value.int z)) ?_, N0, e0⟩
        rw [F2, if_neg hc1, if_neg hc2, if_pos hc3]
      ·
        refine own_by (W' := (s₁.setTop (mkF m 21 #[.val (.int p0)] [(.int (11 : Int32)), (.int p0)]))) (fun t k => XS.icmpNo X0.here hx rfl (hb hby dmethod_2_15) rfl (feq hc3).1 (XS.iloadN X0.here hx rfl (hb hby dmethod_2_18) rfl (XS.bipush X0.here hx rfl (hb hby dmethod_2_19) k))) ?_
        by_cases hc4 : p0 = (11 : Int32)
        ·
          obtain ⟨fs, hr, hrun, hended, hW, hsame⟩ := X0.leave (v := some (.int (1 : Int32))) (fun h => by rw [Bd.returns] at h; cases h)
          refine own_by (W' := (s₁.setTop (mkF m 41 #[.val (.int p0)] [(.int (1 : Int32))]))) (fun t k => XS.icmpYes X0.here hx rfl (pc0 := 21) (pc' := 36) rfl (hb hby dmethod_2_21) rfl (teq hc4).1 (by decide) (by decide) (XS.iconst X0.here hx rfl (hb hby dmethod_2_36) (XS.goto X0.here hx rfl (pc0 := 37) (pc' := 41) rfl (hb hby dmethod_2_37) (by decide) (by decide) k))) ?_
          refine ⟨_, _, retOut X0 hx Bd.returns rfl (Or.inl ⟨rfl, Or.inr (Or.inl rfl), _, rfl⟩) (hb hby dmethod_2_41) hr, hrun, hended, _, _, rfl, ?_, ⟨_, rfl⟩, hW, hsame.mono (by decide) (by decide)⟩
          refine ⟨congrArg (fun z => some (Value.int z)) ?_, N0, e0⟩
          rw [F2, if_neg hc1, if_neg hc2, if_neg hc3, if_pos hc4]
        ·
          refine own_by (W' := (s₁.setTop (mkF m 27 #[.val (.int p0)] [(.int (12 : Int32)), (.int p0)]))) (fun t k => XS.icmpNo X0.here hx rfl (hb hby dmethod_2_21) rfl (feq hc4).1 (XS.iloadN X0.here hx rfl (hb hby dmethod_2_24) rfl (XS.bipush X0.here hx rfl (hb hby dmethod_2_25) k))) ?_
          by_cases hc5 : p0 = (12 : Int32)
          ·
            obtain ⟨fs, hr, hrun, hended, hW, hsame⟩ := X0.leave (v := some (.int (1 : Int32))) (fun h => by rw [Bd.returns] at h; cases h)
            refine own_by (W' := (s₁.setTop (mkF m 41 #[.val (.int p0)] [(.int (1 : Int32))]))) (fun t k => XS.icmpYes X0.here hx rfl (pc0 := 27) (pc' := 36) rfl (hb hby dmethod_2_27) rfl (teq hc5).1 (by decide) (by decide) (XS.iconst X0.here hx rfl (hb hby dmethod_2_36) (XS.goto X0.here hx rfl (pc0 := 37) (pc' := 41) rfl (hb hby dmethod_2_37) (by decide) (by decide) k))) ?_
            refine ⟨_, _, retOut X0 hx Bd.returns rfl (Or.inl ⟨rfl, Or.inr (Or.inl rfl), _, rfl⟩) (hb hby dmethod_2_41) hr, hrun, hended, _, _, rfl, ?_, ⟨_, rfl⟩, hW, hsame.mono (by decide) (by decide)⟩
            refine ⟨congrArg (fun z => some (Value.int z)) ?_, N0, e0⟩
            rw [F2, if_neg hc1, if_neg hc2, if_neg hc3, if_neg hc4, if_pos hc5]
          ·
            refine own_by (W' := (s₁.setTop (mkF m 33 #[.val (.int p0)] [(.int (13 : Int32)), (.int p0)]))) (fun t k => XS.icmpNo X0.here hx rfl (hb hby dmethod_2_27) rfl (feq hc5).1 (XS.iloadN X0.here hx rfl (hb hby dmethod_2_30) rfl (XS.bipush X0.here hx rfl (hb hby dmethod_2_31) k))) ?_
            by_cases hc6 : p0 = (13 : Int32)
            ·
              obtain ⟨fs, hr, hrun, hended, hW, hsame⟩ := X0.leave (v := some (.int (1 : Int32))) (fun h => by rw [Bd.returns] at h; cases h)
              refine own_by (W' := (s₁.setTop (mkF m 41 #[.val (.int p0)] [(.int (1 : Int32))]))) (fun t k => XS.icmpNo X0.here hx rfl (hb hby dmethod_2_33) rfl (teq hc6).2 (XS.iconst X0.here hx rfl (hb hby dmethod_2_36) (XS.goto X0.here hx rfl (pc0 := 37) (pc' := 41) rfl (hb hby dmethod_2_37) (by decide) (by decide) k))) ?_
              refine ⟨_, _, retOut X0 hx Bd.returns rfl (Or.inl ⟨rfl, Or.inr (Or.inl rfl), _, rfl⟩) (hb hby dmethod_2_41) hr, hrun, hended, _, _, rfl, ?_, ⟨_, rfl⟩, hW, hsame.mono (by decide) (by decide)⟩
              refine ⟨congrArg (fun z => some (Value.int z)) ?_, N0, e0⟩
              rw [F2, if_neg hc1, if_neg hc2, if_neg hc3, if_neg hc4, if_neg hc5, if_pos hc6]
            ·
              obtain ⟨fs, hr, hrun, hended, hW, hsame⟩ := X0.leave (v := some (.int (0 : Int32))) (fun h => by rw [Bd.returns] at h; cases h)
              refine own_by (W' := (s₁.setTop (mkF m 41 #[.val (.int p0)] [(.int (0 : Int32))]))) (fun t k => XS.icmpYes X0.here hx rfl (pc0 := 33) (pc' := 40) rfl (hb hby dmethod_2_33) rfl (feq hc6).2 (by decide) (by decide) (XS.iconst X0.here hx rfl (hb hby dmethod_2_40) k)) ?_
              refine ⟨_, _, retOut X0 hx Bd.returns rfl (Or.inl ⟨rfl, Or.inr (Or.inl rfl), _, rfl⟩) (hb hby dmethod_2_41) hr, hrun, hended, _, _, rfl, ?_, ⟨_, rfl⟩, hW, hsame.mono (by decide) (by decide)⟩
              refine ⟨congrArg (fun z => some (Value.int z)) ?_, N0, e0⟩
              rw [F2, if_neg hc1, if_neg hc2, if_neg hc3, if_neg hc4, if_neg hc5, if_neg hc6]
theorem own_t9 : (9 : Int32).toInt = 9 := rfl
theorem own_t10 : (10 : Int32).toInt = 10 := rfl
theorem own_t11 : (11 : Int32).toInt = 11 := rfl
theorem own_t12 : (12 : Int32).toInt = 12 := rfl
theorem own_t13 : (13 : Int32).toInt = 13 := rfl
theorem own_t32 : (32 : Int32).toInt = 32 := rfl
theorem own_law (p : Int32) : F1 p = F2 p := by
  simp only [F1, F2, Int32.lt_iff_toInt_lt, ← Int32.toInt_inj, own_t9, own_t10, own_t11, own_t12, own_t13, own_t32]
  repeat' split
  all_goals first | rfl | (exfalso; omega)

theorem pd_1 : parseMethodDescriptor "(I)Z" = some ⟨[.int], some .boolean⟩ := by decide +kernel
theorem dmethod_3_0 : decode method_3_code 0 = .ok (.iload_n 0, 1) := by decide +kernel
theorem dmethod_3_1 : decode method_3_code 1 = .ok (.invokestatic 7, 3) := by decide +kernel
theorem dmethod_3_4 : decode method_3_code 4 = .ok (.iload_n 0, 1) := by decide +kernel
theorem dmethod_3_5 : decode method_3_code 5 = .ok (.invokestatic 13, 3) := by decide +kernel
theorem dmethod_3_8 : decode method_3_code 8 = .ok (.if_icmp .ne 7, 3) := by decide +kernel
theorem dmethod_3_11 : decode method_3_code 11 = .ok (.iconst 1, 1) := by decide +kernel
theorem dmethod_3_12 : decode method_3_code 12 = .ok (.goto 4, 3) := by decide +kernel
theorem dmethod_3_16 : decode method_3_code 16 = .ok (.ireturn, 1) := by decide +kernel
theorem ef3 (m : MethodId) (p0 : Int32) : entryFrame m #[(.int p0)] 1 = mkF m 0 #[.val (.int p0)] [] := by first | (simp [entryFrame, mkF, argsToLocals, Value.category]; done) | rfl
def Q3 (Z : State) (p0 : Int32) (h0 : Heap) (n0 : Nat) (v : Option Value) (h : Heap) (L : List Loc) : Prop := v = some (.int (1 : Int32)) ∧ Fr n0 L ∧ h = h0
abbrev own_K3 (Z : State) (p0 : Int32) (h0 : Heap) (n0 : Nat) (s : State) : Outcome → State → Prop := fun o U' => ∃ v L, o = .returned v ∧ Q3 Z p0 h0 n0 v U'.heap L ∧ FrameEnd s o U' L ({ frames := 1, cells := 0, slots := 0, locals := 13 } : Room).cells ({ frames := 1, cells := 0, slots := 0, locals := 13 } : Room).slots
set_option maxRecDepth 65536 in
set_option maxHeartbeats 40000000 in
theorem rm3 (l : Launch) (Z : State) (a0 : Array Value) (hw : ∀ d ∈ tables_1, d.before a0 Z = true) (ws : List Jvm.Cond) (p0 : Int32) (h0 : Heap) (n0 : Nat) (Z0 : n0 ≤ h0.size) :
    MetFree l (⟨"com/example/tagwright/tagwright/text/HexIsWhitespacePinLaw", "check", "(I)Z"⟩ : MethodName) (head1 (Jvm.Cond.code (⟨"com/example/tagwright/tagwright/text/HexIsWhitespacePinLaw", "check", "(I)Z"⟩ : MethodName) method_3_code 1 (some .boolean) :: ws) ({ frames := 1, cells := 0, slots := 0, locals := 13 } : Room)) (fun a U => a = #[(.int p0)] ∧ Z.Warmed39 U.vm ∧ U.heap = h0) (fun _ _ _ _ _ => True) (fun _ U o U' => ∃ v L, o = .returned v ∧ Q3 Z p0 h0 n0 v U'.heap L ∧ FrameEnd U o U' L ({ frames := 1, cells := 0, slots := 0, locals := 13 } : Room).cells ({ frames := 1, cells := 0, slots := 0, locals := 13 } : Room).slots) := by
  refine MetFree.of_bodySF (plainFor_of_name pn_com_example_tagwright_tagwright_text_HexIsWhitespacePinLaw) hisR ?_
  intro p e s m args below meth c s₁ Bd hml0 hP hK
  obtain ⟨rfl, hZ, hh⟩ := hP
  have hx := Bd.exec
  have hby := Bd.bytes
  have hml : c.maxLocals = 1 := hml0
  have hown : s.vm.findClass "com/example/tagwright/tagwright/text/HexIsWhitespacePinLaw" = some m.cls := findClass_of_methodNamed Bd.named
  have hnm := (name_of_methodNamed Bd.named Bd.method).1
  have X0 : Stand p l e ({ frames := 1, cells := 0, slots := 0, locals := 13 } : Room) s m #[(.int p0)] below meth c s₁ [] 0 0 := Stand.of_body Bd
  have e0 : s₁.heap = h0 := by rw [← hh, Bd.state]; rfl
  have N0 := Fr.nil n0
  refine own_by (p := p) (e := e) (below := below) (K := own_K3 Z p0 h0 n0 s) (W' := s₁.setTop (mkF m 0 #[.val (.int p0)] [])) (fun t k => castTop (ef3 m p0) k) ?_
  obtain ⟨_, _, ⟨T1, L1, k1, n1⟩, -, X1, ⟨Lc1, hQ1, l1, y1, z1⟩, st1⟩ := Jvm.LawKit.callS X0 hx (y := (⟨"com/example/tagwright/tagwright/text/Hex", "isWhitespace", "(I)Z"⟩ : MethodName)) hown (mvT hZ (own_w hw 4)) (mvT hZ (own_w hw 5)) (mvT hZ (own_w hw 6)) (mvT hZ (own_w hw 7)) (by decide) (backOf (W := 0) (rm1 l Z a0 hw [] p0 h0 n0 Z0 ) hZ (own_w hw 7) (own_w hw 6) (by decide) (by decide)) (g := (mkF m 1 #[.val (.int p0)] [(.int p0)])) rfl (by rw [hml]; rfl) (argsL := [(.int p0)]) (rest := []) (lenOf pd_1 rfl) rfl (by show 2 * 0 + _ ≤ _; exact Nat.le_of_eq rfl) (hb hby dmethod_3_1) (fun _ _ => ⟨rfl, e0, (by decide : 0 + 0 ≤ _), (by decide : 0 + 0 ≤ _)⟩)
  dsimp only [Pt.U, Pt.locs, Pt.cells, Pt.slots] at X1 l1 y1 z1 st1 hQ1
  subst l1 y1 z1
  obtain ⟨rfl, N1q, e1⟩ := hQ1
  have N1 := Fr.app N0 N1q
  obtain ⟨_, _, ⟨T2, L2, k2, n2⟩, -, X2, ⟨Lc2, hQ2, l2, y2, z2⟩, st2⟩ := Jvm.LawKit.callS X1 hx (y := (⟨"com/example/tagwright/tagwright/text/HexIsWhitespacePinLaw", "expected", "(I)Z"⟩ : MethodName)) hown (mvT hZ (own_w hw 8)) (mvT hZ (own_w hw 9)) (mvT hZ (own_w hw 2)) (mvT hZ (own_w hw 10)) (by decide) (backOf (W := 1) (rm2 l Z a0 hw [] p0 h0 n0 Z0 ) hZ (own_w hw 10) (own_w hw 2) (by decide) (by decide)) (g := (mkF m 5 #[.val (.int p0)] [(.int p0), (.int (F1 p0))])) rfl (by rw [hml]; rfl) (argsL := [(.int p0)]) (rest := [(.int (F1 p0))]) (lenOf pd_1 rfl) rfl (by show 2 * 0 + _ ≤ _; exact Nat.le_of_eq rfl) (hb hby dmethod_3_5) (fun _ _ => ⟨rfl, e1, (by decide : 0 + 0 ≤ _), (by decide : 0 + 0 ≤ _)⟩)
  dsimp only [Pt.U, Pt.locs, Pt.cells, Pt.slots] at X2 l2 y2 z2 st2 hQ2
  subst l2 y2 z2
  obtain ⟨rfl, N2q, e2⟩ := hQ2
  have N2 := Fr.app N1 N2q
  refine own_by (W' := (T2.setTop (mkF m 12 #[.val (.int p0)] [(.int (1 : Int32))]))) (fun t k => XS.iloadN X0.here hx rfl (hb hby dmethod_3_0) rfl (st1 _ (XS.iloadN X1.here hx rfl (hb hby dmethod_3_4) rfl (st2 _ (XS.icmpNo X2.here hx rfl (hb hby dmethod_3_8) rfl (teq (own_law _)).2 (XS.iconst X2.here hx rfl (hb hby dmethod_3_11) k)))))) ?_
  obtain ⟨fs, hr, hrun, hended, hW, hsame⟩ := X2.leave (v := some (.int (1 : Int32))) (fun h => by rw [Bd.returns] at h; cases h)
  refine own_by (W' := (T2.setTop (mkF m 16 #[.val (.int p0)] [(.int (1 : Int32))]))) (fun t k => XS.goto X2.here hx rfl (pc0 := 12) (pc' := 16) rfl (hb hby dmethod_3_12) (by decide) (by decide) k) ?_
  refine ⟨_, _, retOut X2 hx Bd.returns rfl (Or.inl ⟨rfl, Or.inr (Or.inl rfl), _, rfl⟩) (hb hby dmethod_3_16) hr, hrun, hended, _, _, rfl, ?_, ⟨_, rfl⟩, hW, hsame.mono (by decide) (by decide)⟩
  exact ⟨rfl, N2, e2⟩
theorem efL (m : MethodId) (p0 : Int32) (p1 : Int32) : entryFrame m #[(.int p0), (.int p1)] maxLocals = mkF m 0 #[.val (.int p0), .val (.int p1), .unset, .unset] [] := by first | (simp [entryFrame, mkF, argsToLocals, Value.category, maxLocals]; done) | rfl
def QL (Z : State) (p0 : Int32) (p1 : Int32) (h0 : Heap) (n0 : Nat) (v : Option Value) (h : Heap) (L : List Loc) : Prop := v = some (.int 1) ∧ Fr n0 L
abbrev own_KL (Z : State) (p0 : Int32) (p1 : Int32) (h0 : Heap) (n0 : Nat) (s : State) : Outcome → State → Prop := fun o U' => ∃ v L, o = .returned v ∧ QL Z p0 p1 h0 n0 v U'.heap L ∧ FrameEnd s o U' L room_1.cells room_1.slots
set_option maxRecDepth 65536 in
set_option maxHeartbeats 40000000 in
theorem rmL (l : Launch) (Z : State) (a0 : Array Value) (hw : ∀ d ∈ tables_1, d.before a0 Z = true) (ws : List Jvm.Cond) (p0 : Int32) (p1 : Int32) (h0 : Heap) (n0 : Nat) (Z0 : n0 ≤ h0.size) :
    MetFree l x (head1 (Jvm.Cond.code x code maxLocals ret :: ws) room_1) (fun a U => a = #[(.int p0), (.int p1)] ∧ Z.Warmed39 U.vm ∧ U.heap = h0) (fun _ _ _ _ _ => True) (fun _ U o U' => ∃ v L, o = .returned v ∧ QL Z p0 p1 h0 n0 v U'.heap L ∧ FrameEnd U o U' L room_1.cells room_1.slots) := by
  refine MetFree.of_bodySF (plainFor_of_name pn_com_example_tagwright_tagwright_text_HexIsWhitespacePinLaw) hisR ?_
  intro p e s m args below meth c s₁ Bd hml0 hP hK
  obtain ⟨rfl, hZ, hh⟩ := hP
  have hx := Bd.exec
  have hby := Bd.bytes
  have hml : c.maxLocals = 4 := hml0
  have hown : s.vm.findClass "com/example/tagwright/tagwright/text/HexIsWhitespacePinLaw" = some m.cls := findClass_of_methodNamed Bd.named
  have hnm := (name_of_methodNamed Bd.named Bd.method).1
  have X0 : Stand p l e room_1 s m #[(.int p0), (.int p1)] below meth c s₁ [] 0 0 := Stand.of_body Bd
  have e0 : s₁.heap = h0 := by rw [← hh, Bd.state]; rfl
  have N0 := Fr.nil n0
  refine own_by (p := p) (e := e) (below := below) (K := own_KL Z p0 p1 h0 n0 s) (W' := s₁.setTop (mkF m 0 #[.val (.int p0), .val (.int p1), .unset, .unset] [])) (fun t k => castTop (efL m p0 p1) k) ?_
  refine own_by (W' := (s₁.setTop (mkF m 8 #[.val (.int p0), .val (.int p1), .val (.int ((7 : Int32) + (p1 &&& (31 : Int32)))), .unset] []))) (fun t k => XS.bipush X0.here hx rfl (hb hby at_0) (XS.iloadN X0.here hx rfl (hb hby at_2) rfl (XS.bipush X0.here hx rfl (hb hby at_3) (XS.iand X0.here hx rfl (hb hby at_5) rfl (XS.iadd X0.here hx rfl (hb hby at_6) rfl (XS.istoreN X0.here hx rfl (hb hby at_7) rfl (l' := #[.val (.int p0), .val (.int p1), .val (.int ((7 : Int32) + (p1 &&& (31 : Int32)))), .unset]) rfl k)))))) ?_
  obtain ⟨_, _, ⟨T1, L1, k1, n1⟩, -, X1, ⟨Lc1, hQ1, l1, y1, z1⟩, st1⟩ := Jvm.LawKit.callS X0 hx (y := (⟨"com/example/tagwright/tagwright/text/HexIsWhitespacePinLaw", "check", "(I)Z"⟩ : MethodName)) hown (mvT hZ (own_w hw 0)) (mvT hZ (own_w hw 1)) (mvT hZ (own_w hw 2)) (mvT hZ (own_w hw 3)) (by decide) (backOf (W := 0) (rm3 l Z a0 hw [] p0 h0 n0 Z0 ) hZ (own_w hw 3) (own_w hw 2) (by decide) (by decide)) (g := (mkF m 15 #[.val (.int p0), .val (.int p1), .val (.int ((7 : Int32) + (p1 &&& (31 : Int32)))), .val (.int (p0 &&& (255 : Int32)))] [(.int p0)])) rfl (by rw [hml]; rfl) (argsL := [(.int p0)]) (rest := []) (lenOf pd_1 rfl) rfl (by show 2 * 0 + _ ≤ _; exact Nat.le_of_eq rfl) (hb hby at_15) (fun _ _ => ⟨rfl, e0, (by decide : 0 + 0 ≤ _), (by decide : 0 + 0 ≤ _)⟩)
  dsimp only [Pt.U, Pt.locs, Pt.cells, Pt.slots] at X1 l1 y1 z1 st1 hQ1
  subst l1 y1 z1
  obtain ⟨rfl, N1q, e1⟩ := hQ1
  have N1 := Fr.app N0 N1q
  refine own_by (W' := (T1.setTop (mkF m 18 #[.val (.int p0), .val (.int p1), .val (.int ((7 : Int32) + (p1 &&& (31 : Int32)))), .val (.int (p0 &&& (255 : Int32)))] [(.int (1 : Int32))]))) (fun t k => XS.iloadN X0.here hx rfl (hb hby at_8) rfl (XS.sipush X0.here hx rfl (hb hby at_9) (XS.iand X0.here hx rfl (hb hby at_12) rfl (XS.istoreN X0.here hx rfl (hb hby at_13) rfl (l' := #[.val (.int p0), .val (.int p1), .val (.int ((7 : Int32) + (p1 &&& (31 : Int32)))), .val (.int (p0 &&& (255 : Int32)))]) rfl (XS.iloadN X0.here hx rfl (hb hby at_14) rfl (st1 _ k)))))) ?_
  obtain ⟨_, _, ⟨T2, L2, k2, n2⟩, -, X2, ⟨Lc2, hQ2, l2, y2, z2⟩, st2⟩ := Jvm.LawKit.callS X1 hx (y := (⟨"com/example/tagwright/tagwright/text/HexIsWhitespacePinLaw", "check", "(I)Z"⟩ : MethodName)) hown (mvT hZ (own_w hw 0)) (mvT hZ (own_w hw 1)) (mvT hZ (own_w hw 2)) (mvT hZ (own_w hw 3)) (by decide) (backOf (W := 0) (rm3 l Z a0 hw [] ((7 : Int32) + (p1 &&& (31 : Int32))) h0 n0 Z0 ) hZ (own_w hw 3) (own_w hw 2) (by decide) (by decide)) (g := (mkF m 22 #[.val (.int p0), .val (.int p1), .val (.int ((7 : Int32) + (p1 &&& (31 : Int32)))), .val (.int (p0 &&& (255 : Int32)))] [(.int ((7 : Int32) + (p1 &&& (31 : Int32))))])) rfl (by rw [hml]; rfl) (argsL := [(.int ((7 : Int32) + (p1 &&& (31 : Int32))))]) (rest := []) (lenOf pd_1 rfl) rfl (by show 2 * 0 + _ ≤ _; exact Nat.le_of_eq rfl) (hb hby at_22) (fun _ _ => ⟨rfl, e1, (by decide : 0 + 0 ≤ _), (by decide : 0 + 0 ≤ _)⟩)
  dsimp only [Pt.U, Pt.locs, Pt.cells, Pt.slots] at X2 l2 y2 z2 st2 hQ2
  subst l2 y2 z2
  obtain ⟨rfl, N2q, e2⟩ := hQ2
  have N2 := Fr.app N1 N2q
  obtain ⟨_, _, ⟨T3, L3, k3, n3⟩, -, X3, ⟨Lc3, hQ3, l3, y3, z3⟩, st3⟩ := Jvm.LawKit.callS X2 hx (y := (⟨"com/example/tagwright/tagwright/text/HexIsWhitespacePinLaw", "check", "(I)Z"⟩ : MethodName)) hown (mvT hZ (own_w hw 0)) (mvT hZ (own_w hw 1)) (mvT hZ (own_w hw 2)) (mvT hZ (own_w hw 3)) (by decide) (backOf (W := 0) (rm3 l Z a0 hw [] (p0 &&& (255 : Int32)) h0 n0 Z0 ) hZ (own_w hw 3) (own_w hw 2) (by decide) (by decide)) (g := (mkF m 29 #[.val (.int p0), .val (.int p1), .val (.int ((7 : Int32) + (p1 &&& (31 : Int32)))), .val (.int (p0 &&& (255 : Int32)))] [(.int (p0 &&& (255 : Int32)))])) rfl (by rw [hml]; rfl) (argsL := [(.int (p0 &&& (255 : Int32)))]) (rest := []) (lenOf pd_1 rfl) rfl (by show 2 * 0 + _ ≤ _; exact Nat.le_of_eq rfl) (hb hby at_29) (fun _ _ => ⟨rfl, e2, (by decide : 0 + 0 ≤ _), (by decide : 0 + 0 ≤ _)⟩)
  dsimp only [Pt.U, Pt.locs, Pt.cells, Pt.slots] at X3 l3 y3 z3 st3 hQ3
  subst l3 y3 z3
  obtain ⟨rfl, N3q, e3⟩ := hQ3
  have N3 := Fr.app N2 N3q
  refine own_by (W' := (T3.setTop (mkF m 32 #[.val (.int p0), .val (.int p1), .val (.int ((7 : Int32) + (p1 &&& (31 : Int32)))), .val (.int (p0 &&& (255 : Int32)))] [(.int (1 : Int32))]))) (fun t k => XS.ifNo X1.here hx rfl (hb hby at_18) rfl ((if0 _ _).trans (feq (by decide : ¬ ((1 : Int32) = (0 : Int32)))).1) (XS.iloadN X1.here hx rfl (hb hby at_21) rfl (st2 _ (XS.ifNo X2.here hx rfl (hb hby at_25) rfl ((if0 _ _).trans (feq (by decide : ¬ ((1 : Int32) = (0 : Int32)))).1) (XS.iloadN X2.here hx rfl (hb hby at_28) rfl (st3 _ k)))))) ?_
  obtain ⟨fs, hr, hrun, hended, hW, hsame⟩ := X3.leave (v := some (.int (1 : Int32))) (fun h => by rw [Bd.returns] at h; cases h)
  refine own_by (W' := (T3.setTop (mkF m 40 #[.val (.int p0), .val (.int p1), .val (.int ((7 : Int32) + (p1 &&& (31 : Int32)))), .val (.int (p0 &&& (255 : Int32)))] [(.int (1 : Int32))]))) (fun t k => XS.ifNo X3.here hx rfl (hb hby at_32) rfl ((if0 _ _).trans (feq (by decide : ¬ ((1 : Int32) = (0 : Int32)))).1) (XS.iconst X3.here hx rfl (hb hby at_35) (XS.goto X3.here hx rfl (pc0 := 36) (pc' := 40) rfl (hb hby at_36) (by decide) (by decide) k))) ?_
  refine ⟨_, _, retOut X3 hx Bd.returns rfl (Or.inl ⟨rfl, Or.inr (Or.inl rfl), _, rfl⟩) (hb hby at_40) hr, hrun, hended, _, _, rfl, ?_, ⟨_, rfl⟩, hW, hsame.mono (by decide) (by decide)⟩
  exact ⟨rfl, N3⟩
set_option maxRecDepth 65536 in
set_option maxHeartbeats 40000000 in
theorem comes_1 {Post : Tables → Env → Array Value → State → Outcome → State → Prop} (hpost : ∀ tb e args s v u, (limb_1_1.after args s (.returned v) u = true ∧ limb_1_2.after args s (.returned v) u = true ∧ True) → FrameEnd s (.returned v) u (Jvm.fieldLocs frame_1_writes args s ++ Jvm.arrayLocs frame_1_arrays args s ++ Jvm.staticLocs frame_1_statics s) 0 0 → Post tb e args s (.returned v) u) :
    ArmFor flags0 classFile x code maxLocals ret World_1 tables_1 room_1 Calls_1 rest_1 Pre_1 Post := by
  intro l hfl _ _ p e ha hc hk s m args below hf hA hF happ hP
  obtain ⟨hcalls, hrest, hpre⟩ := hP
  obtain ⟨-, -, -, hnamed, -, -, -, hat⟩ := (Spec.applies_iff hf).mp happ
  obtain ⟨hg, hn⟩ := and_e (Cond.before_iff.mp (show (Jvm.Cond.and given_1 narrow_1).before args s = true from hpre))
  obtain ⟨ga1, gb1⟩ := and_e hg
  obtain ⟨ga2, gb2⟩ := and_e gb1
  obtain ⟨w0, w1, rfl⟩ : ∃ w0 w1 : Value, args = #[w0, w1] := by
    have hs : args.size = 2 := by simpa [Cond.value, given_1] using ga1
    obtain ⟨L⟩ := args
    match L, hs with
    | [w0, w1], _ => exact ⟨w0, w1, rfl⟩
  have hw := fun d (hd : d ∈ tables_1) => atoms_spec (ws := Jvm.Cond.code x code maxLocals ret :: tables_1) hat d (List.mem_cons_of_mem _ hd)
  have hfit : Fit s := fun {y c} hc i hi => by
    obtain ⟨ha, rfl⟩ := Array.getElem?_eq_some_iff.mp hc
    have q := List.all_eq_true.mp ((Array.all_eq_true_iff_forall_mem.mp hF) _ (Array.getElem_mem ha)) i (List.mem_range.mpr hi)
    simpa [Array.getElem?_eq_getElem hi] using q
  obtain ⟨i0, ei0⟩ := is_v ga2
  obtain rfl : w0 = (.int i0) := Option.some.inj ei0
  obtain ⟨i1, ei1⟩ := is_v gb2
  obtain rfl : w1 = (.int i1) := Option.some.inj ei1
  obtain ⟨n, o, h1, h2, h3, _, L, rfl, ⟨rfl, N⟩, hq⟩ := rmL l s _ hw tables_1 i0 i1 s.heap s.heap.size (Nat.le_refl _)  p e ha hc hk s m _ below hf ((Spec.applies_iff_loose hf).mp happ).1 ⟨rfl, State.Warmed39.refl s, rfl⟩ trivial
  refine ⟨n, _, h1, h2, h3, hpost _ _ _ _ _ _ ⟨Cond.after_iff.mpr rfl, Cond.after_iff.mpr (eq_i res_at (Term.int_eval (1)) rfl), trivial⟩ ⟨hq.1, hq.2.1, (hq.2.2.sift fun y hy => Or.inr (N y hy)).mono (by decide) (by decide)⟩⟩
theorem main_1_1 : Claimed_1_1 := comes_1 fun _ _ _ _ _ _ h hF => ⟨h.1, hF⟩
theorem main_1_2 : Claimed_1_2 := comes_1 fun _ _ _ _ _ _ h hF => ⟨h.2.1, hF⟩
end Jvm.Pilot.@@N@@
namespace Jvm.Pilot.@@N@@
open Jvm Jvm.ClassFile Sem Op Lib Jvm.Free Jvm.Stand Jvm.Pilot.@@N@@.Jvm.D
/-! MADE BY PROGRAM (witnessworld.py) out of the Statement's table words and the real class files: 9 classes; the members and pool entries that the words name. The judged class is class 1, her method 3. -/
namespace start1
open Jvm.ClassFile
def u (s : String) : CpInfo := .utf8 (stringToUtf16 s)
/-- a pool by its gaps: so many unusable entries, then the entry; so many at the end -/
def gap : Nat → List CpInfo → List CpInfo
  | 0, r => r
  | n + 1, r => .unusable :: gap n r
def poolList (es : List (Nat × CpInfo)) (last : Nat) : List CpInfo := es.foldr (fun e r => gap e.1 (e.2 :: r)) (gap last [])
def pool (es : List (Nat × CpInfo)) (last : Nat) : Array CpInfo := ⟨poolList es last⟩
def fileOf (pool : Array CpInfo) (this : Nat) (attrs : Array Attribute := #[]) (ms : Array MethodInfo := #[]) (fl : Nat := 33) (sup : Nat := 0) (ifs : Array Nat := #[]) (fds : Array FieldInfo := #[]) : ClassFile where
  minorVersion := 0
  majorVersion := 65
  constantPool := pool
  accessFlags := fl
  thisClass := this
  superClass := sup
  interfaces := ifs
  fields := fds
  methods := ms
  attributes := attrs
def plain (name : String) (sup : Option ClassId) : Class where
  name := name
  kind := .ordinary
  loader := none
  accessFlags := 33
  super := sup
  interfaces := #[]
  cf := none
  fields := #[]
  methods := #[]
  instanceTypes := #[]
  staticTypes := #[]
  resolved := #[]
  callSites := []
  init := .initialized
  statics := none
  mirror := none

def pool0 : Array CpInfo := pool [(5, u "<init>"), (0, u "()V"), (1, .class_ 10), (1, u "java/lang/Object")] 113

def k0m0 : Method := { name := "<init>", desc := "()V", sig := { parameters := [], returnType := none }, accessFlags := 1, code := none }
/-- java/lang/Object -/
def k0 : Class := { plain "java/lang/Object" none with
  accessFlags := 33
  interfaces := #[]
  cf := some (fileOf pool0 8 #[] #[{ accessFlags := 1, nameIndex := 5, descriptorIndex := 6, attributes := #[] }] 33 0 #[] #[])
  fields := #[]
  methods := #[k0m0]
  instanceTypes := #[]
  staticTypes := #[]
  resolved := Array.replicate 124 none
  statics := none }

def pool1 : Array CpInfo := pool [(2, .class_ 4), (1, u "java/lang/Object"), (0, u "<init>"), (0, u "()V"), (0, .methodref 8 9), (0, .class_ 10), (0, .nameAndType 11 12), (0, u "com/example/tagwright/tagwright/text/Hex"), (0, u "isWhitespace"), (0, u "(I)Z"), (0, .methodref 14 15), (0, .class_ 16), (0, .nameAndType 17 12), (0, u "com/example/tagwright/tagwright/text/HexIsWhitespacePinLaw"), (0, u "expected"), (0, .methodref 14 19), (0, .nameAndType 20 12), (0, u "check"), (3, u "law"), (0, u "(II)Z")] 2

def k1m0 : Method := { name := "<init>", desc := "()V", sig := { parameters := [], returnType := none }, accessFlags := 2, code := none }
def k1c1 : Code := { maxStack := 2, maxLocals := 1, code := method_2_code, exceptionTable := #[], attributes := #[] }
def k1m1 : Method := { name := "expected", desc := "(I)Z", sig := { parameters := [.int], returnType := some .boolean }, accessFlags := 10, code := some k1c1 }
def k1c2 : Code := { maxStack := 2, maxLocals := 1, code := method_3_code, exceptionTable := #[], attributes := #[] }
def k1m2 : Method := { name := "check", desc := "(I)Z", sig := { parameters := [.int], returnType := some .boolean }, accessFlags := 10, code := some k1c2 }
def k1c3 : Code := { maxStack := 3, maxLocals := 4, code := code, exceptionTable := #[], attributes := #[] }
def k1m3 : Method := { name := "law", desc := "(II)Z", sig := { parameters := [.int, .int], returnType := some .boolean }, accessFlags := 9, code := some k1c3 }
/-- com/example/tagwright/tagwright/text/HexIsWhitespacePinLaw -/
def k1 : Class := { plain "com/example/tagwright/tagwright/text/HexIsWhitespacePinLaw" (some 0) with
  accessFlags := 49
  interfaces := #[]
  cf := some (fileOf pool1 14 #[] #[{ accessFlags := 2, nameIndex := 5, descriptorIndex := 6, attributes := #[] }, { accessFlags := 10, nameIndex := 17, descriptorIndex := 12, attributes := #[] }, { accessFlags := 10, nameIndex := 20, descriptorIndex := 12, attributes := #[] }, { accessFlags := 9, nameIndex := 24, descriptorIndex := 25, attributes := #[] }] 49 2 #[] #[])
  fields := #[]
  methods := #[k1m0, k1m1, k1m2, k1m3]
  instanceTypes := #[]
  staticTypes := #[]
  resolved := Array.replicate 28 none
  statics := none }

def pool2 : Array CpInfo := pool [(2, .class_ 4), (1, u "java/lang/Object"), (0, u "<init>"), (0, u "()V"), (1, .class_ 10), (1, u "com/example/tagwright/tagwright/text/Hex"), (0, u "isWhitespace"), (0, u "(I)Z")] 74

def k2m0 : Method := { name := "<init>", desc := "()V", sig := { parameters := [], returnType := none }, accessFlags := 2, code := none }
def k2c1 : Code := { maxStack := 2, maxLocals := 1, code := prog_23_method_3_code, exceptionTable := #[], attributes := #[] }
def k2m1 : Method := { name := "isWhitespace", desc := "(I)Z", sig := { parameters := [.int], returnType := some .boolean }, accessFlags := 8, code := some k2c1 }
/-- com/example/tagwright/tagwright/text/Hex -/
def k2 : Class := { plain "com/example/tagwright/tagwright/text/Hex" (some 0) with
  accessFlags := 49
  interfaces := #[]
  cf := some (fileOf pool2 8 #[] #[{ accessFlags := 2, nameIndex := 5, descriptorIndex := 6, attributes := #[] }, { accessFlags := 8, nameIndex := 11, descriptorIndex := 12, attributes := #[] }] 49 2 #[] #[])
  fields := #[]
  methods := #[k2m0, k2m1]
  instanceTypes := #[]
  staticTypes := #[]
  resolved := Array.replicate 87 none
  statics := none }

def pool3 : Array CpInfo := pool [(1, u "java/lang/Cloneable"), (0, .class_ 1), (0, u "java/lang/Object"), (0, .class_ 3)] 3

/-- java/lang/Cloneable -/
def k3 : Class := { plain "java/lang/Cloneable" (some 0) with
  accessFlags := 1537
  interfaces := #[]
  cf := some (fileOf pool3 2 #[] #[] 1537 4 #[] #[])
  fields := #[]
  methods := #[]
  instanceTypes := #[]
  staticTypes := #[]
  resolved := Array.replicate 8 none
  statics := none }

def pool4 : Array CpInfo := pool [(1, u "java/io/Serializable"), (0, .class_ 1), (0, u "java/lang/Object"), (0, .class_ 3)] 3

/-- java/io/Serializable -/
def k4 : Class := { plain "java/io/Serializable" (some 0) with
  accessFlags := 1537
  interfaces := #[]
  cf := some (fileOf pool4 2 #[] #[] 1537 4 #[] #[])
  fields := #[]
  methods := #[]
  instanceTypes := #[]
  staticTypes := #[]
  resolved := Array.replicate 8 none
  statics := none }

/-- the primitive byte -/
def k5 : Class := { plain "byte" none with kind := .primitive 'B', accessFlags := 0x411 }
/-- [B -/
def k6 : Class := { plain "[B" (some 0) with kind := .array 5 .byte, interfaces := #[3, 4], accessFlags := 1041 }

/-- the primitive int -/
def k7 : Class := { plain "int" none with kind := .primitive 'I', accessFlags := 0x411 }
/-- [I -/
def k8 : Class := { plain "[I" (some 0) with kind := .array 7 .int, interfaces := #[3, 4], accessFlags := 1041 }

def heap : Heap := #[]
def classes : Array Class := #[k0, k1, k2, k3, k4, k5, k6, k7, k8]
def interned : List (Array UInt16 × Addr) := []
def slotsUsed : Nat := 0
def theMethod : MethodId := ⟨1, 3⟩
def args0 : Array Value := #[.int 32, .int 3]
def aboutOver (below : List Frame) : State where
  vm := { classes := classes, interned := interned.toArray }
  heap := heap
  slotsUsed := slotsUsed
  threads := #[{ frames := .invoking theMethod args0 :: below }]
def below0 : List Frame := [.native { method := ⟨0, 0⟩, args := #[] }]
def about1 : State := aboutOver below0
def p0 : Program := .bare "" "" ""
def e0 : Env := launch0.env 0 0 0
theorem w_frames : about1.frames = Frame.invoking theMethod args0 :: below0 := rfl
set_option maxRecDepth 65536 in
theorem w_args : argsFit about1.vm theMethod args0 = true := by decide +kernel
set_option maxRecDepth 65536 in
theorem w_heap : heapFits about1 = true := by decide +kernel
set_option maxRecDepth 65536 in
theorem w_runnable : about1.curStatus? = some .runnable := by decide +kernel
set_option maxRecDepth 65536 in
theorem w_alone : about1.alone = true := by decide +kernel
set_option maxRecDepth 65536 in
theorem w_named : about1.methodNamed? x = some theMethod := by decide +kernel
set_option maxRecDepth 65536 in
theorem w_hears : about1.hears theMethod below0 = true := by decide +kernel
set_option maxRecDepth 65536 in
theorem w_ripe : about1.ripe theMethod args0 below0 = true := by decide +kernel
theorem w_running : about1.status = .running := rfl
set_option maxRecDepth 65536 in
theorem w_room : about1.hasRoom e0.platform room_1 = true :=
  launch0.hasRoom_least _ room_1 (by decide +kernel) (by decide +kernel) (by decide +kernel) (by decide +kernel) (by decide +kernel) (by decide +kernel)
theorem allAtoms_all (ts : List Jvm.Cond) (a : Array Jvm.Value) (st : Jvm.State) : (allAtoms ts).before a st = ts.all (fun c => c.before a st) := by
  induction ts with
  | nil => rfl
  | cons c t ih =>
    show (Jvm.Cond.and c (allAtoms t)).before a st = _
    rw [Jvm.Cond.before_and, ih, List.all_cons]
def words1 : List Jvm.Cond := Jvm.Cond.code x code maxLocals ret :: tables_1
/-- a 'code' word, met by the world's own term for the bytes: nothing is compared byte by byte -/
theorem code_word {y : MethodName} {bytes : ByteArray} {mx : Nat} {rt : Option FieldType} {a : Array Value} {s : State} {m : MethodId} {meth : Method} {c : Code} (h1 : s.methodNamed? y = some m) (h2 : s.vm.method? m = some meth) (h3 : meth.code = some c) (h4 : c.code = bytes)
    (h5 : (c.maxLocals == mx && c.exceptionTable.isEmpty && decide (c.maxStack ≤ mostOperands) && decide (meth.sig.returnType = rt) && !meth.locks && decide (parseMethodDescriptor y.desc = some meth.sig)) = true) : (Jvm.Cond.code y bytes mx rt).before a s = true := by
  simp only [Bool.and_eq_true, beq_iff_eq, Bool.not_eq_true', decide_eq_true_eq] at h5
  obtain ⟨⟨⟨⟨⟨g1, g2⟩, g3⟩, g4⟩, g5⟩, g6⟩ := h5
  simp [Cond.before, Cond.holds, Cond.value, h1, h2, h3, h4, g1, g2, g3, g4, g5, g6]
def isCode : Jvm.Cond → Bool
  | .code _ _ _ _ => true
  | _ => false
theorem all_split {L : List Jvm.Cond} {P : Jvm.Cond → Bool} (h1 : L.all (fun c => isCode c || P c) = true) (h2 : ∀ c ∈ L.filter isCode, P c = true) : L.all P = true := by
  refine List.all_eq_true.mpr fun c hc => ?_
  have h := List.all_eq_true.mp h1 c hc
  rcases Bool.eq_false_or_eq_true (isCode c) with hi | hi
  · exact h2 c (List.mem_filter.mpr ⟨hc, hi⟩)
  · simpa [hi] using h
set_option maxRecDepth 65536 in
theorem w_c0 : (Jvm.Cond.code x code maxLocals ret).before args0 about1 = true := code_word (m := ⟨1, 3⟩) (meth := k1m3) (c := k1c3) (by decide +kernel) rfl rfl rfl (by decide +kernel)
set_option maxRecDepth 65536 in
theorem w_c1 : (Jvm.Cond.code ({ cls := "com/example/tagwright/tagwright/text/HexIsWhitespacePinLaw", name := "check", desc := "(I)Z" } : Jvm.MethodName) method_3_code (1 : Nat) (Option.some Jvm.ClassFile.FieldType.boolean)).before args0 about1 = true := code_word (m := ⟨1, 2⟩) (meth := k1m2) (c := k1c2) (by decide +kernel) rfl rfl rfl (by decide +kernel)
set_option maxRecDepth 65536 in
theorem w_c2 : (Jvm.Cond.code ({ cls := "com/example/tagwright/tagwright/text/Hex", name := "isWhitespace", desc := "(I)Z" } : Jvm.MethodName) prog_23_method_3_code (1 : Nat) (Option.some Jvm.ClassFile.FieldType.boolean)).before args0 about1 = true := code_word (m := ⟨2, 1⟩) (meth := k2m1) (c := k2c1) (by decide +kernel) rfl rfl rfl (by decide +kernel)
set_option maxRecDepth 65536 in
theorem w_c3 : (Jvm.Cond.code ({ cls := "com/example/tagwright/tagwright/text/HexIsWhitespacePinLaw", name := "expected", desc := "(I)Z" } : Jvm.MethodName) method_2_code (1 : Nat) (Option.some Jvm.ClassFile.FieldType.boolean)).before args0 about1 = true := code_word (m := ⟨1, 1⟩) (meth := k1m1) (c := k1c1) (by decide +kernel) rfl rfl rfl (by decide +kernel)
def codes1 : List Jvm.Cond := [Jvm.Cond.code x code maxLocals ret, Jvm.Cond.code ({ cls := "com/example/tagwright/tagwright/text/HexIsWhitespacePinLaw", name := "check", desc := "(I)Z" } : Jvm.MethodName) method_3_code (1 : Nat) (Option.some Jvm.ClassFile.FieldType.boolean), Jvm.Cond.code ({ cls := "com/example/tagwright/tagwright/text/Hex", name := "isWhitespace", desc := "(I)Z" } : Jvm.MethodName) prog_23_method_3_code (1 : Nat) (Option.some Jvm.ClassFile.FieldType.boolean), Jvm.Cond.code ({ cls := "com/example/tagwright/tagwright/text/HexIsWhitespacePinLaw", name := "expected", desc := "(I)Z" } : Jvm.MethodName) method_2_code (1 : Nat) (Option.some Jvm.ClassFile.FieldType.boolean)]
set_option maxRecDepth 65536 in
theorem codes_eq : words1.filter isCode = codes1 := rfl
theorem w_codes : ∀ c ∈ words1.filter isCode, c.before args0 about1 = true := by
  rw [codes_eq]
  intro c hc
  simp only [codes1, List.mem_cons, List.not_mem_nil, or_false] at hc
  rcases hc with rfl | rfl | rfl | rfl
  · exact w_c0
  · exact w_c1
  · exact w_c2
  · exact w_c3
set_option maxRecDepth 65536 in
theorem w_t1 : words1.all (fun c => isCode c || c.before args0 about1) = true := by decide +kernel
theorem w_tables : (allAtoms (Jvm.Cond.code x code maxLocals ret :: tables_1)).before args0 about1 = true := by
  rw [allAtoms_all]
  show words1.all (fun c => c.before args0 about1) = true
  refine all_split ?_ w_codes
  rw [w_t1]
set_option maxRecDepth 65536 in
theorem w_case : (Jvm.Cond.and given_1 narrow_1).before args0 about1 = true := by decide +kernel
theorem w_applies : (headSpec (Jvm.Cond.code x code maxLocals ret :: tables_1) room_1).applies x e0.platform about1 = true :=
  (Spec.applies_iff w_frames).mpr ⟨w_running, w_runnable, w_alone, w_named, w_hears, w_ripe, w_room, w_tables⟩
theorem atStart : AtStart classFile x code maxLocals ret World_1 tables_1 room_1 Calls_1 rest_1 Pre_1 launch0 p0 e0 about1 theMethod args0 below0 :=
  ⟨lists_1, trivial, launch0.admits_env _ _ _, launch0.least_env, fairChoices_fair.cas, fairChoices_fair.clock, w_frames, w_args, w_heap, w_applies, trivial, trivial, w_case⟩
end start1
theorem witness_1 : WitnessClaimed_1 := ⟨start1.p0, start1.e0, start1.about1, start1.theMethod, start1.args0, start1.below0, start1.atStart⟩
end Jvm.Pilot.@@N@@
