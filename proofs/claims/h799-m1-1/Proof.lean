import JvmDerived
import JvmDerived.Pilot.@@N@@Statement
import JvmDerived.Pilot.@@N@@Code
set_option linter.unusedVariables false
set_option linter.unusedSimpArgs false
namespace Jvm.Pilot.@@N@@
open Jvm Jvm.ClassFile Sem Op Lib Jvm.Free Jvm.Stand Jvm.LawKit Jvm.RoadKit Bundle Jvm.Pilot.@@N@@.Jvm.D
/-- from the state W the run comes to an end of which K holds -/
abbrev own_Gl (p : Program) (e : Env) (below : List Frame) (K : Outcome → State → Prop) (W : State) : Prop := ∃ s₂ o, Steps p.tables e below W s₂ ∧ s₂.status = .running ∧ Ended s₂ below o ∧ K o s₂
theorem own_by {p : Program} {e : Env} {below : List Frame} {K : Outcome → State → Prop} {W W' : State} (st : ∀ t, Steps p.tables e below W' t → Steps p.tables e below W t) (h : own_Gl p e below K W') : own_Gl p e below K W := by
  obtain ⟨s₂, o, h1, h2⟩ := h; exact ⟨s₂, o, st _ h1, h2⟩
theorem own_tr {p : Program} {e : Env} {below : List Frame} {K : Outcome → State → Prop} {W W' : State} (st : Steps p.tables e below W W') (h : own_Gl p e below K W') : own_Gl p e below K W := own_by (fun _ k => st.trans k) h
theorem own_w {Z : State} {a0 : Array Value} (hw : ∀ d ∈ tables_1, d.before a0 Z = true) (i : Nat) {d : Jvm.Cond} (h : tables_1[i]? = some d := by rfl) : d.before a0 Z = true := hw _ (List.mem_of_getElem? h)
theorem own_le {Z : State} {n0 : Nat} {h : Heap} (O : Old Z n0 h) : n0 ≤ h.size := O.1 ▸ O.2.1
theorem own_lclt {x y : Int64} (h : x < y) : ifCond.holds .lt (lcmpW x y) = true ∧ ifCond.holds .ge (lcmpW x y) = false := by
  have h1 : ¬ x > y := fun q => by rw [Int64.lt_iff_toInt_lt] at h; have q' : y < x := q; rw [Int64.lt_iff_toInt_lt] at q'; omega
  have h2 : ¬ x = y := fun q => by subst q; rw [Int64.lt_iff_toInt_lt] at h; omega
  rw [lcmpW, if_neg h1, if_neg h2]; exact ⟨by decide, by decide⟩
theorem own_lcnlt {x y : Int64} (h : ¬ x < y) : ifCond.holds .lt (lcmpW x y) = false ∧ ifCond.holds .ge (lcmpW x y) = true := by
  by_cases h1 : x > y
  · rw [lcmpW, if_pos h1]; exact ⟨by decide, by decide⟩
  · have h2 : x = y := by
      have q1 : ¬ y < x := h1
      rw [Int64.lt_iff_toInt_lt] at h q1; exact Int64.toInt_inj.mp (by omega)
    rw [lcmpW, if_neg h1, if_pos h2]; exact ⟨by decide, by decide⟩
theorem own_lcgt {x y : Int64} (h : y < x) : ifCond.holds .gt (lcmpW x y) = true ∧ ifCond.holds .le (lcmpW x y) = false := by
  have h1 : x > y := h
  rw [lcmpW, if_pos h1]; exact ⟨by decide, by decide⟩
theorem own_lcngt {x y : Int64} (h : ¬ y < x) : ifCond.holds .gt (lcmpW x y) = false ∧ ifCond.holds .le (lcmpW x y) = true := by
  have h1 : ¬ x > y := h
  rw [lcmpW, if_neg h1]
  by_cases h2 : x = y
  · rw [if_pos h2]; exact ⟨by decide, by decide⟩
  · rw [if_neg h2]; exact ⟨by decide, by decide⟩
theorem own_lceq {x y : Int64} (h : x = y) : ifCond.holds .eq (lcmpW x y) = true ∧ ifCond.holds .ne (lcmpW x y) = false := by
  subst h
  have h1 : ¬ x > x := fun q => by have q' : x < x := q; rw [Int64.lt_iff_toInt_lt] at q'; omega
  rw [lcmpW, if_neg h1, if_pos rfl]; exact ⟨by decide, by decide⟩
theorem own_lcne {x y : Int64} (h : ¬ x = y) : ifCond.holds .eq (lcmpW x y) = false ∧ ifCond.holds .ne (lcmpW x y) = true := by
  by_cases h1 : x > y
  · rw [lcmpW, if_pos h1]; exact ⟨by decide, by decide⟩
  · rw [lcmpW, if_neg h1, if_neg h]; exact ⟨by decide, by decide⟩
theorem dmethod_2_0 : decode method_2_code 0 = .ok (.iload_n 0, 1) := by decide +kernel
theorem dmethod_2_1 : decode method_2_code 1 = .ok (.iload_n 1, 1) := by decide +kernel
theorem dmethod_2_2 : decode method_2_code 2 = .ok (.iushr, 1) := by decide +kernel
theorem dmethod_2_3 : decode method_2_code 3 = .ok (.iconst 1, 1) := by decide +kernel
theorem dmethod_2_4 : decode method_2_code 4 = .ok (.iand, 1) := by decide +kernel
theorem dmethod_2_5 : decode method_2_code 5 = .ok (.ifCond .eq 14, 3) := by decide +kernel
theorem dmethod_2_8 : decode method_2_code 8 = .ok (.ldc2_w 7, 3) := by decide +kernel
theorem dmethod_2_11 : decode method_2_code 11 = .ok (.bipush 8, 2) := by decide +kernel
theorem dmethod_2_13 : decode method_2_code 13 = .ok (.iload_n 1, 1) := by decide +kernel
theorem dmethod_2_14 : decode method_2_code 14 = .ok (.imul, 1) := by decide +kernel
theorem dmethod_2_15 : decode method_2_code 15 = .ok (.lshl, 1) := by decide +kernel
theorem dmethod_2_16 : decode method_2_code 16 = .ok (.goto 4, 3) := by decide +kernel
theorem dmethod_2_19 : decode method_2_code 19 = .ok (.lconst 0, 1) := by decide +kernel
theorem dmethod_2_20 : decode method_2_code 20 = .ok (.lreturn, 1) := by decide +kernel
theorem pn_com_example_bindstream_bindstream_model_WordsZerosOfAsciiPinLaw : plainName "com/example/bindstream/bindstream/model/WordsZerosOfAsciiPinLaw" = true := by first | (simp [plainName, overriddenIn]; done) | decide +kernel
theorem ef2 (m : MethodId) (p0 : Int32) (p1 : Int32) : entryFrame m #[(.int p0), (.int p1)] 2 = mkF m 0 #[.val (.int p0), .val (.int p1)] [] := by first | (simp [entryFrame, mkF, argsToLocals, Value.category]; done) | rfl
def F2 (p0 : Int32) (p1 : Int32) : Int64 := (if (((p0.toUInt32 >>> (p1 &&& 31).toUInt32).toInt32) &&& (1 : Int32)) = (0 : Int32) then (0 : Int64) else ((255 : Int64) <<< (((8 : Int32) * p1) &&& 0x3f).toInt64))
def Q2 (Z : State) (p0 : Int32) (p1 : Int32) (h0 : Heap) (n0 : Nat) (v : Option Value) (h : Heap) (L : List Loc) : Prop := v = some (.long (F2 p0 p1)) ∧ Fr n0 L ∧ h = h0
abbrev own_K2 (Z : State) (p0 : Int32) (p1 : Int32) (h0 : Heap) (n0 : Nat) (s : State) : Outcome → State → Prop := fun o U' => ∃ v L, o = .returned v ∧ Q2 Z p0 p1 h0 n0 v U'.heap L ∧ FrameEnd s o U' L ({ frames := 0, cells := 0, slots := 0, locals := 0 } : Room).cells ({ frames := 0, cells := 0, slots := 0, locals := 0 } : Room).slots
set_option maxRecDepth 65536 in
set_option maxHeartbeats 40000000 in
theorem rm2 (l : Launch) (Z : State) (a0 : Array Value) (hw : ∀ d ∈ tables_1, d.before a0 Z = true) (ws : List Jvm.Cond) (p0 : Int32) (p1 : Int32) (h0 : Heap) (n0 : Nat) (Z0 : n0 ≤ h0.size) :
    MetFree l (⟨"com/example/bindstream/bindstream/model/WordsZerosOfAsciiPinLaw", "byteMask", "(II)J"⟩ : MethodName) (head1 (Jvm.Cond.code (⟨"com/example/bindstream/bindstream/model/WordsZerosOfAsciiPinLaw", "byteMask", "(II)J"⟩ : MethodName) method_2_code 2 (some .long) :: ws) ({ frames := 0, cells := 0, slots := 0, locals := 0 } : Room)) (fun a U => a = #[(.int p0), (.int p1)] ∧ Z.Warmed39 U.vm ∧ U.heap = h0) (fun _ _ _ _ _ => True) (fun _ U o U' => ∃ v L, o = .returned v ∧ Q2 Z p0 p1 h0 n0 v U'.heap L ∧ FrameEnd U o U' L ({ frames := 0, cells := 0, slots := 0, locals := 0 } : Room).cells ({ frames := 0, cells := 0, slots := 0, locals := 0 } : Room).slots) := by
  refine MetFree.of_bodySF (plainFor_of_name pn_com_example_bindstream_bindstream_model_WordsZerosOfAsciiPinLaw) hisR ?_
  intro p e s m args below meth c s₁ Bd hml0 hP hK
  obtain ⟨rfl, hZ, hh⟩ := hP
  have hx := Bd.exec
  have hby := Bd.bytes
  have hml : c.maxLocals = 2 := hml0
  have hown : s.vm.findClass "com/example/bindstream/bindstream/model/WordsZerosOfAsciiPinLaw" = some m.cls := findClass_of_methodNamed Bd.named
  have hnm := (name_of_methodNamed Bd.named Bd.method).1
  have X0 : Stand p l e ({ frames := 0, cells := 0, slots := 0, locals := 0 } : Room) s m #[(.int p0), (.int p1)] below meth c s₁ [] 0 0 := Stand.of_body Bd
  have e0 : s₁.heap = h0 := by rw [← hh, Bd.state]; rfl
  have N0 := Fr.nil n0
  refine own_by (p := p) (e := e) (below := below) (K := own_K2 Z p0 p1 h0 n0 s) (W' := s₁.setTop (mkF m 0 #[.val (.int p0), .val (.int p1)] [])) (fun t k => castTop (ef2 m p0 p1) k) ?_
  refine own_by (W' := (s₁.setTop (mkF m 5 #[.val (.int p0), .val (.int p1)] [(.int (((p0.toUInt32 >>> (p1 &&& 31).toUInt32).toInt32) &&& (1 : Int32)))]))) (fun t k => XS.iloadN X0.here hx rfl (hb hby dmethod_2_0) rfl (XS.iloadN X0.here hx rfl (hb hby dmethod_2_1) rfl (XS.iushr X0.here hx rfl (hb hby dmethod_2_2) rfl (XS.iconst X0.here hx rfl (hb hby dmethod_2_3) (XS.iand X0.here hx rfl (hb hby dmethod_2_4) rfl k))))) ?_
  by_cases hc1 : (((p0.toUInt32 >>> (p1 &&& 31).toUInt32).toInt32) &&& (1 : Int32)) = (0 : Int32)
  ·
    obtain ⟨fs, hr, hrun, hended, hW, hsame⟩ := X0.leave (v := some (.long (0 : Int64))) (fun h => by rw [Bd.returns] at h; cases h)
    refine own_by (W' := (s₁.setTop (mkF m 20 #[.val (.int p0), .val (.int p1)] [(.long (0 : Int64))]))) (fun t k => XS.ifYes X0.here hx rfl (pc0 := 5) (pc' := 19) rfl (hb hby dmethod_2_5) rfl ((if0 _ _).trans (teq hc1).1) (by decide) (by decide) (XS.lconst X0.here hx rfl (hb hby dmethod_2_19) k)) ?_
    refine ⟨_, _, retOut X0 hx Bd.returns rfl (Or.inr (Or.inl ⟨rfl, rfl, _, rfl⟩)) (hb hby dmethod_2_20) hr, hrun, hended, _, _, rfl, ?_, ⟨_, rfl⟩, hW, hsame.mono (by decide) (by decide)⟩
    refine ⟨congrArg (fun z => some (Value.long z)) ?_, N0, e0⟩
    rw [F2, if_pos hc1]
  ·
    refine own_by (W' := (s₁.setTop (mkF m 16 #[.val (.int p0), .val (.int p1)] [(.long ((255 : Int64) <<< (((8 : Int32) * p1) &&& 0x3f).toInt64))]))) (fun t k => XS.ifNo X0.here hx rfl (hb hby dmethod_2_5) rfl ((if0 _ _).trans (feq hc1).1) ((X0.ldc2Long hx hown (mvT hZ (own_w hw 4)) (g := (mkF m 8 #[.val (.int p0), .val (.int p1)] [])) rfl (hb hby dmethod_2_8)) _ (XS.bipush X0.here hx rfl (hb hby dmethod_2_11) (XS.iloadN X0.here hx rfl (hb hby dmethod_2_13) rfl (XS.imul X0.here hx rfl (hb hby dmethod_2_14) rfl (XS.lshl X0.here hx rfl (hb hby dmethod_2_15) rfl k)))))) ?_
    obtain ⟨fs, hr, hrun, hended, hW, hsame⟩ := X0.leave (v := some (.long ((255 : Int64) <<< (((8 : Int32) * p1) &&& 0x3f).toInt64))) (fun h => by rw [Bd.returns] at h; cases h)
    refine own_by (W' := (s₁.setTop (mkF m 20 #[.val (.int p0), .val (.int p1)] [(.long ((255 : Int64) <<< (((8 : Int32) * p1) &&& 0x3f).toInt64))]))) (fun t k => XS.goto X0.here hx rfl (pc0 := 16) (pc' := 20) rfl (hb hby dmethod_2_16) (by decide) (by decide) k) ?_
    refine ⟨_, _, retOut X0 hx Bd.returns rfl (Or.inr (Or.inl ⟨rfl, rfl, _, rfl⟩)) (hb hby dmethod_2_20) hr, hrun, hended, _, _, rfl, ?_, ⟨_, rfl⟩, hW, hsame.mono (by decide) (by decide)⟩
    refine ⟨congrArg (fun z => some (Value.long z)) ?_, N0, e0⟩
    rw [F2, if_neg hc1]
theorem dmethod_3_0 : decode method_3_code 0 = .ok (.lload_n 0, 1) := by decide +kernel
theorem dmethod_3_1 : decode method_3_code 1 = .ok (.bipush 8, 2) := by decide +kernel
theorem dmethod_3_3 : decode method_3_code 3 = .ok (.iload_n 2, 1) := by decide +kernel
theorem dmethod_3_4 : decode method_3_code 4 = .ok (.imul, 1) := by decide +kernel
theorem dmethod_3_5 : decode method_3_code 5 = .ok (.lushr, 1) := by decide +kernel
theorem dmethod_3_6 : decode method_3_code 6 = .ok (.ldc2_w 7, 3) := by decide +kernel
theorem dmethod_3_9 : decode method_3_code 9 = .ok (.land, 1) := by decide +kernel
theorem dmethod_3_10 : decode method_3_code 10 = .ok (.lconst 0, 1) := by decide +kernel
theorem dmethod_3_11 : decode method_3_code 11 = .ok (.lcmp, 1) := by decide +kernel
theorem dmethod_3_12 : decode method_3_code 12 = .ok (.ifCond .ne 14, 3) := by decide +kernel
theorem dmethod_3_15 : decode method_3_code 15 = .ok (.ldc2_w 9, 3) := by decide +kernel
theorem dmethod_3_18 : decode method_3_code 18 = .ok (.bipush 8, 2) := by decide +kernel
theorem dmethod_3_20 : decode method_3_code 20 = .ok (.iload_n 2, 1) := by decide +kernel
theorem dmethod_3_21 : decode method_3_code 21 = .ok (.imul, 1) := by decide +kernel
theorem dmethod_3_22 : decode method_3_code 22 = .ok (.lshl, 1) := by decide +kernel
theorem dmethod_3_23 : decode method_3_code 23 = .ok (.goto 4, 3) := by decide +kernel
theorem dmethod_3_26 : decode method_3_code 26 = .ok (.lconst 0, 1) := by decide +kernel
theorem dmethod_3_27 : decode method_3_code 27 = .ok (.lreturn, 1) := by decide +kernel
theorem ef3 (m : MethodId) (q0 : Int64) (p1 : Int32) : entryFrame m #[(.long q0), (.int p1)] 3 = mkF m 0 #[.val (.long q0), .second, .val (.int p1)] [] := by first | (simp [entryFrame, mkF, argsToLocals, Value.category]; done) | rfl
def F3 (q0 : Int64) (p1 : Int32) : Int64 := (if (((q0.toUInt64 >>> (((8 : Int32) * p1) &&& 0x3f).toInt64.toUInt64).toInt64) &&& (255 : Int64)) = (0 : Int64) then ((128 : Int64) <<< (((8 : Int32) * p1) &&& 0x3f).toInt64) else (0 : Int64))
def Q3 (Z : State) (q0 : Int64) (p1 : Int32) (h0 : Heap) (n0 : Nat) (v : Option Value) (h : Heap) (L : List Loc) : Prop := v = some (.long (F3 q0 p1)) ∧ Fr n0 L ∧ h = h0
abbrev own_K3 (Z : State) (q0 : Int64) (p1 : Int32) (h0 : Heap) (n0 : Nat) (s : State) : Outcome → State → Prop := fun o U' => ∃ v L, o = .returned v ∧ Q3 Z q0 p1 h0 n0 v U'.heap L ∧ FrameEnd s o U' L ({ frames := 0, cells := 0, slots := 0, locals := 0 } : Room).cells ({ frames := 0, cells := 0, slots := 0, locals := 0 } : Room).slots
set_option maxRecDepth 65536 in
set_option maxHeartbeats 40000000 in
theorem rm3 (l : Launch) (Z : State) (a0 : Array Value) (hw : ∀ d ∈ tables_1, d.before a0 Z = true) (ws : List Jvm.Cond) (q0 : Int64) (p1 : Int32) (h0 : Heap) (n0 : Nat) (Z0 : n0 ≤ h0.size) :
    MetFree l (⟨"com/example/bindstream/bindstream/model/WordsZerosOfAsciiPinLaw", "zeroBit", "(JI)J"⟩ : MethodName) (head1 (Jvm.Cond.code (⟨"com/example/bindstream/bindstream/model/WordsZerosOfAsciiPinLaw", "zeroBit", "(JI)J"⟩ : MethodName) method_3_code 3 (some .long) :: ws) ({ frames := 0, cells := 0, slots := 0, locals := 0 } : Room)) (fun a U => a = #[(.long q0), (.int p1)] ∧ Z.Warmed39 U.vm ∧ U.heap = h0) (fun _ _ _ _ _ => True) (fun _ U o U' => ∃ v L, o = .returned v ∧ Q3 Z q0 p1 h0 n0 v U'.heap L ∧ FrameEnd U o U' L ({ frames := 0, cells := 0, slots := 0, locals := 0 } : Room).cells ({ frames := 0, cells := 0, slots := 0, locals := 0 } : Room).slots) := by
  refine MetFree.of_bodySF (plainFor_of_name pn_com_example_bindstream_bindstream_model_WordsZerosOfAsciiPinLaw) hisR ?_
  intro p e s m args below meth c s₁ Bd hml0 hP hK
  obtain ⟨rfl, hZ, hh⟩ := hP
  have hx := Bd.exec
  have hby := Bd.bytes
  have hml : c.maxLocals = 3 := hml0
  have hown : s.vm.findClass "com/example/bindstream/bindstream/model/WordsZerosOfAsciiPinLaw" = some m.cls := findClass_of_methodNamed Bd.named
  have hnm := (name_of_methodNamed Bd.named Bd.method).1
  have X0 : Stand p l e ({ frames := 0, cells := 0, slots := 0, locals := 0 } : Room) s m #[(.long q0), (.int p1)] below meth c s₁ [] 0 0 := Stand.of_body Bd
  have e0 : s₁.heap = h0 := by rw [← hh, Bd.state]; rfl
  have N0 := Fr.nil n0
  refine own_by (p := p) (e := e) (below := below) (K := own_K3 Z q0 p1 h0 n0 s) (W' := s₁.setTop (mkF m 0 #[.val (.long q0), .second, .val (.int p1)] [])) (fun t k => castTop (ef3 m q0 p1) k) ?_
  refine own_by (W' := (s₁.setTop (mkF m 9 #[.val (.long q0), .second, .val (.int p1)] [(.long (255 : Int64)), (.long ((q0.toUInt64 >>> (((8 : Int32) * p1) &&& 0x3f).toInt64.toUInt64).toInt64))]))) (fun t k => XS.lloadN X0.here hx rfl (hb hby dmethod_3_0) rfl (XS.bipush X0.here hx rfl (hb hby dmethod_3_1) (XS.iloadN X0.here hx rfl (hb hby dmethod_3_3) rfl (XS.imul X0.here hx rfl (hb hby dmethod_3_4) rfl (XS.lushr X0.here hx rfl (hb hby dmethod_3_5) rfl ((X0.ldc2Long hx hown (mvT hZ (own_w hw 4)) (g := (mkF m 6 #[.val (.long q0), .second, .val (.int p1)] [(.long ((q0.toUInt64 >>> (((8 : Int32) * p1) &&& 0x3f).toInt64.toUInt64).toInt64))])) rfl (hb hby dmethod_3_6)) _ k)))))) ?_
  refine own_by (W' := (s₁.setTop (mkF m 12 #[.val (.long q0), .second, .val (.int p1)] [(.int (lcmpW (((q0.toUInt64 >>> (((8 : Int32) * p1) &&& 0x3f).toInt64.toUInt64).toInt64) &&& (255 : Int64)) (0 : Int64)))]))) (fun t k => XS.land X0.here hx rfl (hb hby dmethod_3_9) rfl (XS.lconst X0.here hx rfl (hb hby dmethod_3_10) (XS.lcmp X0.here hx rfl (hb hby dmethod_3_11) rfl k))) ?_
  by_cases hc1 : (((q0.toUInt64 >>> (((8 : Int32) * p1) &&& 0x3f).toInt64.toUInt64).toInt64) &&& (255 : Int64)) = (0 : Int64)
  ·
    refine own_by (W' := (s₁.setTop (mkF m 23 #[.val (.long q0), .second, .val (.int p1)] [(.long ((128 : Int64) <<< (((8 : Int32) * p1) &&& 0x3f).toInt64))]))) (fun t k => XS.ifNo X0.here hx rfl (hb hby dmethod_3_12) rfl (own_lceq hc1).2 ((X0.ldc2Long hx hown (mvT hZ (own_w hw 10)) (g := (mkF m 15 #[.val (.long q0), .second, .val (.int p1)] [])) rfl (hb hby dmethod_3_15)) _ (XS.bipush X0.here hx rfl (hb hby dmethod_3_18) (XS.iloadN X0.here hx rfl (hb hby dmethod_3_20) rfl (XS.imul X0.here hx rfl (hb hby dmethod_3_21) rfl (XS.lshl X0.here hx rfl (hb hby dmethod_3_22) rfl k)))))) ?_
    obtain ⟨fs, hr, hrun, hended, hW, hsame⟩ := X0.leave (v := some (.long ((128 : Int64) <<< (((8 : Int32) * p1) &&& 0x3f).toInt64))) (fun h => by rw [Bd.returns] at h; cases h)
    refine own_by (W' := (s₁.setTop (mkF m 27 #[.val (.long q0), .second, .val (.int p1)] [(.long ((128 : Int64) <<< (((8 : Int32) * p1) &&& 0x3f).toInt64))]))) (fun t k => XS.goto X0.here hx rfl (pc0 := 23) (pc' := 27) rfl (hb hby dmethod_3_23) (by decide) (by decide) k) ?_
    refine ⟨_, _, retOut X0 hx Bd.returns rfl (Or.inr (Or.inl ⟨rfl, rfl, _, rfl⟩)) (hb hby dmethod_3_27) hr, hrun, hended, _, _, rfl, ?_, ⟨_, rfl⟩, hW, hsame.mono (by decide) (by decide)⟩
    refine ⟨congrArg (fun z => some (Value.long z)) ?_, N0, e0⟩
    rw [F3, if_pos hc1]
  ·
    obtain ⟨fs, hr, hrun, hended, hW, hsame⟩ := X0.leave (v := some (.long (0 : Int64))) (fun h => by rw [Bd.returns] at h; cases h)
    refine own_by (W' := (s₁.setTop (mkF m 27 #[.val (.long q0), .second, .val (.int p1)] [(.long (0 : Int64))]))) (fun t k => XS.ifYes X0.here hx rfl (pc0 := 12) (pc' := 26) rfl (hb hby dmethod_3_12) rfl (own_lcne hc1).2 (by decide) (by decide) (XS.lconst X0.here hx rfl (hb hby dmethod_3_26) k)) ?_
    refine ⟨_, _, retOut X0 hx Bd.returns rfl (Or.inr (Or.inl ⟨rfl, rfl, _, rfl⟩)) (hb hby dmethod_3_27) hr, hrun, hended, _, _, rfl, ?_, ⟨_, rfl⟩, hW, hsame.mono (by decide) (by decide)⟩
    refine ⟨congrArg (fun z => some (Value.long z)) ?_, N0, e0⟩
    rw [F3, if_neg hc1]
theorem dprog_117_4_0 : decode prog_117_method_4_code 0 = .ok (.lload_n 0, 1) := by decide +kernel
theorem dprog_117_4_1 : decode prog_117_method_4_code 1 = .ok (.ldc2_w 21, 3) := by decide +kernel
theorem dprog_117_4_4 : decode prog_117_method_4_code 4 = .ok (.land, 1) := by decide +kernel
theorem dprog_117_4_5 : decode prog_117_method_4_code 5 = .ok (.ldc2_w 21, 3) := by decide +kernel
theorem dprog_117_4_8 : decode prog_117_method_4_code 8 = .ok (.ladd, 1) := by decide +kernel
theorem dprog_117_4_9 : decode prog_117_method_4_code 9 = .ok (.lload_n 0, 1) := by decide +kernel
theorem dprog_117_4_10 : decode prog_117_method_4_code 10 = .ok (.lor, 1) := by decide +kernel
theorem dprog_117_4_11 : decode prog_117_method_4_code 11 = .ok (.ldc2_w 21, 3) := by decide +kernel
theorem dprog_117_4_14 : decode prog_117_method_4_code 14 = .ok (.lor, 1) := by decide +kernel
theorem dprog_117_4_15 : decode prog_117_method_4_code 15 = .ok (.ldc2_w 23, 3) := by decide +kernel
theorem dprog_117_4_18 : decode prog_117_method_4_code 18 = .ok (.lxor, 1) := by decide +kernel
theorem dprog_117_4_19 : decode prog_117_method_4_code 19 = .ok (.lreturn, 1) := by decide +kernel
theorem pn_com_example_bindstream_bindstream_model_Words : plainName "com/example/bindstream/bindstream/model/Words" = true := by first | (simp [plainName, overriddenIn]; done) | decide +kernel
theorem ef4 (m : MethodId) (q0 : Int64) : entryFrame m #[(.long q0)] 2 = mkF m 0 #[.val (.long q0), .second] [] := by first | (simp [entryFrame, mkF, argsToLocals, Value.category]; done) | rfl
def F4 (q0 : Int64) : Int64 := (((((q0 &&& (9187201950435737471 : Int64)) + (9187201950435737471 : Int64)) ||| q0) ||| (9187201950435737471 : Int64)) ^^^ (-1 : Int64))
def Q4 (Z : State) (q0 : Int64) (h0 : Heap) (n0 : Nat) (v : Option Value) (h : Heap) (L : List Loc) : Prop := v = some (.long (F4 q0)) ∧ Fr n0 L ∧ h = h0
abbrev own_K4 (Z : State) (q0 : Int64) (h0 : Heap) (n0 : Nat) (s : State) : Outcome → State → Prop := fun o U' => ∃ v L, o = .returned v ∧ Q4 Z q0 h0 n0 v U'.heap L ∧ FrameEnd s o U' L ({ frames := 0, cells := 0, slots := 0, locals := 0 } : Room).cells ({ frames := 0, cells := 0, slots := 0, locals := 0 } : Room).slots
set_option maxRecDepth 65536 in
set_option maxHeartbeats 40000000 in
theorem rm4 (l : Launch) (Z : State) (a0 : Array Value) (hw : ∀ d ∈ tables_1, d.before a0 Z = true) (ws : List Jvm.Cond) (q0 : Int64) (h0 : Heap) (n0 : Nat) (Z0 : n0 ≤ h0.size) :
    MetFree l (⟨"com/example/bindstream/bindstream/model/Words", "zerosOfAscii", "(J)J"⟩ : MethodName) (head1 (Jvm.Cond.code (⟨"com/example/bindstream/bindstream/model/Words", "zerosOfAscii", "(J)J"⟩ : MethodName) prog_117_method_4_code 2 (some .long) :: ws) ({ frames := 0, cells := 0, slots := 0, locals := 0 } : Room)) (fun a U => a = #[(.long q0)] ∧ Z.Warmed39 U.vm ∧ U.heap = h0) (fun _ _ _ _ _ => True) (fun _ U o U' => ∃ v L, o = .returned v ∧ Q4 Z q0 h0 n0 v U'.heap L ∧ FrameEnd U o U' L ({ frames := 0, cells := 0, slots := 0, locals := 0 } : Room).cells ({ frames := 0, cells := 0, slots := 0, locals := 0 } : Room).slots) := by
  refine MetFree.of_bodySF (plainFor_of_name pn_com_example_bindstream_bindstream_model_Words) hisR ?_
  intro p e s m args below meth c s₁ Bd hml0 hP hK
  obtain ⟨rfl, hZ, hh⟩ := hP
  have hx := Bd.exec
  have hby := Bd.bytes
  have hml : c.maxLocals = 2 := hml0
  have hown : s.vm.findClass "com/example/bindstream/bindstream/model/Words" = some m.cls := findClass_of_methodNamed Bd.named
  have hnm := (name_of_methodNamed Bd.named Bd.method).1
  have X0 : Stand p l e ({ frames := 0, cells := 0, slots := 0, locals := 0 } : Room) s m #[(.long q0)] below meth c s₁ [] 0 0 := Stand.of_body Bd
  have e0 : s₁.heap = h0 := by rw [← hh, Bd.state]; rfl
  have N0 := Fr.nil n0
  refine own_by (p := p) (e := e) (below := below) (K := own_K4 Z q0 h0 n0 s) (W' := s₁.setTop (mkF m 0 #[.val (.long q0), .second] [])) (fun t k => castTop (ef4 m q0) k) ?_
  refine own_by (W' := (s₁.setTop (mkF m 10 #[.val (.long q0), .second] [(.long q0), (.long ((q0 &&& (9187201950435737471 : Int64)) + (9187201950435737471 : Int64)))]))) (fun t k => XS.lloadN X0.here hx rfl (hb hby dprog_117_4_0) rfl ((X0.ldc2Long hx hown (mvT hZ (own_w hw 15)) (g := (mkF m 1 #[.val (.long q0), .second] [(.long q0)])) rfl (hb hby dprog_117_4_1)) _ (XS.land X0.here hx rfl (hb hby dprog_117_4_4) rfl ((X0.ldc2Long hx hown (mvT hZ (own_w hw 15)) (g := (mkF m 5 #[.val (.long q0), .second] [(.long (q0 &&& (9187201950435737471 : Int64)))])) rfl (hb hby dprog_117_4_5)) _ (XS.ladd X0.here hx rfl (hb hby dprog_117_4_8) rfl (XS.lloadN X0.here hx rfl (hb hby dprog_117_4_9) rfl k)))))) ?_
  obtain ⟨fs, hr, hrun, hended, hW, hsame⟩ := X0.leave (v := some (.long (((((q0 &&& (9187201950435737471 : Int64)) + (9187201950435737471 : Int64)) ||| q0) ||| (9187201950435737471 : Int64)) ^^^ (-1 : Int64)))) (fun h => by rw [Bd.returns] at h; cases h)
  refine own_by (W' := (s₁.setTop (mkF m 19 #[.val (.long q0), .second] [(.long (((((q0 &&& (9187201950435737471 : Int64)) + (9187201950435737471 : Int64)) ||| q0) ||| (9187201950435737471 : Int64)) ^^^ (-1 : Int64)))]))) (fun t k => XS.lor X0.here hx rfl (hb hby dprog_117_4_10) rfl ((X0.ldc2Long hx hown (mvT hZ (own_w hw 15)) (g := (mkF m 11 #[.val (.long q0), .second] [(.long (((q0 &&& (9187201950435737471 : Int64)) + (9187201950435737471 : Int64)) ||| q0))])) rfl (hb hby dprog_117_4_11)) _ (XS.lor X0.here hx rfl (hb hby dprog_117_4_14) rfl ((X0.ldc2Long hx hown (mvT hZ (own_w hw 16)) (g := (mkF m 15 #[.val (.long q0), .second] [(.long ((((q0 &&& (9187201950435737471 : Int64)) + (9187201950435737471 : Int64)) ||| q0) ||| (9187201950435737471 : Int64)))])) rfl (hb hby dprog_117_4_15)) _ (XS.lxor X0.here hx rfl (hb hby dprog_117_4_18) rfl k))))) ?_
  refine ⟨_, _, retOut X0 hx Bd.returns rfl (Or.inr (Or.inl ⟨rfl, rfl, _, rfl⟩)) (hb hby dprog_117_4_19) hr, hrun, hended, _, _, rfl, ?_, ⟨_, rfl⟩, hW, hsame.mono (by decide) (by decide)⟩
  refine ⟨congrArg (fun z => some (Value.long z)) ?_, N0, e0⟩
  rw [F4]
abbrev own_M : BitVec 64 := 0x7f7f7f7f7f7f7f7f#64
theorem own_masked {w cl wd : Int64} (h : ((w &&& (9187201950435737471 : Int64)) &&& (cl ^^^ (-1 : Int64))) = wd) : wd.toBitVec &&& own_M = wd.toBitVec := by
  subst h
  have e : (9187201950435737471 : Int64).toBitVec = own_M := by decide
  rw [Int64.toBitVec_and, Int64.toBitVec_and, e]
  generalize w.toBitVec = a
  generalize (cl ^^^ (-1 : Int64)).toBitVec = b
  apply BitVec.eq_of_getLsbD_eq
  intro i hi
  simp only [BitVec.getLsbD_and]
  cases a.getLsbD i <;> cases own_M.getLsbD i <;> cases b.getLsbD i <;> rfl
/-- the mark of a byte that is 0 -/
def own_Z (x : BitVec 64) (i : Nat) : BitVec 64 := if (x >>> (8 * i)) &&& 255#64 = 0#64 then 128#64 <<< (8 * i) else 0#64
theorem own_Mb : ∀ j : Fin 64, own_M.getLsbD j.val = decide (¬ j.val % 8 = 7) := by decide +kernel
theorem own_zb : ∀ i : Fin 8, ∀ j : Fin 64, (128#64 <<< (8 * i.val)).getLsbD j.val = decide (j.val = 8 * i.val + 7) := by decide +kernel
theorem own_c (x : BitVec 64) (i : Nat) : ((x >>> (8 * i)) &&& 255#64 = 0#64) ↔ x.toNat / 2 ^ (8 * i) % 256 = 0 := by
  rw [← BitVec.toNat_inj, BitVec.toNat_and, BitVec.toNat_ushiftRight, Nat.shiftRight_eq_div_pow]
  have : (255#64).toNat = 2 ^ 8 - 1 := by decide
  rw [this, Nat.and_two_pow_sub_one_eq_mod]
  simp
theorem own_Zb (x : BitVec 64) (i : Fin 8) {j : Nat} (hj : j < 64) : (own_Z x i.val).getLsbD j = (decide (x.toNat / 2 ^ (8 * i.val) % 256 = 0) && decide (j = 8 * i.val + 7)) := by
  have e := own_zb i ⟨j, hj⟩
  simp only at e
  unfold own_Z
  by_cases h : (x >>> (8 * i.val)) &&& 255#64 = 0#64
  · rw [if_pos h, e, decide_eq_true ((own_c x i.val).mp h), Bool.true_and]
  · rw [if_neg h, decide_eq_false (fun q => h ((own_c x i.val).mpr q)), Bool.false_and, BitVec.getLsbD_zero]
theorem own_tb (x : BitVec 64) (j : Nat) : x.getLsbD j = decide (x.toNat / 2 ^ j % 2 = 1) := by
  show x.toNat.testBit j = _
  rw [Nat.testBit_eq_decide_div_mod_eq]
theorem own_sum (X : Nat) (hX : X < 2 ^ 64) (f0 : X / 2 ^ 7 % 2 = 0) (f1 : X / 2 ^ 15 % 2 = 0) (f2 : X / 2 ^ 23 % 2 = 0) (f3 : X / 2 ^ 31 % 2 = 0) (f4 : X / 2 ^ 39 % 2 = 0) (f5 : X / 2 ^ 47 % 2 = 0) (f6 : X / 2 ^ 55 % 2 = 0) (f7 : X / 2 ^ 63 % 2 = 0) : ((X + 9187201950435737471) % 2 ^ 64 / 2 ^ 7 % 2 = 1 ↔ ¬ X / 2 ^ 0 % 256 = 0) ∧ ((X + 9187201950435737471) % 2 ^ 64 / 2 ^ 15 % 2 = 1 ↔ ¬ X / 2 ^ 8 % 256 = 0) ∧ ((X + 9187201950435737471) % 2 ^ 64 / 2 ^ 23 % 2 = 1 ↔ ¬ X / 2 ^ 16 % 256 = 0) ∧ ((X + 9187201950435737471) % 2 ^ 64 / 2 ^ 31 % 2 = 1 ↔ ¬ X / 2 ^ 24 % 256 = 0) ∧ ((X + 9187201950435737471) % 2 ^ 64 / 2 ^ 39 % 2 = 1 ↔ ¬ X / 2 ^ 32 % 256 = 0) ∧ ((X + 9187201950435737471) % 2 ^ 64 / 2 ^ 47 % 2 = 1 ↔ ¬ X / 2 ^ 40 % 256 = 0) ∧ ((X + 9187201950435737471) % 2 ^ 64 / 2 ^ 55 % 2 = 1 ↔ ¬ X / 2 ^ 48 % 256 = 0) ∧ ((X + 9187201950435737471) % 2 ^ 64 / 2 ^ 63 % 2 = 1 ↔ ¬ X / 2 ^ 56 % 256 = 0) := by
  obtain ⟨b0, b1, b2, b3, b4, b5, b6, b7, hB⟩ : ∃ b0 b1 b2 b3 b4 b5 b6 b7 : Nat, X = 1 * b0 + 256 * b1 + 65536 * b2 + 16777216 * b3 + 4294967296 * b4 + 1099511627776 * b5 + 281474976710656 * b6 + 72057594037927936 * b7 ∧ b0 < 128 ∧ b1 < 128 ∧ b2 < 128 ∧ b3 < 128 ∧ b4 < 128 ∧ b5 < 128 ∧ b6 < 128 ∧ b7 < 128 := ⟨X / 1 % 256, X / 256 % 256, X / 65536 % 256, X / 16777216 % 256, X / 4294967296 % 256, X / 1099511627776 % 256, X / 281474976710656 % 256, X / 72057594037927936 % 256, by omega⟩
  obtain ⟨e, l0, l1, l2, l3, l4, l5, l6, l7⟩ := hB
  clear f0 f1 f2 f3 f4 f5 f6 f7
  subst e
  refine ⟨?_, ?_, ?_, ?_, ?_, ?_, ?_, ?_⟩
  all_goals omega
theorem own_bits (x : BitVec 64) (h : x &&& own_M = x) : ~~~(((x + own_M) ||| x) ||| own_M) = (((((((own_Z x 0 ||| own_Z x 1) ||| own_Z x 2) ||| own_Z x 3) ||| own_Z x 4) ||| own_Z x 5) ||| own_Z x 6) ||| own_Z x 7) := by
  have hb : ∀ j : Fin 64, j.val % 8 = 7 → x.getLsbD j.val = false := fun j q => by
    rw [← h, BitVec.getLsbD_and, own_Mb j]
    simp [q]
  have f0 : x.toNat / 2 ^ 7 % 2 = 0 := by have q := hb ⟨7, by decide⟩ (by decide); rw [own_tb] at q; have q' := of_decide_eq_false q; simp only at q'; omega
  have f1 : x.toNat / 2 ^ 15 % 2 = 0 := by have q := hb ⟨15, by decide⟩ (by decide); rw [own_tb] at q; have q' := of_decide_eq_false q; simp only at q'; omega
  have f2 : x.toNat / 2 ^ 23 % 2 = 0 := by have q := hb ⟨23, by decide⟩ (by decide); rw [own_tb] at q; have q' := of_decide_eq_false q; simp only at q'; omega
  have f3 : x.toNat / 2 ^ 31 % 2 = 0 := by have q := hb ⟨31, by decide⟩ (by decide); rw [own_tb] at q; have q' := of_decide_eq_false q; simp only at q'; omega
  have f4 : x.toNat / 2 ^ 39 % 2 = 0 := by have q := hb ⟨39, by decide⟩ (by decide); rw [own_tb] at q; have q' := of_decide_eq_false q; simp only at q'; omega
  have f5 : x.toNat / 2 ^ 47 % 2 = 0 := by have q := hb ⟨47, by decide⟩ (by decide); rw [own_tb] at q; have q' := of_decide_eq_false q; simp only at q'; omega
  have f6 : x.toNat / 2 ^ 55 % 2 = 0 := by have q := hb ⟨55, by decide⟩ (by decide); rw [own_tb] at q; have q' := of_decide_eq_false q; simp only at q'; omega
  have f7 : x.toNat / 2 ^ 63 % 2 = 0 := by have q := hb ⟨63, by decide⟩ (by decide); rw [own_tb] at q; have q' := of_decide_eq_false q; simp only at q'; omega
  obtain ⟨s0, s1, s2, s3, s4, s5, s6, s7⟩ := own_sum x.toNat x.isLt f0 f1 f2 f3 f4 f5 f6 f7
  have eM : own_M.toNat = 9187201950435737471 := by decide
  apply BitVec.eq_of_getLsbD_eq
  intro j hj
  have m := own_Mb ⟨j, hj⟩
  simp only at m
  have z0 : (own_Z x 0).getLsbD j = (decide (x.toNat / 2 ^ 0 % 256 = 0) && decide (j = 7)) := own_Zb x ⟨0, by decide⟩ hj
  have z1 : (own_Z x 1).getLsbD j = (decide (x.toNat / 2 ^ 8 % 256 = 0) && decide (j = 15)) := own_Zb x ⟨1, by decide⟩ hj
  have z2 : (own_Z x 2).getLsbD j = (decide (x.toNat / 2 ^ 16 % 256 = 0) && decide (j = 23)) := own_Zb x ⟨2, by decide⟩ hj
  have z3 : (own_Z x 3).getLsbD j = (decide (x.toNat / 2 ^ 24 % 256 = 0) && decide (j = 31)) := own_Zb x ⟨3, by decide⟩ hj
  have z4 : (own_Z x 4).getLsbD j = (decide (x.toNat / 2 ^ 32 % 256 = 0) && decide (j = 39)) := own_Zb x ⟨4, by decide⟩ hj
  have z5 : (own_Z x 5).getLsbD j = (decide (x.toNat / 2 ^ 40 % 256 = 0) && decide (j = 47)) := own_Zb x ⟨5, by decide⟩ hj
  have z6 : (own_Z x 6).getLsbD j = (decide (x.toNat / 2 ^ 48 % 256 = 0) && decide (j = 55)) := own_Zb x ⟨6, by decide⟩ hj
  have z7 : (own_Z x 7).getLsbD j = (decide (x.toNat / 2 ^ 56 % 256 = 0) && decide (j = 63)) := own_Zb x ⟨7, by decide⟩ hj
  simp only [BitVec.getLsbD_not, BitVec.getLsbD_or, m, z0, z1, z2, z3, z4, z5, z6, z7]
  by_cases q : j % 8 = 7
  · rcases (by omega : j = 7 ∨ j = 15 ∨ j = 23 ∨ j = 31 ∨ j = 39 ∨ j = 47 ∨ j = 55 ∨ j = 63) with rfl | rfl | rfl | rfl | rfl | rfl | rfl | rfl
    · have t : (x + own_M).getLsbD 7 = decide (¬ x.toNat / 2 ^ 0 % 256 = 0) := by rw [own_tb, BitVec.toNat_add, eM]; exact decide_eq_decide.mpr s0
      rw [t, hb ⟨7, by decide⟩ (by decide)]
      simp
    · have t : (x + own_M).getLsbD 15 = decide (¬ x.toNat / 2 ^ 8 % 256 = 0) := by rw [own_tb, BitVec.toNat_add, eM]; exact decide_eq_decide.mpr s1
      rw [t, hb ⟨15, by decide⟩ (by decide)]
      simp
    · have t : (x + own_M).getLsbD 23 = decide (¬ x.toNat / 2 ^ 16 % 256 = 0) := by rw [own_tb, BitVec.toNat_add, eM]; exact decide_eq_decide.mpr s2
      rw [t, hb ⟨23, by decide⟩ (by decide)]
      simp
    · have t : (x + own_M).getLsbD 31 = decide (¬ x.toNat / 2 ^ 24 % 256 = 0) := by rw [own_tb, BitVec.toNat_add, eM]; exact decide_eq_decide.mpr s3
      rw [t, hb ⟨31, by decide⟩ (by decide)]
      simp
    · have t : (x + own_M).getLsbD 39 = decide (¬ x.toNat / 2 ^ 32 % 256 = 0) := by rw [own_tb, BitVec.toNat_add, eM]; exact decide_eq_decide.mpr s4
      rw [t, hb ⟨39, by decide⟩ (by decide)]
      simp
    · have t : (x + own_M).getLsbD 47 = decide (¬ x.toNat / 2 ^ 40 % 256 = 0) := by rw [own_tb, BitVec.toNat_add, eM]; exact decide_eq_decide.mpr s5
      rw [t, hb ⟨47, by decide⟩ (by decide)]
      simp
    · have t : (x + own_M).getLsbD 55 = decide (¬ x.toNat / 2 ^ 48 % 256 = 0) := by rw [own_tb, BitVec.toNat_add, eM]; exact decide_eq_decide.mpr s6
      rw [t, hb ⟨55, by decide⟩ (by decide)]
      simp
    · have t : (x + own_M).getLsbD 63 = decide (¬ x.toNat / 2 ^ 56 % 256 = 0) := by rw [own_tb, BitVec.toNat_add, eM]; exact decide_eq_decide.mpr s7
      rw [t, hb ⟨63, by decide⟩ (by decide)]
      simp
  · have hn : ¬ j = 7 ∧ ¬ j = 15 ∧ ¬ j = 23 ∧ ¬ j = 31 ∧ ¬ j = 39 ∧ ¬ j = 47 ∧ ¬ j = 55 ∧ ¬ j = 63 := by omega
    simp [q, hn]
theorem own_F3_0 (wd : Int64) : (F3 wd (0 : Int32)).toBitVec = own_Z wd.toBitVec 0 := by
  have e : ((wd.toUInt64 >>> (((8 : Int32) * (0 : Int32)) &&& 0x3f).toInt64.toUInt64).toInt64 &&& (255 : Int64)).toBitVec = (wd.toBitVec >>> (8 * 0)) &&& 255#64 := by
    rw [Int64.toBitVec_and, UInt64.toBitVec_toInt64, UInt64.toBitVec_shiftRight, Int64.toBitVec_toUInt64]
    rfl
  unfold F3 own_Z
  by_cases h : ((wd.toUInt64 >>> (((8 : Int32) * (0 : Int32)) &&& 0x3f).toInt64.toUInt64).toInt64 &&& (255 : Int64)) = (0 : Int64)
  · rw [if_pos h, if_pos (by rw [← e, h]; rfl)]
    rfl
  · rw [if_neg h, if_neg (fun q => h (Int64.toBitVec_inj.mp (by rw [e, q]; rfl)))]
    rfl
theorem own_F3_1 (wd : Int64) : (F3 wd (1 : Int32)).toBitVec = own_Z wd.toBitVec 1 := by
  have e : ((wd.toUInt64 >>> (((8 : Int32) * (1 : Int32)) &&& 0x3f).toInt64.toUInt64).toInt64 &&& (255 : Int64)).toBitVec = (wd.toBitVec >>> (8 * 1)) &&& 255#64 := by
    rw [Int64.toBitVec_and, UInt64.toBitVec_toInt64, UInt64.toBitVec_shiftRight, Int64.toBitVec_toUInt64]
    rfl
  unfold F3 own_Z
  by_cases h : ((wd.toUInt64 >>> (((8 : Int32) * (1 : Int32)) &&& 0x3f).toInt64.toUInt64).toInt64 &&& (255 : Int64)) = (0 : Int64)
  · rw [if_pos h, if_pos (by rw [← e, h]; rfl)]
    rfl
  · rw [if_neg h, if_neg (fun q => h (Int64.toBitVec_inj.mp (by rw [e, q]; rfl)))]
    rfl
theorem own_F3_2 (wd : Int64) : (F3 wd (2 : Int32)).toBitVec = own_Z wd.toBitVec 2 := by
  have e : ((wd.toUInt64 >>> (((8 : Int32) * (2 : Int32)) &&& 0x3f).toInt64.toUInt64).toInt64 &&& (255 : Int64)).toBitVec = (wd.toBitVec >>> (8 * 2)) &&& 255#64 := by
    rw [Int64.toBitVec_and, UInt64.toBitVec_toInt64, UInt64.toBitVec_shiftRight, Int64.toBitVec_toUInt64]
    rfl
  unfold F3 own_Z
  by_cases h : ((wd.toUInt64 >>> (((8 : Int32) * (2 : Int32)) &&& 0x3f).toInt64.toUInt64).toInt64 &&& (255 : Int64)) = (0 : Int64)
  · rw [if_pos h, if_pos (by rw [← e, h]; rfl)]
    rfl
  · rw [if_neg h, if_neg (fun q => h (Int64.toBitVec_inj.mp (by rw [e, q]; rfl)))]
    rfl
theorem own_F3_3 (wd : Int64) : (F3 wd (3 : Int32)).toBitVec = own_Z wd.toBitVec 3 := by
  have e : ((wd.toUInt64 >>> (((8 : Int32) * (3 : Int32)) &&& 0x3f).toInt64.toUInt64).toInt64 &&& (255 : Int64)).toBitVec = (wd.toBitVec >>> (8 * 3)) &&& 255#64 := by
    rw [Int64.toBitVec_and, UInt64.toBitVec_toInt64, UInt64.toBitVec_shiftRight, Int64.toBitVec_toUInt64]
    rfl
  unfold F3 own_Z
  by_cases h : ((wd.toUInt64 >>> (((8 : Int32) * (3 : Int32)) &&& 0x3f).toInt64.toUInt64).toInt64 &&& (255 : Int64)) = (0 : Int64)
  · rw [if_pos h, if_pos (by rw [← e, h]; rfl)]
    rfl
  · rw [if_neg h, if_neg (fun q => h (Int64.toBitVec_inj.mp (by rw [e, q]; rfl)))]
    rfl
theorem own_F3_4 (wd : Int64) : (F3 wd (4 : Int32)).toBitVec = own_Z wd.toBitVec 4 := by
  have e : ((wd.toUInt64 >>> (((8 : Int32) * (4 : Int32)) &&& 0x3f).toInt64.toUInt64).toInt64 &&& (255 : Int64)).toBitVec = (wd.toBitVec >>> (8 * 4)) &&& 255#64 := by
    rw [Int64.toBitVec_and, UInt64.toBitVec_toInt64, UInt64.toBitVec_shiftRight, Int64.toBitVec_toUInt64]
    rfl
  unfold F3 own_Z
  by_cases h : ((wd.toUInt64 >>> (((8 : Int32) * (4 : Int32)) &&& 0x3f).toInt64.toUInt64).toInt64 &&& (255 : Int64)) = (0 : Int64)
  · rw [if_pos h, if_pos (by rw [← e, h]; rfl)]
    rfl
  · rw [if_neg h, if_neg (fun q => h (Int64.toBitVec_inj.mp (by rw [e, q]; rfl)))]
    rfl
theorem own_F3_5 (wd : Int64) : (F3 wd (5 : Int32)).toBitVec = own_Z wd.toBitVec 5 := by
  have e : ((wd.toUInt64 >>> (((8 : Int32) * (5 : Int32)) &&& 0x3f).toInt64.toUInt64).toInt64 &&& (255 : Int64)).toBitVec = (wd.toBitVec >>> (8 * 5)) &&& 255#64 := by
    rw [Int64.toBitVec_and, UInt64.toBitVec_toInt64, UInt64.toBitVec_shiftRight, Int64.toBitVec_toUInt64]
    rfl
  unfold F3 own_Z
  by_cases h : ((wd.toUInt64 >>> (((8 : Int32) * (5 : Int32)) &&& 0x3f).toInt64.toUInt64).toInt64 &&& (255 : Int64)) = (0 : Int64)
  · rw [if_pos h, if_pos (by rw [← e, h]; rfl)]
    rfl
  · rw [if_neg h, if_neg (fun q => h (Int64.toBitVec_inj.mp (by rw [e, q]; rfl)))]
    rfl
theorem own_F3_6 (wd : Int64) : (F3 wd (6 : Int32)).toBitVec = own_Z wd.toBitVec 6 := by
  have e : ((wd.toUInt64 >>> (((8 : Int32) * (6 : Int32)) &&& 0x3f).toInt64.toUInt64).toInt64 &&& (255 : Int64)).toBitVec = (wd.toBitVec >>> (8 * 6)) &&& 255#64 := by
    rw [Int64.toBitVec_and, UInt64.toBitVec_toInt64, UInt64.toBitVec_shiftRight, Int64.toBitVec_toUInt64]
    rfl
  unfold F3 own_Z
  by_cases h : ((wd.toUInt64 >>> (((8 : Int32) * (6 : Int32)) &&& 0x3f).toInt64.toUInt64).toInt64 &&& (255 : Int64)) = (0 : Int64)
  · rw [if_pos h, if_pos (by rw [← e, h]; rfl)]
    rfl
  · rw [if_neg h, if_neg (fun q => h (Int64.toBitVec_inj.mp (by rw [e, q]; rfl)))]
    rfl
theorem own_F3_7 (wd : Int64) : (F3 wd (7 : Int32)).toBitVec = own_Z wd.toBitVec 7 := by
  have e : ((wd.toUInt64 >>> (((8 : Int32) * (7 : Int32)) &&& 0x3f).toInt64.toUInt64).toInt64 &&& (255 : Int64)).toBitVec = (wd.toBitVec >>> (8 * 7)) &&& 255#64 := by
    rw [Int64.toBitVec_and, UInt64.toBitVec_toInt64, UInt64.toBitVec_shiftRight, Int64.toBitVec_toUInt64]
    rfl
  unfold F3 own_Z
  by_cases h : ((wd.toUInt64 >>> (((8 : Int32) * (7 : Int32)) &&& 0x3f).toInt64.toUInt64).toInt64 &&& (255 : Int64)) = (0 : Int64)
  · rw [if_pos h, if_pos (by rw [← e, h]; rfl)]
    rfl
  · rw [if_neg h, if_neg (fun q => h (Int64.toBitVec_inj.mp (by rw [e, q]; rfl)))]
    rfl
theorem own_law (wd : Int64) (h : wd.toBitVec &&& own_M = wd.toBitVec) : (F4 wd) = ((((((((F3 wd (0 : Int32)) ||| (F3 wd (1 : Int32))) ||| (F3 wd (2 : Int32))) ||| (F3 wd (3 : Int32))) ||| (F3 wd (4 : Int32))) ||| (F3 wd (5 : Int32))) ||| (F3 wd (6 : Int32))) ||| (F3 wd (7 : Int32))) := by
  apply Int64.toBitVec_inj.mp
  simp only [Int64.toBitVec_or, own_F3_0, own_F3_1, own_F3_2, own_F3_3, own_F3_4, own_F3_5, own_F3_6, own_F3_7]
  rw [← own_bits _ h]
  unfold F4
  have e : (9187201950435737471 : Int64).toBitVec = own_M := by decide
  have e1 : (-1 : Int64).toBitVec = BitVec.allOnes 64 := by decide
  rw [Int64.toBitVec_xor, Int64.toBitVec_or, Int64.toBitVec_or, Int64.toBitVec_add, Int64.toBitVec_and, e, e1, h, BitVec.xor_allOnes]

theorem pd_1 : parseMethodDescriptor "(II)J" = some ⟨[.int, .int], some .long⟩ := by decide +kernel
theorem pd_2 : parseMethodDescriptor "(JI)J" = some ⟨[.long, .int], some .long⟩ := by decide +kernel
theorem pd_3 : parseMethodDescriptor "(J)J" = some ⟨[.long], some .long⟩ := by decide +kernel
theorem efL (m : MethodId) (q0 : Int64) (p1 : Int32) : entryFrame m #[(.long q0), (.int p1)] maxLocals = mkF m 0 #[.val (.long q0), .second, .val (.int p1), .unset, .unset, .unset, .unset, .unset, .unset] [] := by first | (simp [entryFrame, mkF, argsToLocals, Value.category, maxLocals]; done) | rfl
def QL (Z : State) (q0 : Int64) (p1 : Int32) (h0 : Heap) (n0 : Nat) (v : Option Value) (h : Heap) (L : List Loc) : Prop := v = some (.int 1) ∧ Fr n0 L
abbrev own_KL (Z : State) (q0 : Int64) (p1 : Int32) (h0 : Heap) (n0 : Nat) (s : State) : Outcome → State → Prop := fun o U' => ∃ v L, o = .returned v ∧ QL Z q0 p1 h0 n0 v U'.heap L ∧ FrameEnd s o U' L room_1.cells room_1.slots
set_option maxRecDepth 65536 in
set_option maxHeartbeats 40000000 in
theorem rmL (l : Launch) (Z : State) (a0 : Array Value) (hw : ∀ d ∈ tables_1, d.before a0 Z = true) (ws : List Jvm.Cond) (q0 : Int64) (p1 : Int32) (h0 : Heap) (n0 : Nat) (Z0 : n0 ≤ h0.size) :
    MetFree l x (head1 (Jvm.Cond.code x code maxLocals ret :: ws) room_1) (fun a U => a = #[(.long q0), (.int p1)] ∧ Z.Warmed39 U.vm ∧ U.heap = h0) (fun _ _ _ _ _ => True) (fun _ U o U' => ∃ v L, o = .returned v ∧ QL Z q0 p1 h0 n0 v U'.heap L ∧ FrameEnd U o U' L room_1.cells room_1.slots) := by
  refine MetFree.of_bodySF (plainFor_of_name pn_com_example_bindstream_bindstream_model_WordsZerosOfAsciiPinLaw) hisR ?_
  intro p e s m args below meth c s₁ Bd hml0 hP hK
  obtain ⟨rfl, hZ, hh⟩ := hP
  have hx := Bd.exec
  have hby := Bd.bytes
  have hml : c.maxLocals = 9 := hml0
  have hown : s.vm.findClass "com/example/bindstream/bindstream/model/WordsZerosOfAsciiPinLaw" = some m.cls := findClass_of_methodNamed Bd.named
  have hnm := (name_of_methodNamed Bd.named Bd.method).1
  have X0 : Stand p l e room_1 s m #[(.long q0), (.int p1)] below meth c s₁ [] 0 0 := Stand.of_body Bd
  have e0 : s₁.heap = h0 := by rw [← hh, Bd.state]; rfl
  have N0 := Fr.nil n0
  refine own_by (p := p) (e := e) (below := below) (K := own_KL Z q0 p1 h0 n0 s) (W' := s₁.setTop (mkF m 0 #[.val (.long q0), .second, .val (.int p1), .unset, .unset, .unset, .unset, .unset, .unset] [])) (fun t k => castTop (efL m q0 p1) k) ?_
  obtain ⟨_, _, ⟨T1, L1, k1, n1⟩, -, X1, ⟨Lc1, hQ1, l1, y1, z1⟩, st1⟩ := Jvm.LawKit.callS X0 hx (y := (⟨"com/example/bindstream/bindstream/model/WordsZerosOfAsciiPinLaw", "byteMask", "(II)J"⟩ : MethodName)) hown (mvT hZ (own_w hw 0)) (mvT hZ (own_w hw 1)) (mvT hZ (own_w hw 2)) (mvT hZ (own_w hw 3)) (by decide) (backOf (W := 0) (rm2 l Z a0 hw [] p1 (0 : Int32) h0 n0 Z0 ) hZ (own_w hw 3) (own_w hw 2) (by decide) (by decide)) (g := (mkF m 2 #[.val (.long q0), .second, .val (.int p1), .unset, .unset, .unset, .unset, .unset, .unset] [(.int (0 : Int32)), (.int p1)])) rfl (by rw [hml]; rfl) (argsL := [(.int p1), (.int (0 : Int32))]) (rest := []) (lenOf pd_1 rfl) rfl (by show 2 * 0 + _ ≤ _; exact Nat.le_of_eq rfl) (hb hby at_2) (fun _ _ => ⟨rfl, e0, (by decide : 0 + 0 ≤ _), (by decide : 0 + 0 ≤ _)⟩)
  dsimp only [Pt.U, Pt.locs, Pt.cells, Pt.slots] at X1 l1 y1 z1 st1 hQ1
  subst l1 y1 z1
  obtain ⟨rfl, N1q, e1⟩ := hQ1
  have N1 := Fr.app N0 N1q
  obtain ⟨_, _, ⟨T2, L2, k2, n2⟩, -, X2, ⟨Lc2, hQ2, l2, y2, z2⟩, st2⟩ := Jvm.LawKit.callS X1 hx (y := (⟨"com/example/bindstream/bindstream/model/WordsZerosOfAsciiPinLaw", "byteMask", "(II)J"⟩ : MethodName)) hown (mvT hZ (own_w hw 0)) (mvT hZ (own_w hw 1)) (mvT hZ (own_w hw 2)) (mvT hZ (own_w hw 3)) (by decide) (backOf (W := 2) (rm2 l Z a0 hw [] p1 (1 : Int32) h0 n0 Z0 ) hZ (own_w hw 3) (own_w hw 2) (by decide) (by decide)) (g := (mkF m 7 #[.val (.long q0), .second, .val (.int p1), .unset, .unset, .unset, .unset, .unset, .unset] [(.int (1 : Int32)), (.int p1), (.long (F2 p1 (0 : Int32)))])) rfl (by rw [hml]; rfl) (argsL := [(.int p1), (.int (1 : Int32))]) (rest := [(.long (F2 p1 (0 : Int32)))]) (lenOf pd_1 rfl) rfl (by show 2 * 0 + _ ≤ _; exact Nat.le_of_eq rfl) (hb hby at_7) (fun _ _ => ⟨rfl, e1, (by decide : 0 + 0 ≤ _), (by decide : 0 + 0 ≤ _)⟩)
  dsimp only [Pt.U, Pt.locs, Pt.cells, Pt.slots] at X2 l2 y2 z2 st2 hQ2
  subst l2 y2 z2
  obtain ⟨rfl, N2q, e2⟩ := hQ2
  have N2 := Fr.app N1 N2q
  refine own_by (W' := (T2.setTop (mkF m 10 #[.val (.long q0), .second, .val (.int p1), .unset, .unset, .unset, .unset, .unset, .unset] [(.long (F2 p1 (1 : Int32))), (.long (F2 p1 (0 : Int32)))]))) (fun t k => XS.iloadN X0.here hx rfl (hb hby at_0) rfl (XS.iconst X0.here hx rfl (hb hby at_1) (st1 _ (XS.iloadN X1.here hx rfl (hb hby at_5) rfl (XS.iconst X1.here hx rfl (hb hby at_6) (st2 _ k)))))) ?_
  obtain ⟨_, _, ⟨T3, L3, k3, n3⟩, -, X3, ⟨Lc3, hQ3, l3, y3, z3⟩, st3⟩ := Jvm.LawKit.callS X2 hx (y := (⟨"com/example/bindstream/bindstream/model/WordsZerosOfAsciiPinLaw", "byteMask", "(II)J"⟩ : MethodName)) hown (mvT hZ (own_w hw 0)) (mvT hZ (own_w hw 1)) (mvT hZ (own_w hw 2)) (mvT hZ (own_w hw 3)) (by decide) (backOf (W := 2) (rm2 l Z a0 hw [] p1 (2 : Int32) h0 n0 Z0 ) hZ (own_w hw 3) (own_w hw 2) (by decide) (by decide)) (g := (mkF m 13 #[.val (.long q0), .second, .val (.int p1), .unset, .unset, .unset, .unset, .unset, .unset] [(.int (2 : Int32)), (.int p1), (.long ((F2 p1 (0 : Int32)) ||| (F2 p1 (1 : Int32))))])) rfl (by rw [hml]; rfl) (argsL := [(.int p1), (.int (2 : Int32))]) (rest := [(.long ((F2 p1 (0 : Int32)) ||| (F2 p1 (1 : Int32))))]) (lenOf pd_1 rfl) rfl (by show 2 * 0 + _ ≤ _; exact Nat.le_of_eq rfl) (hb hby at_13) (fun _ _ => ⟨rfl, e2, (by decide : 0 + 0 ≤ _), (by decide : 0 + 0 ≤ _)⟩)
  dsimp only [Pt.U, Pt.locs, Pt.cells, Pt.slots] at X3 l3 y3 z3 st3 hQ3
  subst l3 y3 z3
  obtain ⟨rfl, N3q, e3⟩ := hQ3
  have N3 := Fr.app N2 N3q
  refine own_by (W' := (T3.setTop (mkF m 18 #[.val (.long q0), .second, .val (.int p1), .unset, .unset, .unset, .unset, .unset, .unset] [(.int p1), (.long (((F2 p1 (0 : Int32)) ||| (F2 p1 (1 : Int32))) ||| (F2 p1 (2 : Int32))))]))) (fun t k => XS.lor X2.here hx rfl (hb hby at_10) rfl (XS.iloadN X2.here hx rfl (hb hby at_11) rfl (XS.iconst X2.here hx rfl (hb hby at_12) (st3 _ (XS.lor X3.here hx rfl (hb hby at_16) rfl (XS.iloadN X3.here hx rfl (hb hby at_17) rfl k)))))) ?_
  obtain ⟨_, _, ⟨T4, L4, k4, n4⟩, -, X4, ⟨Lc4, hQ4, l4, y4, z4⟩, st4⟩ := Jvm.LawKit.callS X3 hx (y := (⟨"com/example/bindstream/bindstream/model/WordsZerosOfAsciiPinLaw", "byteMask", "(II)J"⟩ : MethodName)) hown (mvT hZ (own_w hw 0)) (mvT hZ (own_w hw 1)) (mvT hZ (own_w hw 2)) (mvT hZ (own_w hw 3)) (by decide) (backOf (W := 2) (rm2 l Z a0 hw [] p1 (3 : Int32) h0 n0 Z0 ) hZ (own_w hw 3) (own_w hw 2) (by decide) (by decide)) (g := (mkF m 19 #[.val (.long q0), .second, .val (.int p1), .unset, .unset, .unset, .unset, .unset, .unset] [(.int (3 : Int32)), (.int p1), (.long (((F2 p1 (0 : Int32)) ||| (F2 p1 (1 : Int32))) ||| (F2 p1 (2 : Int32))))])) rfl (by rw [hml]; rfl) (argsL := [(.int p1), (.int (3 : Int32))]) (rest := [(.long (((F2 p1 (0 : Int32)) ||| (F2 p1 (1 : Int32))) ||| (F2 p1 (2 : Int32))))]) (lenOf pd_1 rfl) rfl (by show 2 * 0 + _ ≤ _; exact Nat.le_of_eq rfl) (hb hby at_19) (fun _ _ => ⟨rfl, e3, (by decide : 0 + 0 ≤ _), (by decide : 0 + 0 ≤ _)⟩)
  dsimp only [Pt.U, Pt.locs, Pt.cells, Pt.slots] at X4 l4 y4 z4 st4 hQ4
  subst l4 y4 z4
  obtain ⟨rfl, N4q, e4⟩ := hQ4
  have N4 := Fr.app N3 N4q
  obtain ⟨_, _, ⟨T5, L5, k5, n5⟩, -, X5, ⟨Lc5, hQ5, l5, y5, z5⟩, st5⟩ := Jvm.LawKit.callS X4 hx (y := (⟨"com/example/bindstream/bindstream/model/WordsZerosOfAsciiPinLaw", "byteMask", "(II)J"⟩ : MethodName)) hown (mvT hZ (own_w hw 0)) (mvT hZ (own_w hw 1)) (mvT hZ (own_w hw 2)) (mvT hZ (own_w hw 3)) (by decide) (backOf (W := 2) (rm2 l Z a0 hw [] p1 (4 : Int32) h0 n0 Z0 ) hZ (own_w hw 3) (own_w hw 2) (by decide) (by decide)) (g := (mkF m 25 #[.val (.long q0), .second, .val (.int p1), .unset, .unset, .unset, .unset, .unset, .unset] [(.int (4 : Int32)), (.int p1), (.long ((((F2 p1 (0 : Int32)) ||| (F2 p1 (1 : Int32))) ||| (F2 p1 (2 : Int32))) ||| (F2 p1 (3 : Int32))))])) rfl (by rw [hml]; rfl) (argsL := [(.int p1), (.int (4 : Int32))]) (rest := [(.long ((((F2 p1 (0 : Int32)) ||| (F2 p1 (1 : Int32))) ||| (F2 p1 (2 : Int32))) ||| (F2 p1 (3 : Int32))))]) (lenOf pd_1 rfl) rfl (by show 2 * 0 + _ ≤ _; exact Nat.le_of_eq rfl) (hb hby at_25) (fun _ _ => ⟨rfl, e4, (by decide : 0 + 0 ≤ _), (by decide : 0 + 0 ≤ _)⟩)
  dsimp only [Pt.U, Pt.locs, Pt.cells, Pt.slots] at X5 l5 y5 z5 st5 hQ5
  subst l5 y5 z5
  obtain ⟨rfl, N5q, e5⟩ := hQ5
  have N5 := Fr.app N4 N5q
  refine own_by (W' := (T5.setTop (mkF m 28 #[.val (.long q0), .second, .val (.int p1), .unset, .unset, .unset, .unset, .unset, .unset] [(.long (F2 p1 (4 : Int32))), (.long ((((F2 p1 (0 : Int32)) ||| (F2 p1 (1 : Int32))) ||| (F2 p1 (2 : Int32))) ||| (F2 p1 (3 : Int32))))]))) (fun t k => XS.iconst X3.here hx rfl (hb hby at_18) (st4 _ (XS.lor X4.here hx rfl (hb hby at_22) rfl (XS.iloadN X4.here hx rfl (hb hby at_23) rfl (XS.iconst X4.here hx rfl (hb hby at_24) (st5 _ k)))))) ?_
  obtain ⟨_, _, ⟨T6, L6, k6, n6⟩, -, X6, ⟨Lc6, hQ6, l6, y6, z6⟩, st6⟩ := Jvm.LawKit.callS X5 hx (y := (⟨"com/example/bindstream/bindstream/model/WordsZerosOfAsciiPinLaw", "byteMask", "(II)J"⟩ : MethodName)) hown (mvT hZ (own_w hw 0)) (mvT hZ (own_w hw 1)) (mvT hZ (own_w hw 2)) (mvT hZ (own_w hw 3)) (by decide) (backOf (W := 2) (rm2 l Z a0 hw [] p1 (5 : Int32) h0 n0 Z0 ) hZ (own_w hw 3) (own_w hw 2) (by decide) (by decide)) (g := (mkF m 31 #[.val (.long q0), .second, .val (.int p1), .unset, .unset, .unset, .unset, .unset, .unset] [(.int (5 : Int32)), (.int p1), (.long (((((F2 p1 (0 : Int32)) ||| (F2 p1 (1 : Int32))) ||| (F2 p1 (2 : Int32))) ||| (F2 p1 (3 : Int32))) ||| (F2 p1 (4 : Int32))))])) rfl (by rw [hml]; rfl) (argsL := [(.int p1), (.int (5 : Int32))]) (rest := [(.long (((((F2 p1 (0 : Int32)) ||| (F2 p1 (1 : Int32))) ||| (F2 p1 (2 : Int32))) ||| (F2 p1 (3 : Int32))) ||| (F2 p1 (4 : Int32))))]) (lenOf pd_1 rfl) rfl (by show 2 * 0 + _ ≤ _; exact Nat.le_of_eq rfl) (hb hby at_31) (fun _ _ => ⟨rfl, e5, (by decide : 0 + 0 ≤ _), (by decide : 0 + 0 ≤ _)⟩)
  dsimp only [Pt.U, Pt.locs, Pt.cells, Pt.slots] at X6 l6 y6 z6 st6 hQ6
  subst l6 y6 z6
  obtain ⟨rfl, N6q, e6⟩ := hQ6
  have N6 := Fr.app N5 N6q
  refine own_by (W' := (T6.setTop (mkF m 36 #[.val (.long q0), .second, .val (.int p1), .unset, .unset, .unset, .unset, .unset, .unset] [(.int p1), (.long ((((((F2 p1 (0 : Int32)) ||| (F2 p1 (1 : Int32))) ||| (F2 p1 (2 : Int32))) ||| (F2 p1 (3 : Int32))) ||| (F2 p1 (4 : Int32))) ||| (F2 p1 (5 : Int32))))]))) (fun t k => XS.lor X5.here hx rfl (hb hby at_28) rfl (XS.iloadN X5.here hx rfl (hb hby at_29) rfl (XS.iconst X5.here hx rfl (hb hby at_30) (st6 _ (XS.lor X6.here hx rfl (hb hby at_34) rfl (XS.iloadN X6.here hx rfl (hb hby at_35) rfl k)))))) ?_
  obtain ⟨_, _, ⟨T7, L7, k7, n7⟩, -, X7, ⟨Lc7, hQ7, l7, y7, z7⟩, st7⟩ := Jvm.LawKit.callS X6 hx (y := (⟨"com/example/bindstream/bindstream/model/WordsZerosOfAsciiPinLaw", "byteMask", "(II)J"⟩ : MethodName)) hown (mvT hZ (own_w hw 0)) (mvT hZ (own_w hw 1)) (mvT hZ (own_w hw 2)) (mvT hZ (own_w hw 3)) (by decide) (backOf (W := 2) (rm2 l Z a0 hw [] p1 (6 : Int32) h0 n0 Z0 ) hZ (own_w hw 3) (own_w hw 2) (by decide) (by decide)) (g := (mkF m 38 #[.val (.long q0), .second, .val (.int p1), .unset, .unset, .unset, .unset, .unset, .unset] [(.int (6 : Int32)), (.int p1), (.long ((((((F2 p1 (0 : Int32)) ||| (F2 p1 (1 : Int32))) ||| (F2 p1 (2 : Int32))) ||| (F2 p1 (3 : Int32))) ||| (F2 p1 (4 : Int32))) ||| (F2 p1 (5 : Int32))))])) rfl (by rw [hml]; rfl) (argsL := [(.int p1), (.int (6 : Int32))]) (rest := [(.long ((((((F2 p1 (0 : Int32)) ||| (F2 p1 (1 : Int32))) ||| (F2 p1 (2 : Int32))) ||| (F2 p1 (3 : Int32))) ||| (F2 p1 (4 : Int32))) ||| (F2 p1 (5 : Int32))))]) (lenOf pd_1 rfl) rfl (by show 2 * 0 + _ ≤ _; exact Nat.le_of_eq rfl) (hb hby at_38) (fun _ _ => ⟨rfl, e6, (by decide : 0 + 0 ≤ _), (by decide : 0 + 0 ≤ _)⟩)
  dsimp only [Pt.U, Pt.locs, Pt.cells, Pt.slots] at X7 l7 y7 z7 st7 hQ7
  subst l7 y7 z7
  obtain ⟨rfl, N7q, e7⟩ := hQ7
  have N7 := Fr.app N6 N7q
  obtain ⟨_, _, ⟨T8, L8, k8, n8⟩, -, X8, ⟨Lc8, hQ8, l8, y8, z8⟩, st8⟩ := Jvm.LawKit.callS X7 hx (y := (⟨"com/example/bindstream/bindstream/model/WordsZerosOfAsciiPinLaw", "byteMask", "(II)J"⟩ : MethodName)) hown (mvT hZ (own_w hw 0)) (mvT hZ (own_w hw 1)) (mvT hZ (own_w hw 2)) (mvT hZ (own_w hw 3)) (by decide) (backOf (W := 2) (rm2 l Z a0 hw [] p1 (7 : Int32) h0 n0 Z0 ) hZ (own_w hw 3) (own_w hw 2) (by decide) (by decide)) (g := (mkF m 45 #[.val (.long q0), .second, .val (.int p1), .unset, .unset, .unset, .unset, .unset, .unset] [(.int (7 : Int32)), (.int p1), (.long (((((((F2 p1 (0 : Int32)) ||| (F2 p1 (1 : Int32))) ||| (F2 p1 (2 : Int32))) ||| (F2 p1 (3 : Int32))) ||| (F2 p1 (4 : Int32))) ||| (F2 p1 (5 : Int32))) ||| (F2 p1 (6 : Int32))))])) rfl (by rw [hml]; rfl) (argsL := [(.int p1), (.int (7 : Int32))]) (rest := [(.long (((((((F2 p1 (0 : Int32)) ||| (F2 p1 (1 : Int32))) ||| (F2 p1 (2 : Int32))) ||| (F2 p1 (3 : Int32))) ||| (F2 p1 (4 : Int32))) ||| (F2 p1 (5 : Int32))) ||| (F2 p1 (6 : Int32))))]) (lenOf pd_1 rfl) rfl (by show 2 * 0 + _ ≤ _; exact Nat.le_of_eq rfl) (hb hby at_45) (fun _ _ => ⟨rfl, e7, (by decide : 0 + 0 ≤ _), (by decide : 0 + 0 ≤ _)⟩)
  dsimp only [Pt.U, Pt.locs, Pt.cells, Pt.slots] at X8 l8 y8 z8 st8 hQ8
  subst l8 y8 z8
  obtain ⟨rfl, N8q, e8⟩ := hQ8
  have N8 := Fr.app N7 N8q
  refine own_by (W' := (T8.setTop (mkF m 48 #[.val (.long q0), .second, .val (.int p1), .unset, .unset, .unset, .unset, .unset, .unset] [(.long (F2 p1 (7 : Int32))), (.long (((((((F2 p1 (0 : Int32)) ||| (F2 p1 (1 : Int32))) ||| (F2 p1 (2 : Int32))) ||| (F2 p1 (3 : Int32))) ||| (F2 p1 (4 : Int32))) ||| (F2 p1 (5 : Int32))) ||| (F2 p1 (6 : Int32))))]))) (fun t k => XS.bipush X6.here hx rfl (hb hby at_36) (st7 _ (XS.lor X7.here hx rfl (hb hby at_41) rfl (XS.iloadN X7.here hx rfl (hb hby at_42) rfl (XS.bipush X7.here hx rfl (hb hby at_43) (st8 _ k)))))) ?_
  refine own_by (W' := (T8.setTop (mkF m 50 #[.val (.long q0), .second, .val (.int p1), .val (.long ((((((((F2 p1 (0 : Int32)) ||| (F2 p1 (1 : Int32))) ||| (F2 p1 (2 : Int32))) ||| (F2 p1 (3 : Int32))) ||| (F2 p1 (4 : Int32))) ||| (F2 p1 (5 : Int32))) ||| (F2 p1 (6 : Int32))) ||| (F2 p1 (7 : Int32)))), .second, .unset, .unset, .unset, .unset] []))) (fun t k => XS.lor X8.here hx rfl (hb hby at_48) rfl (XS.lstoreN X8.here hx rfl (hb hby at_49) rfl (l' := #[.val (.long q0), .second, .val (.int p1), .val (.long ((((((((F2 p1 (0 : Int32)) ||| (F2 p1 (1 : Int32))) ||| (F2 p1 (2 : Int32))) ||| (F2 p1 (3 : Int32))) ||| (F2 p1 (4 : Int32))) ||| (F2 p1 (5 : Int32))) ||| (F2 p1 (6 : Int32))) ||| (F2 p1 (7 : Int32)))), .second, .unset, .unset, .unset, .unset]) rfl k)) ?_
  generalize hv_cl : ((((((((F2 p1 (0 : Int32)) ||| (F2 p1 (1 : Int32))) ||| (F2 p1 (2 : Int32))) ||| (F2 p1 (3 : Int32))) ||| (F2 p1 (4 : Int32))) ||| (F2 p1 (5 : Int32))) ||| (F2 p1 (6 : Int32))) ||| (F2 p1 (7 : Int32))) = cl
  refine own_by (W' := (T8.setTop (mkF m 60 #[.val (.long q0), .second, .val (.int p1), .val (.long cl), .second, .unset, .unset, .unset, .unset] [(.long (cl ^^^ (-1 : Int64))), (.long (q0 &&& (9187201950435737471 : Int64)))]))) (fun t k => XS.lloadN X8.here hx rfl (hb hby at_50) rfl ((X8.ldc2Long hx hown (mvT hZ (own_w hw 5)) (g := (mkF m 51 #[.val (.long q0), .second, .val (.int p1), .val (.long cl), .second, .unset, .unset, .unset, .unset] [(.long q0)])) rfl (hb hby at_51)) _ (XS.land X8.here hx rfl (hb hby at_54) rfl (XS.lloadN X8.here hx rfl (hb hby at_55) rfl ((X8.ldc2Long hx hown (mvT hZ (own_w hw 6)) (g := (mkF m 56 #[.val (.long q0), .second, .val (.int p1), .val (.long cl), .second, .unset, .unset, .unset, .unset] [(.long cl), (.long (q0 &&& (9187201950435737471 : Int64)))])) rfl (hb hby at_56)) _ (XS.lxor X8.here hx rfl (hb hby at_59) rfl k)))))) ?_
  refine own_by (W' := (T8.setTop (mkF m 63 #[.val (.long q0), .second, .val (.int p1), .val (.long cl), .second, .val (.long ((q0 &&& (9187201950435737471 : Int64)) &&& (cl ^^^ (-1 : Int64)))), .second, .unset, .unset] []))) (fun t k => XS.land X8.here hx rfl (hb hby at_60) rfl (XS.lstore X8.here hx rfl (hb hby at_61) rfl (l' := #[.val (.long q0), .second, .val (.int p1), .val (.long cl), .second, .val (.long ((q0 &&& (9187201950435737471 : Int64)) &&& (cl ^^^ (-1 : Int64)))), .second, .unset, .unset]) rfl k)) ?_
  generalize hv_wd : ((q0 &&& (9187201950435737471 : Int64)) &&& (cl ^^^ (-1 : Int64))) = wd
  obtain ⟨_, _, ⟨T9, L9, k9, n9⟩, -, X9, ⟨Lc9, hQ9, l9, y9, z9⟩, st9⟩ := Jvm.LawKit.callS X8 hx (y := (⟨"com/example/bindstream/bindstream/model/WordsZerosOfAsciiPinLaw", "zeroBit", "(JI)J"⟩ : MethodName)) hown (mvT hZ (own_w hw 7)) (mvT hZ (own_w hw 8)) (mvT hZ (own_w hw 2)) (mvT hZ (own_w hw 9)) (by decide) (backOf (W := 0) (rm3 l Z a0 hw [] wd (0 : Int32) h0 n0 Z0 ) hZ (own_w hw 9) (own_w hw 2) (by decide) (by decide)) (g := (mkF m 66 #[.val (.long q0), .second, .val (.int p1), .val (.long cl), .second, .val (.long wd), .second, .unset, .unset] [(.int (0 : Int32)), (.long wd)])) rfl (by rw [hml]; rfl) (argsL := [(.long wd), (.int (0 : Int32))]) (rest := []) (lenOf pd_2 rfl) rfl (by show 2 * 0 + _ ≤ _; exact Nat.le_of_eq rfl) (hb hby at_66) (fun _ _ => ⟨rfl, e8, (by decide : 0 + 0 ≤ _), (by decide : 0 + 0 ≤ _)⟩)
  dsimp only [Pt.U, Pt.locs, Pt.cells, Pt.slots] at X9 l9 y9 z9 st9 hQ9
  subst l9 y9 z9
  obtain ⟨rfl, N9q, e9⟩ := hQ9
  have N9 := Fr.app N8 N9q
  obtain ⟨_, _, ⟨T10, L10, k10, n10⟩, -, X10, ⟨Lc10, hQ10, l10, y10, z10⟩, st10⟩ := Jvm.LawKit.callS X9 hx (y := (⟨"com/example/bindstream/bindstream/model/WordsZerosOfAsciiPinLaw", "zeroBit", "(JI)J"⟩ : MethodName)) hown (mvT hZ (own_w hw 7)) (mvT hZ (own_w hw 8)) (mvT hZ (own_w hw 2)) (mvT hZ (own_w hw 9)) (by decide) (backOf (W := 2) (rm3 l Z a0 hw [] wd (1 : Int32) h0 n0 Z0 ) hZ (own_w hw 9) (own_w hw 2) (by decide) (by decide)) (g := (mkF m 72 #[.val (.long q0), .second, .val (.int p1), .val (.long cl), .second, .val (.long wd), .second, .unset, .unset] [(.int (1 : Int32)), (.long wd), (.long (F3 wd (0 : Int32)))])) rfl (by rw [hml]; rfl) (argsL := [(.long wd), (.int (1 : Int32))]) (rest := [(.long (F3 wd (0 : Int32)))]) (lenOf pd_2 rfl) rfl (by show 2 * 0 + _ ≤ _; exact Nat.le_of_eq rfl) (hb hby at_72) (fun _ _ => ⟨rfl, e9, (by decide : 0 + 0 ≤ _), (by decide : 0 + 0 ≤ _)⟩)
  dsimp only [Pt.U, Pt.locs, Pt.cells, Pt.slots] at X10 l10 y10 z10 st10 hQ10
  subst l10 y10 z10
  obtain ⟨rfl, N10q, e10⟩ := hQ10
  have N10 := Fr.app N9 N10q
  refine own_by (W' := (T10.setTop (mkF m 75 #[.val (.long q0), .second, .val (.int p1), .val (.long cl), .second, .val (.long wd), .second, .unset, .unset] [(.long (F3 wd (1 : Int32))), (.long (F3 wd (0 : Int32)))]))) (fun t k => XS.lload X8.here hx rfl (hb hby at_63) rfl (XS.iconst X8.here hx rfl (hb hby at_65) (st9 _ (XS.lload X9.here hx rfl (hb hby at_69) rfl (XS.iconst X9.here hx rfl (hb hby at_71) (st10 _ k)))))) ?_
  obtain ⟨_, _, ⟨T11, L11, k11, n11⟩, -, X11, ⟨Lc11, hQ11, l11, y11, z11⟩, st11⟩ := Jvm.LawKit.callS X10 hx (y := (⟨"com/example/bindstream/bindstream/model/WordsZerosOfAsciiPinLaw", "zeroBit", "(JI)J"⟩ : MethodName)) hown (mvT hZ (own_w hw 7)) (mvT hZ (own_w hw 8)) (mvT hZ (own_w hw 2)) (mvT hZ (own_w hw 9)) (by decide) (backOf (W := 2) (rm3 l Z a0 hw [] wd (2 : Int32) h0 n0 Z0 ) hZ (own_w hw 9) (own_w hw 2) (by decide) (by decide)) (g := (mkF m 79 #[.val (.long q0), .second, .val (.int p1), .val (.long cl), .second, .val (.long wd), .second, .unset, .unset] [(.int (2 : Int32)), (.long wd), (.long ((F3 wd (0 : Int32)) ||| (F3 wd (1 : Int32))))])) rfl (by rw [hml]; rfl) (argsL := [(.long wd), (.int (2 : Int32))]) (rest := [(.long ((F3 wd (0 : Int32)) ||| (F3 wd (1 : Int32))))]) (lenOf pd_2 rfl) rfl (by show 2 * 0 + _ ≤ _; exact Nat.le_of_eq rfl) (hb hby at_79) (fun _ _ => ⟨rfl, e10, (by decide : 0 + 0 ≤ _), (by decide : 0 + 0 ≤ _)⟩)
  dsimp only [Pt.U, Pt.locs, Pt.cells, Pt.slots] at X11 l11 y11 z11 st11 hQ11
  subst l11 y11 z11
  obtain ⟨rfl, N11q, e11⟩ := hQ11
  have N11 := Fr.app N10 N11q
  refine own_by (W' := (T11.setTop (mkF m 85 #[.val (.long q0), .second, .val (.int p1), .val (.long cl), .second, .val (.long wd), .second, .unset, .unset] [(.long wd), (.long (((F3 wd (0 : Int32)) ||| (F3 wd (1 : Int32))) ||| (F3 wd (2 : Int32))))]))) (fun t k => XS.lor X10.here hx rfl (hb hby at_75) rfl (XS.lload X10.here hx rfl (hb hby at_76) rfl (XS.iconst X10.here hx rfl (hb hby at_78) (st11 _ (XS.lor X11.here hx rfl (hb hby at_82) rfl (XS.lload X11.here hx rfl (hb hby at_83) rfl k)))))) ?_
  obtain ⟨_, _, ⟨T12, L12, k12, n12⟩, -, X12, ⟨Lc12, hQ12, l12, y12, z12⟩, st12⟩ := Jvm.LawKit.callS X11 hx (y := (⟨"com/example/bindstream/bindstream/model/WordsZerosOfAsciiPinLaw", "zeroBit", "(JI)J"⟩ : MethodName)) hown (mvT hZ (own_w hw 7)) (mvT hZ (own_w hw 8)) (mvT hZ (own_w hw 2)) (mvT hZ (own_w hw 9)) (by decide) (backOf (W := 2) (rm3 l Z a0 hw [] wd (3 : Int32) h0 n0 Z0 ) hZ (own_w hw 9) (own_w hw 2) (by decide) (by decide)) (g := (mkF m 86 #[.val (.long q0), .second, .val (.int p1), .val (.long cl), .second, .val (.long wd), .second, .unset, .unset] [(.int (3 : Int32)), (.long wd), (.long (((F3 wd (0 : Int32)) ||| (F3 wd (1 : Int32))) ||| (F3 wd (2 : Int32))))])) rfl (by rw [hml]; rfl) (argsL := [(.long wd), (.int (3 : Int32))]) (rest := [(.long (((F3 wd (0 : Int32)) ||| (F3 wd (1 : Int32))) ||| (F3 wd (2 : Int32))))]) (lenOf pd_2 rfl) rfl (by show 2 * 0 + _ ≤ _; exact Nat.le_of_eq rfl) (hb hby at_86) (fun _ _ => ⟨rfl, e11, (by decide : 0 + 0 ≤ _), (by decide : 0 + 0 ≤ _)⟩)
  dsimp only [Pt.U, Pt.locs, Pt.cells, Pt.slots] at X12 l12 y12 z12 st12 hQ12
  subst l12 y12 z12
  obtain ⟨rfl, N12q, e12⟩ := hQ12
  have N12 := Fr.app N11 N12q
  obtain ⟨_, _, ⟨T13, L13, k13, n13⟩, -, X13, ⟨Lc13, hQ13, l13, y13, z13⟩, st13⟩ := Jvm.LawKit.callS X12 hx (y := (⟨"com/example/bindstream/bindstream/model/WordsZerosOfAsciiPinLaw", "zeroBit", "(JI)J"⟩ : MethodName)) hown (mvT hZ (own_w hw 7)) (mvT hZ (own_w hw 8)) (mvT hZ (own_w hw 2)) (mvT hZ (own_w hw 9)) (by decide) (backOf (W := 2) (rm3 l Z a0 hw [] wd (4 : Int32) h0 n0 Z0 ) hZ (own_w hw 9) (own_w hw 2) (by decide) (by decide)) (g := (mkF m 93 #[.val (.long q0), .second, .val (.int p1), .val (.long cl), .second, .val (.long wd), .second, .unset, .unset] [(.int (4 : Int32)), (.long wd), (.long ((((F3 wd (0 : Int32)) ||| (F3 wd (1 : Int32))) ||| (F3 wd (2 : Int32))) ||| (F3 wd (3 : Int32))))])) rfl (by rw [hml]; rfl) (argsL := [(.long wd), (.int (4 : Int32))]) (rest := [(.long ((((F3 wd (0 : Int32)) ||| (F3 wd (1 : Int32))) ||| (F3 wd (2 : Int32))) ||| (F3 wd (3 : Int32))))]) (lenOf pd_2 rfl) rfl (by show 2 * 0 + _ ≤ _; exact Nat.le_of_eq rfl) (hb hby at_93) (fun _ _ => ⟨rfl, e12, (by decide : 0 + 0 ≤ _), (by decide : 0 + 0 ≤ _)⟩)
  dsimp only [Pt.U, Pt.locs, Pt.cells, Pt.slots] at X13 l13 y13 z13 st13 hQ13
  subst l13 y13 z13
  obtain ⟨rfl, N13q, e13⟩ := hQ13
  have N13 := Fr.app N12 N13q
  refine own_by (W' := (T13.setTop (mkF m 96 #[.val (.long q0), .second, .val (.int p1), .val (.long cl), .second, .val (.long wd), .second, .unset, .unset] [(.long (F3 wd (4 : Int32))), (.long ((((F3 wd (0 : Int32)) ||| (F3 wd (1 : Int32))) ||| (F3 wd (2 : Int32))) ||| (F3 wd (3 : Int32))))]))) (fun t k => XS.iconst X11.here hx rfl (hb hby at_85) (st12 _ (XS.lor X12.here hx rfl (hb hby at_89) rfl (XS.lload X12.here hx rfl (hb hby at_90) rfl (XS.iconst X12.here hx rfl (hb hby at_92) (st13 _ k)))))) ?_
  obtain ⟨_, _, ⟨T14, L14, k14, n14⟩, -, X14, ⟨Lc14, hQ14, l14, y14, z14⟩, st14⟩ := Jvm.LawKit.callS X13 hx (y := (⟨"com/example/bindstream/bindstream/model/WordsZerosOfAsciiPinLaw", "zeroBit", "(JI)J"⟩ : MethodName)) hown (mvT hZ (own_w hw 7)) (mvT hZ (own_w hw 8)) (mvT hZ (own_w hw 2)) (mvT hZ (own_w hw 9)) (by decide) (backOf (W := 2) (rm3 l Z a0 hw [] wd (5 : Int32) h0 n0 Z0 ) hZ (own_w hw 9) (own_w hw 2) (by decide) (by decide)) (g := (mkF m 100 #[.val (.long q0), .second, .val (.int p1), .val (.long cl), .second, .val (.long wd), .second, .unset, .unset] [(.int (5 : Int32)), (.long wd), (.long (((((F3 wd (0 : Int32)) ||| (F3 wd (1 : Int32))) ||| (F3 wd (2 : Int32))) ||| (F3 wd (3 : Int32))) ||| (F3 wd (4 : Int32))))])) rfl (by rw [hml]; rfl) (argsL := [(.long wd), (.int (5 : Int32))]) (rest := [(.long (((((F3 wd (0 : Int32)) ||| (F3 wd (1 : Int32))) ||| (F3 wd (2 : Int32))) ||| (F3 wd (3 : Int32))) ||| (F3 wd (4 : Int32))))]) (lenOf pd_2 rfl) rfl (by show 2 * 0 + _ ≤ _; exact Nat.le_of_eq rfl) (hb hby at_100) (fun _ _ => ⟨rfl, e13, (by decide : 0 + 0 ≤ _), (by decide : 0 + 0 ≤ _)⟩)
  dsimp only [Pt.U, Pt.locs, Pt.cells, Pt.slots] at X14 l14 y14 z14 st14 hQ14
  subst l14 y14 z14
  obtain ⟨rfl, N14q, e14⟩ := hQ14
  have N14 := Fr.app N13 N14q
  refine own_by (W' := (T14.setTop (mkF m 106 #[.val (.long q0), .second, .val (.int p1), .val (.long cl), .second, .val (.long wd), .second, .unset, .unset] [(.long wd), (.long ((((((F3 wd (0 : Int32)) ||| (F3 wd (1 : Int32))) ||| (F3 wd (2 : Int32))) ||| (F3 wd (3 : Int32))) ||| (F3 wd (4 : Int32))) ||| (F3 wd (5 : Int32))))]))) (fun t k => XS.lor X13.here hx rfl (hb hby at_96) rfl (XS.lload X13.here hx rfl (hb hby at_97) rfl (XS.iconst X13.here hx rfl (hb hby at_99) (st14 _ (XS.lor X14.here hx rfl (hb hby at_103) rfl (XS.lload X14.here hx rfl (hb hby at_104) rfl k)))))) ?_
  obtain ⟨_, _, ⟨T15, L15, k15, n15⟩, -, X15, ⟨Lc15, hQ15, l15, y15, z15⟩, st15⟩ := Jvm.LawKit.callS X14 hx (y := (⟨"com/example/bindstream/bindstream/model/WordsZerosOfAsciiPinLaw", "zeroBit", "(JI)J"⟩ : MethodName)) hown (mvT hZ (own_w hw 7)) (mvT hZ (own_w hw 8)) (mvT hZ (own_w hw 2)) (mvT hZ (own_w hw 9)) (by decide) (backOf (W := 2) (rm3 l Z a0 hw [] wd (6 : Int32) h0 n0 Z0 ) hZ (own_w hw 9) (own_w hw 2) (by decide) (by decide)) (g := (mkF m 108 #[.val (.long q0), .second, .val (.int p1), .val (.long cl), .second, .val (.long wd), .second, .unset, .unset] [(.int (6 : Int32)), (.long wd), (.long ((((((F3 wd (0 : Int32)) ||| (F3 wd (1 : Int32))) ||| (F3 wd (2 : Int32))) ||| (F3 wd (3 : Int32))) ||| (F3 wd (4 : Int32))) ||| (F3 wd (5 : Int32))))])) rfl (by rw [hml]; rfl) (argsL := [(.long wd), (.int (6 : Int32))]) (rest := [(.long ((((((F3 wd (0 : Int32)) ||| (F3 wd (1 : Int32))) ||| (F3 wd (2 : Int32))) ||| (F3 wd (3 : Int32))) ||| (F3 wd (4 : Int32))) ||| (F3 wd (5 : Int32))))]) (lenOf pd_2 rfl) rfl (by show 2 * 0 + _ ≤ _; exact Nat.le_of_eq rfl) (hb hby at_108) (fun _ _ => ⟨rfl, e14, (by decide : 0 + 0 ≤ _), (by decide : 0 + 0 ≤ _)⟩)
  dsimp only [Pt.U, Pt.locs, Pt.cells, Pt.slots] at X15 l15 y15 z15 st15 hQ15
  subst l15 y15 z15
  obtain ⟨rfl, N15q, e15⟩ := hQ15
  have N15 := Fr.app N14 N15q
  obtain ⟨_, _, ⟨T16, L16, k16, n16⟩, -, X16, ⟨Lc16, hQ16, l16, y16, z16⟩, st16⟩ := Jvm.LawKit.callS X15 hx (y := (⟨"com/example/bindstream/bindstream/model/WordsZerosOfAsciiPinLaw", "zeroBit", "(JI)J"⟩ : MethodName)) hown (mvT hZ (own_w hw 7)) (mvT hZ (own_w hw 8)) (mvT hZ (own_w hw 2)) (mvT hZ (own_w hw 9)) (by decide) (backOf (W := 2) (rm3 l Z a0 hw [] wd (7 : Int32) h0 n0 Z0 ) hZ (own_w hw 9) (own_w hw 2) (by decide) (by decide)) (g := (mkF m 116 #[.val (.long q0), .second, .val (.int p1), .val (.long cl), .second, .val (.long wd), .second, .unset, .unset] [(.int (7 : Int32)), (.long wd), (.long (((((((F3 wd (0 : Int32)) ||| (F3 wd (1 : Int32))) ||| (F3 wd (2 : Int32))) ||| (F3 wd (3 : Int32))) ||| (F3 wd (4 : Int32))) ||| (F3 wd (5 : Int32))) ||| (F3 wd (6 : Int32))))])) rfl (by rw [hml]; rfl) (argsL := [(.long wd), (.int (7 : Int32))]) (rest := [(.long (((((((F3 wd (0 : Int32)) ||| (F3 wd (1 : Int32))) ||| (F3 wd (2 : Int32))) ||| (F3 wd (3 : Int32))) ||| (F3 wd (4 : Int32))) ||| (F3 wd (5 : Int32))) ||| (F3 wd (6 : Int32))))]) (lenOf pd_2 rfl) rfl (by show 2 * 0 + _ ≤ _; exact Nat.le_of_eq rfl) (hb hby at_116) (fun _ _ => ⟨rfl, e15, (by decide : 0 + 0 ≤ _), (by decide : 0 + 0 ≤ _)⟩)
  dsimp only [Pt.U, Pt.locs, Pt.cells, Pt.slots] at X16 l16 y16 z16 st16 hQ16
  subst l16 y16 z16
  obtain ⟨rfl, N16q, e16⟩ := hQ16
  have N16 := Fr.app N15 N16q
  refine own_by (W' := (T16.setTop (mkF m 119 #[.val (.long q0), .second, .val (.int p1), .val (.long cl), .second, .val (.long wd), .second, .unset, .unset] [(.long (F3 wd (7 : Int32))), (.long (((((((F3 wd (0 : Int32)) ||| (F3 wd (1 : Int32))) ||| (F3 wd (2 : Int32))) ||| (F3 wd (3 : Int32))) ||| (F3 wd (4 : Int32))) ||| (F3 wd (5 : Int32))) ||| (F3 wd (6 : Int32))))]))) (fun t k => XS.bipush X14.here hx rfl (hb hby at_106) (st15 _ (XS.lor X15.here hx rfl (hb hby at_111) rfl (XS.lload X15.here hx rfl (hb hby at_112) rfl (XS.bipush X15.here hx rfl (hb hby at_114) (st16 _ k)))))) ?_
  obtain ⟨_, _, ⟨T17, L17, k17, n17⟩, -, X17, ⟨Lc17, hQ17, l17, y17, z17⟩, st17⟩ := Jvm.LawKit.callS X16 hx (y := (⟨"com/example/bindstream/bindstream/model/Words", "zerosOfAscii", "(J)J"⟩ : MethodName)) hown (mvT hZ (own_w hw 11)) (mvT hZ (own_w hw 12)) (mvT hZ (own_w hw 13)) (mvT hZ (own_w hw 14)) (by decide) (backOf (W := 0) (rm4 l Z a0 hw [] wd h0 n0 Z0 ) hZ (own_w hw 14) (own_w hw 13) (by decide) (by decide)) (g := (mkF m 124 #[.val (.long q0), .second, .val (.int p1), .val (.long cl), .second, .val (.long wd), .second, .val (.long ((((((((F3 wd (0 : Int32)) ||| (F3 wd (1 : Int32))) ||| (F3 wd (2 : Int32))) ||| (F3 wd (3 : Int32))) ||| (F3 wd (4 : Int32))) ||| (F3 wd (5 : Int32))) ||| (F3 wd (6 : Int32))) ||| (F3 wd (7 : Int32)))), .second] [(.long wd)])) rfl (by rw [hml]; rfl) (argsL := [(.long wd)]) (rest := []) (lenOf pd_3 rfl) rfl (by show 2 * 0 + _ ≤ _; exact Nat.le_of_eq rfl) (hb hby at_124) (fun _ _ => ⟨rfl, e16, (by decide : 0 + 0 ≤ _), (by decide : 0 + 0 ≤ _)⟩)
  dsimp only [Pt.U, Pt.locs, Pt.cells, Pt.slots] at X17 l17 y17 z17 st17 hQ17
  subst l17 y17 z17
  obtain ⟨rfl, N17q, e17⟩ := hQ17
  have N17 := Fr.app N16 N17q
  refine own_by (W' := (T17.setTop (mkF m 130 #[.val (.long q0), .second, .val (.int p1), .val (.long cl), .second, .val (.long wd), .second, .val (.long ((((((((F3 wd (0 : Int32)) ||| (F3 wd (1 : Int32))) ||| (F3 wd (2 : Int32))) ||| (F3 wd (3 : Int32))) ||| (F3 wd (4 : Int32))) ||| (F3 wd (5 : Int32))) ||| (F3 wd (6 : Int32))) ||| (F3 wd (7 : Int32)))), .second] [(.int (lcmpW (F4 wd) ((((((((F3 wd (0 : Int32)) ||| (F3 wd (1 : Int32))) ||| (F3 wd (2 : Int32))) ||| (F3 wd (3 : Int32))) ||| (F3 wd (4 : Int32))) ||| (F3 wd (5 : Int32))) ||| (F3 wd (6 : Int32))) ||| (F3 wd (7 : Int32)))))]))) (fun t k => XS.lor X16.here hx rfl (hb hby at_119) rfl (XS.lstore X16.here hx rfl (hb hby at_120) rfl (l' := #[.val (.long q0), .second, .val (.int p1), .val (.long cl), .second, .val (.long wd), .second, .val (.long ((((((((F3 wd (0 : Int32)) ||| (F3 wd (1 : Int32))) ||| (F3 wd (2 : Int32))) ||| (F3 wd (3 : Int32))) ||| (F3 wd (4 : Int32))) ||| (F3 wd (5 : Int32))) ||| (F3 wd (6 : Int32))) ||| (F3 wd (7 : Int32)))), .second]) rfl (XS.lload X16.here hx rfl (hb hby at_122) rfl (st17 _ (XS.lload X17.here hx rfl (hb hby at_127) rfl (XS.lcmp X17.here hx rfl (hb hby at_129) rfl k)))))) ?_
  obtain ⟨fs, hr, hrun, hended, hW, hsame⟩ := X17.leave (v := some (.int (1 : Int32))) (fun h => by rw [Bd.returns] at h; cases h)
  refine own_by (W' := (T17.setTop (mkF m 138 #[.val (.long q0), .second, .val (.int p1), .val (.long cl), .second, .val (.long wd), .second, .val (.long ((((((((F3 wd (0 : Int32)) ||| (F3 wd (1 : Int32))) ||| (F3 wd (2 : Int32))) ||| (F3 wd (3 : Int32))) ||| (F3 wd (4 : Int32))) ||| (F3 wd (5 : Int32))) ||| (F3 wd (6 : Int32))) ||| (F3 wd (7 : Int32)))), .second] [(.int (1 : Int32))]))) (fun t k => XS.ifNo X17.here hx rfl (hb hby at_130) rfl (own_lceq (own_law wd (own_masked hv_wd))).2 (XS.iconst X17.here hx rfl (hb hby at_133) (XS.goto X17.here hx rfl (pc0 := 134) (pc' := 138) rfl (hb hby at_134) (by decide) (by decide) k))) ?_
  refine ⟨_, _, retOut X17 hx Bd.returns rfl (Or.inl ⟨rfl, Or.inr (Or.inl rfl), _, rfl⟩) (hb hby at_138) hr, hrun, hended, _, _, rfl, ?_, ⟨_, rfl⟩, hW, hsame.mono (by decide) (by decide)⟩
  exact ⟨rfl, N17⟩
set_option maxRecDepth 65536 in
set_option maxHeartbeats 40000000 in
theorem comes_1 {Post : Tables → Env → Array Value → State → Outcome → State → Prop} (hpost : ∀ tb e args s v u, (limb_1_1.after args s (.returned v) u = true ∧ limb_1_2.after args s (.returned v) u = true ∧ True) → FrameEnd s (.returned v) u (Jvm.fieldLocs frame_1_writes args s ++ Jvm.arrayLocs frame_1_arrays args s ++ Jvm.staticLocs frame_1_statics s) 0 0 → Post tb e args s (.returned v) u) :
    ArmFor flags0 classFile x code maxLocals ret World_1 tables_1 room_1 Calls_1 rest_1 Pre_1 Post := by
  intro l hfl _ _ p e ha hc hk s m args below hf hA hF happ hP
  obtain ⟨hcalls, hrest, hpre⟩ := hP
  obtain ⟨-, -, -, hnamed, -, -, -, hat⟩ := (Spec.applies_iff hf).mp happ
  obtain ⟨hg, hn⟩ := and_e (Cond.before_iff.mp (show (Jvm.Cond.and given_1 narrow_1).before args s = true from hpre))
  obtain ⟨ga1, gb1⟩ := and_e hg
  obtain ⟨ga2, gb2⟩ := and_e gb1
  obtain ⟨w0, w1, rfl⟩ : ∃ w0 w1 : Value, args = #[w0, w1] := by
    have hs : args.size = 2 := by simpa [Cond.value, given_1] using ga1
    obtain ⟨L⟩ := args
    match L, hs with
    | [w0, w1], _ => exact ⟨w0, w1, rfl⟩
  have hw := fun d (hd : d ∈ tables_1) => atoms_spec (ws := Jvm.Cond.code x code maxLocals ret :: tables_1) hat d (List.mem_cons_of_mem _ hd)
  have hfit : Fit s := fun {y c} hc i hi => by
    obtain ⟨ha, rfl⟩ := Array.getElem?_eq_some_iff.mp hc
    have q := List.all_eq_true.mp ((Array.all_eq_true_iff_forall_mem.mp hF) _ (Array.getElem_mem ha)) i (List.mem_range.mpr hi)
    simpa [Array.getElem?_eq_getElem hi] using q
  obtain ⟨i0, ei0⟩ := isL_v ga2
  obtain rfl : w0 = (.long i0) := Option.some.inj ei0
  obtain ⟨i1, ei1⟩ := is_v gb2
  obtain rfl : w1 = (.int i1) := Option.some.inj ei1
  obtain ⟨n, o, h1, h2, h3, _, L, rfl, ⟨rfl, N⟩, hq⟩ := rmL l s _ hw tables_1 i0 i1 s.heap s.heap.size (Nat.le_refl _)  p e ha hc hk s m _ below hf ((Spec.applies_iff_loose hf).mp happ).1 ⟨rfl, State.Warmed39.refl s, rfl⟩ trivial
  refine ⟨n, _, h1, h2, h3, hpost _ _ _ _ _ _ ⟨Cond.after_iff.mpr rfl, Cond.after_iff.mpr (eq_i res_at (Term.int_eval (1)) rfl), trivial⟩ ⟨hq.1, hq.2.1, (hq.2.2.sift fun y hy => Or.inr (N y hy)).mono (by decide) (by decide)⟩⟩
theorem main_1_1 : Claimed_1_1 := comes_1 fun _ _ _ _ _ _ h hF => ⟨h.1, hF⟩
theorem main_1_2 : Claimed_1_2 := comes_1 fun _ _ _ _ _ _ h hF => ⟨h.2.1, hF⟩
end Jvm.Pilot.@@N@@
namespace Jvm.Pilot.@@N@@
open Jvm Jvm.ClassFile Sem Op Lib Jvm.Free Jvm.Stand Jvm.Pilot.@@N@@.Jvm.D
/-! MADE BY PROGRAM (witnessworld.py) out of the Statement's table words and the real class files: 9 classes; the members and pool entries that the words name. The judged class is class 1, her method 3. -/
namespace start1
open Jvm.ClassFile
def u (s : String) : CpInfo := .utf8 (stringToUtf16 s)
/-- a pool by its gaps: so many unusable entries, then the entry; so many at the end -/
def gap : Nat → List CpInfo → List CpInfo
  | 0, r => r
  | n + 1, r => .unusable :: gap n r
def poolList (es : List (Nat × CpInfo)) (last : Nat) : List CpInfo := es.foldr (fun e r => gap e.1 (e.2 :: r)) (gap last [])
def pool (es : List (Nat × CpInfo)) (last : Nat) : Array CpInfo := ⟨poolList es last⟩
def fileOf (pool : Array CpInfo) (this : Nat) (attrs : Array Attribute := #[]) (ms : Array MethodInfo := #[]) (fl : Nat := 33) (sup : Nat := 0) (ifs : Array Nat := #[]) (fds : Array FieldInfo := #[]) : ClassFile where
  minorVersion := 0
  majorVersion := 65
  constantPool := pool
  accessFlags := fl
  thisClass := this
  superClass := sup
  interfaces := ifs
  fields := fds
  methods := ms
  attributes := attrs
def plain (name : String) (sup : Option ClassId) : Class where
  name := name
  kind := .ordinary
  loader := none
  accessFlags := 33
  super := sup
  interfaces := #[]
  cf := none
  fields := #[]
  methods := #[]
  instanceTypes := #[]
  staticTypes := #[]
  resolved := #[]
  callSites := []
  init := .initialized
  statics := none
  mirror := none

def pool0 : Array CpInfo := pool [(5, u "<init>"), (0, u "()V"), (1, .class_ 10), (1, u "java/lang/Object")] 113

def k0m0 : Method := { name := "<init>", desc := "()V", sig := { parameters := [], returnType := none }, accessFlags := 1, code := none }
/-- java/lang/Object -/
def k0 : Class := { plain "java/lang/Object" none with
  accessFlags := 33
  interfaces := #[]
  cf := some (fileOf pool0 8 #[] #[{ accessFlags := 1, nameIndex := 5, descriptorIndex := 6, attributes := #[] }] 33 0 #[] #[])
  fields := #[]
  methods := #[k0m0]
  instanceTypes := #[]
  staticTypes := #[]
  resolved := Array.replicate 124 none
  statics := none }

def pool1 : Array CpInfo := pool [(2, .class_ 4), (1, u "java/lang/Object"), (0, u "<init>"), (0, u "()V"), (0, .long 255), (1, .long 128), (1, .methodref 12 13), (0, .class_ 14), (0, .nameAndType 15 16), (0, u "com/example/bindstream/bindstream/model/WordsZerosOfAsciiPinLaw"), (0, u "byteMask"), (0, u "(II)J"), (0, .long 9187201950435737471), (1, .long 18446744073709551615), (1, .methodref 12 22), (0, .nameAndType 23 24), (0, u "zeroBit"), (0, u "(JI)J"), (0, .methodref 26 27), (0, .class_ 28), (0, .nameAndType 29 30), (0, u "com/example/bindstream/bindstream/model/Words"), (0, u "zerosOfAscii"), (0, u "(J)J"), (3, u "law"), (0, u "(JI)Z")] 2

def k1m0 : Method := { name := "<init>", desc := "()V", sig := { parameters := [], returnType := none }, accessFlags := 2, code := none }
def k1c1 : Code := { maxStack := 4, maxLocals := 2, code := method_2_code, exceptionTable := #[], attributes := #[] }
def k1m1 : Method := { name := "byteMask", desc := "(II)J", sig := { parameters := [.int, .int], returnType := some .long }, accessFlags := 10, code := some k1c1 }
def k1c2 : Code := { maxStack := 4, maxLocals := 3, code := method_3_code, exceptionTable := #[], attributes := #[] }
def k1m2 : Method := { name := "zeroBit", desc := "(JI)J", sig := { parameters := [.long, .int], returnType := some .long }, accessFlags := 10, code := some k1c2 }
def k1c3 : Code := { maxStack := 6, maxLocals := 9, code := code, exceptionTable := #[], attributes := #[] }
def k1m3 : Method := { name := "law", desc := "(JI)Z", sig := { parameters := [.long, .int], returnType := some .boolean }, accessFlags := 9, code := some k1c3 }
/-- com/example/bindstream/bindstream/model/WordsZerosOfAsciiPinLaw -/
def k1 : Class := { plain "com/example/bindstream/bindstream/model/WordsZerosOfAsciiPinLaw" (some 0) with
  accessFlags := 49
  interfaces := #[]
  cf := some (fileOf pool1 12 #[] #[{ accessFlags := 2, nameIndex := 5, descriptorIndex := 6, attributes := #[] }, { accessFlags := 10, nameIndex := 15, descriptorIndex := 16, attributes := #[] }, { accessFlags := 10, nameIndex := 23, descriptorIndex := 24, attributes := #[] }, { accessFlags := 9, nameIndex := 34, descriptorIndex := 35, attributes := #[] }] 49 2 #[] #[])
  fields := #[]
  methods := #[k1m0, k1m1, k1m2, k1m3]
  instanceTypes := #[]
  staticTypes := #[]
  resolved := Array.replicate 38 none
  statics := none }

def pool2 : Array CpInfo := pool [(1, .class_ 2), (0, u "com/example/bindstream/bindstream/model/Words"), (1, .class_ 6), (1, u "java/lang/Object"), (0, u "<init>"), (0, u "()V"), (2, u "LONGS"), (0, u "Ljava/lang/invoke/VarHandle;"), (8, .long 9187201950435737471), (1, .long 18446744073709551615), (39, u "LOW_BITS"), (0, u "J"), (1, u "HIGH_BITS"), (0, u "ONES"), (2, u "zerosOfAscii"), (0, u "(J)J")] 8

def k2m0 : Method := { name := "<init>", desc := "()V", sig := { parameters := [], returnType := none }, accessFlags := 2, code := none }
def k2c1 : Code := { maxStack := 4, maxLocals := 2, code := prog_117_method_4_code, exceptionTable := #[], attributes := #[] }
def k2m1 : Method := { name := "zerosOfAscii", desc := "(J)J", sig := { parameters := [.long], returnType := some .long }, accessFlags := 8, code := some k2c1 }
/-- com/example/bindstream/bindstream/model/Words -/
def k2 : Class := { plain "com/example/bindstream/bindstream/model/Words" (some 0) with
  accessFlags := 48
  interfaces := #[]
  cf := some (fileOf pool2 1 #[] #[{ accessFlags := 2, nameIndex := 7, descriptorIndex := 8, attributes := #[] }, { accessFlags := 8, nameIndex := 70, descriptorIndex := 71, attributes := #[] }] 48 4 #[] #[{ accessFlags := 24, nameIndex := 63, descriptorIndex := 64, attributes := #[] }, { accessFlags := 24, nameIndex := 66, descriptorIndex := 64, attributes := #[] }, { accessFlags := 26, nameIndex := 67, descriptorIndex := 64, attributes := #[] }, { accessFlags := 26, nameIndex := 11, descriptorIndex := 12, attributes := #[] }])
  fields := #[{ name := "LOW_BITS", type := .long, accessFlags := 24, slot := 0, constantValue := 0 }, { name := "HIGH_BITS", type := .long, accessFlags := 24, slot := 1, constantValue := 0 }, { name := "ONES", type := .long, accessFlags := 26, slot := 2, constantValue := 0 }, { name := "LONGS", type := (.object "java/lang/invoke/VarHandle"), accessFlags := 26, slot := 3, constantValue := 0 }]
  methods := #[k2m0, k2m1]
  instanceTypes := #[]
  staticTypes := #[.long, .long, .long, (.object "java/lang/invoke/VarHandle")]
  resolved := Array.replicate 80 none
  statics := none }

def pool3 : Array CpInfo := pool [(1, u "java/lang/Cloneable"), (0, .class_ 1), (0, u "java/lang/Object"), (0, .class_ 3)] 3

/-- java/lang/Cloneable -/
def k3 : Class := { plain "java/lang/Cloneable" (some 0) with
  accessFlags := 1537
  interfaces := #[]
  cf := some (fileOf pool3 2 #[] #[] 1537 4 #[] #[])
  fields := #[]
  methods := #[]
  instanceTypes := #[]
  staticTypes := #[]
  resolved := Array.replicate 8 none
  statics := none }

def pool4 : Array CpInfo := pool [(1, u "java/io/Serializable"), (0, .class_ 1), (0, u "java/lang/Object"), (0, .class_ 3)] 3

/-- java/io/Serializable -/
def k4 : Class := { plain "java/io/Serializable" (some 0) with
  accessFlags := 1537
  interfaces := #[]
  cf := some (fileOf pool4 2 #[] #[] 1537 4 #[] #[])
  fields := #[]
  methods := #[]
  instanceTypes := #[]
  staticTypes := #[]
  resolved := Array.replicate 8 none
  statics := none }

/-- the primitive byte -/
def k5 : Class := { plain "byte" none with kind := .primitive 'B', accessFlags := 0x411 }
/-- [B -/
def k6 : Class := { plain "[B" (some 0) with kind := .array 5 .byte, interfaces := #[3, 4], accessFlags := 1041 }

/-- the primitive int -/
def k7 : Class := { plain "int" none with kind := .primitive 'I', accessFlags := 0x411 }
/-- [I -/
def k8 : Class := { plain "[I" (some 0) with kind := .array 7 .int, interfaces := #[3, 4], accessFlags := 1041 }

def heap : Heap := #[]
def classes : Array Class := #[k0, k1, k2, k3, k4, k5, k6, k7, k8]
def interned : List (Array UInt16 × Addr) := []
def slotsUsed : Nat := 0
def theMethod : MethodId := ⟨1, 3⟩
def args0 : Array Value := #[.long 77, .int 5]
def aboutOver (below : List Frame) : State where
  vm := { classes := classes, interned := interned.toArray }
  heap := heap
  slotsUsed := slotsUsed
  threads := #[{ frames := .invoking theMethod args0 :: below }]
def below0 : List Frame := [.native { method := ⟨0, 0⟩, args := #[] }]
def about1 : State := aboutOver below0
def p0 : Program := .bare "" "" ""
def e0 : Env := launch0.env 0 0 0
theorem w_frames : about1.frames = Frame.invoking theMethod args0 :: below0 := rfl
set_option maxRecDepth 65536 in
theorem w_args : argsFit about1.vm theMethod args0 = true := by decide +kernel
set_option maxRecDepth 65536 in
theorem w_heap : heapFits about1 = true := by decide +kernel
set_option maxRecDepth 65536 in
theorem w_runnable : about1.curStatus? = some .runnable := by decide +kernel
set_option maxRecDepth 65536 in
theorem w_alone : about1.alone = true := by decide +kernel
set_option maxRecDepth 65536 in
theorem w_named : about1.methodNamed? x = some theMethod := by decide +kernel
set_option maxRecDepth 65536 in
theorem w_hears : about1.hears theMethod below0 = true := by decide +kernel
set_option maxRecDepth 65536 in
theorem w_ripe : about1.ripe theMethod args0 below0 = true := by decide +kernel
theorem w_running : about1.status = .running := rfl
set_option maxRecDepth 65536 in
theorem w_room : about1.hasRoom e0.platform room_1 = true :=
  launch0.hasRoom_least _ room_1 (by decide +kernel) (by decide +kernel) (by decide +kernel) (by decide +kernel) (by decide +kernel) (by decide +kernel)
theorem allAtoms_all (ts : List Jvm.Cond) (a : Array Jvm.Value) (st : Jvm.State) : (allAtoms ts).before a st = ts.all (fun c => c.before a st) := by
  induction ts with
  | nil => rfl
  | cons c t ih =>
    show (Jvm.Cond.and c (allAtoms t)).before a st = _
    rw [Jvm.Cond.before_and, ih, List.all_cons]
def words1 : List Jvm.Cond := Jvm.Cond.code x code maxLocals ret :: tables_1
/-- a 'code' word, met by the world's own term for the bytes: nothing is compared byte by byte -/
theorem code_word {y : MethodName} {bytes : ByteArray} {mx : Nat} {rt : Option FieldType} {a : Array Value} {s : State} {m : MethodId} {meth : Method} {c : Code} (h1 : s.methodNamed? y = some m) (h2 : s.vm.method? m = some meth) (h3 : meth.code = some c) (h4 : c.code = bytes)
    (h5 : (c.maxLocals == mx && c.exceptionTable.isEmpty && decide (c.maxStack ≤ mostOperands) && decide (meth.sig.returnType = rt) && !meth.locks && decide (parseMethodDescriptor y.desc = some meth.sig)) = true) : (Jvm.Cond.code y bytes mx rt).before a s = true := by
  simp only [Bool.and_eq_true, beq_iff_eq, Bool.not_eq_true', decide_eq_true_eq] at h5
  obtain ⟨⟨⟨⟨⟨g1, g2⟩, g3⟩, g4⟩, g5⟩, g6⟩ := h5
  simp [Cond.before, Cond.holds, Cond.value, h1, h2, h3, h4, g1, g2, g3, g4, g5, g6]
def isCode : Jvm.Cond → Bool
  | .code _ _ _ _ => true
  | _ => false
theorem all_split {L : List Jvm.Cond} {P : Jvm.Cond → Bool} (h1 : L.all (fun c => isCode c || P c) = true) (h2 : ∀ c ∈ L.filter isCode, P c = true) : L.all P = true := by
  refine List.all_eq_true.mpr fun c hc => ?_
  have h := List.all_eq_true.mp h1 c hc
  rcases Bool.eq_false_or_eq_true (isCode c) with hi | hi
  · exact h2 c (List.mem_filter.mpr ⟨hc, hi⟩)
  · simpa [hi] using h
set_option maxRecDepth 65536 in
theorem w_c0 : (Jvm.Cond.code x code maxLocals ret).before args0 about1 = true := code_word (m := ⟨1, 3⟩) (meth := k1m3) (c := k1c3) (by decide +kernel) rfl rfl rfl (by decide +kernel)
set_option maxRecDepth 65536 in
theorem w_c1 : (Jvm.Cond.code ({ cls := "com/example/bindstream/bindstream/model/WordsZerosOfAsciiPinLaw", name := "byteMask", desc := "(II)J" } : Jvm.MethodName) method_2_code (2 : Nat) (Option.some Jvm.ClassFile.FieldType.long)).before args0 about1 = true := code_word (m := ⟨1, 1⟩) (meth := k1m1) (c := k1c1) (by decide +kernel) rfl rfl rfl (by decide +kernel)
set_option maxRecDepth 65536 in
theorem w_c2 : (Jvm.Cond.code ({ cls := "com/example/bindstream/bindstream/model/WordsZerosOfAsciiPinLaw", name := "zeroBit", desc := "(JI)J" } : Jvm.MethodName) method_3_code (3 : Nat) (Option.some Jvm.ClassFile.FieldType.long)).before args0 about1 = true := code_word (m := ⟨1, 2⟩) (meth := k1m2) (c := k1c2) (by decide +kernel) rfl rfl rfl (by decide +kernel)
set_option maxRecDepth 65536 in
theorem w_c3 : (Jvm.Cond.code ({ cls := "com/example/bindstream/bindstream/model/Words", name := "zerosOfAscii", desc := "(J)J" } : Jvm.MethodName) prog_117_method_4_code (2 : Nat) (Option.some Jvm.ClassFile.FieldType.long)).before args0 about1 = true := code_word (m := ⟨2, 1⟩) (meth := k2m1) (c := k2c1) (by decide +kernel) rfl rfl rfl (by decide +kernel)
def codes1 : List Jvm.Cond := [Jvm.Cond.code x code maxLocals ret, Jvm.Cond.code ({ cls := "com/example/bindstream/bindstream/model/WordsZerosOfAsciiPinLaw", name := "byteMask", desc := "(II)J" } : Jvm.MethodName) method_2_code (2 : Nat) (Option.some Jvm.ClassFile.FieldType.long), Jvm.Cond.code ({ cls := "com/example/bindstream/bindstream/model/WordsZerosOfAsciiPinLaw", name := "zeroBit", desc := "(JI)J" } : Jvm.MethodName) method_3_code (3 : Nat) (Option.some Jvm.ClassFile.FieldType.long), Jvm.Cond.code ({ cls := "com/example/bindstream/bindstream/model/Words", name := "zerosOfAscii", desc := "(J)J" } : Jvm.MethodName) prog_117_method_4_code (2 : Nat) (Option.some Jvm.ClassFile.FieldType.long)]
set_option maxRecDepth 65536 in
theorem codes_eq : words1.filter isCode = codes1 := rfl
theorem w_codes : ∀ c ∈ words1.filter isCode, c.before args0 about1 = true := by
  rw [codes_eq]
  intro c hc
  simp only [codes1, List.mem_cons, List.not_mem_nil, or_false] at hc
  rcases hc with rfl | rfl | rfl | rfl
  · exact w_c0
  · exact w_c1
  · exact w_c2
  · exact w_c3
set_option maxRecDepth 65536 in
theorem w_t1 : words1.all (fun c => isCode c || c.before args0 about1) = true := by decide +kernel
theorem w_tables : (allAtoms (Jvm.Cond.code x code maxLocals ret :: tables_1)).before args0 about1 = true := by
  rw [allAtoms_all]
  show words1.all (fun c => c.before args0 about1) = true
  refine all_split ?_ w_codes
  rw [w_t1]
set_option maxRecDepth 65536 in
theorem w_case : (Jvm.Cond.and given_1 narrow_1).before args0 about1 = true := by decide +kernel
theorem w_applies : (headSpec (Jvm.Cond.code x code maxLocals ret :: tables_1) room_1).applies x e0.platform about1 = true :=
  (Spec.applies_iff w_frames).mpr ⟨w_running, w_runnable, w_alone, w_named, w_hears, w_ripe, w_room, w_tables⟩
theorem atStart : AtStart classFile x code maxLocals ret World_1 tables_1 room_1 Calls_1 rest_1 Pre_1 launch0 p0 e0 about1 theMethod args0 below0 :=
  ⟨lists_1, trivial, launch0.admits_env _ _ _, launch0.least_env, fairChoices_fair.cas, fairChoices_fair.clock, w_frames, w_args, w_heap, w_applies, trivial, trivial, w_case⟩
end start1
theorem witness_1 : WitnessClaimed_1 := ⟨start1.p0, start1.e0, start1.about1, start1.theMethod, start1.args0, start1.below0, start1.atStart⟩
end Jvm.Pilot.@@N@@
