import JvmDerived
import JvmDerived.Pilot.@@N@@Statement
import JvmDerived.Pilot.@@N@@Code
set_option linter.unusedVariables false
set_option linter.unusedSimpArgs false
namespace Jvm.Pilot.@@N@@
open Jvm Jvm.ClassFile Sem Op Lib Jvm.Free Jvm.Stand Jvm.LawKit Jvm.RoadKit Bundle Jvm.Pilot.@@N@@.Jvm.D
/-- from the state W the run comes to an end of which K holds -/
abbrev own_Gl (p : Program) (e : Env) (below : List Frame) (K : Outcome → State → Prop) (W : State) : Prop := ∃ s₂ o, Steps p.tables e below W s₂ ∧ s₂.status = .running ∧ Ended s₂ below o ∧ K o s₂
theorem own_by {p : Program} {e : Env} {below : List Frame} {K : Outcome → State → Prop} {W W' : State} (st : ∀ t, Steps p.tables e below W' t → Steps p.tables e below W t) (h : own_Gl p e below K W') : own_Gl p e below K W := by
  obtain ⟨s₂, o, h1, h2⟩ := h; exact ⟨s₂, o, st _ h1, h2⟩
theorem own_tr {p : Program} {e : Env} {below : List Frame} {K : Outcome → State → Prop} {W W' : State} (st : Steps p.tables e below W W') (h : own_Gl p e below K W') : own_Gl p e below K W := own_by (fun _ k => st.trans k) h
theorem own_w {Z : State} {a0 : Array Value} (hw : ∀ d ∈ tables_1, d.before a0 Z = true) (i : Nat) {d : Jvm.Cond} (h : tables_1[i]? = some d := by rfl) : d.before a0 Z = true := hw _ (List.mem_of_getElem? h)
theorem own_le {Z : State} {n0 : Nat} {h : Heap} (O : Old Z n0 h) : n0 ≤ h.size := O.1 ▸ O.2.1
theorem own_lclt {x y : Int64} (h : x < y) : ifCond.holds .lt (lcmpW x y) = true ∧ ifCond.holds .ge (lcmpW x y) = false := by
  have h1 : ¬ x > y := fun q => by rw [Int64.lt_iff_toInt_lt] at h; have q' : y < x := q; rw [Int64.lt_iff_toInt_lt] at q'; omega
  have h2 : ¬ x = y := fun q => by subst q; rw [Int64.lt_iff_toInt_lt] at h; omega
  rw [lcmpW, if_neg h1, if_neg h2]; exact ⟨by decide, by decide⟩
theorem own_lcnlt {x y : Int64} (h : ¬ x < y) : ifCond.holds .lt (lcmpW x y) = false ∧ ifCond.holds .ge (lcmpW x y) = true := by
  by_cases h1 : x > y
  · rw [lcmpW, if_pos h1]; exact ⟨by decide, by decide⟩
  · have h2 : x = y := by
      have q1 : ¬ y < x := h1
      rw [Int64.lt_iff_toInt_lt] at h q1; exact Int64.toInt_inj.mp (by omega)
    rw [lcmpW, if_neg h1, if_pos h2]; exact ⟨by decide, by decide⟩
theorem own_lcgt {x y : Int64} (h : y < x) : ifCond.holds .gt (lcmpW x y) = true ∧ ifCond.holds .le (lcmpW x y) = false := by
  have h1 : x > y := h
  rw [lcmpW, if_pos h1]; exact ⟨by decide, by decide⟩
theorem own_lcngt {x y : Int64} (h : ¬ y < x) : ifCond.holds .gt (lcmpW x y) = false ∧ ifCond.holds .le (lcmpW x y) = true := by
  have h1 : ¬ x > y := h
  rw [lcmpW, if_neg h1]
  by_cases h2 : x = y
  · rw [if_pos h2]; exact ⟨by decide, by decide⟩
  · rw [if_neg h2]; exact ⟨by decide, by decide⟩
theorem own_lceq {x y : Int64} (h : x = y) : ifCond.holds .eq (lcmpW x y) = true ∧ ifCond.holds .ne (lcmpW x y) = false := by
  subst h
  have h1 : ¬ x > x := fun q => by have q' : x < x := q; rw [Int64.lt_iff_toInt_lt] at q'; omega
  rw [lcmpW, if_neg h1, if_pos rfl]; exact ⟨by decide, by decide⟩
theorem own_lcne {x y : Int64} (h : ¬ x = y) : ifCond.holds .eq (lcmpW x y) = false ∧ ifCond.holds .ne (lcmpW x y) = true := by
  by_cases h1 : x > y
  · rw [lcmpW, if_pos h1]; exact ⟨by decide, by decide⟩
  · rw [lcmpW, if_neg h1, if_neg h]; exact ⟨by decide, by decide⟩
theorem own_sta {Z : State} {args : Array Value} {C n d K : String} (h : (Jvm.Cond.exactly (Jvm.Term.static C n d) K).value args Z none Z [] = some true) (hi : (Jvm.Cond.initializedFor C n d).before args Z = true ∨ ((Jvm.Cond.initialized C).before args Z = true ∧ (Jvm.Cond.laysStatic C n d).before args Z = true)) :
    ∃ a, (Jvm.Term.static C n d).eval args Z none [] Z = some (.ref a) ∧ Sta Z Z.heap C n d (.ref a) ∧ Exa Z Z.heap a K := by
  obtain ⟨a, ev⟩ := exa_v h
  exact ⟨a, ev, Sta.start ev hi, Exa.start ev h⟩
theorem own_fldI {Z : State} {args : Array Value} {t : Jvm.Term} {a : Addr} {C n d : String} {k : Int32} (ev : t.eval args Z none [] Z = some (.ref a)) (h : (Jvm.Cond.eq (Jvm.Term.field t C n d) (Jvm.Term.int k)).value args Z none Z [] = some true) : Fld Z Z.heap a C n d (.int k) := by
  obtain ⟨x, y, hx, hy, -, -⟩ := cmp_v (Or.inl h)
  cases Option.some.inj ((Term.int_eval k).symm.trans hy)
  refine Fld.start ?_
  rw [← fld_at ev, hx]
  cases x <;> simp_all [Cond.value, Term.eval]
theorem own_fldJ {Z : State} {args : Array Value} {t : Jvm.Term} {a : Addr} {C n d : String} {k : Int64} (ev : t.eval args Z none [] Z = some (.ref a)) (h : (Jvm.Cond.eq (Jvm.Term.field t C n d) (Jvm.Term.long k)).value args Z none Z [] = some true) : Fld Z Z.heap a C n d (.long k) := by
  obtain ⟨x, y, hx, hy, -, -⟩ := cmp_v (Or.inl h)
  have hy' : (Jvm.Term.long k).eval args Z none [] Z = some (.long k) := by simp [Term.eval]
  cases Option.some.inj (hy'.symm.trans hy)
  refine Fld.start ?_
  rw [← fld_at ev, hx]
  cases x <;> simp_all [Cond.value, Term.eval]
theorem own_len {Z : State} {args : Array Value} {t : Jvm.Term} {a : Addr} {cl : Cell} {ty : FieldType} {n : Int32} (ev : t.eval args Z none [] Z = some (.ref a)) (A : Arr Z Z.heap a cl ty) (h : (Jvm.Cond.eq (Jvm.Term.length t) (Jvm.Term.int n)).value args Z none Z [] = some true) : cl.slots.size < 2 ^ 31 ∧ cl.slots.size.toInt32 = n := by
  have ha : Z.arrayAt? a = some cl := Arr.fin (U := Z) (Vm.Alike.refl _) A
  by_cases hq : cl.slots.size < 2 ^ 31
  · refine ⟨hq, ?_⟩
    have e1 := len_f (args := args) (first := Z) (o := none) (idx := []) ev ha hq
    simpa [Cond.value, e1, Term.int_eval] using h
  · exfalso
    obtain ⟨x, y, hx, -⟩ := cmp_v (Or.inl h)
    simp [Term.eval, ev, ha] at hx
    omega
theorem own_elem {Z : State} {args : Array Value} {t u : Jvm.Term} {a w : Addr} {cl : Cell} {ty : FieldType} {j : Int32} (ev : t.eval args Z none [] Z = some (.ref a)) (A : Arr Z Z.heap a cl ty) (evu : u.eval args Z none [] Z = some (.ref w)) (h : (Jvm.Cond.eq (Jvm.Term.elem t (Jvm.Term.int j)) u).value args Z none Z [] = some true) : cl.slots[j.toNatClampNeg]? = some (.ref w) := by
  obtain ⟨x, y, hx, hy, k1, k2⟩ := cmp_v (Or.inl h)
  cases Option.some.inj (evu.symm.trans hy)
  have q := (elem_in hx ev (Term.int_eval j) A.1).2
  rw [q]
  cases x <;> simp [Cond.value, hx, evu] at h ⊢
  exact h
def own_Wd (Z : State) (wSMALLINT : Addr) (wINTEGER : Addr) (wBIGINT : Addr) (wNUMERIC : Addr) (wTEXT : Addr) (wVARCHAR : Addr) (wBOOLEAN : Addr) (wUNKNOWN : Addr) : Prop := Sta Z Z.heap "com/example/blend_into_rows/blendintorows/types/TypeKind" "SMALLINT" "Lcom/example/blend_into_rows/blendintorows/types/TypeKind;" (.ref wSMALLINT) ∧ Exa Z Z.heap wSMALLINT "com/example/blend_into_rows/blendintorows/types/TypeKind" ∧ Fld Z Z.heap wSMALLINT "java/lang/Enum" "ordinal" "I" (.int (0 : Int32)) ∧ Sta Z Z.heap "com/example/blend_into_rows/blendintorows/types/TypeKind" "INTEGER" "Lcom/example/blend_into_rows/blendintorows/types/TypeKind;" (.ref wINTEGER) ∧ Exa Z Z.heap wINTEGER "com/example/blend_into_rows/blendintorows/types/TypeKind" ∧ Fld Z Z.heap wINTEGER "java/lang/Enum" "ordinal" "I" (.int (1 : Int32)) ∧ Sta Z Z.heap "com/example/blend_into_rows/blendintorows/types/TypeKind" "BIGINT" "Lcom/example/blend_into_rows/blendintorows/types/TypeKind;" (.ref wBIGINT) ∧ Exa Z Z.heap wBIGINT "com/example/blend_into_rows/blendintorows/types/TypeKind" ∧ Fld Z Z.heap wBIGINT "java/lang/Enum" "ordinal" "I" (.int (2 : Int32)) ∧ Sta Z Z.heap "com/example/blend_into_rows/blendintorows/types/TypeKind" "NUMERIC" "Lcom/example/blend_into_rows/blendintorows/types/TypeKind;" (.ref wNUMERIC) ∧ Exa Z Z.heap wNUMERIC "com/example/blend_into_rows/blendintorows/types/TypeKind" ∧ Fld Z Z.heap wNUMERIC "java/lang/Enum" "ordinal" "I" (.int (3 : Int32)) ∧ Sta Z Z.heap "com/example/blend_into_rows/blendintorows/types/TypeKind" "TEXT" "Lcom/example/blend_into_rows/blendintorows/types/TypeKind;" (.ref wTEXT) ∧ Exa Z Z.heap wTEXT "com/example/blend_into_rows/blendintorows/types/TypeKind" ∧ Fld Z Z.heap wTEXT "java/lang/Enum" "ordinal" "I" (.int (4 : Int32)) ∧ Sta Z Z.heap "com/example/blend_into_rows/blendintorows/types/TypeKind" "VARCHAR" "Lcom/example/blend_into_rows/blendintorows/types/TypeKind;" (.ref wVARCHAR) ∧ Exa Z Z.heap wVARCHAR "com/example/blend_into_rows/blendintorows/types/TypeKind" ∧ Fld Z Z.heap wVARCHAR "java/lang/Enum" "ordinal" "I" (.int (5 : Int32)) ∧ Sta Z Z.heap "com/example/blend_into_rows/blendintorows/types/TypeKind" "BOOLEAN" "Lcom/example/blend_into_rows/blendintorows/types/TypeKind;" (.ref wBOOLEAN) ∧ Exa Z Z.heap wBOOLEAN "com/example/blend_into_rows/blendintorows/types/TypeKind" ∧ Fld Z Z.heap wBOOLEAN "java/lang/Enum" "ordinal" "I" (.int (6 : Int32)) ∧ Sta Z Z.heap "com/example/blend_into_rows/blendintorows/types/TypeKind" "UNKNOWN" "Lcom/example/blend_into_rows/blendintorows/types/TypeKind;" (.ref wUNKNOWN) ∧ Exa Z Z.heap wUNKNOWN "com/example/blend_into_rows/blendintorows/types/TypeKind" ∧ Fld Z Z.heap wUNKNOWN "java/lang/Enum" "ordinal" "I" (.int (7 : Int32)) ∧ wNUMERIC ≠ wSMALLINT ∧ wNUMERIC ≠ wINTEGER ∧ wNUMERIC ≠ wBIGINT ∧ wTEXT ≠ wSMALLINT ∧ wTEXT ≠ wINTEGER ∧ wTEXT ≠ wBIGINT ∧ wVARCHAR ≠ wSMALLINT ∧ wVARCHAR ≠ wINTEGER ∧ wVARCHAR ≠ wBIGINT ∧ wBOOLEAN ≠ wSMALLINT ∧ wBOOLEAN ≠ wINTEGER ∧ wBOOLEAN ≠ wBIGINT ∧ wUNKNOWN ≠ wSMALLINT ∧ wUNKNOWN ≠ wINTEGER ∧ wUNKNOWN ≠ wBIGINT
theorem dmethod_3_0 : decode method_3_code 0 = .ok (.iload_n 0, 1) := by decide +kernel
theorem dmethod_3_1 : decode method_3_code 1 = .ok (.ifCond .ne 7, 3) := by decide +kernel
theorem dmethod_3_4 : decode method_3_code 4 = .ok (.getstatic 20, 3) := by decide +kernel
theorem dmethod_3_7 : decode method_3_code 7 = .ok (.areturn, 1) := by decide +kernel
theorem dmethod_3_8 : decode method_3_code 8 = .ok (.iload_n 0, 1) := by decide +kernel
theorem dmethod_3_9 : decode method_3_code 9 = .ok (.iconst 1, 1) := by decide +kernel
theorem dmethod_3_10 : decode method_3_code 10 = .ok (.if_icmp .ne 7, 3) := by decide +kernel
theorem dmethod_3_13 : decode method_3_code 13 = .ok (.getstatic 24, 3) := by decide +kernel
theorem dmethod_3_16 : decode method_3_code 16 = .ok (.areturn, 1) := by decide +kernel
theorem dmethod_3_17 : decode method_3_code 17 = .ok (.iload_n 0, 1) := by decide +kernel
theorem dmethod_3_18 : decode method_3_code 18 = .ok (.iconst 2, 1) := by decide +kernel
theorem dmethod_3_19 : decode method_3_code 19 = .ok (.if_icmp .ne 7, 3) := by decide +kernel
theorem dmethod_3_22 : decode method_3_code 22 = .ok (.getstatic 27, 3) := by decide +kernel
theorem dmethod_3_25 : decode method_3_code 25 = .ok (.areturn, 1) := by decide +kernel
theorem dmethod_3_26 : decode method_3_code 26 = .ok (.iload_n 0, 1) := by decide +kernel
theorem dmethod_3_27 : decode method_3_code 27 = .ok (.iconst 3, 1) := by decide +kernel
theorem dmethod_3_28 : decode method_3_code 28 = .ok (.if_icmp .ne 7, 3) := by decide +kernel
theorem dmethod_3_31 : decode method_3_code 31 = .ok (.getstatic 30, 3) := by decide +kernel
theorem dmethod_3_34 : decode method_3_code 34 = .ok (.areturn, 1) := by decide +kernel
theorem dmethod_3_35 : decode method_3_code 35 = .ok (.iload_n 0, 1) := by decide +kernel
theorem dmethod_3_36 : decode method_3_code 36 = .ok (.iconst 4, 1) := by decide +kernel
theorem dmethod_3_37 : decode method_3_code 37 = .ok (.if_icmp .ne 7, 3) := by decide +kernel
theorem dmethod_3_40 : decode method_3_code 40 = .ok (.getstatic 33, 3) := by decide +kernel
theorem dmethod_3_43 : decode method_3_code 43 = .ok (.areturn, 1) := by decide +kernel
theorem dmethod_3_44 : decode method_3_code 44 = .ok (.iload_n 0, 1) := by decide +kernel
theorem dmethod_3_45 : decode method_3_code 45 = .ok (.iconst 5, 1) := by decide +kernel
theorem dmethod_3_46 : decode method_3_code 46 = .ok (.if_icmp .ne 7, 3) := by decide +kernel
theorem dmethod_3_49 : decode method_3_code 49 = .ok (.getstatic 36, 3) := by decide +kernel
theorem dmethod_3_52 : decode method_3_code 52 = .ok (.areturn, 1) := by decide +kernel
theorem dmethod_3_53 : decode method_3_code 53 = .ok (.iload_n 0, 1) := by decide +kernel
theorem dmethod_3_54 : decode method_3_code 54 = .ok (.bipush 6, 2) := by decide +kernel
theorem dmethod_3_56 : decode method_3_code 56 = .ok (.if_icmp .ne 7, 3) := by decide +kernel
theorem dmethod_3_59 : decode method_3_code 59 = .ok (.getstatic 39, 3) := by decide +kernel
theorem dmethod_3_62 : decode method_3_code 62 = .ok (.areturn, 1) := by decide +kernel
theorem dmethod_3_63 : decode method_3_code 63 = .ok (.getstatic 42, 3) := by decide +kernel
theorem dmethod_3_66 : decode method_3_code 66 = .ok (.areturn, 1) := by decide +kernel
theorem pn_com_example_blend_into_rows_blendintorows_types_TypeKindIsIntegerPinLaw : plainName "com/example/blend_into_rows/blendintorows/types/TypeKindIsIntegerPinLaw" = true := by first | (simp [plainName, overriddenIn]; done) | decide +kernel
theorem ef3 (m : MethodId) (p0 : Int32) : entryFrame m #[(.int p0)] 1 = mkF m 0 #[.val (.int p0)] [] := by first | (simp [entryFrame, mkF, argsToLocals, Value.category]; done) | rfl
def F3 (p0 : Int32) (wSMALLINT : Addr) (wINTEGER : Addr) (wBIGINT : Addr) (wNUMERIC : Addr) (wTEXT : Addr) (wVARCHAR : Addr) (wBOOLEAN : Addr) (wUNKNOWN : Addr) : Addr := (if p0 = (0 : Int32) then wSMALLINT else (if p0 = (1 : Int32) then wINTEGER else (if p0 = (2 : Int32) then wBIGINT else (if p0 = (3 : Int32) then wNUMERIC else (if p0 = (4 : Int32) then wTEXT else (if p0 = (5 : Int32) then wVARCHAR else (if p0 = (6 : Int32) then wBOOLEAN else wUNKNOWN)))))))
def Q3 (Z : State) (p0 : Int32) (wSMALLINT : Addr) (wINTEGER : Addr) (wBIGINT : Addr) (wNUMERIC : Addr) (wTEXT : Addr) (wVARCHAR : Addr) (wBOOLEAN : Addr) (wUNKNOWN : Addr) (h0 : Heap) (n0 : Nat) (v : Option Value) (h : Heap) (L : List Loc) : Prop := v = some (.ref (F3 p0 wSMALLINT wINTEGER wBIGINT wNUMERIC wTEXT wVARCHAR wBOOLEAN wUNKNOWN)) ∧ Fr n0 L ∧ h = h0
abbrev own_K3 (Z : State) (p0 : Int32) (wSMALLINT : Addr) (wINTEGER : Addr) (wBIGINT : Addr) (wNUMERIC : Addr) (wTEXT : Addr) (wVARCHAR : Addr) (wBOOLEAN : Addr) (wUNKNOWN : Addr) (h0 : Heap) (n0 : Nat) (s : State) : Outcome → State → Prop := fun o U' => ∃ v L, o = .returned v ∧ Q3 Z p0 wSMALLINT wINTEGER wBIGINT wNUMERIC wTEXT wVARCHAR wBOOLEAN wUNKNOWN h0 n0 v U'.heap L ∧ FrameEnd s o U' L ({ frames := 0, cells := 0, slots := 0, locals := 0 } : Room).cells ({ frames := 0, cells := 0, slots := 0, locals := 0 } : Room).slots
set_option maxRecDepth 65536 in
set_option maxHeartbeats 40000000 in
theorem rm3 (l : Launch) (Z : State) (a0 : Array Value) (hw : ∀ d ∈ tables_1, d.before a0 Z = true) (ws : List Jvm.Cond) (p0 : Int32) (wSMALLINT : Addr) (wINTEGER : Addr) (wBIGINT : Addr) (wNUMERIC : Addr) (wTEXT : Addr) (wVARCHAR : Addr) (wBOOLEAN : Addr) (wUNKNOWN : Addr) (h0 : Heap) (n0 : Nat) (Z0 : n0 ≤ h0.size) (O0 : Old Z n0 h0) (HW : own_Wd Z wSMALLINT wINTEGER wBIGINT wNUMERIC wTEXT wVARCHAR wBOOLEAN wUNKNOWN) :
    MetFree l (⟨"com/example/blend_into_rows/blendintorows/types/TypeKindIsIntegerPinLaw", "pick", "(I)Lcom/example/blend_into_rows/blendintorows/types/TypeKind;"⟩ : MethodName) (head1 (Jvm.Cond.code (⟨"com/example/blend_into_rows/blendintorows/types/TypeKindIsIntegerPinLaw", "pick", "(I)Lcom/example/blend_into_rows/blendintorows/types/TypeKind;"⟩ : MethodName) method_3_code 1 (some (.object "com/example/blend_into_rows/blendintorows/types/TypeKind")) :: ws) ({ frames := 0, cells := 0, slots := 0, locals := 0 } : Room)) (fun a U => a = #[(.int p0)] ∧ Z.Warmed39 U.vm ∧ U.heap = h0) (fun _ _ _ _ _ => True) (fun _ U o U' => ∃ v L, o = .returned v ∧ Q3 Z p0 wSMALLINT wINTEGER wBIGINT wNUMERIC wTEXT wVARCHAR wBOOLEAN wUNKNOWN h0 n0 v U'.heap L ∧ FrameEnd U o U' L ({ frames := 0, cells := 0, slots := 0, locals := 0 } : Room).cells ({ frames := 0, cells := 0, slots := 0, locals := 0 } : Room).slots) := by
  refine MetFree.of_bodySF (plainFor_of_name pn_com_example_blend_into_rows_blendintorows_types_TypeKindIsIntegerPinLaw) hisR ?_
  intro p e s m args below meth c s₁ Bd hml0 hP hK
  obtain ⟨rfl, hZ, hh⟩ := hP
  have hx := Bd.exec
  have hby := Bd.bytes
  have hml : c.maxLocals = 1 := hml0
  have hown : s.vm.findClass "com/example/blend_into_rows/blendintorows/types/TypeKindIsIntegerPinLaw" = some m.cls := findClass_of_methodNamed Bd.named
  have hnm := (name_of_methodNamed Bd.named Bd.method).1
  have X0 : Stand p l e ({ frames := 0, cells := 0, slots := 0, locals := 0 } : Room) s m #[(.int p0)] below meth c s₁ [] 0 0 := Stand.of_body Bd
  have e0 : s₁.heap = h0 := by rw [← hh, Bd.state]; rfl
  have N0 := Fr.nil n0
  refine own_by (p := p) (e := e) (below := below) (K := own_K3 Z p0 wSMALLINT wINTEGER wBIGINT wNUMERIC wTEXT wVARCHAR wBOOLEAN wUNKNOWN h0 n0 s) (W' := s₁.setTop (mkF m 0 #[.val (.int p0)] [])) (fun t k => castTop (ef3 m p0) k) ?_
  refine own_by (W' := (s₁.setTop (mkF m 1 #[.val (.int p0)] [(.int p0)]))) (fun t k => XS.iloadN X0.here hx rfl (hb hby dmethod_3_0) rfl k) ?_
  by_cases hc1 : p0 = (0 : Int32)
  ·
    obtain ⟨T2, X2, e2, st2⟩ := getS (host := "") X0 hx hZ hown (own_w hw 5) Via.refl e0 (HW.1.ext O0.2) (g := (mkF m 4 #[.val (.int p0)] [])) rfl (hb hby dmethod_3_4)
    obtain ⟨fs, hr, hrun, hended, hW, hsame⟩ := X2.leave (v := some (.ref wSMALLINT)) (fun h => by rw [Bd.returns] at h; cases h)
    refine own_by (W' := (T2.setTop (mkF m 7 #[.val (.int p0)] [(.ref wSMALLINT)]))) (fun t k => XS.ifNo X0.here hx rfl (hb hby dmethod_3_1) rfl ((if0 _ _).trans (teq hc1).2) (st2 _ k)) ?_
    refine ⟨_, _, retOut X2 hx Bd.returns rfl (Or.inr (Or.inr (Or.inr (Or.inr ⟨rfl, rfl, rfl⟩)))) (hb hby dmethod_3_7) hr, hrun, hended, _, _, rfl, ?_, ⟨_, rfl⟩, hW, hsame.mono (by decide) (by decide)⟩
    refine ⟨congrArg (fun z => some (Value.ref z)) ?_, N0, e2⟩
    rw [F3, if_pos hc1]
  ·
    refine own_by (W' := (s₁.setTop (mkF m 10 #[.val (.int p0)] [(.int (1 : Int32)), (.int p0)]))) (fun t k => XS.ifYes X0.here hx rfl (pc0 := 1) (pc' := 8) rfl (hb hby dmethod_3_1) rfl ((if0 _ _).trans (feq hc1).2) (by decide) (by decide) (XS.iloadN X0.here hx rfl (hb hby dmethod_3_8) rfl (XS.iconst X0.here hx rfl (hb hby dmethod_3_9) k))) ?_
    by_cases hc3 : p0 = (1 : Int32)
    ·
      obtain ⟨T4, X4, e4, st4⟩ := getS (host := "") X0 hx hZ hown (own_w hw 25) Via.refl e0 (HW.2.2.2.1.ext O0.2) (g := (mkF m 13 #[.val (.int p0)] [])) rfl (hb hby dmethod_3_13)
      obtain ⟨fs, hr, hrun, hended, hW, hsame⟩ := X4.leave (v := some (.ref wINTEGER)) (fun h => by rw [Bd.returns] at h; cases h)
      refine own_by (W' := (T4.setTop (mkF m 16 #[.val (.int p0)] [(.ref wINTEGER)]))) (fun t k => XS.icmpNo X0.here hx rfl (hb hby dmethod_3_10) rfl (teq hc3).2 (st4 _ k)) ?_
      refine ⟨_, _, retOut X4 hx Bd.returns rfl (Or.inr (Or.inr (Or.inr (Or.inr ⟨rfl, rfl, rfl⟩)))) (hb hby dmethod_3_16) hr, hrun, hended, _, _, rfl, ?_, ⟨_, rfl⟩, hW, hsame.mono (by decide) (by decide)⟩
      refine ⟨congrArg (fun z => some (Value.ref z)) ?_, N0, e4⟩
      rw [F3, if_neg hc1, if_pos hc3]
    ·
      refine own_by (W' := (s₁.setTop (mkF m 19 #[.val (.int p0)] [(.int (2 : Int32)), (.int p0)]))) (fun t k => XS.icmpYes X0.here hx rfl (pc0 := 10) (pc' := 17) rfl (hb hby dmethod_3_10) rfl (feq hc3).2 (by decide) (by decide) (XS.iloadN X0.here hx rfl (hb hby dmethod_3_17) rfl (XS.iconst X0.here hx rfl (hb hby dmethod_3_18) k))) ?_
      by_cases hc5 : p0 = (2 : Int32)
      ·
        obtain ⟨T6, X6, e6, st6⟩ := getS (host := "") X0 hx hZ hown (own_w hw 24) Via.refl e0 (HW.2.2.2.2.2.2.1.ext O0.2) (g := (mkF m 22 #[.val (.int p0)] [])) rfl (hb hby dmethod_3_22)
        obtain ⟨fs, hr, hrun, hended, hW, hsame⟩ := X6.leave (v := some (.ref wBIGINT)) (fun h => by rw [Bd.returns] at h; cases h)
        refine own_by (W' := (T6.setTop (mkF m 25 #[.val (.int p0)] [(.ref wBIGINT)]))) (fun t k => XS.icmpNo X0.here hx rfl (hb hby dmethod_3_19) rfl (teq hc5).2 (st6 _ k)) ?_
        refine ⟨_, _, retOut X6 hx Bd.returns rfl (Or.inr (Or.inr (Or.inr (Or.inr ⟨rfl, rfl, rfl⟩)))) (hb hby dmethod_3_25) hr, hrun, hended, _, _, rfl, ?_, ⟨_, rfl⟩, hW, hsame.mono (by decide) (by decide)⟩
        refine ⟨congrArg (fun z => some (Value.ref z)) ?_, N0, e6⟩
        rw [F3, if_neg hc1, if_neg hc3, if_pos hc5]
      ·
        refine own_by (W' := (s₁.setTop (mkF m 28 #[.val (.int p0)] [(.int (3 : Int32)), (.int p0)]))) (fun t k => XS.icmpYes X0.here hx rfl (pc0 := 19) (pc' := 26) rfl (hb hby dmethod_3_19) rfl (feq hc5).2 (by decide) (by decide) (XS.iloadN X0.here hx rfl (hb hby dmethod_3_26) rfl (XS.iconst X0.here hx rfl (hb hby dmethod_3_27) k))) ?_
        by_cases hc7 : p0 = (3 : Int32)
        ·
          obtain ⟨T8, X8, e8, st8⟩ := getS (host := "") X0 hx hZ hown (own_w hw 14) Via.refl e0 (HW.2.2.2.2.2.2.2.2.2.1.ext O0.2) (g := (mkF m 31 #[.val (.int p0)] [])) rfl (hb hby dmethod_3_31)
          obtain ⟨fs, hr, hrun, hended, hW, hsame⟩ := X8.leave (v := some (.ref wNUMERIC)) (fun h => by rw [Bd.returns] at h; cases h)
          refine own_by (W' := (T8.setTop (mkF m 34 #[.val (.int p0)] [(.ref wNUMERIC)]))) (fun t k => XS.icmpNo X0.here hx rfl (hb hby dmethod_3_28) rfl (teq hc7).2 (st8 _ k)) ?_
          refine ⟨_, _, retOut X8 hx Bd.returns rfl (Or.inr (Or.inr (Or.inr (Or.inr ⟨rfl, rfl, rfl⟩)))) (hb hby dmethod_3_34) hr, hrun, hended, _, _, rfl, ?_, ⟨_, rfl⟩, hW, hsame.mono (by decide) (by decide)⟩
          refine ⟨congrArg (fun z => some (Value.ref z)) ?_, N0, e8⟩
          rw [F3, if_neg hc1, if_neg hc3, if_neg hc5, if_pos hc7]
        ·
          refine own_by (W' := (s₁.setTop (mkF m 37 #[.val (.int p0)] [(.int (4 : Int32)), (.int p0)]))) (fun t k => XS.icmpYes X0.here hx rfl (pc0 := 28) (pc' := 35) rfl (hb hby dmethod_3_28) rfl (feq hc7).2 (by decide) (by decide) (XS.iloadN X0.here hx rfl (hb hby dmethod_3_35) rfl (XS.iconst X0.here hx rfl (hb hby dmethod_3_36) k))) ?_
          by_cases hc9 : p0 = (4 : Int32)
          ·
            obtain ⟨T10, X10, e10, st10⟩ := getS (host := "") X0 hx hZ hown (own_w hw 26) Via.refl e0 (HW.2.2.2.2.2.2.2.2.2.2.2.2.1.ext O0.2) (g := (mkF m 40 #[.val (.int p0)] [])) rfl (hb hby dmethod_3_40)
            obtain ⟨fs, hr, hrun, hended, hW, hsame⟩ := X10.leave (v := some (.ref wTEXT)) (fun h => by rw [Bd.returns] at h; cases h)
            refine own_by (W' := (T10.setTop (mkF m 43 #[.val (.int p0)] [(.ref wTEXT)]))) (fun t k => XS.icmpNo X0.here hx rfl (hb hby dmethod_3_37) rfl (teq hc9).2 (st10 _ k)) ?_
            refine ⟨_, _, retOut X10 hx Bd.returns rfl (Or.inr (Or.inr (Or.inr (Or.inr ⟨rfl, rfl, rfl⟩)))) (hb hby dmethod_3_43) hr, hrun, hended, _, _, rfl, ?_, ⟨_, rfl⟩, hW, hsame.mono (by decide) (by decide)⟩
            refine ⟨congrArg (fun z => some (Value.ref z)) ?_, N0, e10⟩
            rw [F3, if_neg hc1, if_neg hc3, if_neg hc5, if_neg hc7, if_pos hc9]
          ·
            refine own_by (W' := (s₁.setTop (mkF m 46 #[.val (.int p0)] [(.int (5 : Int32)), (.int p0)]))) (fun t k => XS.icmpYes X0.here hx rfl (pc0 := 37) (pc' := 44) rfl (hb hby dmethod_3_37) rfl (feq hc9).2 (by decide) (by decide) (XS.iloadN X0.here hx rfl (hb hby dmethod_3_44) rfl (XS.iconst X0.here hx rfl (hb hby dmethod_3_45) k))) ?_
            by_cases hc11 : p0 = (5 : Int32)
            ·
              obtain ⟨T12, X12, e12, st12⟩ := getS (host := "") X0 hx hZ hown (own_w hw 28) Via.refl e0 (HW.2.2.2.2.2.2.2.2.2.2.2.2.2.2.2.1.ext O0.2) (g := (mkF m 49 #[.val (.int p0)] [])) rfl (hb hby dmethod_3_49)
              obtain ⟨fs, hr, hrun, hended, hW, hsame⟩ := X12.leave (v := some (.ref wVARCHAR)) (fun h => by rw [Bd.returns] at h; cases h)
              refine own_by (W' := (T12.setTop (mkF m 52 #[.val (.int p0)] [(.ref wVARCHAR)]))) (fun t k => XS.icmpNo X0.here hx rfl (hb hby dmethod_3_46) rfl (teq hc11).2 (st12 _ k)) ?_
              refine ⟨_, _, retOut X12 hx Bd.returns rfl (Or.inr (Or.inr (Or.inr (Or.inr ⟨rfl, rfl, rfl⟩)))) (hb hby dmethod_3_52) hr, hrun, hended, _, _, rfl, ?_, ⟨_, rfl⟩, hW, hsame.mono (by decide) (by decide)⟩
              refine ⟨congrArg (fun z => some (Value.ref z)) ?_, N0, e12⟩
              rw [F3, if_neg hc1, if_neg hc3, if_neg hc5, if_neg hc7, if_neg hc9, if_pos hc11]
            ·
              refine own_by (W' := (s₁.setTop (mkF m 56 #[.val (.int p0)] [(.int (6 : Int32)), (.int p0)]))) (fun t k => XS.icmpYes X0.here hx rfl (pc0 := 46) (pc' := 53) rfl (hb hby dmethod_3_46) rfl (feq hc11).2 (by decide) (by decide) (XS.iloadN X0.here hx rfl (hb hby dmethod_3_53) rfl (XS.bipush X0.here hx rfl (hb hby dmethod_3_54) k))) ?_
              by_cases hc13 : p0 = (6 : Int32)
              ·
                obtain ⟨T14, X14, e14, st14⟩ := getS (host := "") X0 hx hZ hown (own_w hw 20) Via.refl e0 (HW.2.2.2.2.2.2.2.2.2.2.2.2.2.2.2.2.2.2.1.ext O0.2) (g := (mkF m 59 #[.val (.int p0)] [])) rfl (hb hby dmethod_3_59)
                obtain ⟨fs, hr, hrun, hended, hW, hsame⟩ := X14.leave (v := some (.ref wBOOLEAN)) (fun h => by rw [Bd.returns] at h; cases h)
                refine own_by (W' := (T14.setTop (mkF m 62 #[.val (.int p0)] [(.ref wBOOLEAN)]))) (fun t k => XS.icmpNo X0.here hx rfl (hb hby dmethod_3_56) rfl (teq hc13).2 (st14 _ k)) ?_
                refine ⟨_, _, retOut X14 hx Bd.returns rfl (Or.inr (Or.inr (Or.inr (Or.inr ⟨rfl, rfl, rfl⟩)))) (hb hby dmethod_3_62) hr, hrun, hended, _, _, rfl, ?_, ⟨_, rfl⟩, hW, hsame.mono (by decide) (by decide)⟩
                refine ⟨congrArg (fun z => some (Value.ref z)) ?_, N0, e14⟩
                rw [F3, if_neg hc1, if_neg hc3, if_neg hc5, if_neg hc7, if_neg hc9, if_neg hc11, if_pos hc13]
              ·
                obtain ⟨T15, X15, e15, st15⟩ := getS (host := "") X0 hx hZ hown (own_w hw 22) Via.refl e0 (HW.2.2.2.2.2.2.2.2.2.2.2.2.2.2.2.2.2.2.2.2.2.1.ext O0.2) (g := (mkF m 63 #[.val (.int p0)] [])) rfl (hb hby dmethod_3_63)
                obtain ⟨fs, hr, hrun, hended, hW, hsame⟩ := X15.leave (v := some (.ref wUNKNOWN)) (fun h => by rw [Bd.returns] at h; cases h)
                refine own_by (W' := (T15.setTop (mkF m 66 #[.val (.int p0)] [(.ref wUNKNOWN)]))) (fun t k => XS.icmpYes X0.here hx rfl (pc0 := 56) (pc' := 63) rfl (hb hby dmethod_3_56) rfl (feq hc13).2 (by decide) (by decide) (st15 _ k)) ?_
                refine ⟨_, _, retOut X15 hx Bd.returns rfl (Or.inr (Or.inr (Or.inr (Or.inr ⟨rfl, rfl, rfl⟩)))) (hb hby dmethod_3_66) hr, hrun, hended, _, _, rfl, ?_, ⟨_, rfl⟩, hW, hsame.mono (by decide) (by decide)⟩
                refine ⟨congrArg (fun z => some (Value.ref z)) ?_, N0, e15⟩
                rw [F3, if_neg hc1, if_neg hc3, if_neg hc5, if_neg hc7, if_neg hc9, if_neg hc11, if_neg hc13]
theorem dprog_124_8_0 : decode prog_124_method_8_code 0 = .ok (.aload_n 0, 1) := by decide +kernel
theorem dprog_124_8_1 : decode prog_124_method_8_code 1 = .ok (.getstatic 3, 3) := by decide +kernel
theorem dprog_124_8_4 : decode prog_124_method_8_code 4 = .ok (.if_acmp .eq 17, 3) := by decide +kernel
theorem dprog_124_8_7 : decode prog_124_method_8_code 7 = .ok (.aload_n 0, 1) := by decide +kernel
theorem dprog_124_8_8 : decode prog_124_method_8_code 8 = .ok (.getstatic 7, 3) := by decide +kernel
theorem dprog_124_8_11 : decode prog_124_method_8_code 11 = .ok (.if_acmp .eq 10, 3) := by decide +kernel
theorem dprog_124_8_14 : decode prog_124_method_8_code 14 = .ok (.aload_n 0, 1) := by decide +kernel
theorem dprog_124_8_15 : decode prog_124_method_8_code 15 = .ok (.getstatic 10, 3) := by decide +kernel
theorem dprog_124_8_18 : decode prog_124_method_8_code 18 = .ok (.if_acmp .ne 7, 3) := by decide +kernel
theorem dprog_124_8_21 : decode prog_124_method_8_code 21 = .ok (.iconst 1, 1) := by decide +kernel
theorem dprog_124_8_22 : decode prog_124_method_8_code 22 = .ok (.goto 4, 3) := by decide +kernel
theorem dprog_124_8_25 : decode prog_124_method_8_code 25 = .ok (.iconst 0, 1) := by decide +kernel
theorem dprog_124_8_26 : decode prog_124_method_8_code 26 = .ok (.ireturn, 1) := by decide +kernel
theorem pn_com_example_blend_into_rows_blendintorows_types_TypeKind : plainName "com/example/blend_into_rows/blendintorows/types/TypeKind" = true := by first | (simp [plainName, overriddenIn]; done) | decide +kernel
theorem ef8 (m : MethodId) (r0 : Addr) : entryFrame m #[(.ref r0)] 1 = mkF m 0 #[.val (.ref r0)] [] := by first | (simp [entryFrame, mkF, argsToLocals, Value.category]; done) | rfl
def F8 (r0 : Addr) (wSMALLINT : Addr) (wINTEGER : Addr) (wBIGINT : Addr) (wNUMERIC : Addr) (wTEXT : Addr) (wVARCHAR : Addr) (wBOOLEAN : Addr) (wUNKNOWN : Addr) : Int32 := (if r0 = wSMALLINT then (1 : Int32) else (if r0 = wINTEGER then (1 : Int32) else (if r0 = wBIGINT then (1 : Int32) else (0 : Int32))))
def Q8 (Z : State) (r0 : Addr) (wSMALLINT : Addr) (wINTEGER : Addr) (wBIGINT : Addr) (wNUMERIC : Addr) (wTEXT : Addr) (wVARCHAR : Addr) (wBOOLEAN : Addr) (wUNKNOWN : Addr) (h0 : Heap) (n0 : Nat) (v : Option Value) (h : Heap) (L : List Loc) : Prop := v = some (.int (F8 r0 wSMALLINT wINTEGER wBIGINT wNUMERIC wTEXT wVARCHAR wBOOLEAN wUNKNOWN)) ∧ Fr n0 L ∧ h = h0
abbrev own_K8 (Z : State) (r0 : Addr) (wSMALLINT : Addr) (wINTEGER : Addr) (wBIGINT : Addr) (wNUMERIC : Addr) (wTEXT : Addr) (wVARCHAR : Addr) (wBOOLEAN : Addr) (wUNKNOWN : Addr) (h0 : Heap) (n0 : Nat) (s : State) : Outcome → State → Prop := fun o U' => ∃ v L, o = .returned v ∧ Q8 Z r0 wSMALLINT wINTEGER wBIGINT wNUMERIC wTEXT wVARCHAR wBOOLEAN wUNKNOWN h0 n0 v U'.heap L ∧ FrameEnd s o U' L ({ frames := 0, cells := 0, slots := 0, locals := 0 } : Room).cells ({ frames := 0, cells := 0, slots := 0, locals := 0 } : Room).slots
set_option maxRecDepth 65536 in
set_option maxHeartbeats 40000000 in
theorem rm8 (l : Launch) (Z : State) (a0 : Array Value) (hw : ∀ d ∈ tables_1, d.before a0 Z = true) (ws : List Jvm.Cond) (r0 : Addr) (wSMALLINT : Addr) (wINTEGER : Addr) (wBIGINT : Addr) (wNUMERIC : Addr) (wTEXT : Addr) (wVARCHAR : Addr) (wBOOLEAN : Addr) (wUNKNOWN : Addr) (h0 : Heap) (n0 : Nat) (Z0 : n0 ≤ h0.size) (O0 : Old Z n0 h0) (HW : own_Wd Z wSMALLINT wINTEGER wBIGINT wNUMERIC wTEXT wVARCHAR wBOOLEAN wUNKNOWN) :
    MetFree l (⟨"com/example/blend_into_rows/blendintorows/types/TypeKind", "isInteger", "()Z"⟩ : MethodName) (head1 (Jvm.Cond.code (⟨"com/example/blend_into_rows/blendintorows/types/TypeKind", "isInteger", "()Z"⟩ : MethodName) prog_124_method_8_code 1 (some .boolean) :: ws) ({ frames := 0, cells := 0, slots := 0, locals := 0 } : Room)) (fun a U => a = #[(.ref r0)] ∧ Z.Warmed39 U.vm ∧ U.heap = h0) (fun _ _ _ _ _ => True) (fun _ U o U' => ∃ v L, o = .returned v ∧ Q8 Z r0 wSMALLINT wINTEGER wBIGINT wNUMERIC wTEXT wVARCHAR wBOOLEAN wUNKNOWN h0 n0 v U'.heap L ∧ FrameEnd U o U' L ({ frames := 0, cells := 0, slots := 0, locals := 0 } : Room).cells ({ frames := 0, cells := 0, slots := 0, locals := 0 } : Room).slots) := by
  refine MetFree.of_bodySF (plainFor_of_name pn_com_example_blend_into_rows_blendintorows_types_TypeKind) hisR ?_
  intro p e s m args below meth c s₁ Bd hml0 hP hK
  obtain ⟨rfl, hZ, hh⟩ := hP
  have hx := Bd.exec
  have hby := Bd.bytes
  have hml : c.maxLocals = 1 := hml0
  have hown : s.vm.findClass "com/example/blend_into_rows/blendintorows/types/TypeKind" = some m.cls := findClass_of_methodNamed Bd.named
  have hnm := (name_of_methodNamed Bd.named Bd.method).1
  have X0 : Stand p l e ({ frames := 0, cells := 0, slots := 0, locals := 0 } : Room) s m #[(.ref r0)] below meth c s₁ [] 0 0 := Stand.of_body Bd
  have e0 : s₁.heap = h0 := by rw [← hh, Bd.state]; rfl
  have N0 := Fr.nil n0
  refine own_by (p := p) (e := e) (below := below) (K := own_K8 Z r0 wSMALLINT wINTEGER wBIGINT wNUMERIC wTEXT wVARCHAR wBOOLEAN wUNKNOWN h0 n0 s) (W' := s₁.setTop (mkF m 0 #[.val (.ref r0)] [])) (fun t k => castTop (ef8 m r0) k) ?_
  obtain ⟨T1, X1, e1, st1⟩ := getS (host := "") X0 hx hZ hown (own_w hw 13) Via.refl e0 (HW.1.ext O0.2) (g := (mkF m 1 #[.val (.ref r0)] [(.ref r0)])) rfl (hb hby dprog_124_8_1)
  refine own_by (W' := (T1.setTop (mkF m 4 #[.val (.ref r0)] [(.ref wSMALLINT), (.ref r0)]))) (fun t k => XS.aloadN X0.here hx rfl (hb hby dprog_124_8_0) rfl rfl (st1 _ k)) ?_
  by_cases hc2 : r0 = wSMALLINT
  ·
    obtain ⟨fs, hr, hrun, hended, hW, hsame⟩ := X1.leave (v := some (.int (1 : Int32))) (fun h => by rw [Bd.returns] at h; cases h)
    refine own_by (W' := (T1.setTop (mkF m 26 #[.val (.ref r0)] [(.int (1 : Int32))]))) (fun t k => Jvm.RoadKit.acmp (g := (mkF m 4 #[.val (.ref r0)] [(.ref wSMALLINT), (.ref r0)])) X1 hx rfl rfl rfl (pc0 := 4) (pc' := 21) (same := true) rfl (hb hby dprog_124_8_4) rfl (decide_eq_true (congrArg Value.ref hc2)) (by decide) (by decide) (XS.iconst X1.here hx rfl (hb hby dprog_124_8_21) (XS.goto X1.here hx rfl (pc0 := 22) (pc' := 26) rfl (hb hby dprog_124_8_22) (by decide) (by decide) k))) ?_
    refine ⟨_, _, retOut X1 hx Bd.returns rfl (Or.inl ⟨rfl, Or.inr (Or.inl rfl), _, rfl⟩) (hb hby dprog_124_8_26) hr, hrun, hended, _, _, rfl, ?_, ⟨_, rfl⟩, hW, hsame.mono (by decide) (by decide)⟩
    refine ⟨congrArg (fun z => some (Value.int z)) ?_, N0, e1⟩
    rw [F8, if_pos hc2]
  ·
    obtain ⟨T3, X3, e3, st3⟩ := getS (host := "") X1 hx hZ hown (own_w hw 16) Via.refl e1 (HW.2.2.2.1.ext O0.2) (g := (mkF m 8 #[.val (.ref r0)] [(.ref r0)])) rfl (hb hby dprog_124_8_8)
    refine own_by (W' := (T3.setTop (mkF m 11 #[.val (.ref r0)] [(.ref wINTEGER), (.ref r0)]))) (fun t k => Jvm.RoadKit.acmp (g := (mkF m 4 #[.val (.ref r0)] [(.ref wSMALLINT), (.ref r0)])) X1 hx rfl rfl rfl (pc0 := 4) (pc' := 7) (same := false) rfl (hb hby dprog_124_8_4) rfl (decide_eq_false fun q => hc2 (Value.ref.inj q)) (by decide) (by decide) (XS.aloadN X1.here hx rfl (hb hby dprog_124_8_7) rfl rfl (st3 _ k))) ?_
    by_cases hc4 : r0 = wINTEGER
    ·
      obtain ⟨fs, hr, hrun, hended, hW, hsame⟩ := X3.leave (v := some (.int (1 : Int32))) (fun h => by rw [Bd.returns] at h; cases h)
      refine own_by (W' := (T3.setTop (mkF m 26 #[.val (.ref r0)] [(.int (1 : Int32))]))) (fun t k => Jvm.RoadKit.acmp (g := (mkF m 11 #[.val (.ref r0)] [(.ref wINTEGER), (.ref r0)])) X3 hx rfl rfl rfl (pc0 := 11) (pc' := 21) (same := true) rfl (hb hby dprog_124_8_11) rfl (decide_eq_true (congrArg Value.ref hc4)) (by decide) (by decide) (XS.iconst X3.here hx rfl (hb hby dprog_124_8_21) (XS.goto X3.here hx rfl (pc0 := 22) (pc' := 26) rfl (hb hby dprog_124_8_22) (by decide) (by decide) k))) ?_
      refine ⟨_, _, retOut X3 hx Bd.returns rfl (Or.inl ⟨rfl, Or.inr (Or.inl rfl), _, rfl⟩) (hb hby dprog_124_8_26) hr, hrun, hended, _, _, rfl, ?_, ⟨_, rfl⟩, hW, hsame.mono (by decide) (by decide)⟩
      refine ⟨congrArg (fun z => some (Value.int z)) ?_, N0, e3⟩
      rw [F8, if_neg hc2, if_pos hc4]
    ·
      obtain ⟨T5, X5, e5, st5⟩ := getS (host := "") X3 hx hZ hown (own_w hw 18) Via.refl e3 (HW.2.2.2.2.2.2.1.ext O0.2) (g := (mkF m 15 #[.val (.ref r0)] [(.ref r0)])) rfl (hb hby dprog_124_8_15)
      refine own_by (W' := (T5.setTop (mkF m 18 #[.val (.ref r0)] [(.ref wBIGINT), (.ref r0)]))) (fun t k => Jvm.RoadKit.acmp (g := (mkF m 11 #[.val (.ref r0)] [(.ref wINTEGER), (.ref r0)])) X3 hx rfl rfl rfl (pc0 := 11) (pc' := 14) (same := false) rfl (hb hby dprog_124_8_11) rfl (decide_eq_false fun q => hc4 (Value.ref.inj q)) (by decide) (by decide) (XS.aloadN X3.here hx rfl (hb hby dprog_124_8_14) rfl rfl (st5 _ k))) ?_
      by_cases hc6 : r0 = wBIGINT
      ·
        obtain ⟨fs, hr, hrun, hended, hW, hsame⟩ := X5.leave (v := some (.int (1 : Int32))) (fun h => by rw [Bd.returns] at h; cases h)
        refine own_by (W' := (T5.setTop (mkF m 26 #[.val (.ref r0)] [(.int (1 : Int32))]))) (fun t k => Jvm.RoadKit.acmp (g := (mkF m 18 #[.val (.ref r0)] [(.ref wBIGINT), (.ref r0)])) X5 hx rfl rfl rfl (pc0 := 18) (pc' := 21) (same := true) rfl (hb hby dprog_124_8_18) rfl (decide_eq_true (congrArg Value.ref hc6)) (by decide) (by decide) (XS.iconst X5.here hx rfl (hb hby dprog_124_8_21) (XS.goto X5.here hx rfl (pc0 := 22) (pc' := 26) rfl (hb hby dprog_124_8_22) (by decide) (by decide) k))) ?_
        refine ⟨_, _, retOut X5 hx Bd.returns rfl (Or.inl ⟨rfl, Or.inr (Or.inl rfl), _, rfl⟩) (hb hby dprog_124_8_26) hr, hrun, hended, _, _, rfl, ?_, ⟨_, rfl⟩, hW, hsame.mono (by decide) (by decide)⟩
        refine ⟨congrArg (fun z => some (Value.int z)) ?_, N0, e5⟩
        rw [F8, if_neg hc2, if_neg hc4, if_pos hc6]
      ·
        obtain ⟨fs, hr, hrun, hended, hW, hsame⟩ := X5.leave (v := some (.int (0 : Int32))) (fun h => by rw [Bd.returns] at h; cases h)
        refine own_by (W' := (T5.setTop (mkF m 26 #[.val (.ref r0)] [(.int (0 : Int32))]))) (fun t k => Jvm.RoadKit.acmp (g := (mkF m 18 #[.val (.ref r0)] [(.ref wBIGINT), (.ref r0)])) X5 hx rfl rfl rfl (pc0 := 18) (pc' := 25) (same := false) rfl (hb hby dprog_124_8_18) rfl (decide_eq_false fun q => hc6 (Value.ref.inj q)) (by decide) (by decide) (XS.iconst X5.here hx rfl (hb hby dprog_124_8_25) k)) ?_
        refine ⟨_, _, retOut X5 hx Bd.returns rfl (Or.inl ⟨rfl, Or.inr (Or.inl rfl), _, rfl⟩) (hb hby dprog_124_8_26) hr, hrun, hended, _, _, rfl, ?_, ⟨_, rfl⟩, hW, hsame.mono (by decide) (by decide)⟩
        refine ⟨congrArg (fun z => some (Value.int z)) ?_, N0, e5⟩
        rw [F8, if_neg hc2, if_neg hc4, if_neg hc6]
theorem own_exa (Z : State) (k : Int32) (wSMALLINT : Addr) (wINTEGER : Addr) (wBIGINT : Addr) (wNUMERIC : Addr) (wTEXT : Addr) (wVARCHAR : Addr) (wBOOLEAN : Addr) (wUNKNOWN : Addr) (HW : own_Wd Z wSMALLINT wINTEGER wBIGINT wNUMERIC wTEXT wVARCHAR wBOOLEAN wUNKNOWN) : Exa Z Z.heap (F3 k wSMALLINT wINTEGER wBIGINT wNUMERIC wTEXT wVARCHAR wBOOLEAN wUNKNOWN) "com/example/blend_into_rows/blendintorows/types/TypeKind" := by
  obtain ⟨f0, f1, f2, f3, f4, f5, f6, f7, f8, f9, f10, f11, f12, f13, f14, f15, f16, f17, f18, f19, f20, f21, f22, f23, f24, f25, f26, f27, f28, f29, f30, f31, f32, f33, f34, f35, f36, f37, f38⟩ := HW
  unfold F3
  repeat' split
  all_goals assumption
theorem own_law (Z : State) (k : Int32) (wSMALLINT : Addr) (wINTEGER : Addr) (wBIGINT : Addr) (wNUMERIC : Addr) (wTEXT : Addr) (wVARCHAR : Addr) (wBOOLEAN : Addr) (wUNKNOWN : Addr) (HW : own_Wd Z wSMALLINT wINTEGER wBIGINT wNUMERIC wTEXT wVARCHAR wBOOLEAN wUNKNOWN) : F8 (F3 k wSMALLINT wINTEGER wBIGINT wNUMERIC wTEXT wVARCHAR wBOOLEAN wUNKNOWN) wSMALLINT wINTEGER wBIGINT wNUMERIC wTEXT wVARCHAR wBOOLEAN wUNKNOWN = (if k = 0 then 1 else if k = 1 then 1 else if k = 2 then 1 else 0) := by
  obtain ⟨f0, f1, f2, f3, f4, f5, f6, f7, f8, f9, f10, f11, f12, f13, f14, f15, f16, f17, f18, f19, f20, f21, f22, f23, f24, f25, f26, f27, f28, f29, f30, f31, f32, f33, f34, f35, f36, f37, f38⟩ := HW
  by_cases h0 : k = (0 : Int32)
  · have e : F3 k wSMALLINT wINTEGER wBIGINT wNUMERIC wTEXT wVARCHAR wBOOLEAN wUNKNOWN = wSMALLINT := by rw [F3, if_pos h0]
    rw [e, F8, if_pos h0]
    rw [if_pos rfl]
  by_cases h1 : k = (1 : Int32)
  · have e : F3 k wSMALLINT wINTEGER wBIGINT wNUMERIC wTEXT wVARCHAR wBOOLEAN wUNKNOWN = wINTEGER := by rw [F3, if_neg h0, if_pos h1]
    rw [e, F8, if_neg h0, if_pos h1]
    by_cases qSMALLINT : wINTEGER = wSMALLINT
    · rw [if_pos qSMALLINT]
    rw [if_neg qSMALLINT]
    rw [if_pos rfl]
  by_cases h2 : k = (2 : Int32)
  · have e : F3 k wSMALLINT wINTEGER wBIGINT wNUMERIC wTEXT wVARCHAR wBOOLEAN wUNKNOWN = wBIGINT := by rw [F3, if_neg h0, if_neg h1, if_pos h2]
    rw [e, F8, if_neg h0, if_neg h1, if_pos h2]
    by_cases qSMALLINT : wBIGINT = wSMALLINT
    · rw [if_pos qSMALLINT]
    rw [if_neg qSMALLINT]
    by_cases qINTEGER : wBIGINT = wINTEGER
    · rw [if_pos qINTEGER]
    rw [if_neg qINTEGER]
    rw [if_pos rfl]
  by_cases h3 : k = (3 : Int32)
  · have e : F3 k wSMALLINT wINTEGER wBIGINT wNUMERIC wTEXT wVARCHAR wBOOLEAN wUNKNOWN = wNUMERIC := by rw [F3, if_neg h0, if_neg h1, if_neg h2, if_pos h3]
    rw [e, F8, if_neg f24, if_neg f25, if_neg f26, if_neg h0, if_neg h1, if_neg h2]
  by_cases h4 : k = (4 : Int32)
  · have e : F3 k wSMALLINT wINTEGER wBIGINT wNUMERIC wTEXT wVARCHAR wBOOLEAN wUNKNOWN = wTEXT := by rw [F3, if_neg h0, if_neg h1, if_neg h2, if_neg h3, if_pos h4]
    rw [e, F8, if_neg f27, if_neg f28, if_neg f29, if_neg h0, if_neg h1, if_neg h2]
  by_cases h5 : k = (5 : Int32)
  · have e : F3 k wSMALLINT wINTEGER wBIGINT wNUMERIC wTEXT wVARCHAR wBOOLEAN wUNKNOWN = wVARCHAR := by rw [F3, if_neg h0, if_neg h1, if_neg h2, if_neg h3, if_neg h4, if_pos h5]
    rw [e, F8, if_neg f30, if_neg f31, if_neg f32, if_neg h0, if_neg h1, if_neg h2]
  by_cases h6 : k = (6 : Int32)
  · have e : F3 k wSMALLINT wINTEGER wBIGINT wNUMERIC wTEXT wVARCHAR wBOOLEAN wUNKNOWN = wBOOLEAN := by rw [F3, if_neg h0, if_neg h1, if_neg h2, if_neg h3, if_neg h4, if_neg h5, if_pos h6]
    rw [e, F8, if_neg f33, if_neg f34, if_neg f35, if_neg h0, if_neg h1, if_neg h2]
  have e : F3 k wSMALLINT wINTEGER wBIGINT wNUMERIC wTEXT wVARCHAR wBOOLEAN wUNKNOWN = wUNKNOWN := by rw [F3, if_neg h0, if_neg h1, if_neg h2, if_neg h3, if_neg h4, if_neg h5, if_neg h6]
  rw [e, F8, if_neg f36, if_neg f37, if_neg f38, if_neg h0, if_neg h1, if_neg h2]
theorem pd_1 : parseMethodDescriptor "(I)Lcom/example/blend_into_rows/blendintorows/types/TypeKind;" = some ⟨[.int], some (.object "com/example/blend_into_rows/blendintorows/types/TypeKind")⟩ := by decide +kernel
theorem pd_2 : parseMethodDescriptor "()Z" = some ⟨[], some .boolean⟩ := by decide +kernel
theorem efL (m : MethodId) (p0 : Int32) : entryFrame m #[(.int p0)] maxLocals = mkF m 0 #[.val (.int p0), .unset, .unset, .unset] [] := by first | (simp [entryFrame, mkF, argsToLocals, Value.category, maxLocals]; done) | rfl
def QL (Z : State) (p0 : Int32) (wSMALLINT : Addr) (wINTEGER : Addr) (wBIGINT : Addr) (wNUMERIC : Addr) (wTEXT : Addr) (wVARCHAR : Addr) (wBOOLEAN : Addr) (wUNKNOWN : Addr) (h0 : Heap) (n0 : Nat) (v : Option Value) (h : Heap) (L : List Loc) : Prop := v = some (.int 1) ∧ Fr n0 L
abbrev own_KL (Z : State) (p0 : Int32) (wSMALLINT : Addr) (wINTEGER : Addr) (wBIGINT : Addr) (wNUMERIC : Addr) (wTEXT : Addr) (wVARCHAR : Addr) (wBOOLEAN : Addr) (wUNKNOWN : Addr) (h0 : Heap) (n0 : Nat) (s : State) : Outcome → State → Prop := fun o U' => ∃ v L, o = .returned v ∧ QL Z p0 wSMALLINT wINTEGER wBIGINT wNUMERIC wTEXT wVARCHAR wBOOLEAN wUNKNOWN h0 n0 v U'.heap L ∧ FrameEnd s o U' L room_1.cells room_1.slots
set_option maxRecDepth 65536 in
set_option maxHeartbeats 40000000 in
theorem rmL (l : Launch) (Z : State) (a0 : Array Value) (hw : ∀ d ∈ tables_1, d.before a0 Z = true) (ws : List Jvm.Cond) (p0 : Int32) (wSMALLINT : Addr) (wINTEGER : Addr) (wBIGINT : Addr) (wNUMERIC : Addr) (wTEXT : Addr) (wVARCHAR : Addr) (wBOOLEAN : Addr) (wUNKNOWN : Addr) (h0 : Heap) (n0 : Nat) (Z0 : n0 ≤ h0.size) (O0 : Old Z n0 h0) (HW : own_Wd Z wSMALLINT wINTEGER wBIGINT wNUMERIC wTEXT wVARCHAR wBOOLEAN wUNKNOWN) :
    MetFree l x (head1 (Jvm.Cond.code x code maxLocals ret :: ws) room_1) (fun a U => a = #[(.int p0)] ∧ Z.Warmed39 U.vm ∧ U.heap = h0) (fun _ _ _ _ _ => True) (fun _ U o U' => ∃ v L, o = .returned v ∧ QL Z p0 wSMALLINT wINTEGER wBIGINT wNUMERIC wTEXT wVARCHAR wBOOLEAN wUNKNOWN h0 n0 v U'.heap L ∧ FrameEnd U o U' L room_1.cells room_1.slots) := by
  refine MetFree.of_bodySF (plainFor_of_name pn_com_example_blend_into_rows_blendintorows_types_TypeKindIsIntegerPinLaw) hisR ?_
  intro p e s m args below meth c s₁ Bd hml0 hP hK
  obtain ⟨rfl, hZ, hh⟩ := hP
  have hx := Bd.exec
  have hby := Bd.bytes
  have hml : c.maxLocals = 4 := hml0
  have hown : s.vm.findClass "com/example/blend_into_rows/blendintorows/types/TypeKindIsIntegerPinLaw" = some m.cls := findClass_of_methodNamed Bd.named
  have hnm := (name_of_methodNamed Bd.named Bd.method).1
  have X0 : Stand p l e room_1 s m #[(.int p0)] below meth c s₁ [] 0 0 := Stand.of_body Bd
  have e0 : s₁.heap = h0 := by rw [← hh, Bd.state]; rfl
  have N0 := Fr.nil n0
  refine own_by (p := p) (e := e) (below := below) (K := own_KL Z p0 wSMALLINT wINTEGER wBIGINT wNUMERIC wTEXT wVARCHAR wBOOLEAN wUNKNOWN h0 n0 s) (W' := s₁.setTop (mkF m 0 #[.val (.int p0), .unset, .unset, .unset] [])) (fun t k => castTop (efL m p0) k) ?_
  refine own_by (W' := (s₁.setTop (mkF m 8 #[.val (.int p0), .val (.int ((p0 &&& (2147483647 : Int32)) % (8 : Int32))), .unset, .unset] []))) (fun t k => XS.iloadN X0.here hx rfl (hb hby at_0) rfl ((X0.ldcInt hx hown (mvT hZ (own_w hw 0)) (g := (mkF m 1 #[.val (.int p0), .unset, .unset, .unset] [(.int p0)])) rfl (hb hby at_1)) _ (XS.iand X0.here hx rfl (hb hby at_3) rfl (XS.bipush X0.here hx rfl (hb hby at_4) (iremM X0 hx rfl (hb hby at_6) rfl (by decide) (XS.istoreN X0.here hx rfl (hb hby at_7) rfl (l' := #[.val (.int p0), .val (.int ((p0 &&& (2147483647 : Int32)) % (8 : Int32))), .unset, .unset]) rfl k)))))) ?_
  generalize hv_kk : ((p0 &&& (2147483647 : Int32)) % (8 : Int32)) = kk
  obtain ⟨_, _, ⟨T1, L1, k1, n1⟩, -, X1, ⟨Lc1, hQ1, l1, y1, z1⟩, st1⟩ := Jvm.LawKit.callS X0 hx (y := (⟨"com/example/blend_into_rows/blendintorows/types/TypeKindIsIntegerPinLaw", "pick", "(I)Lcom/example/blend_into_rows/blendintorows/types/TypeKind;"⟩ : MethodName)) hown (mvT hZ (own_w hw 1)) (mvT hZ (own_w hw 2)) (mvT hZ (own_w hw 3)) (mvT hZ (own_w hw 4)) (by decide) (backOf (W := 0) (rm3 l Z a0 hw [] kk wSMALLINT wINTEGER wBIGINT wNUMERIC wTEXT wVARCHAR wBOOLEAN wUNKNOWN h0 n0 Z0 O0 HW) hZ (own_w hw 4) (own_w hw 3) (by decide) (by decide)) (g := (mkF m 9 #[.val (.int p0), .val (.int kk), .unset, .unset] [(.int kk)])) rfl (by rw [hml]; rfl) (argsL := [(.int kk)]) (rest := []) (lenOf pd_1 rfl) rfl (by show 2 * 0 + _ ≤ _; exact Nat.le_of_eq rfl) (hb hby at_9) (fun _ _ => ⟨rfl, e0, (by decide : 0 + 0 ≤ _), (by decide : 0 + 0 ≤ _)⟩)
  dsimp only [Pt.U, Pt.locs, Pt.cells, Pt.slots] at X1 l1 y1 z1 st1 hQ1
  subst l1 y1 z1
  obtain ⟨rfl, N1q, e1⟩ := hQ1
  have N1 := Fr.app N0 N1q
  refine own_by (W' := (T1.setTop (mkF m 14 #[.val (.int p0), .val (.int kk), .val (.ref (F3 kk wSMALLINT wINTEGER wBIGINT wNUMERIC wTEXT wVARCHAR wBOOLEAN wUNKNOWN)), .unset] [(.int kk)]))) (fun t k => XS.iloadN X0.here hx rfl (hb hby at_8) rfl (st1 _ (XS.astoreN X1.here hx rfl (hb hby at_12) rfl rfl (l' := #[.val (.int p0), .val (.int kk), .val (.ref (F3 kk wSMALLINT wINTEGER wBIGINT wNUMERIC wTEXT wVARCHAR wBOOLEAN wUNKNOWN)), .unset]) rfl (XS.iloadN X1.here hx rfl (hb hby at_13) rfl k)))) ?_
  by_cases hc2 : kk = (0 : Int32)
  ·
    obtain ⟨cq3, kq3, q3a, q3b, q3c⟩ := isOf hZ e1 ((own_exa Z kk wSMALLINT wINTEGER wBIGINT wNUMERIC wTEXT wVARCHAR wBOOLEAN wUNKNOWN HW).ext O0.2)
    obtain ⟨_, _, ⟨T3, L3, k3, n3⟩, -, X3, ⟨Lc3, hQ3, l3, y3, z3⟩, st3⟩ := X1.virtualBack hx (y := (⟨"com/example/blend_into_rows/blendintorows/types/TypeKind", "isInteger", "()Z"⟩ : MethodName)) (z := (⟨"com/example/blend_into_rows/blendintorows/types/TypeKind", "isInteger", "()Z"⟩ : MethodName)) hown (mvT hZ (own_w hw 8)) (mvT hZ (own_w hw 9)) (notFace_of_selects (args := #[]) (mvT hZ (own_w hw 11))) (mvT hZ (own_w hw 11)) (mvT hZ (own_w hw 10)) (by decide) (backOf (W := 0) (rm8 l Z a0 hw [] (F3 kk wSMALLINT wINTEGER wBIGINT wNUMERIC wTEXT wVARCHAR wBOOLEAN wUNKNOWN) wSMALLINT wINTEGER wBIGINT wNUMERIC wTEXT wVARCHAR wBOOLEAN wUNKNOWN h0 n0 Z0 O0 HW) hZ (own_w hw 12) (own_w hw 6) (by decide) (by decide)) q3a q3c (g := (mkF m 34 #[.val (.int p0), .val (.int kk), .val (.ref (F3 kk wSMALLINT wINTEGER wBIGINT wNUMERIC wTEXT wVARCHAR wBOOLEAN wUNKNOWN)), .val (.int (1 : Int32))] [(.ref (F3 kk wSMALLINT wINTEGER wBIGINT wNUMERIC wTEXT wVARCHAR wBOOLEAN wUNKNOWN))])) rfl (by rw [hml]; rfl) (Steps.refl _) (argsL := []) (rest := []) (lenOf pd_2 rfl) rfl (by show 2 * 0 + _ ≤ _; exact Nat.le_of_eq rfl) (hb hby at_34) (fun _ _ => ⟨rfl, e1, (by decide : 0 + 0 ≤ _), (by decide : 0 + 0 ≤ _)⟩)
    dsimp only [Pt.U, Pt.locs, Pt.cells, Pt.slots] at X3 l3 y3 z3 st3 hQ3
    subst l3 y3 z3
    obtain ⟨rfl, N3q, e3⟩ := hQ3
    have N3 := Fr.app N1 N3q
    refine own_by (W' := (T3.setTop (mkF m 37 #[.val (.int p0), .val (.int kk), .val (.ref (F3 kk wSMALLINT wINTEGER wBIGINT wNUMERIC wTEXT wVARCHAR wBOOLEAN wUNKNOWN)), .val (.int (1 : Int32))] [(.int (F8 (F3 kk wSMALLINT wINTEGER wBIGINT wNUMERIC wTEXT wVARCHAR wBOOLEAN wUNKNOWN) wSMALLINT wINTEGER wBIGINT wNUMERIC wTEXT wVARCHAR wBOOLEAN wUNKNOWN))]))) (fun t k => XS.ifYes X1.here hx rfl (pc0 := 14) (pc' := 27) rfl (hb hby at_14) rfl ((if0 _ _).trans (teq hc2).1) (by decide) (by decide) (XS.iconst X1.here hx rfl (hb hby at_27) (XS.goto X1.here hx rfl (pc0 := 28) (pc' := 32) rfl (hb hby at_28) (by decide) (by decide) (XS.istoreN X1.here hx rfl (hb hby at_32) rfl (l' := #[.val (.int p0), .val (.int kk), .val (.ref (F3 kk wSMALLINT wINTEGER wBIGINT wNUMERIC wTEXT wVARCHAR wBOOLEAN wUNKNOWN)), .val (.int (1 : Int32))]) rfl (XS.aloadN X1.here hx rfl (hb hby at_33) rfl rfl (Steps.trans st3 k)))))) ?_
    have ho4 : (F8 (F3 kk wSMALLINT wINTEGER wBIGINT wNUMERIC wTEXT wVARCHAR wBOOLEAN wUNKNOWN) wSMALLINT wINTEGER wBIGINT wNUMERIC wTEXT wVARCHAR wBOOLEAN wUNKNOWN) = (1 : Int32) := by rw [own_law Z kk wSMALLINT wINTEGER wBIGINT wNUMERIC wTEXT wVARCHAR wBOOLEAN wUNKNOWN HW, if_pos hc2]
    obtain ⟨fs, hr, hrun, hended, hW, hsame⟩ := X3.leave (v := some (.int (1 : Int32))) (fun h => by rw [Bd.returns] at h; cases h)
    refine own_by (W' := (T3.setTop (mkF m 46 #[.val (.int p0), .val (.int kk), .val (.ref (F3 kk wSMALLINT wINTEGER wBIGINT wNUMERIC wTEXT wVARCHAR wBOOLEAN wUNKNOWN)), .val (.int (1 : Int32))] [(.int (1 : Int32))]))) (fun t k => XS.iloadN X3.here hx rfl (hb hby at_37) rfl (XS.icmpNo X3.here hx rfl (hb hby at_38) rfl (teq ho4).2 (XS.iconst X3.here hx rfl (hb hby at_41) (XS.goto X3.here hx rfl (pc0 := 42) (pc' := 46) rfl (hb hby at_42) (by decide) (by decide) k)))) ?_
    refine ⟨_, _, retOut X3 hx Bd.returns rfl (Or.inl ⟨rfl, Or.inr (Or.inl rfl), _, rfl⟩) (hb hby at_46) hr, hrun, hended, _, _, rfl, ?_, ⟨_, rfl⟩, hW, hsame.mono (by decide) (by decide)⟩
    exact ⟨rfl, N3⟩
  ·
    refine own_by (W' := (T1.setTop (mkF m 19 #[.val (.int p0), .val (.int kk), .val (.ref (F3 kk wSMALLINT wINTEGER wBIGINT wNUMERIC wTEXT wVARCHAR wBOOLEAN wUNKNOWN)), .unset] [(.int (1 : Int32)), (.int kk)]))) (fun t k => XS.ifNo X1.here hx rfl (hb hby at_14) rfl ((if0 _ _).trans (feq hc2).1) (XS.iloadN X1.here hx rfl (hb hby at_17) rfl (XS.iconst X1.here hx rfl (hb hby at_18) k))) ?_
    by_cases hc5 : kk = (1 : Int32)
    ·
      obtain ⟨cq6, kq6, q6a, q6b, q6c⟩ := isOf hZ e1 ((own_exa Z kk wSMALLINT wINTEGER wBIGINT wNUMERIC wTEXT wVARCHAR wBOOLEAN wUNKNOWN HW).ext O0.2)
      obtain ⟨_, _, ⟨T6, L6, k6, n6⟩, -, X6, ⟨Lc6, hQ6, l6, y6, z6⟩, st6⟩ := X1.virtualBack hx (y := (⟨"com/example/blend_into_rows/blendintorows/types/TypeKind", "isInteger", "()Z"⟩ : MethodName)) (z := (⟨"com/example/blend_into_rows/blendintorows/types/TypeKind", "isInteger", "()Z"⟩ : MethodName)) hown (mvT hZ (own_w hw 8)) (mvT hZ (own_w hw 9)) (notFace_of_selects (args := #[]) (mvT hZ (own_w hw 11))) (mvT hZ (own_w hw 11)) (mvT hZ (own_w hw 10)) (by decide) (backOf (W := 0) (rm8 l Z a0 hw [] (F3 kk wSMALLINT wINTEGER wBIGINT wNUMERIC wTEXT wVARCHAR wBOOLEAN wUNKNOWN) wSMALLINT wINTEGER wBIGINT wNUMERIC wTEXT wVARCHAR wBOOLEAN wUNKNOWN h0 n0 Z0 O0 HW) hZ (own_w hw 12) (own_w hw 6) (by decide) (by decide)) q6a q6c (g := (mkF m 34 #[.val (.int p0), .val (.int kk), .val (.ref (F3 kk wSMALLINT wINTEGER wBIGINT wNUMERIC wTEXT wVARCHAR wBOOLEAN wUNKNOWN)), .val (.int (1 : Int32))] [(.ref (F3 kk wSMALLINT wINTEGER wBIGINT wNUMERIC wTEXT wVARCHAR wBOOLEAN wUNKNOWN))])) rfl (by rw [hml]; rfl) (Steps.refl _) (argsL := []) (rest := []) (lenOf pd_2 rfl) rfl (by show 2 * 0 + _ ≤ _; exact Nat.le_of_eq rfl) (hb hby at_34) (fun _ _ => ⟨rfl, e1, (by decide : 0 + 0 ≤ _), (by decide : 0 + 0 ≤ _)⟩)
      dsimp only [Pt.U, Pt.locs, Pt.cells, Pt.slots] at X6 l6 y6 z6 st6 hQ6
      subst l6 y6 z6
      obtain ⟨rfl, N6q, e6⟩ := hQ6
      have N6 := Fr.app N1 N6q
      refine own_by (W' := (T6.setTop (mkF m 37 #[.val (.int p0), .val (.int kk), .val (.ref (F3 kk wSMALLINT wINTEGER wBIGINT wNUMERIC wTEXT wVARCHAR wBOOLEAN wUNKNOWN)), .val (.int (1 : Int32))] [(.int (F8 (F3 kk wSMALLINT wINTEGER wBIGINT wNUMERIC wTEXT wVARCHAR wBOOLEAN wUNKNOWN) wSMALLINT wINTEGER wBIGINT wNUMERIC wTEXT wVARCHAR wBOOLEAN wUNKNOWN))]))) (fun t k => XS.icmpYes X1.here hx rfl (pc0 := 19) (pc' := 27) rfl (hb hby at_19) rfl (teq hc5).1 (by decide) (by decide) (XS.iconst X1.here hx rfl (hb hby at_27) (XS.goto X1.here hx rfl (pc0 := 28) (pc' := 32) rfl (hb hby at_28) (by decide) (by decide) (XS.istoreN X1.here hx rfl (hb hby at_32) rfl (l' := #[.val (.int p0), .val (.int kk), .val (.ref (F3 kk wSMALLINT wINTEGER wBIGINT wNUMERIC wTEXT wVARCHAR wBOOLEAN wUNKNOWN)), .val (.int (1 : Int32))]) rfl (XS.aloadN X1.here hx rfl (hb hby at_33) rfl rfl (Steps.trans st6 k)))))) ?_
      have ho7 : (F8 (F3 kk wSMALLINT wINTEGER wBIGINT wNUMERIC wTEXT wVARCHAR wBOOLEAN wUNKNOWN) wSMALLINT wINTEGER wBIGINT wNUMERIC wTEXT wVARCHAR wBOOLEAN wUNKNOWN) = (1 : Int32) := by rw [own_law Z kk wSMALLINT wINTEGER wBIGINT wNUMERIC wTEXT wVARCHAR wBOOLEAN wUNKNOWN HW, if_neg hc2, if_pos hc5]
      obtain ⟨fs, hr, hrun, hended, hW, hsame⟩ := X6.leave (v := some (.int (1 : Int32))) (fun h => by rw [Bd.returns] at h; cases h)
      refine own_by (W' := (T6.setTop (mkF m 46 #[.val (.int p0), .val (.int kk), .val (.ref (F3 kk wSMALLINT wINTEGER wBIGINT wNUMERIC wTEXT wVARCHAR wBOOLEAN wUNKNOWN)), .val (.int (1 : Int32))] [(.int (1 : Int32))]))) (fun t k => XS.iloadN X6.here hx rfl (hb hby at_37) rfl (XS.icmpNo X6.here hx rfl (hb hby at_38) rfl (teq ho7).2 (XS.iconst X6.here hx rfl (hb hby at_41) (XS.goto X6.here hx rfl (pc0 := 42) (pc' := 46) rfl (hb hby at_42) (by decide) (by decide) k)))) ?_
      refine ⟨_, _, retOut X6 hx Bd.returns rfl (Or.inl ⟨rfl, Or.inr (Or.inl rfl), _, rfl⟩) (hb hby at_46) hr, hrun, hended, _, _, rfl, ?_, ⟨_, rfl⟩, hW, hsame.mono (by decide) (by decide)⟩
      exact ⟨rfl, N6⟩
    ·
      refine own_by (W' := (T1.setTop (mkF m 24 #[.val (.int p0), .val (.int kk), .val (.ref (F3 kk wSMALLINT wINTEGER wBIGINT wNUMERIC wTEXT wVARCHAR wBOOLEAN wUNKNOWN)), .unset] [(.int (2 : Int32)), (.int kk)]))) (fun t k => XS.icmpNo X1.here hx rfl (hb hby at_19) rfl (feq hc5).1 (XS.iloadN X1.here hx rfl (hb hby at_22) rfl (XS.iconst X1.here hx rfl (hb hby at_23) k))) ?_
      by_cases hc8 : kk = (2 : Int32)
      ·
        obtain ⟨cq9, kq9, q9a, q9b, q9c⟩ := isOf hZ e1 ((own_exa Z kk wSMALLINT wINTEGER wBIGINT wNUMERIC wTEXT wVARCHAR wBOOLEAN wUNKNOWN HW).ext O0.2)
        obtain ⟨_, _, ⟨T9, L9, k9, n9⟩, -, X9, ⟨Lc9, hQ9, l9, y9, z9⟩, st9⟩ := X1.virtualBack hx (y := (⟨"com/example/blend_into_rows/blendintorows/types/TypeKind", "isInteger", "()Z"⟩ : MethodName)) (z := (⟨"com/example/blend_into_rows/blendintorows/types/TypeKind", "isInteger", "()Z"⟩ : MethodName)) hown (mvT hZ (own_w hw 8)) (mvT hZ (own_w hw 9)) (notFace_of_selects (args := #[]) (mvT hZ (own_w hw 11))) (mvT hZ (own_w hw 11)) (mvT hZ (own_w hw 10)) (by decide) (backOf (W := 0) (rm8 l Z a0 hw [] (F3 kk wSMALLINT wINTEGER wBIGINT wNUMERIC wTEXT wVARCHAR wBOOLEAN wUNKNOWN) wSMALLINT wINTEGER wBIGINT wNUMERIC wTEXT wVARCHAR wBOOLEAN wUNKNOWN h0 n0 Z0 O0 HW) hZ (own_w hw 12) (own_w hw 6) (by decide) (by decide)) q9a q9c (g := (mkF m 34 #[.val (.int p0), .val (.int kk), .val (.ref (F3 kk wSMALLINT wINTEGER wBIGINT wNUMERIC wTEXT wVARCHAR wBOOLEAN wUNKNOWN)), .val (.int (1 : Int32))] [(.ref (F3 kk wSMALLINT wINTEGER wBIGINT wNUMERIC wTEXT wVARCHAR wBOOLEAN wUNKNOWN))])) rfl (by rw [hml]; rfl) (Steps.refl _) (argsL := []) (rest := []) (lenOf pd_2 rfl) rfl (by show 2 * 0 + _ ≤ _; exact Nat.le_of_eq rfl) (hb hby at_34) (fun _ _ => ⟨rfl, e1, (by decide : 0 + 0 ≤ _), (by decide : 0 + 0 ≤ _)⟩)
        dsimp only [Pt.U, Pt.locs, Pt.cells, Pt.slots] at X9 l9 y9 z9 st9 hQ9
        subst l9 y9 z9
        obtain ⟨rfl, N9q, e9⟩ := hQ9
        have N9 := Fr.app N1 N9q
        refine own_by (W' := (T9.setTop (mkF m 37 #[.val (.int p0), .val (.int kk), .val (.ref (F3 kk wSMALLINT wINTEGER wBIGINT wNUMERIC wTEXT wVARCHAR wBOOLEAN wUNKNOWN)), .val (.int (1 : Int32))] [(.int (F8 (F3 kk wSMALLINT wINTEGER wBIGINT wNUMERIC wTEXT wVARCHAR wBOOLEAN wUNKNOWN) wSMALLINT wINTEGER wBIGINT wNUMERIC wTEXT wVARCHAR wBOOLEAN wUNKNOWN))]))) (fun t k => XS.icmpNo X1.here hx rfl (hb hby at_24) rfl (teq hc8).2 (XS.iconst X1.here hx rfl (hb hby at_27) (XS.goto X1.here hx rfl (pc0 := 28) (pc' := 32) rfl (hb hby at_28) (by decide) (by decide) (XS.istoreN X1.here hx rfl (hb hby at_32) rfl (l' := #[.val (.int p0), .val (.int kk), .val (.ref (F3 kk wSMALLINT wINTEGER wBIGINT wNUMERIC wTEXT wVARCHAR wBOOLEAN wUNKNOWN)), .val (.int (1 : Int32))]) rfl (XS.aloadN X1.here hx rfl (hb hby at_33) rfl rfl (Steps.trans st9 k)))))) ?_
        have ho10 : (F8 (F3 kk wSMALLINT wINTEGER wBIGINT wNUMERIC wTEXT wVARCHAR wBOOLEAN wUNKNOWN) wSMALLINT wINTEGER wBIGINT wNUMERIC wTEXT wVARCHAR wBOOLEAN wUNKNOWN) = (1 : Int32) := by rw [own_law Z kk wSMALLINT wINTEGER wBIGINT wNUMERIC wTEXT wVARCHAR wBOOLEAN wUNKNOWN HW, if_neg hc2, if_neg hc5, if_pos hc8]
        obtain ⟨fs, hr, hrun, hended, hW, hsame⟩ := X9.leave (v := some (.int (1 : Int32))) (fun h => by rw [Bd.returns] at h; cases h)
        refine own_by (W' := (T9.setTop (mkF m 46 #[.val (.int p0), .val (.int kk), .val (.ref (F3 kk wSMALLINT wINTEGER wBIGINT wNUMERIC wTEXT wVARCHAR wBOOLEAN wUNKNOWN)), .val (.int (1 : Int32))] [(.int (1 : Int32))]))) (fun t k => XS.iloadN X9.here hx rfl (hb hby at_37) rfl (XS.icmpNo X9.here hx rfl (hb hby at_38) rfl (teq ho10).2 (XS.iconst X9.here hx rfl (hb hby at_41) (XS.goto X9.here hx rfl (pc0 := 42) (pc' := 46) rfl (hb hby at_42) (by decide) (by decide) k)))) ?_
        refine ⟨_, _, retOut X9 hx Bd.returns rfl (Or.inl ⟨rfl, Or.inr (Or.inl rfl), _, rfl⟩) (hb hby at_46) hr, hrun, hended, _, _, rfl, ?_, ⟨_, rfl⟩, hW, hsame.mono (by decide) (by decide)⟩
        exact ⟨rfl, N9⟩
      ·
        obtain ⟨cq11, kq11, q11a, q11b, q11c⟩ := isOf hZ e1 ((own_exa Z kk wSMALLINT wINTEGER wBIGINT wNUMERIC wTEXT wVARCHAR wBOOLEAN wUNKNOWN HW).ext O0.2)
        obtain ⟨_, _, ⟨T11, L11, k11, n11⟩, -, X11, ⟨Lc11, hQ11, l11, y11, z11⟩, st11⟩ := X1.virtualBack hx (y := (⟨"com/example/blend_into_rows/blendintorows/types/TypeKind", "isInteger", "()Z"⟩ : MethodName)) (z := (⟨"com/example/blend_into_rows/blendintorows/types/TypeKind", "isInteger", "()Z"⟩ : MethodName)) hown (mvT hZ (own_w hw 8)) (mvT hZ (own_w hw 9)) (notFace_of_selects (args := #[]) (mvT hZ (own_w hw 11))) (mvT hZ (own_w hw 11)) (mvT hZ (own_w hw 10)) (by decide) (backOf (W := 0) (rm8 l Z a0 hw [] (F3 kk wSMALLINT wINTEGER wBIGINT wNUMERIC wTEXT wVARCHAR wBOOLEAN wUNKNOWN) wSMALLINT wINTEGER wBIGINT wNUMERIC wTEXT wVARCHAR wBOOLEAN wUNKNOWN h0 n0 Z0 O0 HW) hZ (own_w hw 12) (own_w hw 6) (by decide) (by decide)) q11a q11c (g := (mkF m 34 #[.val (.int p0), .val (.int kk), .val (.ref (F3 kk wSMALLINT wINTEGER wBIGINT wNUMERIC wTEXT wVARCHAR wBOOLEAN wUNKNOWN)), .val (.int (0 : Int32))] [(.ref (F3 kk wSMALLINT wINTEGER wBIGINT wNUMERIC wTEXT wVARCHAR wBOOLEAN wUNKNOWN))])) rfl (by rw [hml]; rfl) (Steps.refl _) (argsL := []) (rest := []) (lenOf pd_2 rfl) rfl (by show 2 * 0 + _ ≤ _; exact Nat.le_of_eq rfl) (hb hby at_34) (fun _ _ => ⟨rfl, e1, (by decide : 0 + 0 ≤ _), (by decide : 0 + 0 ≤ _)⟩)
        dsimp only [Pt.U, Pt.locs, Pt.cells, Pt.slots] at X11 l11 y11 z11 st11 hQ11
        subst l11 y11 z11
        obtain ⟨rfl, N11q, e11⟩ := hQ11
        have N11 := Fr.app N1 N11q
        refine own_by (W' := (T11.setTop (mkF m 38 #[.val (.int p0), .val (.int kk), .val (.ref (F3 kk wSMALLINT wINTEGER wBIGINT wNUMERIC wTEXT wVARCHAR wBOOLEAN wUNKNOWN)), .val (.int (0 : Int32))] [(.int (0 : Int32)), (.int (F8 (F3 kk wSMALLINT wINTEGER wBIGINT wNUMERIC wTEXT wVARCHAR wBOOLEAN wUNKNOWN) wSMALLINT wINTEGER wBIGINT wNUMERIC wTEXT wVARCHAR wBOOLEAN wUNKNOWN))]))) (fun t k => XS.icmpYes X1.here hx rfl (pc0 := 24) (pc' := 31) rfl (hb hby at_24) rfl (feq hc8).2 (by decide) (by decide) (XS.iconst X1.here hx rfl (hb hby at_31) (XS.istoreN X1.here hx rfl (hb hby at_32) rfl (l' := #[.val (.int p0), .val (.int kk), .val (.ref (F3 kk wSMALLINT wINTEGER wBIGINT wNUMERIC wTEXT wVARCHAR wBOOLEAN wUNKNOWN)), .val (.int (0 : Int32))]) rfl (XS.aloadN X1.here hx rfl (hb hby at_33) rfl rfl (Steps.trans st11 (XS.iloadN X11.here hx rfl (hb hby at_37) rfl k)))))) ?_
        have ho12 : (F8 (F3 kk wSMALLINT wINTEGER wBIGINT wNUMERIC wTEXT wVARCHAR wBOOLEAN wUNKNOWN) wSMALLINT wINTEGER wBIGINT wNUMERIC wTEXT wVARCHAR wBOOLEAN wUNKNOWN) = (0 : Int32) := by rw [own_law Z kk wSMALLINT wINTEGER wBIGINT wNUMERIC wTEXT wVARCHAR wBOOLEAN wUNKNOWN HW, if_neg hc2, if_neg hc5, if_neg hc8]
        obtain ⟨fs, hr, hrun, hended, hW, hsame⟩ := X11.leave (v := some (.int (1 : Int32))) (fun h => by rw [Bd.returns] at h; cases h)
        refine own_by (W' := (T11.setTop (mkF m 46 #[.val (.int p0), .val (.int kk), .val (.ref (F3 kk wSMALLINT wINTEGER wBIGINT wNUMERIC wTEXT wVARCHAR wBOOLEAN wUNKNOWN)), .val (.int (0 : Int32))] [(.int (1 : Int32))]))) (fun t k => XS.icmpNo X11.here hx rfl (hb hby at_38) rfl (teq ho12).2 (XS.iconst X11.here hx rfl (hb hby at_41) (XS.goto X11.here hx rfl (pc0 := 42) (pc' := 46) rfl (hb hby at_42) (by decide) (by decide) k))) ?_
        refine ⟨_, _, retOut X11 hx Bd.returns rfl (Or.inl ⟨rfl, Or.inr (Or.inl rfl), _, rfl⟩) (hb hby at_46) hr, hrun, hended, _, _, rfl, ?_, ⟨_, rfl⟩, hW, hsame.mono (by decide) (by decide)⟩
        exact ⟨rfl, N11⟩
set_option maxRecDepth 65536 in
set_option maxHeartbeats 40000000 in
theorem comes_1 {Post : Tables → Env → Array Value → State → Outcome → State → Prop} (hpost : ∀ tb e args s v u, (limb_1_1.after args s (.returned v) u = true ∧ limb_1_2.after args s (.returned v) u = true ∧ True) → FrameEnd s (.returned v) u (Jvm.fieldLocs frame_1_writes args s ++ Jvm.arrayLocs frame_1_arrays args s ++ Jvm.staticLocs frame_1_statics s) 0 0 → Post tb e args s (.returned v) u) :
    ArmFor flags0 classFile x code maxLocals ret World_1 tables_1 room_1 Calls_1 rest_1 Pre_1 Post := by
  intro l hfl _ _ p e ha hc hk s m args below hf hA hF happ hP
  obtain ⟨hcalls, hrest, hpre⟩ := hP
  obtain ⟨-, -, -, hnamed, -, -, -, hat⟩ := (Spec.applies_iff hf).mp happ
  obtain ⟨hg, hn⟩ := and_e (Cond.before_iff.mp (show (Jvm.Cond.and given_1 narrow_1).before args s = true from hpre))
  obtain ⟨ga1, gb1⟩ := and_e hg
  obtain ⟨w0, rfl⟩ : ∃ w0 : Value, args = #[w0] := by
    have hs : args.size = 1 := by simpa [Cond.value, given_1] using ga1
    obtain ⟨L⟩ := args
    match L, hs with
    | [w0], _ => exact ⟨w0, rfl⟩
  have hw := fun d (hd : d ∈ tables_1) => atoms_spec (ws := Jvm.Cond.code x code maxLocals ret :: tables_1) hat d (List.mem_cons_of_mem _ hd)
  have hfit : Fit s := fun {y c} hc i hi => by
    obtain ⟨ha, rfl⟩ := Array.getElem?_eq_some_iff.mp hc
    have q := List.all_eq_true.mp ((Array.all_eq_true_iff_forall_mem.mp hF) _ (Array.getElem_mem ha)) i (List.mem_range.mpr hi)
    simpa [Array.getElem?_eq_getElem hi] using q
  obtain ⟨i0, ei0⟩ := is_v gb1
  obtain rfl : w0 = (.int i0) := Option.some.inj ei0
  obtain ⟨ga2, gb2⟩ := and_e hn
  obtain ⟨ga3, gb3⟩ := and_e gb2
  obtain ⟨ga4, gb4⟩ := and_e gb3
  obtain ⟨ga5, gb5⟩ := and_e gb4
  obtain ⟨ga6, gb6⟩ := and_e gb5
  obtain ⟨ga7, gb7⟩ := and_e gb6
  obtain ⟨ga8, gb8⟩ := and_e gb7
  obtain ⟨ga9, gb9⟩ := and_e gb8
  obtain ⟨ga10, gb10⟩ := and_e gb9
  obtain ⟨ga11, gb11⟩ := and_e gb10
  obtain ⟨ga12, gb12⟩ := and_e gb11
  obtain ⟨ga13, gb13⟩ := and_e gb12
  obtain ⟨ga14, gb14⟩ := and_e gb13
  obtain ⟨ga15, gb15⟩ := and_e gb14
  obtain ⟨ga16, gb16⟩ := and_e gb15
  obtain ⟨wSMALLINT, ev_wSMALLINT, Sx_wSMALLINT, Ex_wSMALLINT⟩ := own_sta ga2 (Or.inr ⟨(own_w hw 6), (own_w hw 7)⟩)
  have Fx_wSMALLINT_ordinal := own_fldI ev_wSMALLINT ga5
  obtain ⟨wINTEGER, ev_wINTEGER, Sx_wINTEGER, Ex_wINTEGER⟩ := own_sta ga6 (Or.inr ⟨(own_w hw 6), (own_w hw 17)⟩)
  have Fx_wINTEGER_ordinal := own_fldI ev_wINTEGER ga7
  obtain ⟨wBIGINT, ev_wBIGINT, Sx_wBIGINT, Ex_wBIGINT⟩ := own_sta ga8 (Or.inr ⟨(own_w hw 6), (own_w hw 19)⟩)
  have Fx_wBIGINT_ordinal := own_fldI ev_wBIGINT ga9
  obtain ⟨wNUMERIC, ev_wNUMERIC, Sx_wNUMERIC, Ex_wNUMERIC⟩ := own_sta ga3 (Or.inr ⟨(own_w hw 6), (own_w hw 15)⟩)
  have Fx_wNUMERIC_ordinal := own_fldI ev_wNUMERIC ga4
  obtain ⟨wTEXT, ev_wTEXT, Sx_wTEXT, Ex_wTEXT⟩ := own_sta ga14 (Or.inr ⟨(own_w hw 6), (own_w hw 27)⟩)
  have Fx_wTEXT_ordinal := own_fldI ev_wTEXT ga15
  obtain ⟨wVARCHAR, ev_wVARCHAR, Sx_wVARCHAR, Ex_wVARCHAR⟩ := own_sta ga16 (Or.inr ⟨(own_w hw 6), (own_w hw 29)⟩)
  have Fx_wVARCHAR_ordinal := own_fldI ev_wVARCHAR gb16
  obtain ⟨wBOOLEAN, ev_wBOOLEAN, Sx_wBOOLEAN, Ex_wBOOLEAN⟩ := own_sta ga10 (Or.inr ⟨(own_w hw 6), (own_w hw 21)⟩)
  have Fx_wBOOLEAN_ordinal := own_fldI ev_wBOOLEAN ga11
  obtain ⟨wUNKNOWN, ev_wUNKNOWN, Sx_wUNKNOWN, Ex_wUNKNOWN⟩ := own_sta ga12 (Or.inr ⟨(own_w hw 6), (own_w hw 23)⟩)
  have Fx_wUNKNOWN_ordinal := own_fldI ev_wUNKNOWN ga13
  obtain ⟨n, o, h1, h2, h3, _, L, rfl, ⟨rfl, N⟩, hq⟩ := rmL l s _ hw tables_1 i0 wSMALLINT wINTEGER wBIGINT wNUMERIC wTEXT wVARCHAR wBOOLEAN wUNKNOWN s.heap s.heap.size (Nat.le_refl _) (Old.start s) ⟨Sx_wSMALLINT, Ex_wSMALLINT, Fx_wSMALLINT_ordinal, Sx_wINTEGER, Ex_wINTEGER, Fx_wINTEGER_ordinal, Sx_wBIGINT, Ex_wBIGINT, Fx_wBIGINT_ordinal, Sx_wNUMERIC, Ex_wNUMERIC, Fx_wNUMERIC_ordinal, Sx_wTEXT, Ex_wTEXT, Fx_wTEXT_ordinal, Sx_wVARCHAR, Ex_wVARCHAR, Fx_wVARCHAR_ordinal, Sx_wBOOLEAN, Ex_wBOOLEAN, Fx_wBOOLEAN_ordinal, Sx_wUNKNOWN, Ex_wUNKNOWN, Fx_wUNKNOWN_ordinal, (Fx_wNUMERIC_ordinal.ne Fx_wSMALLINT_ordinal (by decide)), (Fx_wNUMERIC_ordinal.ne Fx_wINTEGER_ordinal (by decide)), (Fx_wNUMERIC_ordinal.ne Fx_wBIGINT_ordinal (by decide)), (Fx_wTEXT_ordinal.ne Fx_wSMALLINT_ordinal (by decide)), (Fx_wTEXT_ordinal.ne Fx_wINTEGER_ordinal (by decide)), (Fx_wTEXT_ordinal.ne Fx_wBIGINT_ordinal (by decide)), (Fx_wVARCHAR_ordinal.ne Fx_wSMALLINT_ordinal (by decide)), (Fx_wVARCHAR_ordinal.ne Fx_wINTEGER_ordinal (by decide)), (Fx_wVARCHAR_ordinal.ne Fx_wBIGINT_ordinal (by decide)), (Fx_wBOOLEAN_ordinal.ne Fx_wSMALLINT_ordinal (by decide)), (Fx_wBOOLEAN_ordinal.ne Fx_wINTEGER_ordinal (by decide)), (Fx_wBOOLEAN_ordinal.ne Fx_wBIGINT_ordinal (by decide)), (Fx_wUNKNOWN_ordinal.ne Fx_wSMALLINT_ordinal (by decide)), (Fx_wUNKNOWN_ordinal.ne Fx_wINTEGER_ordinal (by decide)), (Fx_wUNKNOWN_ordinal.ne Fx_wBIGINT_ordinal (by decide))⟩ p e ha hc hk s m _ below hf ((Spec.applies_iff_loose hf).mp happ).1 ⟨rfl, State.Warmed39.refl s, rfl⟩ trivial
  refine ⟨n, _, h1, h2, h3, hpost _ _ _ _ _ _ ⟨Cond.after_iff.mpr rfl, Cond.after_iff.mpr (eq_i res_at (Term.int_eval (1)) rfl), trivial⟩ ⟨hq.1, hq.2.1, (hq.2.2.sift fun y hy => Or.inr (N y hy)).mono (by decide) (by decide)⟩⟩
theorem main_1_1 : Claimed_1_1 := comes_1 fun _ _ _ _ _ _ h hF => ⟨h.1, hF⟩
theorem main_1_2 : Claimed_1_2 := comes_1 fun _ _ _ _ _ _ h hF => ⟨h.2.1, hF⟩
end Jvm.Pilot.@@N@@
namespace Jvm.Pilot.@@N@@
open Jvm Jvm.ClassFile Sem Op Lib Jvm.Free Jvm.Stand Jvm.Pilot.@@N@@.Jvm.D
/-! MADE BY PROGRAM (witnessworld.py) out of the Statement's table words and the real class files: 12 classes; the members and pool entries that the words name. The judged class is class 1, her method 1. -/
namespace start1
open Jvm.ClassFile
def u (s : String) : CpInfo := .utf8 (stringToUtf16 s)
/-- a pool by its gaps: so many unusable entries, then the entry; so many at the end -/
def gap : Nat → List CpInfo → List CpInfo
  | 0, r => r
  | n + 1, r => .unusable :: gap n r
def poolList (es : List (Nat × CpInfo)) (last : Nat) : List CpInfo := es.foldr (fun e r => gap e.1 (e.2 :: r)) (gap last [])
def pool (es : List (Nat × CpInfo)) (last : Nat) : Array CpInfo := ⟨poolList es last⟩
def fileOf (pool : Array CpInfo) (this : Nat) (attrs : Array Attribute := #[]) (ms : Array MethodInfo := #[]) (fl : Nat := 33) (sup : Nat := 0) (ifs : Array Nat := #[]) (fds : Array FieldInfo := #[]) : ClassFile where
  minorVersion := 0
  majorVersion := 65
  constantPool := pool
  accessFlags := fl
  thisClass := this
  superClass := sup
  interfaces := ifs
  fields := fds
  methods := ms
  attributes := attrs
def plain (name : String) (sup : Option ClassId) : Class where
  name := name
  kind := .ordinary
  loader := none
  accessFlags := 33
  super := sup
  interfaces := #[]
  cf := none
  fields := #[]
  methods := #[]
  instanceTypes := #[]
  staticTypes := #[]
  resolved := #[]
  callSites := []
  init := .initialized
  statics := none
  mirror := none

def pool0 : Array CpInfo := pool [(5, u "<init>"), (0, u "()V"), (1, .class_ 10), (1, u "java/lang/Object")] 113

def k0m0 : Method := { name := "<init>", desc := "()V", sig := { parameters := [], returnType := none }, accessFlags := 1, code := none }
/-- java/lang/Object -/
def k0 : Class := { plain "java/lang/Object" none with
  accessFlags := 33
  interfaces := #[]
  cf := some (fileOf pool0 8 #[] #[{ accessFlags := 1, nameIndex := 5, descriptorIndex := 6, attributes := #[] }] 33 0 #[] #[])
  fields := #[]
  methods := #[k0m0]
  instanceTypes := #[]
  staticTypes := #[]
  resolved := Array.replicate 124 none
  statics := none }

def pool1 : Array CpInfo := pool [(2, .class_ 4), (1, u "java/lang/Object"), (0, u "<init>"), (0, u "()V"), (0, .integer 2147483647), (0, .methodref 9 10), (0, .class_ 11), (0, .nameAndType 12 13), (0, u "com/example/blend_into_rows/blendintorows/types/TypeKindIsIntegerPinLaw"), (0, u "pick"), (0, u "(I)Lcom/example/blend_into_rows/blendintorows/types/TypeKind;"), (0, .methodref 15 16), (0, .class_ 17), (0, .nameAndType 18 19), (0, u "com/example/blend_into_rows/blendintorows/types/TypeKind"), (0, u "isInteger"), (0, u "()Z"), (0, .fieldref 15 21), (0, .nameAndType 22 23), (0, u "SMALLINT"), (0, u "Lcom/example/blend_into_rows/blendintorows/types/TypeKind;"), (0, .fieldref 15 25), (0, .nameAndType 26 23), (0, u "INTEGER"), (0, .fieldref 15 28), (0, .nameAndType 29 23), (0, u "BIGINT"), (0, .fieldref 15 31), (0, .nameAndType 32 23), (0, u "NUMERIC"), (0, .fieldref 15 34), (0, .nameAndType 35 23), (0, u "TEXT"), (0, .fieldref 15 37), (0, .nameAndType 38 23), (0, u "VARCHAR"), (0, .fieldref 15 40), (0, .nameAndType 41 23), (0, u "BOOLEAN"), (0, .fieldref 15 43), (0, .nameAndType 44 23), (0, u "UNKNOWN"), (2, u "law"), (0, u "(I)Z")] 3

def k1m0 : Method := { name := "<init>", desc := "()V", sig := { parameters := [], returnType := none }, accessFlags := 1, code := none }
def k1c1 : Code := { maxStack := 2, maxLocals := 4, code := code, exceptionTable := #[], attributes := #[] }
def k1m1 : Method := { name := "law", desc := "(I)Z", sig := { parameters := [.int], returnType := some .boolean }, accessFlags := 9, code := some k1c1 }
def k1c2 : Code := { maxStack := 2, maxLocals := 1, code := method_3_code, exceptionTable := #[], attributes := #[] }
def k1m2 : Method := { name := "pick", desc := "(I)Lcom/example/blend_into_rows/blendintorows/types/TypeKind;", sig := { parameters := [.int], returnType := some (.object "com/example/blend_into_rows/blendintorows/types/TypeKind") }, accessFlags := 10, code := some k1c2 }
/-- com/example/blend_into_rows/blendintorows/types/TypeKindIsIntegerPinLaw -/
def k1 : Class := { plain "com/example/blend_into_rows/blendintorows/types/TypeKindIsIntegerPinLaw" (some 0) with
  accessFlags := 49
  interfaces := #[]
  cf := some (fileOf pool1 9 #[] #[{ accessFlags := 1, nameIndex := 5, descriptorIndex := 6, attributes := #[] }, { accessFlags := 9, nameIndex := 47, descriptorIndex := 48, attributes := #[] }, { accessFlags := 10, nameIndex := 12, descriptorIndex := 13, attributes := #[] }] 49 2 #[] #[])
  fields := #[]
  methods := #[k1m0, k1m1, k1m2]
  instanceTypes := #[]
  staticTypes := #[]
  resolved := Array.replicate 52 none
  statics := none }

def pool2 : Array CpInfo := pool [(1, .class_ 2), (0, u "java/lang/constant/Constable"), (0, .class_ 4), (0, u "java/lang/Object")] 6

/-- java/lang/constant/Constable -/
def k2 : Class := { plain "java/lang/constant/Constable" (some 0) with
  accessFlags := 1537
  interfaces := #[]
  cf := some (fileOf pool2 1 #[] #[] 1537 3 #[] #[])
  fields := #[]
  methods := #[]
  instanceTypes := #[]
  staticTypes := #[]
  resolved := Array.replicate 11 none
  statics := none }

def pool3 : Array CpInfo := pool [(1, .class_ 2), (0, u "java/lang/Comparable"), (0, .class_ 4), (0, u "java/lang/Object")] 7

/-- java/lang/Comparable -/
def k3 : Class := { plain "java/lang/Comparable" (some 0) with
  accessFlags := 1537
  interfaces := #[]
  cf := some (fileOf pool3 1 #[] #[] 1537 3 #[] #[])
  fields := #[]
  methods := #[]
  instanceTypes := #[]
  staticTypes := #[]
  resolved := Array.replicate 12 none
  statics := none }

def pool4 : Array CpInfo := pool [(1, .class_ 2), (0, u "java/io/Serializable"), (0, .class_ 4), (0, u "java/lang/Object")] 2

/-- java/io/Serializable -/
def k4 : Class := { plain "java/io/Serializable" (some 0) with
  accessFlags := 1537
  interfaces := #[]
  cf := some (fileOf pool4 1 #[] #[] 1537 3 #[] #[])
  fields := #[]
  methods := #[]
  instanceTypes := #[]
  staticTypes := #[]
  resolved := Array.replicate 7 none
  statics := none }

def pool5 : Array CpInfo := pool [(2, .class_ 4), (1, u "java/lang/Enum"), (0, u "name"), (0, u "Ljava/lang/String;"), (2, u "ordinal"), (0, u "I"), (1, .class_ 14), (1, u "java/lang/Object"), (4, u "hash"), (86, .class_ 108), (1, u "java/lang/Enum$EnumDesc"), (2, .class_ 112), (0, u "java/lang/constant/Constable"), (0, .class_ 114), (0, u "java/lang/Comparable"), (0, .class_ 116), (0, u "java/io/Serializable")] 87

/-- java/lang/Enum -/
def k5 : Class := { plain "java/lang/Enum" (some 0) with
  accessFlags := 1057
  interfaces := #[2, 3, 4]
  cf := some (fileOf pool5 2 #[.nestMembers #[106]] #[] 1057 12 #[111, 113, 115] #[{ accessFlags := 18, nameIndex := 5, descriptorIndex := 6, attributes := #[] }, { accessFlags := 18, nameIndex := 9, descriptorIndex := 10, attributes := #[] }, { accessFlags := 2, nameIndex := 19, descriptorIndex := 10, attributes := #[] }])
  fields := #[{ name := "name", type := (.object "java/lang/String"), accessFlags := 18, slot := 0, constantValue := 0 }, { name := "ordinal", type := .int, accessFlags := 18, slot := 1, constantValue := 0 }, { name := "hash", type := .int, accessFlags := 2, slot := 2, constantValue := 0 }]
  methods := #[]
  instanceTypes := #[(.object "java/lang/String"), .int, .int]
  staticTypes := #[]
  resolved := Array.replicate 204 none
  statics := none }

def pool6 : Array CpInfo := pool [(1, .class_ 2), (0, u "com/example/blend_into_rows/blendintorows/types/TypeKind"), (0, .fieldref 1 4), (0, .nameAndType 5 6), (0, u "SMALLINT"), (0, u "Lcom/example/blend_into_rows/blendintorows/types/TypeKind;"), (0, .fieldref 1 8), (0, .nameAndType 9 6), (0, u "INTEGER"), (0, .fieldref 1 11), (0, .nameAndType 12 6), (0, u "BIGINT"), (2, u "NUMERIC"), (2, u "TEXT"), (2, u "VARCHAR"), (2, u "BOOLEAN"), (2, u "UNKNOWN"), (2, u "$VALUES"), (0, u "[Lcom/example/blend_into_rows/blendintorows/types/TypeKind;"), (6, .class_ 40), (1, u "java/lang/Enum"), (8, u "internalName"), (0, u "Ljava/lang/String;"), (2, u "sqlName"), (2, u "oid"), (0, u "I"), (2, u "size"), (2, u "min"), (0, u "J"), (2, u "max"), (2, u "isInteger"), (0, u "()Z")] 121

def k6c0 : Code := { maxStack := 2, maxLocals := 1, code := prog_124_method_8_code, exceptionTable := #[], attributes := #[] }
def k6m0 : Method := { name := "isInteger", desc := "()Z", sig := { parameters := [], returnType := some .boolean }, accessFlags := 1, code := some k6c0 }
/-- com/example/blend_into_rows/blendintorows/types/TypeKind -/
def k6 : Class := { plain "com/example/blend_into_rows/blendintorows/types/TypeKind" (some 5) with
  accessFlags := 16433
  interfaces := #[]
  cf := some (fileOf pool6 1 #[] #[{ accessFlags := 1, nameIndex := 70, descriptorIndex := 71, attributes := #[] }] 16433 38 #[] #[{ accessFlags := 16409, nameIndex := 5, descriptorIndex := 6, attributes := #[] }, { accessFlags := 16409, nameIndex := 9, descriptorIndex := 6, attributes := #[] }, { accessFlags := 16409, nameIndex := 12, descriptorIndex := 6, attributes := #[] }, { accessFlags := 16409, nameIndex := 15, descriptorIndex := 6, attributes := #[] }, { accessFlags := 16409, nameIndex := 18, descriptorIndex := 6, attributes := #[] }, { accessFlags := 16409, nameIndex := 21, descriptorIndex := 6, attributes := #[] }, { accessFlags := 16409, nameIndex := 24, descriptorIndex := 6, attributes := #[] }, { accessFlags := 16409, nameIndex := 27, descriptorIndex := 6, attributes := #[] }, { accessFlags := 18, nameIndex := 49, descriptorIndex := 50, attributes := #[] }, { accessFlags := 18, nameIndex := 53, descriptorIndex := 50, attributes := #[] }, { accessFlags := 18, nameIndex := 56, descriptorIndex := 57, attributes := #[] }, { accessFlags := 18, nameIndex := 60, descriptorIndex := 57, attributes := #[] }, { accessFlags := 18, nameIndex := 63, descriptorIndex := 64, attributes := #[] }, { accessFlags := 18, nameIndex := 67, descriptorIndex := 64, attributes := #[] }, { accessFlags := 4122, nameIndex := 30, descriptorIndex := 31, attributes := #[] }])
  fields := #[{ name := "SMALLINT", type := (.object "com/example/blend_into_rows/blendintorows/types/TypeKind"), accessFlags := 16409, slot := 0, constantValue := 0 }, { name := "INTEGER", type := (.object "com/example/blend_into_rows/blendintorows/types/TypeKind"), accessFlags := 16409, slot := 1, constantValue := 0 }, { name := "BIGINT", type := (.object "com/example/blend_into_rows/blendintorows/types/TypeKind"), accessFlags := 16409, slot := 2, constantValue := 0 }, { name := "NUMERIC", type := (.object "com/example/blend_into_rows/blendintorows/types/TypeKind"), accessFlags := 16409, slot := 3, constantValue := 0 }, { name := "TEXT", type := (.object "com/example/blend_into_rows/blendintorows/types/TypeKind"), accessFlags := 16409, slot := 4, constantValue := 0 }, { name := "VARCHAR", type := (.object "com/example/blend_into_rows/blendintorows/types/TypeKind"), accessFlags := 16409, slot := 5, constantValue := 0 }, { name := "BOOLEAN", type := (.object "com/example/blend_into_rows/blendintorows/types/TypeKind"), accessFlags := 16409, slot := 6, constantValue := 0 }, { name := "UNKNOWN", type := (.object "com/example/blend_into_rows/blendintorows/types/TypeKind"), accessFlags := 16409, slot := 7, constantValue := 0 }, { name := "internalName", type := (.object "java/lang/String"), accessFlags := 18, slot := 3, constantValue := 0 }, { name := "sqlName", type := (.object "java/lang/String"), accessFlags := 18, slot := 4, constantValue := 0 }, { name := "oid", type := .int, accessFlags := 18, slot := 5, constantValue := 0 }, { name := "size", type := .int, accessFlags := 18, slot := 6, constantValue := 0 }, { name := "min", type := .long, accessFlags := 18, slot := 7, constantValue := 0 }, { name := "max", type := .long, accessFlags := 18, slot := 8, constantValue := 0 }, { name := "$VALUES", type := (.array (.object "com/example/blend_into_rows/blendintorows/types/TypeKind")), accessFlags := 4122, slot := 8, constantValue := 0 }]
  methods := #[k6m0]
  instanceTypes := #[(.object "java/lang/String"), .int, .int, (.object "java/lang/String"), (.object "java/lang/String"), .int, .int, .long, .long]
  staticTypes := #[(.object "com/example/blend_into_rows/blendintorows/types/TypeKind"), (.object "com/example/blend_into_rows/blendintorows/types/TypeKind"), (.object "com/example/blend_into_rows/blendintorows/types/TypeKind"), (.object "com/example/blend_into_rows/blendintorows/types/TypeKind"), (.object "com/example/blend_into_rows/blendintorows/types/TypeKind"), (.object "com/example/blend_into_rows/blendintorows/types/TypeKind"), (.object "com/example/blend_into_rows/blendintorows/types/TypeKind"), (.object "com/example/blend_into_rows/blendintorows/types/TypeKind"), (.array (.object "com/example/blend_into_rows/blendintorows/types/TypeKind"))]
  resolved := Array.replicate 193 none
  statics := some 0 }

def pool7 : Array CpInfo := pool [(1, u "java/lang/Cloneable"), (0, .class_ 1), (0, u "java/lang/Object"), (0, .class_ 3)] 3

/-- java/lang/Cloneable -/
def k7 : Class := { plain "java/lang/Cloneable" (some 0) with
  accessFlags := 1537
  interfaces := #[]
  cf := some (fileOf pool7 2 #[] #[] 1537 4 #[] #[])
  fields := #[]
  methods := #[]
  instanceTypes := #[]
  staticTypes := #[]
  resolved := Array.replicate 8 none
  statics := none }

/-- the primitive byte -/
def k8 : Class := { plain "byte" none with kind := .primitive 'B', accessFlags := 0x411 }
/-- [B -/
def k9 : Class := { plain "[B" (some 0) with kind := .array 8 .byte, interfaces := #[7, 4], accessFlags := 1041 }

/-- the primitive int -/
def k10 : Class := { plain "int" none with kind := .primitive 'I', accessFlags := 0x411 }
/-- [I -/
def k11 : Class := { plain "[I" (some 0) with kind := .array 10 .int, interfaces := #[7, 4], accessFlags := 1041 }

def heap : Heap := #[{ cls := 6, slots := #[.ref 1, .ref 2, .ref 3, .ref 4, .ref 5, .ref 6, .ref 7, .ref 8, .null], vm := .statics 6 },
  { cls := 6, slots := #[.null, .int 0, .int 0, .null, .null, .int 0, .int 0, .long 0, .long 0], vm := .none },
  { cls := 6, slots := #[.null, .int 1, .int 0, .null, .null, .int 0, .int 0, .long 0, .long 0], vm := .none },
  { cls := 6, slots := #[.null, .int 2, .int 0, .null, .null, .int 0, .int 0, .long 0, .long 0], vm := .none },
  { cls := 6, slots := #[.null, .int 3, .int 0, .null, .null, .int 0, .int 0, .long 0, .long 0], vm := .none },
  { cls := 6, slots := #[.null, .int 4, .int 0, .null, .null, .int 0, .int 0, .long 0, .long 0], vm := .none },
  { cls := 6, slots := #[.null, .int 5, .int 0, .null, .null, .int 0, .int 0, .long 0, .long 0], vm := .none },
  { cls := 6, slots := #[.null, .int 6, .int 0, .null, .null, .int 0, .int 0, .long 0, .long 0], vm := .none },
  { cls := 6, slots := #[.null, .int 7, .int 0, .null, .null, .int 0, .int 0, .long 0, .long 0], vm := .none }]
def classes : Array Class := #[k0, k1, k2, k3, k4, k5, k6, k7, k8, k9, k10, k11]
def interned : List (Array UInt16 × Addr) := []
def slotsUsed : Nat := 81
def theMethod : MethodId := ⟨1, 1⟩
def args0 : Array Value := #[.int 5]
def aboutOver (below : List Frame) : State where
  vm := { classes := classes, interned := interned.toArray }
  heap := heap
  slotsUsed := slotsUsed
  threads := #[{ frames := .invoking theMethod args0 :: below }]
def below0 : List Frame := [.native { method := ⟨0, 0⟩, args := #[] }]
def about1 : State := aboutOver below0
def p0 : Program := .bare "" "" ""
def e0 : Env := launch0.env 0 0 0
theorem w_frames : about1.frames = Frame.invoking theMethod args0 :: below0 := rfl
set_option maxRecDepth 65536 in
theorem w_args : argsFit about1.vm theMethod args0 = true := by decide +kernel
set_option maxRecDepth 65536 in
theorem w_heap : heapFits about1 = true := by decide +kernel
set_option maxRecDepth 65536 in
theorem w_runnable : about1.curStatus? = some .runnable := by decide +kernel
set_option maxRecDepth 65536 in
theorem w_alone : about1.alone = true := by decide +kernel
set_option maxRecDepth 65536 in
theorem w_named : about1.methodNamed? x = some theMethod := by decide +kernel
set_option maxRecDepth 65536 in
theorem w_hears : about1.hears theMethod below0 = true := by decide +kernel
set_option maxRecDepth 65536 in
theorem w_ripe : about1.ripe theMethod args0 below0 = true := by decide +kernel
theorem w_running : about1.status = .running := rfl
set_option maxRecDepth 65536 in
theorem w_room : about1.hasRoom e0.platform room_1 = true :=
  launch0.hasRoom_least _ room_1 (by decide +kernel) (by decide +kernel) (by decide +kernel) (by decide +kernel) (by decide +kernel) (by decide +kernel)
theorem allAtoms_all (ts : List Jvm.Cond) (a : Array Jvm.Value) (st : Jvm.State) : (allAtoms ts).before a st = ts.all (fun c => c.before a st) := by
  induction ts with
  | nil => rfl
  | cons c t ih =>
    show (Jvm.Cond.and c (allAtoms t)).before a st = _
    rw [Jvm.Cond.before_and, ih, List.all_cons]
def words1 : List Jvm.Cond := Jvm.Cond.code x code maxLocals ret :: tables_1
/-- a 'code' word, met by the world's own term for the bytes: nothing is compared byte by byte -/
theorem code_word {y : MethodName} {bytes : ByteArray} {mx : Nat} {rt : Option FieldType} {a : Array Value} {s : State} {m : MethodId} {meth : Method} {c : Code} (h1 : s.methodNamed? y = some m) (h2 : s.vm.method? m = some meth) (h3 : meth.code = some c) (h4 : c.code = bytes)
    (h5 : (c.maxLocals == mx && c.exceptionTable.isEmpty && decide (c.maxStack ≤ mostOperands) && decide (meth.sig.returnType = rt) && !meth.locks && decide (parseMethodDescriptor y.desc = some meth.sig)) = true) : (Jvm.Cond.code y bytes mx rt).before a s = true := by
  simp only [Bool.and_eq_true, beq_iff_eq, Bool.not_eq_true', decide_eq_true_eq] at h5
  obtain ⟨⟨⟨⟨⟨g1, g2⟩, g3⟩, g4⟩, g5⟩, g6⟩ := h5
  simp [Cond.before, Cond.holds, Cond.value, h1, h2, h3, h4, g1, g2, g3, g4, g5, g6]
def isCode : Jvm.Cond → Bool
  | .code _ _ _ _ => true
  | _ => false
theorem all_split {L : List Jvm.Cond} {P : Jvm.Cond → Bool} (h1 : L.all (fun c => isCode c || P c) = true) (h2 : ∀ c ∈ L.filter isCode, P c = true) : L.all P = true := by
  refine List.all_eq_true.mpr fun c hc => ?_
  have h := List.all_eq_true.mp h1 c hc
  rcases Bool.eq_false_or_eq_true (isCode c) with hi | hi
  · exact h2 c (List.mem_filter.mpr ⟨hc, hi⟩)
  · simpa [hi] using h
set_option maxRecDepth 65536 in
theorem w_c0 : (Jvm.Cond.code x code maxLocals ret).before args0 about1 = true := code_word (m := ⟨1, 1⟩) (meth := k1m1) (c := k1c1) (by decide +kernel) rfl rfl rfl (by decide +kernel)
set_option maxRecDepth 65536 in
theorem w_c1 : (Jvm.Cond.code ({ cls := "com/example/blend_into_rows/blendintorows/types/TypeKindIsIntegerPinLaw", name := "pick", desc := "(I)Lcom/example/blend_into_rows/blendintorows/types/TypeKind;" } : Jvm.MethodName) method_3_code (1 : Nat) (Option.some (Jvm.ClassFile.FieldType.object "com/example/blend_into_rows/blendintorows/types/TypeKind"))).before args0 about1 = true := code_word (m := ⟨1, 2⟩) (meth := k1m2) (c := k1c2) (by decide +kernel) rfl rfl rfl (by decide +kernel)
set_option maxRecDepth 65536 in
theorem w_c2 : (Jvm.Cond.code ({ cls := "com/example/blend_into_rows/blendintorows/types/TypeKind", name := "isInteger", desc := "()Z" } : Jvm.MethodName) prog_124_method_8_code (1 : Nat) (Option.some Jvm.ClassFile.FieldType.boolean)).before args0 about1 = true := code_word (m := ⟨6, 0⟩) (meth := k6m0) (c := k6c0) (by decide +kernel) rfl rfl rfl (by decide +kernel)
def codes1 : List Jvm.Cond := [Jvm.Cond.code x code maxLocals ret, Jvm.Cond.code ({ cls := "com/example/blend_into_rows/blendintorows/types/TypeKindIsIntegerPinLaw", name := "pick", desc := "(I)Lcom/example/blend_into_rows/blendintorows/types/TypeKind;" } : Jvm.MethodName) method_3_code (1 : Nat) (Option.some (Jvm.ClassFile.FieldType.object "com/example/blend_into_rows/blendintorows/types/TypeKind")), Jvm.Cond.code ({ cls := "com/example/blend_into_rows/blendintorows/types/TypeKind", name := "isInteger", desc := "()Z" } : Jvm.MethodName) prog_124_method_8_code (1 : Nat) (Option.some Jvm.ClassFile.FieldType.boolean)]
set_option maxRecDepth 65536 in
theorem codes_eq : words1.filter isCode = codes1 := rfl
theorem w_codes : ∀ c ∈ words1.filter isCode, c.before args0 about1 = true := by
  rw [codes_eq]
  intro c hc
  simp only [codes1, List.mem_cons, List.not_mem_nil, or_false] at hc
  rcases hc with rfl | rfl | rfl
  · exact w_c0
  · exact w_c1
  · exact w_c2
set_option maxRecDepth 65536 in
theorem w_t1 : (words1.take 24).all (fun c => isCode c || c.before args0 about1) = true := by decide +kernel
set_option maxRecDepth 65536 in
theorem w_t2 : (words1.drop 24).all (fun c => isCode c || c.before args0 about1) = true := by decide +kernel
theorem w_tables : (allAtoms (Jvm.Cond.code x code maxLocals ret :: tables_1)).before args0 about1 = true := by
  rw [allAtoms_all]
  show words1.all (fun c => c.before args0 about1) = true
  refine all_split ?_ w_codes
  rw [← List.take_append_drop 24 words1, List.all_append, w_t1, w_t2]
  rfl
set_option maxRecDepth 65536 in
theorem w_case : (Jvm.Cond.and given_1 narrow_1).before args0 about1 = true := by decide +kernel
theorem w_applies : (headSpec (Jvm.Cond.code x code maxLocals ret :: tables_1) room_1).applies x e0.platform about1 = true :=
  (Spec.applies_iff w_frames).mpr ⟨w_running, w_runnable, w_alone, w_named, w_hears, w_ripe, w_room, w_tables⟩
theorem atStart : AtStart classFile x code maxLocals ret World_1 tables_1 room_1 Calls_1 rest_1 Pre_1 launch0 p0 e0 about1 theMethod args0 below0 :=
  ⟨lists_1, trivial, launch0.admits_env _ _ _, launch0.least_env, fairChoices_fair.cas, fairChoices_fair.clock, w_frames, w_args, w_heap, w_applies, trivial, trivial, w_case⟩
end start1
theorem witness_1 : WitnessClaimed_1 := ⟨start1.p0, start1.e0, start1.about1, start1.theMethod, start1.args0, start1.below0, start1.atStart⟩
end Jvm.Pilot.@@N@@
