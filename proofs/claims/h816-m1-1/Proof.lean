import JvmDerived
import JvmDerived.Pilot.@@N@@Statement
import JvmDerived.Pilot.@@N@@Code
set_option linter.unusedVariables false
set_option linter.unusedSimpArgs false
@@BLOCK:NumsL.lean.txt@@
namespace Jvm.Pilot.@@N@@
open Jvm Jvm.ClassFile Sem Op Lib Jvm.Free Jvm.Stand Jvm.LawKit Jvm.RoadKit Bundle Jvm.Pilot.@@N@@.Jvm.D
/-- from the state W the run comes to an end of which K holds -/
abbrev own_Gl (p : Program) (e : Env) (below : List Frame) (K : Outcome → State → Prop) (W : State) : Prop := ∃ s₂ o, Steps p.tables e below W s₂ ∧ s₂.status = .running ∧ Ended s₂ below o ∧ K o s₂
theorem own_by {p : Program} {e : Env} {below : List Frame} {K : Outcome → State → Prop} {W W' : State} (st : ∀ t, Steps p.tables e below W' t → Steps p.tables e below W t) (h : own_Gl p e below K W') : own_Gl p e below K W := by
  obtain ⟨s₂, o, h1, h2⟩ := h; exact ⟨s₂, o, st _ h1, h2⟩
theorem own_tr {p : Program} {e : Env} {below : List Frame} {K : Outcome → State → Prop} {W W' : State} (st : Steps p.tables e below W W') (h : own_Gl p e below K W') : own_Gl p e below K W := own_by (fun _ k => st.trans k) h
theorem own_w {Z : State} {a0 : Array Value} (hw : ∀ d ∈ tables_1, d.before a0 Z = true) (i : Nat) {d : Jvm.Cond} (h : tables_1[i]? = some d := by rfl) : d.before a0 Z = true := hw _ (List.mem_of_getElem? h)
theorem own_le {Z : State} {n0 : Nat} {h : Heap} (O : Old Z n0 h) : n0 ≤ h.size := O.1 ▸ O.2.1
theorem own_lclt {x y : Int64} (h : x < y) : ifCond.holds .lt (lcmpW x y) = true ∧ ifCond.holds .ge (lcmpW x y) = false := by
  have h1 : ¬ x > y := fun q => by rw [Int64.lt_iff_toInt_lt] at h; have q' : y < x := q; rw [Int64.lt_iff_toInt_lt] at q'; omega
  have h2 : ¬ x = y := fun q => by subst q; rw [Int64.lt_iff_toInt_lt] at h; omega
  rw [lcmpW, if_neg h1, if_neg h2]; exact ⟨by decide, by decide⟩
theorem own_lcnlt {x y : Int64} (h : ¬ x < y) : ifCond.holds .lt (lcmpW x y) = false ∧ ifCond.holds .ge (lcmpW x y) = true := by
  by_cases h1 : x > y
  · rw [lcmpW, if_pos h1]; exact ⟨by decide, by decide⟩
  · have h2 : x = y := by
      have q1 : ¬ y < x := h1
      rw [Int64.lt_iff_toInt_lt] at h q1; exact Int64.toInt_inj.mp (by omega)
    rw [lcmpW, if_neg h1, if_pos h2]; exact ⟨by decide, by decide⟩
theorem own_lcgt {x y : Int64} (h : y < x) : ifCond.holds .gt (lcmpW x y) = true ∧ ifCond.holds .le (lcmpW x y) = false := by
  have h1 : x > y := h
  rw [lcmpW, if_pos h1]; exact ⟨by decide, by decide⟩
theorem own_lcngt {x y : Int64} (h : ¬ y < x) : ifCond.holds .gt (lcmpW x y) = false ∧ ifCond.holds .le (lcmpW x y) = true := by
  have h1 : ¬ x > y := h
  rw [lcmpW, if_neg h1]
  by_cases h2 : x = y
  · rw [if_pos h2]; exact ⟨by decide, by decide⟩
  · rw [if_neg h2]; exact ⟨by decide, by decide⟩
theorem own_lceq {x y : Int64} (h : x = y) : ifCond.holds .eq (lcmpW x y) = true ∧ ifCond.holds .ne (lcmpW x y) = false := by
  subst h
  have h1 : ¬ x > x := fun q => by have q' : x < x := q; rw [Int64.lt_iff_toInt_lt] at q'; omega
  rw [lcmpW, if_neg h1, if_pos rfl]; exact ⟨by decide, by decide⟩
theorem own_lcne {x y : Int64} (h : ¬ x = y) : ifCond.holds .eq (lcmpW x y) = false ∧ ifCond.holds .ne (lcmpW x y) = true := by
  by_cases h1 : x > y
  · rw [lcmpW, if_pos h1]; exact ⟨by decide, by decide⟩
  · rw [lcmpW, if_neg h1, if_neg h]; exact ⟨by decide, by decide⟩
theorem own_sta {Z : State} {args : Array Value} {C n d K : String} (h : (Jvm.Cond.exactly (Jvm.Term.static C n d) K).value args Z none Z [] = some true) (hi : (Jvm.Cond.initializedFor C n d).before args Z = true ∨ ((Jvm.Cond.initialized C).before args Z = true ∧ (Jvm.Cond.laysStatic C n d).before args Z = true)) :
    ∃ a, (Jvm.Term.static C n d).eval args Z none [] Z = some (.ref a) ∧ Sta Z Z.heap C n d (.ref a) ∧ Exa Z Z.heap a K := by
  obtain ⟨a, ev⟩ := exa_v h
  exact ⟨a, ev, Sta.start ev hi, Exa.start ev h⟩
theorem own_fldI {Z : State} {args : Array Value} {t : Jvm.Term} {a : Addr} {C n d : String} {k : Int32} (ev : t.eval args Z none [] Z = some (.ref a)) (h : (Jvm.Cond.eq (Jvm.Term.field t C n d) (Jvm.Term.int k)).value args Z none Z [] = some true) : Fld Z Z.heap a C n d (.int k) := by
  obtain ⟨x, y, hx, hy, -, -⟩ := cmp_v (Or.inl h)
  cases Option.some.inj ((Term.int_eval k).symm.trans hy)
  refine Fld.start ?_
  rw [← fld_at ev, hx]
  cases x <;> simp_all [Cond.value, Term.eval]
theorem own_fldJ {Z : State} {args : Array Value} {t : Jvm.Term} {a : Addr} {C n d : String} {k : Int64} (ev : t.eval args Z none [] Z = some (.ref a)) (h : (Jvm.Cond.eq (Jvm.Term.field t C n d) (Jvm.Term.long k)).value args Z none Z [] = some true) : Fld Z Z.heap a C n d (.long k) := by
  obtain ⟨x, y, hx, hy, -, -⟩ := cmp_v (Or.inl h)
  have hy' : (Jvm.Term.long k).eval args Z none [] Z = some (.long k) := by simp [Term.eval]
  cases Option.some.inj (hy'.symm.trans hy)
  refine Fld.start ?_
  rw [← fld_at ev, hx]
  cases x <;> simp_all [Cond.value, Term.eval]
theorem own_len {Z : State} {args : Array Value} {t : Jvm.Term} {a : Addr} {cl : Cell} {ty : FieldType} {n : Int32} (ev : t.eval args Z none [] Z = some (.ref a)) (A : Arr Z Z.heap a cl ty) (h : (Jvm.Cond.eq (Jvm.Term.length t) (Jvm.Term.int n)).value args Z none Z [] = some true) : cl.slots.size < 2 ^ 31 ∧ cl.slots.size.toInt32 = n := by
  have ha : Z.arrayAt? a = some cl := Arr.fin (U := Z) (Vm.Alike.refl _) A
  by_cases hq : cl.slots.size < 2 ^ 31
  · refine ⟨hq, ?_⟩
    have e1 := len_f (args := args) (first := Z) (o := none) (idx := []) ev ha hq
    simpa [Cond.value, e1, Term.int_eval] using h
  · exfalso
    obtain ⟨x, y, hx, -⟩ := cmp_v (Or.inl h)
    simp [Term.eval, ev, ha] at hx
    omega
theorem own_elem {Z : State} {args : Array Value} {t u : Jvm.Term} {a w : Addr} {cl : Cell} {ty : FieldType} {j : Int32} (ev : t.eval args Z none [] Z = some (.ref a)) (A : Arr Z Z.heap a cl ty) (evu : u.eval args Z none [] Z = some (.ref w)) (h : (Jvm.Cond.eq (Jvm.Term.elem t (Jvm.Term.int j)) u).value args Z none Z [] = some true) : cl.slots[j.toNatClampNeg]? = some (.ref w) := by
  obtain ⟨x, y, hx, hy, k1, k2⟩ := cmp_v (Or.inl h)
  cases Option.some.inj (evu.symm.trans hy)
  have q := (elem_in hx ev (Term.int_eval j) A.1).2
  rw [q]
  cases x <;> simp [Cond.value, hx, evu] at h ⊢
  exact h
def own_Wd (Z : State) (wUNIVERSAL : Addr) (wAPPLICATION : Addr) (wCONTEXT_SPECIFIC : Addr) (wPRIVATE : Addr) (wC : Addr) (clC : Cell) : Prop := Sta Z Z.heap "com/example/tagwright/tagwright/model/TagClass" "UNIVERSAL" "Lcom/example/tagwright/tagwright/model/TagClass;" (.ref wUNIVERSAL) ∧ Exa Z Z.heap wUNIVERSAL "com/example/tagwright/tagwright/model/TagClass" ∧ Fld Z Z.heap wUNIVERSAL "java/lang/Enum" "ordinal" "I" (.int (0 : Int32)) ∧ Sta Z Z.heap "com/example/tagwright/tagwright/model/TagClass" "APPLICATION" "Lcom/example/tagwright/tagwright/model/TagClass;" (.ref wAPPLICATION) ∧ Exa Z Z.heap wAPPLICATION "com/example/tagwright/tagwright/model/TagClass" ∧ Fld Z Z.heap wAPPLICATION "java/lang/Enum" "ordinal" "I" (.int (1 : Int32)) ∧ Sta Z Z.heap "com/example/tagwright/tagwright/model/TagClass" "CONTEXT_SPECIFIC" "Lcom/example/tagwright/tagwright/model/TagClass;" (.ref wCONTEXT_SPECIFIC) ∧ Exa Z Z.heap wCONTEXT_SPECIFIC "com/example/tagwright/tagwright/model/TagClass" ∧ Fld Z Z.heap wCONTEXT_SPECIFIC "java/lang/Enum" "ordinal" "I" (.int (2 : Int32)) ∧ Sta Z Z.heap "com/example/tagwright/tagwright/model/TagClass" "PRIVATE" "Lcom/example/tagwright/tagwright/model/TagClass;" (.ref wPRIVATE) ∧ Exa Z Z.heap wPRIVATE "com/example/tagwright/tagwright/model/TagClass" ∧ Fld Z Z.heap wPRIVATE "java/lang/Enum" "ordinal" "I" (.int (3 : Int32)) ∧ wUNIVERSAL ≠ wAPPLICATION ∧ wUNIVERSAL ≠ wCONTEXT_SPECIFIC ∧ wAPPLICATION ≠ wCONTEXT_SPECIFIC ∧ wUNIVERSAL ≠ wPRIVATE ∧ wAPPLICATION ≠ wPRIVATE ∧ wCONTEXT_SPECIFIC ≠ wPRIVATE ∧ Sta Z Z.heap "java/lang/Long$LongCache" "cache" "[Ljava/lang/Long;" (.ref wC) ∧ Bxs Z wC clC "java/lang/Long" "J" (256 : Int32) (fun j => .long (j - 128).toInt64)
theorem own_wS {Z : State} {a0 : Array Value} (hw : ∀ d ∈ tables_1, d.before a0 Z = true) : ∀ a ∈ Bundle.stringAtoms, a.before a0 Z = true := by
  intro d hd
  simp only [Bundle.stringAtoms, List.mem_cons, List.not_mem_nil, or_false] at hd
  rcases hd with rfl | rfl | rfl | rfl | rfl | rfl | rfl
  · exact own_w hw 18
  · exact own_w hw 19
  · exact own_w hw 20
  · exact own_w hw 21
  · exact own_w hw 22
  · exact own_w hw 23
  · exact own_w hw 24
theorem own_and3 (p : Int32) : (p &&& 3) = (0 : Int32) ∨ (p &&& 3) = (1 : Int32) ∨ (p &&& 3) = (2 : Int32) ∨ (p &&& 3) = (3 : Int32) := by
  have e : (p &&& 3).toInt = p.toInt % 2 ^ 2 := Jvm.Kit.i32_mask p 3 (k := 2) (by decide) (by decide)
  have : (p &&& 3).toInt = 0 ∨ (p &&& 3).toInt = 1 ∨ (p &&& 3).toInt = 2 ∨ (p &&& 3).toInt = 3 := by omega
  rcases this with h | h | h | h
  · exact Or.inl (Int32.toInt_inj.mp h)
  · exact Or.inr (Or.inl (Int32.toInt_inj.mp h))
  · exact Or.inr (Or.inr (Or.inl (Int32.toInt_inj.mp h)))
  · exact Or.inr (Or.inr (Or.inr (Int32.toInt_inj.mp h)))
theorem own_nn {x y : Int64} (h : (x &&& (9223372036854775807 : Int64)) = y) : ¬ y < (0 : Int64) := by
  subst h
  have e : (x &&& (9223372036854775807 : Int64)).toInt = x.toInt % 2 ^ 63 := Jvm.Kit.i64_mask x 9223372036854775807 (k := 63) (by decide) (by decide)
  rw [Int64.lt_iff_toInt_lt, e, Int64.toInt_zero]
  omega
theorem own_n128 {x : Int64} (h : ¬ x < (0 : Int64)) : ¬ x < (-128 : Int64) := by
  rw [Int64.lt_iff_toInt_lt] at h ⊢
  have e1 : (-128 : Int64).toInt = -128 := rfl
  have e2 : (0 : Int64).toInt = 0 := rfl
  omega
theorem own_idx {x : Int64} (h : ¬ x < (0 : Int64)) (h2 : ¬ (127 : Int64) < x) : ¬ (((x.toInt32) + (128 : Int32)) < 0 ∨ (256 : Int32).toNatClampNeg ≤ ((x.toInt32) + (128 : Int32)).toNatClampNeg) := by
  rw [Int64.lt_iff_toInt_lt] at h h2
  have e1 : (127 : Int64).toInt = 127 := rfl
  have e2 : (0 : Int64).toInt = 0 := rfl
  have t : x.toInt32.toInt = x.toInt := Jvm.Kit.i32_of_i64 (by omega) (by omega)
  have e3 : (128 : Int32).toInt = 128 := rfl
  have u : (x.toInt32 + (128 : Int32)).toInt = x.toInt + 128 := by rw [Jvm.Kit.i32_add (by omega) (by omega), t, e3]
  have e4 : (256 : Int32).toNatClampNeg = 256 := rfl
  intro q
  rcases q with q | q
  · rw [Int32.lt_iff_toInt_lt, u] at q
    have e5 : (0 : Int32).toInt = 0 := rfl
    omega
  · rw [e4] at q
    have : ((x.toInt32 + (128 : Int32)).toNatClampNeg : Int) = (x.toInt32 + (128 : Int32)).toInt.toNat := rfl
    omega
theorem own_bxs {Z : State} {args : Array Value} {a : Addr} {c : Cell} {C n d K : String} (ev : (Jvm.Term.static C n d).eval args Z none [] Z = some (.ref a)) (A : Arr Z Z.heap a c (.object K)) (q : c.slots.size < 2 ^ 31) (e : c.slots.size.toInt32 = (256 : Int32))
    (h : (Jvm.Cond.all (Jvm.Term.static C n d) (Jvm.Cond.and (Jvm.Cond.exactly (Jvm.Term.elem (Jvm.Term.static C n d) (Jvm.Term.index 0)) K) (Jvm.Cond.eq (Jvm.Term.field (Jvm.Term.elem (Jvm.Term.static C n d) (Jvm.Term.index 0)) K "value" "J") (Jvm.Term.op1 Jvm.Unary.i2l (Jvm.Term.sub (Jvm.Term.index 0) (Jvm.Term.int (128 : Int32))))))).value args Z none Z [] = some true) :
    Bxs Z a c K "J" (256 : Int32) (fun j => .long (j - 128).toInt64) := by
  refine Bxs.start (fun idx => ?_) A q e (by decide) h (fun X j nn hX => eqv_l (i2l_at ?_) hX)
  · simpa [Term.eval] using ev
  · have := idx_at (args := args) (s := Z) (first := Z) (o := none) nn
    simp [Term.eval] at this ⊢
    simp [this]
theorem own_NSroot {Z : State} {a0 : Array Value} {O K : String} {t : ClassId} (w : (Jvm.Cond.noSuperclass O).before a0 Z = true) (g1 : Z.vm.findClass K = some t) (hn : O ≠ K) : NS Z O K := by
  obtain ⟨c, k, h1, h2, h3, -, -⟩ := Cond.noSuperclass_spec w
  have ne := ids_ne h1 g1 hn
  refine ⟨c, t, h1, g1, fun fuel => ?_⟩
  cases fuel with
  | zero => rfl
  | succ f => simp [Vm.isSubclassAux, ne, h2, h3]
theorem own_NSno {Z : State} {a0 : Array Value} {C S K : String} {kn : Nat} (w : (Jvm.Cond.superclass C S).before a0 Z = true) (wk : (Jvm.Cond.instantiable K kn).before a0 Z = true) (n : NS Z C K) (hn : C ≠ K) : ∃ c t, Z.vm.findClass C = some c ∧ Z.vm.findClass K = some t ∧ Z.vm.assignable c t = false := by
  obtain ⟨c, t, h0, g0, n3⟩ := n
  obtain ⟨p, k, kp, h1, h2, h3, h4, h5, -, h7⟩ := Cond.superclass_spec h0 w
  obtain ⟨t', k', g1, g2, g3, g4, -⟩ := Cond.instantiable_spec wk
  cases g0.symm.trans g1
  have g5 : k'.isInterface = false := by
    cases hq : k'.isInterface <;> simp [hq] at g4 ⊢
  have ne := ids_ne h0 g0 hn
  refine ⟨c, t, h0, g0, ?_⟩
  show Z.vm.assignableAux (255 + 1) c t = false
  simp [Vm.assignableAux, ne, h2, g2, h5, g3, g5, Vm.isSubclass, n3]
theorem own_noLong {Z : State} {a0 : Array Value} (hw : ∀ d ∈ tables_1, d.before a0 Z = true) : ∃ c t, Z.vm.findClass "java/lang/Long" = some c ∧ Z.vm.findClass "com/example/tagwright/tagwright/model/Tag" = some t ∧ Z.vm.assignable c t = false := by
  have wk := (own_w hw 2)
  obtain ⟨t, k, g1, -⟩ := Cond.instantiable_spec wk
  exact own_NSno (own_w hw 52) wk (NS.step (own_w hw 52) (NS.step (own_w hw 53) (own_NSroot (own_w hw 54) g1 (by decide)) (by decide)) (by decide)) (by decide)

theorem dmethod_2_0 : decode method_2_code 0 = .ok (.iload_n 0, 1) := by decide +kernel
theorem dmethod_2_1 : decode method_2_code 1 = .ok (.iconst 3, 1) := by decide +kernel
theorem dmethod_2_2 : decode method_2_code 2 = .ok (.iand, 1) := by decide +kernel
theorem dmethod_2_3 : decode method_2_code 3 = .ok (.istore_n 1, 1) := by decide +kernel
theorem dmethod_2_4 : decode method_2_code 4 = .ok (.iload_n 1, 1) := by decide +kernel
theorem dmethod_2_5 : decode method_2_code 5 = .ok (.ifCond .ne 7, 3) := by decide +kernel
theorem dmethod_2_8 : decode method_2_code 8 = .ok (.getstatic 7, 3) := by decide +kernel
theorem dmethod_2_11 : decode method_2_code 11 = .ok (.areturn, 1) := by decide +kernel
theorem dmethod_2_12 : decode method_2_code 12 = .ok (.iload_n 1, 1) := by decide +kernel
theorem dmethod_2_13 : decode method_2_code 13 = .ok (.iconst 1, 1) := by decide +kernel
theorem dmethod_2_14 : decode method_2_code 14 = .ok (.if_icmp .ne 7, 3) := by decide +kernel
theorem dmethod_2_17 : decode method_2_code 17 = .ok (.getstatic 13, 3) := by decide +kernel
theorem dmethod_2_20 : decode method_2_code 20 = .ok (.areturn, 1) := by decide +kernel
theorem dmethod_2_21 : decode method_2_code 21 = .ok (.iload_n 1, 1) := by decide +kernel
theorem dmethod_2_22 : decode method_2_code 22 = .ok (.iconst 2, 1) := by decide +kernel
theorem dmethod_2_23 : decode method_2_code 23 = .ok (.if_icmp .ne 7, 3) := by decide +kernel
theorem dmethod_2_26 : decode method_2_code 26 = .ok (.getstatic 16, 3) := by decide +kernel
theorem dmethod_2_29 : decode method_2_code 29 = .ok (.areturn, 1) := by decide +kernel
theorem dmethod_2_30 : decode method_2_code 30 = .ok (.getstatic 19, 3) := by decide +kernel
theorem dmethod_2_33 : decode method_2_code 33 = .ok (.areturn, 1) := by decide +kernel
theorem pn_com_example_tagwright_tagwright_model_TagEqualsPinLaw : plainName "com/example/tagwright/tagwright/model/TagEqualsPinLaw" = true := by first | (simp [plainName, overriddenIn]; done) | decide +kernel
theorem ef1 (m : MethodId) (p0 : Int32) : entryFrame m #[(.int p0)] 2 = mkF m 0 #[.val (.int p0), .unset] [] := by first | (simp [entryFrame, mkF, argsToLocals, Value.category]; done) | rfl
def F1 (p0 : Int32) (wUNIVERSAL : Addr) (wAPPLICATION : Addr) (wCONTEXT_SPECIFIC : Addr) (wPRIVATE : Addr) (wC : Addr) (clC : Cell) : Addr := (if (p0 &&& (3 : Int32)) = (0 : Int32) then wUNIVERSAL else (if (p0 &&& (3 : Int32)) = (1 : Int32) then wAPPLICATION else (if (p0 &&& (3 : Int32)) = (2 : Int32) then wCONTEXT_SPECIFIC else wPRIVATE)))
def Q1 (Z : State) (p0 : Int32) (wUNIVERSAL : Addr) (wAPPLICATION : Addr) (wCONTEXT_SPECIFIC : Addr) (wPRIVATE : Addr) (wC : Addr) (clC : Cell) (h0 : Heap) (n0 : Nat) (v : Option Value) (h : Heap) (L : List Loc) : Prop := v = some (.ref (F1 p0 wUNIVERSAL wAPPLICATION wCONTEXT_SPECIFIC wPRIVATE wC clC)) ∧ Fr n0 L ∧ h = h0
abbrev own_K1 (Z : State) (p0 : Int32) (wUNIVERSAL : Addr) (wAPPLICATION : Addr) (wCONTEXT_SPECIFIC : Addr) (wPRIVATE : Addr) (wC : Addr) (clC : Cell) (h0 : Heap) (n0 : Nat) (s : State) : Outcome → State → Prop := fun o U' => ∃ v L, o = .returned v ∧ Q1 Z p0 wUNIVERSAL wAPPLICATION wCONTEXT_SPECIFIC wPRIVATE wC clC h0 n0 v U'.heap L ∧ FrameEnd s o U' L ({ frames := 0, cells := 0, slots := 0, locals := 0 } : Room).cells ({ frames := 0, cells := 0, slots := 0, locals := 0 } : Room).slots
set_option maxRecDepth 65536 in
set_option maxHeartbeats 40000000 in
theorem rm1 (l : Launch) (Z : State) (a0 : Array Value) (hw : ∀ d ∈ tables_1, d.before a0 Z = true) (ws : List Jvm.Cond) (p0 : Int32) (wUNIVERSAL : Addr) (wAPPLICATION : Addr) (wCONTEXT_SPECIFIC : Addr) (wPRIVATE : Addr) (wC : Addr) (clC : Cell) (h0 : Heap) (n0 : Nat) (Z0 : n0 ≤ h0.size) (O0 : Old Z n0 h0) (HW : own_Wd Z wUNIVERSAL wAPPLICATION wCONTEXT_SPECIFIC wPRIVATE wC clC) :
    MetFree l (⟨"com/example/tagwright/tagwright/model/TagEqualsPinLaw", "cls", "(I)Lcom/example/tagwright/tagwright/model/TagClass;"⟩ : MethodName) (head1 (Jvm.Cond.code (⟨"com/example/tagwright/tagwright/model/TagEqualsPinLaw", "cls", "(I)Lcom/example/tagwright/tagwright/model/TagClass;"⟩ : MethodName) method_2_code 2 (some (.object "com/example/tagwright/tagwright/model/TagClass")) :: ws) ({ frames := 0, cells := 0, slots := 0, locals := 0 } : Room)) (fun a U => a = #[(.int p0)] ∧ Z.Warmed39 U.vm ∧ U.heap = h0) (fun _ _ _ _ _ => True) (fun _ U o U' => ∃ v L, o = .returned v ∧ Q1 Z p0 wUNIVERSAL wAPPLICATION wCONTEXT_SPECIFIC wPRIVATE wC clC h0 n0 v U'.heap L ∧ FrameEnd U o U' L ({ frames := 0, cells := 0, slots := 0, locals := 0 } : Room).cells ({ frames := 0, cells := 0, slots := 0, locals := 0 } : Room).slots) := by
  refine MetFree.of_bodySF (plainFor_of_name pn_com_example_tagwright_tagwright_model_TagEqualsPinLaw) hisR ?_
  intro p e s m args below meth c s₁ Bd hml0 hP hK
  obtain ⟨rfl, hZ, hh⟩ := hP
  have hx := Bd.exec
  have hby := Bd.bytes
  have hml : c.maxLocals = 2 := hml0
  have hown : s.vm.findClass "com/example/tagwright/tagwright/model/TagEqualsPinLaw" = some m.cls := findClass_of_methodNamed Bd.named
  have hnm := (name_of_methodNamed Bd.named Bd.method).1
  have X0 : Stand p l e ({ frames := 0, cells := 0, slots := 0, locals := 0 } : Room) s m #[(.int p0)] below meth c s₁ [] 0 0 := Stand.of_body Bd
  have e0 : s₁.heap = h0 := by rw [← hh, Bd.state]; rfl
  have N0 := Fr.nil n0
  refine own_by (p := p) (e := e) (below := below) (K := own_K1 Z p0 wUNIVERSAL wAPPLICATION wCONTEXT_SPECIFIC wPRIVATE wC clC h0 n0 s) (W' := s₁.setTop (mkF m 0 #[.val (.int p0), .unset] [])) (fun t k => castTop (ef1 m p0) k) ?_
  refine own_by (W' := (s₁.setTop (mkF m 5 #[.val (.int p0), .val (.int (p0 &&& (3 : Int32)))] [(.int (p0 &&& (3 : Int32)))]))) (fun t k => XS.iloadN X0.here hx rfl (hb hby dmethod_2_0) rfl (XS.iconst X0.here hx rfl (hb hby dmethod_2_1) (XS.iand X0.here hx rfl (hb hby dmethod_2_2) rfl (XS.istoreN X0.here hx rfl (hb hby dmethod_2_3) rfl (l' := #[.val (.int p0), .val (.int (p0 &&& (3 : Int32)))]) rfl (XS.iloadN X0.here hx rfl (hb hby dmethod_2_4) rfl k))))) ?_
  by_cases hc1 : (p0 &&& (3 : Int32)) = (0 : Int32)
  ·
    obtain ⟨T2, X2, e2, st2⟩ := getS (host := "") X0 hx hZ hown (own_w hw 8) Via.refl e0 (HW.1.ext O0.2) (g := (mkF m 8 #[.val (.int p0), .val (.int (p0 &&& (3 : Int32)))] [])) rfl (hb hby dmethod_2_8)
    obtain ⟨fs, hr, hrun, hended, hW, hsame⟩ := X2.leave (v := some (.ref wUNIVERSAL)) (fun h => by rw [Bd.returns] at h; cases h)
    refine own_by (W' := (T2.setTop (mkF m 11 #[.val (.int p0), .val (.int (p0 &&& (3 : Int32)))] [(.ref wUNIVERSAL)]))) (fun t k => XS.ifNo X0.here hx rfl (hb hby dmethod_2_5) rfl ((if0 _ _).trans (teq hc1).2) (st2 _ k)) ?_
    refine ⟨_, _, retOut X2 hx Bd.returns rfl (Or.inr (Or.inr (Or.inr (Or.inr ⟨rfl, rfl, rfl⟩)))) (hb hby dmethod_2_11) hr, hrun, hended, _, _, rfl, ?_, ⟨_, rfl⟩, hW, hsame.mono (by decide) (by decide)⟩
    refine ⟨congrArg (fun z => some (Value.ref z)) ?_, N0, e2⟩
    rw [F1, if_pos hc1]
  ·
    refine own_by (W' := (s₁.setTop (mkF m 14 #[.val (.int p0), .val (.int (p0 &&& (3 : Int32)))] [(.int (1 : Int32)), (.int (p0 &&& (3 : Int32)))]))) (fun t k => XS.ifYes X0.here hx rfl (pc0 := 5) (pc' := 12) rfl (hb hby dmethod_2_5) rfl ((if0 _ _).trans (feq hc1).2) (by decide) (by decide) (XS.iloadN X0.here hx rfl (hb hby dmethod_2_12) rfl (XS.iconst X0.here hx rfl (hb hby dmethod_2_13) k))) ?_
    by_cases hc3 : (p0 &&& (3 : Int32)) = (1 : Int32)
    ·
      obtain ⟨T4, X4, e4, st4⟩ := getS (host := "") X0 hx hZ hown (own_w hw 72) Via.refl e0 (HW.2.2.2.1.ext O0.2) (g := (mkF m 17 #[.val (.int p0), .val (.int (p0 &&& (3 : Int32)))] [])) rfl (hb hby dmethod_2_17)
      obtain ⟨fs, hr, hrun, hended, hW, hsame⟩ := X4.leave (v := some (.ref wAPPLICATION)) (fun h => by rw [Bd.returns] at h; cases h)
      refine own_by (W' := (T4.setTop (mkF m 20 #[.val (.int p0), .val (.int (p0 &&& (3 : Int32)))] [(.ref wAPPLICATION)]))) (fun t k => XS.icmpNo X0.here hx rfl (hb hby dmethod_2_14) rfl (teq hc3).2 (st4 _ k)) ?_
      refine ⟨_, _, retOut X4 hx Bd.returns rfl (Or.inr (Or.inr (Or.inr (Or.inr ⟨rfl, rfl, rfl⟩)))) (hb hby dmethod_2_20) hr, hrun, hended, _, _, rfl, ?_, ⟨_, rfl⟩, hW, hsame.mono (by decide) (by decide)⟩
      refine ⟨congrArg (fun z => some (Value.ref z)) ?_, N0, e4⟩
      rw [F1, if_neg hc1, if_pos hc3]
    ·
      refine own_by (W' := (s₁.setTop (mkF m 23 #[.val (.int p0), .val (.int (p0 &&& (3 : Int32)))] [(.int (2 : Int32)), (.int (p0 &&& (3 : Int32)))]))) (fun t k => XS.icmpYes X0.here hx rfl (pc0 := 14) (pc' := 21) rfl (hb hby dmethod_2_14) rfl (feq hc3).2 (by decide) (by decide) (XS.iloadN X0.here hx rfl (hb hby dmethod_2_21) rfl (XS.iconst X0.here hx rfl (hb hby dmethod_2_22) k))) ?_
      by_cases hc5 : (p0 &&& (3 : Int32)) = (2 : Int32)
      ·
        obtain ⟨T6, X6, e6, st6⟩ := getS (host := "") X0 hx hZ hown (own_w hw 70) Via.refl e0 (HW.2.2.2.2.2.2.1.ext O0.2) (g := (mkF m 26 #[.val (.int p0), .val (.int (p0 &&& (3 : Int32)))] [])) rfl (hb hby dmethod_2_26)
        obtain ⟨fs, hr, hrun, hended, hW, hsame⟩ := X6.leave (v := some (.ref wCONTEXT_SPECIFIC)) (fun h => by rw [Bd.returns] at h; cases h)
        refine own_by (W' := (T6.setTop (mkF m 29 #[.val (.int p0), .val (.int (p0 &&& (3 : Int32)))] [(.ref wCONTEXT_SPECIFIC)]))) (fun t k => XS.icmpNo X0.here hx rfl (hb hby dmethod_2_23) rfl (teq hc5).2 (st6 _ k)) ?_
        refine ⟨_, _, retOut X6 hx Bd.returns rfl (Or.inr (Or.inr (Or.inr (Or.inr ⟨rfl, rfl, rfl⟩)))) (hb hby dmethod_2_29) hr, hrun, hended, _, _, rfl, ?_, ⟨_, rfl⟩, hW, hsame.mono (by decide) (by decide)⟩
        refine ⟨congrArg (fun z => some (Value.ref z)) ?_, N0, e6⟩
        rw [F1, if_neg hc1, if_neg hc3, if_pos hc5]
      ·
        obtain ⟨T7, X7, e7, st7⟩ := getS (host := "") X0 hx hZ hown (own_w hw 42) Via.refl e0 (HW.2.2.2.2.2.2.2.2.2.1.ext O0.2) (g := (mkF m 30 #[.val (.int p0), .val (.int (p0 &&& (3 : Int32)))] [])) rfl (hb hby dmethod_2_30)
        obtain ⟨fs, hr, hrun, hended, hW, hsame⟩ := X7.leave (v := some (.ref wPRIVATE)) (fun h => by rw [Bd.returns] at h; cases h)
        refine own_by (W' := (T7.setTop (mkF m 33 #[.val (.int p0), .val (.int (p0 &&& (3 : Int32)))] [(.ref wPRIVATE)]))) (fun t k => XS.icmpYes X0.here hx rfl (pc0 := 23) (pc' := 30) rfl (hb hby dmethod_2_23) rfl (feq hc5).2 (by decide) (by decide) (st7 _ k)) ?_
        refine ⟨_, _, retOut X7 hx Bd.returns rfl (Or.inr (Or.inr (Or.inr (Or.inr ⟨rfl, rfl, rfl⟩)))) (hb hby dmethod_2_33) hr, hrun, hended, _, _, rfl, ?_, ⟨_, rfl⟩, hW, hsame.mono (by decide) (by decide)⟩
        refine ⟨congrArg (fun z => some (Value.ref z)) ?_, N0, e7⟩
        rw [F1, if_neg hc1, if_neg hc3, if_neg hc5]
theorem own_exa (Z : State) (k : Int32) (wUNIVERSAL : Addr) (wAPPLICATION : Addr) (wCONTEXT_SPECIFIC : Addr) (wPRIVATE : Addr) (wC : Addr) (clC : Cell) (HW : own_Wd Z wUNIVERSAL wAPPLICATION wCONTEXT_SPECIFIC wPRIVATE wC clC) : Exa Z Z.heap (F1 k wUNIVERSAL wAPPLICATION wCONTEXT_SPECIFIC wPRIVATE wC clC) "com/example/tagwright/tagwright/model/TagClass" := by
  obtain ⟨f0, f1, f2, f3, f4, f5, f6, f7, f8, f9, f10, f11, f12, f13, f14, f15, f16, f17, f18, f19⟩ := HW
  unfold F1
  repeat' split
  all_goals assumption
theorem own_inj (Z : State) (a b : Int32) (wUNIVERSAL : Addr) (wAPPLICATION : Addr) (wCONTEXT_SPECIFIC : Addr) (wPRIVATE : Addr) (wC : Addr) (clC : Cell) (HW : own_Wd Z wUNIVERSAL wAPPLICATION wCONTEXT_SPECIFIC wPRIVATE wC clC) : (F1 a wUNIVERSAL wAPPLICATION wCONTEXT_SPECIFIC wPRIVATE wC clC = F1 b wUNIVERSAL wAPPLICATION wCONTEXT_SPECIFIC wPRIVATE wC clC) ↔ ((a &&& 3) = (b &&& 3)) := by
  obtain ⟨f0, f1, f2, f3, f4, f5, f6, f7, f8, f9, f10, f11, f12, f13, f14, f15, f16, f17, f18, f19⟩ := HW
  rcases own_and3 a with ha | ha | ha | ha <;> rcases own_and3 b with hb | hb | hb | hb <;> simp only [F1, ha, hb] <;> simp_all [Ne.symm]
theorem djdk_31_11_0 : decode jdk_31_method_11_code 0 = .ok (.aload_n 0, 1) := by decide +kernel
theorem djdk_31_11_1 : decode jdk_31_method_11_code 1 = .ok (.ifnonnull 12, 3) := by decide +kernel
theorem djdk_31_11_13 : decode jdk_31_method_11_code 13 = .ok (.aload_n 0, 1) := by decide +kernel
theorem djdk_31_11_14 : decode jdk_31_method_11_code 14 = .ok (.areturn, 1) := by decide +kernel
theorem pn_java_util_Objects : plainName "java/util/Objects" = true := by first | (simp [plainName, overriddenIn]; done) | decide +kernel
theorem efN (m : MethodId) (r0 : Addr) (r1 : Addr) : entryFrame m #[(.ref r0), (.ref r1)] 2 = mkF m 0 #[.val (.ref r0), .val (.ref r1)] [] := by first | (simp [entryFrame, mkF, argsToLocals, Value.category]; done) | rfl
def QN (Z : State) (r0 : Addr) (r1 : Addr) (h0 : Heap) (n0 : Nat) (v : Option Value) (h : Heap) (L : List Loc) : Prop := v = some (.ref r0) ∧ Fr n0 L ∧ h = h0
abbrev own_KN (Z : State) (r0 : Addr) (r1 : Addr) (h0 : Heap) (n0 : Nat) (s : State) : Outcome → State → Prop := fun o U' => ∃ v L, o = .returned v ∧ QN Z r0 r1 h0 n0 v U'.heap L ∧ FrameEnd s o U' L ({ frames := 0, cells := 0, slots := 0, locals := 0 } : Room).cells ({ frames := 0, cells := 0, slots := 0, locals := 0 } : Room).slots
set_option maxRecDepth 65536 in
set_option maxHeartbeats 40000000 in
theorem rmN (l : Launch) (Z : State) (a0 : Array Value) (hw : ∀ d ∈ tables_1, d.before a0 Z = true) (ws : List Jvm.Cond) (r0 : Addr) (r1 : Addr) (h0 : Heap) (n0 : Nat) (Z0 : n0 ≤ h0.size) :
    MetFree l (⟨"java/util/Objects", "requireNonNull", "(Ljava/lang/Object;Ljava/lang/String;)Ljava/lang/Object;"⟩ : MethodName) (head1 (Jvm.Cond.code (⟨"java/util/Objects", "requireNonNull", "(Ljava/lang/Object;Ljava/lang/String;)Ljava/lang/Object;"⟩ : MethodName) jdk_31_method_11_code 2 (some (.object "java/lang/Object")) :: ws) ({ frames := 0, cells := 0, slots := 0, locals := 0 } : Room)) (fun a U => a = #[(.ref r0), (.ref r1)] ∧ Z.Warmed39 U.vm ∧ U.heap = h0) (fun _ _ _ _ _ => True) (fun _ U o U' => ∃ v L, o = .returned v ∧ QN Z r0 r1 h0 n0 v U'.heap L ∧ FrameEnd U o U' L ({ frames := 0, cells := 0, slots := 0, locals := 0 } : Room).cells ({ frames := 0, cells := 0, slots := 0, locals := 0 } : Room).slots) := by
  refine MetFree.of_bodySF (plainFor_of_name pn_java_util_Objects) hisR ?_
  intro p e s m args below meth c s₁ Bd hml0 hP hK
  obtain ⟨rfl, hZ, hh⟩ := hP
  have hx := Bd.exec
  have hby := Bd.bytes
  have hml : c.maxLocals = 2 := hml0
  have hown : s.vm.findClass "java/util/Objects" = some m.cls := findClass_of_methodNamed Bd.named
  have hnm := (name_of_methodNamed Bd.named Bd.method).1
  have X0 : Stand p l e ({ frames := 0, cells := 0, slots := 0, locals := 0 } : Room) s m #[(.ref r0), (.ref r1)] below meth c s₁ [] 0 0 := Stand.of_body Bd
  have e0 : s₁.heap = h0 := by rw [← hh, Bd.state]; rfl
  have N0 := Fr.nil n0
  refine own_by (p := p) (e := e) (below := below) (K := own_KN Z r0 r1 h0 n0 s) (W' := s₁.setTop (mkF m 0 #[.val (.ref r0), .val (.ref r1)] [])) (fun t k => castTop (efN m r0 r1) k) ?_
  obtain ⟨fs, hr, hrun, hended, hW, hsame⟩ := X0.leave (v := some (.ref r0)) (fun h => by rw [Bd.returns] at h; cases h)
  refine own_by (W' := (s₁.setTop (mkF m 14 #[.val (.ref r0), .val (.ref r1)] [(.ref r0)]))) (fun t k => XS.aloadN X0.here hx rfl (hb hby djdk_31_11_0) rfl rfl (XS.ifnonnullYes X0.here hx rfl (pc0 := 1) (pc' := 13) rfl (hb hby djdk_31_11_1) rfl (by decide) (by decide) (XS.aloadN X0.here hx rfl (hb hby djdk_31_11_13) rfl rfl k))) ?_
  refine ⟨_, _, retOut X0 hx Bd.returns rfl (Or.inr (Or.inr (Or.inr (Or.inr ⟨rfl, rfl, rfl⟩)))) (hb hby djdk_31_11_14) hr, hrun, hended, _, _, rfl, ?_, ⟨_, rfl⟩, hW, hsame.mono (by decide) (by decide)⟩
  exact ⟨rfl, N0, e0⟩
theorem pd_1 : parseMethodDescriptor "(Ljava/lang/Object;Ljava/lang/String;)Ljava/lang/Object;" = some ⟨[(.object "java/lang/Object"), (.object "java/lang/String")], some (.object "java/lang/Object")⟩ := by decide +kernel
theorem dprog_20_1_0 : decode prog_20_method_1_code 0 = .ok (.aload_n 0, 1) := by decide +kernel
theorem dprog_20_1_1 : decode prog_20_method_1_code 1 = .ok (.invokespecial 1, 3) := by decide +kernel
theorem dprog_20_1_4 : decode prog_20_method_1_code 4 = .ok (.lload_n 2, 1) := by decide +kernel
theorem dprog_20_1_5 : decode prog_20_method_1_code 5 = .ok (.lconst 0, 1) := by decide +kernel
theorem dprog_20_1_6 : decode prog_20_method_1_code 6 = .ok (.lcmp, 1) := by decide +kernel
theorem dprog_20_1_7 : decode prog_20_method_1_code 7 = .ok (.ifCond .ge 17, 3) := by decide +kernel
theorem dprog_20_1_24 : decode prog_20_method_1_code 24 = .ok (.aload_n 0, 1) := by decide +kernel
theorem dprog_20_1_25 : decode prog_20_method_1_code 25 = .ok (.aload_n 1, 1) := by decide +kernel
theorem dprog_20_1_26 : decode prog_20_method_1_code 26 = .ok (.ldc 16, 2) := by decide +kernel
theorem dprog_20_1_28 : decode prog_20_method_1_code 28 = .ok (.invokestatic 18, 3) := by decide +kernel
theorem dprog_20_1_31 : decode prog_20_method_1_code 31 = .ok (.checkcast 24, 3) := by decide +kernel
theorem dprog_20_1_34 : decode prog_20_method_1_code 34 = .ok (.putfield 26, 3) := by decide +kernel
theorem dprog_20_1_37 : decode prog_20_method_1_code 37 = .ok (.aload_n 0, 1) := by decide +kernel
theorem dprog_20_1_38 : decode prog_20_method_1_code 38 = .ok (.lload_n 2, 1) := by decide +kernel
theorem dprog_20_1_39 : decode prog_20_method_1_code 39 = .ok (.putfield 31, 3) := by decide +kernel
theorem dprog_20_1_42 : decode prog_20_method_1_code 42 = .ok (.return_, 1) := by decide +kernel
theorem pn_com_example_tagwright_tagwright_model_Tag : plainName "com/example/tagwright/tagwright/model/Tag" = true := by first | (simp [plainName, overriddenIn]; done) | decide +kernel
theorem efI (m : MethodId) (r0 : Addr) (r1 : Addr) (q2 : Int64) : entryFrame m #[(.ref r0), (.ref r1), (.long q2)] 4 = mkF m 0 #[.val (.ref r0), .val (.ref r1), .val (.long q2), .second] [] := by first | (simp [entryFrame, mkF, argsToLocals, Value.category]; done) | rfl
def QI (Z : State) (r0 : Addr) (r1 : Addr) (q2 : Int64) (h0 : Heap) (n0 : Nat) (v : Option Value) (h : Heap) (L : List Loc) : Prop := v = none ∧ Fr n0 L ∧ Keep h0 h [r0] ∧ Exa Z h r0 "com/example/tagwright/tagwright/model/Tag" ∧ Fld Z h r0 "com/example/tagwright/tagwright/model/Tag" "tagClass" "Lcom/example/tagwright/tagwright/model/TagClass;" (.ref r1) ∧ Fld Z h r0 "com/example/tagwright/tagwright/model/Tag" "number" "J" (.long q2)
abbrev own_KI (Z : State) (r0 : Addr) (r1 : Addr) (q2 : Int64) (h0 : Heap) (n0 : Nat) (s : State) : Outcome → State → Prop := fun o U' => ∃ v L, o = .returned v ∧ QI Z r0 r1 q2 h0 n0 v U'.heap L ∧ ReturnedEndW s o U' L ({ frames := 1, cells := 2, slots := 36, locals := 14 } : Room).cells ({ frames := 1, cells := 2, slots := 36, locals := 14 } : Room).slots
set_option maxRecDepth 65536 in
set_option maxHeartbeats 40000000 in
theorem rmI (l : Launch) (Z : State) (a0 : Array Value) (hw : ∀ d ∈ tables_1, d.before a0 Z = true) (ws : List Jvm.Cond) (r0 : Addr) (r1 : Addr) (q2 : Int64) (h0 : Heap) (n0 : Nat) (Z0 : n0 ≤ h0.size) (O0 : Old Z n0 h0) (E0 : Exa Z h0 r0 "com/example/tagwright/tagwright/model/Tag") (g_r0 : n0 ≤ r0) (F_tagClass : Fld Z h0 r0 "com/example/tagwright/tagwright/model/Tag" "tagClass" "Lcom/example/tagwright/tagwright/model/TagClass;" .null) (F_number : Fld Z h0 r0 "com/example/tagwright/tagwright/model/Tag" "number" "J" (.long (0 : Int64))) (hq2 : ¬ q2 < (0 : Int64)) (E1 : Exa Z h0 r1 "com/example/tagwright/tagwright/model/TagClass") :
    MetFree l (⟨"com/example/tagwright/tagwright/model/Tag", "<init>", "(Lcom/example/tagwright/tagwright/model/TagClass;J)V"⟩ : MethodName) (head1 (Jvm.Cond.code (⟨"com/example/tagwright/tagwright/model/Tag", "<init>", "(Lcom/example/tagwright/tagwright/model/TagClass;J)V"⟩ : MethodName) prog_20_method_1_code 4 none :: ws) ({ frames := 1, cells := 2, slots := 36, locals := 14 } : Room)) (fun a U => a = #[(.ref r0), (.ref r1), (.long q2)] ∧ Z.Warmed39 U.vm ∧ U.heap = h0) (fun _ _ _ _ _ => True) (fun _ U o U' => ∃ v L, o = .returned v ∧ QI Z r0 r1 q2 h0 n0 v U'.heap L ∧ ReturnedEndW U o U' L ({ frames := 1, cells := 2, slots := 36, locals := 14 } : Room).cells ({ frames := 1, cells := 2, slots := 36, locals := 14 } : Room).slots) := by
  refine MetFree.of_bodySF (plainFor_of_name pn_com_example_tagwright_tagwright_model_Tag) hisR ?_
  intro p e s m args below meth c s₁ Bd hml0 hP hK
  obtain ⟨rfl, hZ, hh⟩ := hP
  have hx := Bd.exec
  have hby := Bd.bytes
  have hml : c.maxLocals = 4 := hml0
  have hown : s.vm.findClass "com/example/tagwright/tagwright/model/Tag" = some m.cls := findClass_of_methodNamed Bd.named
  have hnm := (name_of_methodNamed Bd.named Bd.method).1
  have X0 : Stand p l e ({ frames := 1, cells := 2, slots := 36, locals := 14 } : Room) (s.setVm s.vm) m #[(.ref r0), (.ref r1), (.long q2)] below meth c s₁ [] 0 0 := Stand.of_body Bd
  have e0 : s₁.heap = h0 := by rw [← hh, Bd.state]; rfl
  have N0 := Fr.nil n0
  have hS0 : s.Since s.vm h0.size := (State.WarmedH.refl s).since _
  refine own_by (p := p) (e := e) (below := below) (K := own_KI Z r0 r1 q2 h0 n0 s) (W' := s₁.setTop (mkF m 0 #[.val (.ref r0), .val (.ref r1), .val (.long q2), .second] [])) (fun t k => castTop (efI m r0 r1 q2) k) ?_
  obtain ⟨T1, X1, e1, st1⟩ := initO X0 hx hZ hown (own_w hw 14) (own_w hw 15) (own_w hw 16) e0 (g := (mkF m 1 #[.val (.ref r0), .val (.ref r1), .val (.long q2), .second] [(.ref r0)])) rfl (by rw [hml]; rfl) rfl (hb hby dprog_20_1_1) (by decide) (W := 0) (by show 2 * 0 + _ ≤ _; exact Nat.le_of_eq rfl) (by decide)
  refine own_by (W' := (T1.setTop (mkF m 24 #[.val (.ref r0), .val (.ref r1), .val (.long q2), .second] []))) (fun t k => XS.aloadN X0.here hx rfl (hb hby dprog_20_1_0) rfl rfl (st1 _ (XS.lloadN X1.here hx rfl (hb hby dprog_20_1_4) rfl (XS.lconst X1.here hx rfl (hb hby dprog_20_1_5) (XS.lcmp X1.here hx rfl (hb hby dprog_20_1_6) rfl (XS.ifYes X1.here hx rfl (pc0 := 7) (pc' := 24) rfl (hb hby dprog_20_1_7) rfl (own_lcnlt hq2).2 (by decide) (by decide) k)))))) ?_
  obtain ⟨a2, T2, h2, k2, X2, e2, E2, hS2, hk2, hZ2, hown2, st2⟩ := ldcS (s := s) (vm0 := s.vm) X1 hx hZ hown (own_w hw 17) (own_wS hw) e1 hS0 (Nat.le_refl _) (g := (mkF m 26 #[.val (.ref r0), .val (.ref r1), .val (.long q2), .second] [(.ref r1), (.ref r0)])) rfl (hb hby dprog_20_1_26) (n := 32) (by decide +kernel) (by decide) (by decide) (by decide)
  have O2 := O0.ext E2
  have K2 := Keep.ext (Keep.refl h0 [r0]) E2
  obtain ⟨_, _, ⟨T3, L3, k3, n3⟩, -, X3, ⟨Lc3, hQ3, l3, y3, z3⟩, st3⟩ := Jvm.LawKit.callS X2 hx (y := (⟨"java/util/Objects", "requireNonNull", "(Ljava/lang/Object;Ljava/lang/String;)Ljava/lang/Object;"⟩ : MethodName)) hown2 (mvT hZ2 (own_w hw 25)) (mvT hZ2 (own_w hw 26)) (mvT hZ2 (own_w hw 27)) (mvT hZ2 (own_w hw 28)) (by decide) (backOf (W := 1) (rmN l Z a0 hw [] r1 a2 h2 n0 (own_le O2) ) hZ2 (own_w hw 28) (own_w hw 27) (by decide) (by decide)) (g := (mkF m 28 #[.val (.ref r0), .val (.ref r1), .val (.long q2), .second] [(.ref a2), (.ref r1), (.ref r0)])) rfl (by rw [hml]; rfl) (argsL := [(.ref r1), (.ref a2)]) (rest := [(.ref r0)]) (lenOf pd_1 rfl) rfl (by show 2 * 0 + _ ≤ _; exact Nat.le_of_eq rfl) (hb hby dprog_20_1_28) (fun _ _ => ⟨rfl, e2, (by decide : 2 + 0 ≤ _), (by decide : 36 + 0 ≤ _)⟩)
  dsimp only [Pt.U, Pt.locs, Pt.cells, Pt.slots] at X3 l3 y3 z3 st3 hQ3
  subst l3 y3 z3
  obtain ⟨rfl, N3q, e3⟩ := hQ3
  have N3 := Fr.app N0 N3q
  obtain ⟨T4, X4, e4, st4⟩ := castY X3 hx hZ2 hown2 (own_w hw 29) e3 (Ins.self (E1.ext E2)) (g := (mkF m 31 #[.val (.ref r0), .val (.ref r1), .val (.long q2), .second] [(.ref r1), (.ref r0)])) rfl rfl (hb hby dprog_20_1_31)
  obtain ⟨T5, h5, X5, e5, W5, st5⟩ := putF X4 hx hZ2 hown2 (host := "") (Or.inl (own_w hw 31)) Via.refl e4 (F_tagClass.ext E2) (E0.ext E2) (Or.inr ⟨(own_w hw 32), rfl, hnm⟩) (own_w hw 2) (ty := (.object "com/example/tagwright/tagwright/model/TagClass")) (by decide) rfl rfl (g := (mkF m 34 #[.val (.ref r0), .val (.ref r1), .val (.long q2), .second] [(.ref r1), (.ref r0)])) rfl rfl (hb hby dprog_20_1_34)
  have Fw5 := (F_tagClass.ext E2).same W5
  have O5 := Old.wr O2 W5 g_r0
  have N5 := Fr.snoc X5 N3 g_r0
  have K5 := Keep.wr K2 W5 (Or.inl (List.mem_of_getElem? (i := 0) rfl))
  refine own_by (W' := (T5.setTop (mkF m 37 #[.val (.ref r0), .val (.ref r1), .val (.long q2), .second] []))) (fun t k => XS.aloadN X1.here hx rfl (hb hby dprog_20_1_24) rfl rfl (XS.aloadN X1.here hx rfl (hb hby dprog_20_1_25) rfl rfl (st2 _ (st3 _ (st4 _ (st5 _ k)))))) ?_
  obtain ⟨T6, h6, X6, e6, W6, st6⟩ := putF X5 hx hZ2 hown2 (host := "") (Or.inl (own_w hw 33)) Via.refl e5 ((F_number.ext E2).other W5 (Or.inr (slot_ne (Or.inr (own_w hw 34)) (Or.inr (own_w hw 32)) (by decide) (t := .long) (t' := (.object "com/example/tagwright/tagwright/model/TagClass")) (by decide) (by decide)))) ((E0.ext E2).wr W5) (Or.inr ⟨(own_w hw 34), rfl, hnm⟩) (own_w hw 2) (ty := .long) (by decide) rfl rfl (g := (mkF m 39 #[.val (.ref r0), .val (.ref r1), .val (.long q2), .second] [(.long q2), (.ref r0)])) rfl rfl (hb hby dprog_20_1_39)
  have Fw6 := ((F_number.ext E2).other W5 (Or.inr (slot_ne (Or.inr (own_w hw 34)) (Or.inr (own_w hw 32)) (by decide) (t := .long) (t' := (.object "com/example/tagwright/tagwright/model/TagClass")) (by decide) (by decide)))).same W6
  have O6 := Old.wr O5 W6 g_r0
  have N6 := Fr.snoc X6 N5 g_r0
  have K6 := Keep.wr K5 W6 (Or.inl (List.mem_of_getElem? (i := 0) rfl))
  obtain ⟨fs, hr, hrun, hended, hEnd⟩ := Jvm.Stand.leaveW (s := s) (vm₁ := T2.vm) X6 hS2 (by rw [e6]; exact (Nat.le_trans (Nat.le_trans hk2 (Keep.of_wr W5).1) (Keep.of_wr W6).1)) (v := none) (fun _ => rfl)
  refine own_by (W' := (T6.setTop (mkF m 42 #[.val (.ref r0), .val (.ref r1), .val (.long q2), .second] []))) (fun t k => XS.aloadN X5.here hx rfl (hb hby dprog_20_1_37) rfl rfl (XS.lloadN X5.here hx rfl (hb hby dprog_20_1_38) rfl (st6 _ k))) ?_
  refine ⟨_, _, X6.returnOut hx Bd.returns (hb hby dprog_20_1_42) hr, hrun, hended, _, _, rfl, ?_, hEnd.1, hEnd.2.1, hEnd.2.2.1, hEnd.2.2.2.mono (by decide) (by decide)⟩
  show QI Z r0 r1 q2 h0 n0 _ T6.heap _
  rw [e6]
  exact ⟨rfl, N6, K6, (((E0.ext E2).wr W5).wr W6), (Fw5.other W6 (Or.inr (slot_ne (Or.inr (own_w hw 32)) (Or.inr (own_w hw 34)) (by decide) (t := (.object "com/example/tagwright/tagwright/model/TagClass")) (t' := .long) (by decide) (by decide)))), Fw6⟩
theorem djdk_18_1_0 : decode jdk_18_method_1_code 0 = .ok (.aload_n 0, 1) := by decide +kernel
theorem djdk_18_1_1 : decode jdk_18_method_1_code 1 = .ok (.invokespecial 1, 3) := by decide +kernel
theorem djdk_18_1_4 : decode jdk_18_method_1_code 4 = .ok (.return_, 1) := by decide +kernel
theorem pn_java_lang_Number : plainName "java/lang/Number" = true := by first | (simp [plainName, overriddenIn]; done) | decide +kernel
theorem efM (m : MethodId) (r0 : Addr) : entryFrame m #[(.ref r0)] 1 = mkF m 0 #[.val (.ref r0)] [] := by first | (simp [entryFrame, mkF, argsToLocals, Value.category]; done) | rfl
def QM (Z : State) (r0 : Addr) (h0 : Heap) (n0 : Nat) (v : Option Value) (h : Heap) (L : List Loc) : Prop := v = none ∧ Fr n0 L ∧ h = h0
abbrev own_KM (Z : State) (r0 : Addr) (h0 : Heap) (n0 : Nat) (s : State) : Outcome → State → Prop := fun o U' => ∃ v L, o = .returned v ∧ QM Z r0 h0 n0 v U'.heap L ∧ FrameEnd s o U' L ({ frames := 1, cells := 0, slots := 0, locals := 12 } : Room).cells ({ frames := 1, cells := 0, slots := 0, locals := 12 } : Room).slots
set_option maxRecDepth 65536 in
set_option maxHeartbeats 40000000 in
theorem rmM (l : Launch) (Z : State) (a0 : Array Value) (hw : ∀ d ∈ tables_1, d.before a0 Z = true) (ws : List Jvm.Cond) (r0 : Addr) (h0 : Heap) (n0 : Nat) (Z0 : n0 ≤ h0.size) :
    MetFree l (⟨"java/lang/Number", "<init>", "()V"⟩ : MethodName) (head1 (Jvm.Cond.code (⟨"java/lang/Number", "<init>", "()V"⟩ : MethodName) jdk_18_method_1_code 1 none :: ws) ({ frames := 1, cells := 0, slots := 0, locals := 12 } : Room)) (fun a U => a = #[(.ref r0)] ∧ Z.Warmed39 U.vm ∧ U.heap = h0) (fun _ _ _ _ _ => True) (fun _ U o U' => ∃ v L, o = .returned v ∧ QM Z r0 h0 n0 v U'.heap L ∧ FrameEnd U o U' L ({ frames := 1, cells := 0, slots := 0, locals := 12 } : Room).cells ({ frames := 1, cells := 0, slots := 0, locals := 12 } : Room).slots) := by
  refine MetFree.of_bodySF (plainFor_of_name pn_java_lang_Number) hisR ?_
  intro p e s m args below meth c s₁ Bd hml0 hP hK
  obtain ⟨rfl, hZ, hh⟩ := hP
  have hx := Bd.exec
  have hby := Bd.bytes
  have hml : c.maxLocals = 1 := hml0
  have hown : s.vm.findClass "java/lang/Number" = some m.cls := findClass_of_methodNamed Bd.named
  have hnm := (name_of_methodNamed Bd.named Bd.method).1
  have X0 : Stand p l e ({ frames := 1, cells := 0, slots := 0, locals := 12 } : Room) s m #[(.ref r0)] below meth c s₁ [] 0 0 := Stand.of_body Bd
  have e0 : s₁.heap = h0 := by rw [← hh, Bd.state]; rfl
  have N0 := Fr.nil n0
  refine own_by (p := p) (e := e) (below := below) (K := own_KM Z r0 h0 n0 s) (W' := s₁.setTop (mkF m 0 #[.val (.ref r0)] [])) (fun t k => castTop (efM m r0) k) ?_
  obtain ⟨T1, X1, e1, st1⟩ := initO X0 hx hZ hown (own_w hw 67) (own_w hw 15) (own_w hw 16) e0 (g := (mkF m 1 #[.val (.ref r0)] [(.ref r0)])) rfl (by rw [hml]; rfl) rfl (hb hby djdk_18_1_1) (by decide) (W := 0) (by show 2 * 0 + _ ≤ _; exact Nat.le_of_eq rfl) (by decide)
  obtain ⟨fs, hr, hrun, hended, hW, hsame⟩ := X1.leave (v := none) (fun _ => rfl)
  refine own_by (W' := (T1.setTop (mkF m 4 #[.val (.ref r0)] []))) (fun t k => XS.aloadN X0.here hx rfl (hb hby djdk_18_1_0) rfl rfl (st1 _ k)) ?_
  refine ⟨_, _, X1.returnOut hx Bd.returns (hb hby djdk_18_1_4) hr, hrun, hended, _, _, rfl, ?_, ⟨_, rfl⟩, hW, hsame.mono (by decide) (by decide)⟩
  exact ⟨rfl, N0, e1⟩
theorem pd_2 : parseMethodDescriptor "()V" = some ⟨[], none⟩ := by decide +kernel
theorem djdk_35_26_0 : decode jdk_35_method_26_code 0 = .ok (.aload_n 0, 1) := by decide +kernel
theorem djdk_35_26_1 : decode jdk_35_method_26_code 1 = .ok (.invokespecial 270, 3) := by decide +kernel
theorem djdk_35_26_4 : decode jdk_35_method_26_code 4 = .ok (.aload_n 0, 1) := by decide +kernel
theorem djdk_35_26_5 : decode jdk_35_method_26_code 5 = .ok (.lload_n 1, 1) := by decide +kernel
theorem djdk_35_26_6 : decode jdk_35_method_26_code 6 = .ok (.putfield 273, 3) := by decide +kernel
theorem djdk_35_26_9 : decode jdk_35_method_26_code 9 = .ok (.return_, 1) := by decide +kernel
theorem pn_java_lang_Long : plainName "java/lang/Long" = true := by first | (simp [plainName, overriddenIn]; done) | decide +kernel
theorem efJ (m : MethodId) (r0 : Addr) (q1 : Int64) : entryFrame m #[(.ref r0), (.long q1)] 3 = mkF m 0 #[.val (.ref r0), .val (.long q1), .second] [] := by first | (simp [entryFrame, mkF, argsToLocals, Value.category]; done) | rfl
def QJ (Z : State) (r0 : Addr) (q1 : Int64) (h0 : Heap) (n0 : Nat) (v : Option Value) (h : Heap) (L : List Loc) : Prop := v = none ∧ Fr n0 L ∧ Keep h0 h [r0] ∧ Exa Z h r0 "java/lang/Long"
abbrev own_KJ (Z : State) (r0 : Addr) (q1 : Int64) (h0 : Heap) (n0 : Nat) (s : State) : Outcome → State → Prop := fun o U' => ∃ v L, o = .returned v ∧ QJ Z r0 q1 h0 n0 v U'.heap L ∧ FrameEnd s o U' L ({ frames := 2, cells := 0, slots := 0, locals := 24 } : Room).cells ({ frames := 2, cells := 0, slots := 0, locals := 24 } : Room).slots
set_option maxRecDepth 65536 in
set_option maxHeartbeats 40000000 in
theorem rmJ (l : Launch) (Z : State) (a0 : Array Value) (hw : ∀ d ∈ tables_1, d.before a0 Z = true) (ws : List Jvm.Cond) (r0 : Addr) (q1 : Int64) (h0 : Heap) (n0 : Nat) (Z0 : n0 ≤ h0.size) (O0 : Old Z n0 h0) (E0 : Exa Z h0 r0 "java/lang/Long") (g_r0 : n0 ≤ r0) (F_value : Fld Z h0 r0 "java/lang/Long" "value" "J" (.long (0 : Int64))) :
    MetFree l (⟨"java/lang/Long", "<init>", "(J)V"⟩ : MethodName) (head1 (Jvm.Cond.code (⟨"java/lang/Long", "<init>", "(J)V"⟩ : MethodName) jdk_35_method_26_code 3 none :: ws) ({ frames := 2, cells := 0, slots := 0, locals := 24 } : Room)) (fun a U => a = #[(.ref r0), (.long q1)] ∧ Z.Warmed39 U.vm ∧ U.heap = h0) (fun _ _ _ _ _ => True) (fun _ U o U' => ∃ v L, o = .returned v ∧ QJ Z r0 q1 h0 n0 v U'.heap L ∧ FrameEnd U o U' L ({ frames := 2, cells := 0, slots := 0, locals := 24 } : Room).cells ({ frames := 2, cells := 0, slots := 0, locals := 24 } : Room).slots) := by
  refine MetFree.of_bodySF (plainFor_of_name pn_java_lang_Long) hisR ?_
  intro p e s m args below meth c s₁ Bd hml0 hP hK
  obtain ⟨rfl, hZ, hh⟩ := hP
  have hx := Bd.exec
  have hby := Bd.bytes
  have hml : c.maxLocals = 3 := hml0
  have hown : s.vm.findClass "java/lang/Long" = some m.cls := findClass_of_methodNamed Bd.named
  have hnm := (name_of_methodNamed Bd.named Bd.method).1
  have X0 : Stand p l e ({ frames := 2, cells := 0, slots := 0, locals := 24 } : Room) s m #[(.ref r0), (.long q1)] below meth c s₁ [] 0 0 := Stand.of_body Bd
  have e0 : s₁.heap = h0 := by rw [← hh, Bd.state]; rfl
  have N0 := Fr.nil n0
  refine own_by (p := p) (e := e) (below := below) (K := own_KJ Z r0 q1 h0 n0 s) (W' := s₁.setTop (mkF m 0 #[.val (.ref r0), .val (.long q1), .second] [])) (fun t k => castTop (efJ m r0 q1) k) ?_
  obtain ⟨_, _, ⟨T1, L1, k1, n1⟩, -, X1, ⟨Lc1, hQ1, l1, y1, z1⟩, st1⟩ := X0.specialBack hx (y := (⟨"java/lang/Number", "<init>", "()V"⟩ : MethodName)) rfl hown (mvT hZ (own_w hw 61)) (mvT hZ (own_w hw 62)) (mvT hZ (own_w hw 66)) (by decide) (backOf (W := 0) (rmM l Z a0 hw [] r0 h0 n0 Z0 ) hZ (own_w hw 66) (own_w hw 65) (by decide) (by decide)) (g := (mkF m 1 #[.val (.ref r0), .val (.long q1), .second] [(.ref r0)])) rfl (by rw [hml]; rfl) (Steps.refl _) (a := r0) (argsL := []) (rest := []) (lenOf pd_2 rfl) rfl (by show 2 * 0 + _ ≤ _; exact Nat.le_of_eq rfl) (hb hby djdk_35_26_1) (fun _ _ => ⟨rfl, e0, (by decide : 0 + 0 ≤ _), (by decide : 0 + 0 ≤ _)⟩)
  dsimp only [Pt.U, Pt.locs, Pt.cells, Pt.slots] at X1 l1 y1 z1 st1 hQ1
  subst l1 y1 z1
  obtain ⟨rfl, N1q, e1⟩ := hQ1
  have N1 := Fr.app N0 N1q
  obtain ⟨T2, h2, X2, e2, W2, st2⟩ := putF X1 hx hZ hown (host := "") (Or.inl (own_w hw 68)) Via.refl e1 F_value E0 (Or.inr ⟨(own_w hw 69), rfl, hnm⟩) (own_w hw 56) (ty := .long) (by decide) rfl rfl (g := (mkF m 6 #[.val (.ref r0), .val (.long q1), .second] [(.long q1), (.ref r0)])) rfl rfl (hb hby djdk_35_26_6)
  have Fw2 := F_value.same W2
  have O2 := Old.wr O0 W2 g_r0
  have N2 := Fr.snoc X2 N1 g_r0
  have K2 := Keep.wr (Keep.refl h0 [r0]) W2 (Or.inl (List.mem_of_getElem? (i := 0) rfl))
  obtain ⟨fs, hr, hrun, hended, hW, hsame⟩ := X2.leave (v := none) (fun _ => rfl)
  refine own_by (W' := (T2.setTop (mkF m 9 #[.val (.ref r0), .val (.long q1), .second] []))) (fun t k => XS.aloadN X0.here hx rfl (hb hby djdk_35_26_0) rfl rfl (Steps.trans st1 (XS.aloadN X1.here hx rfl (hb hby djdk_35_26_4) rfl rfl (XS.lloadN X1.here hx rfl (hb hby djdk_35_26_5) rfl (st2 _ k))))) ?_
  refine ⟨_, _, X2.returnOut hx Bd.returns (hb hby djdk_35_26_9) hr, hrun, hended, _, _, rfl, ?_, ⟨_, rfl⟩, hW, hsame.mono (by decide) (by decide)⟩
  show QJ Z r0 q1 h0 n0 _ T2.heap _
  rw [e2]
  exact ⟨rfl, N2, K2, (E0.wr W2)⟩
theorem pd_3 : parseMethodDescriptor "(J)V" = some ⟨[.long], none⟩ := by decide +kernel
theorem djdk_35_24_0 : decode jdk_35_method_24_code 0 = .ok (.sipush 128, 3) := by decide +kernel
theorem djdk_35_24_3 : decode jdk_35_method_24_code 3 = .ok (.istore_n 2, 1) := by decide +kernel
theorem djdk_35_24_4 : decode jdk_35_method_24_code 4 = .ok (.lload_n 0, 1) := by decide +kernel
theorem djdk_35_24_5 : decode jdk_35_method_24_code 5 = .ok (.ldc2_w 230, 3) := by decide +kernel
theorem djdk_35_24_8 : decode jdk_35_method_24_code 8 = .ok (.lcmp, 1) := by decide +kernel
theorem djdk_35_24_9 : decode jdk_35_method_24_code 9 = .ok (.ifCond .lt 22, 3) := by decide +kernel
theorem djdk_35_24_12 : decode jdk_35_method_24_code 12 = .ok (.lload_n 0, 1) := by decide +kernel
theorem djdk_35_24_13 : decode jdk_35_method_24_code 13 = .ok (.ldc2_w 232, 3) := by decide +kernel
theorem djdk_35_24_16 : decode jdk_35_method_24_code 16 = .ok (.lcmp, 1) := by decide +kernel
theorem djdk_35_24_17 : decode jdk_35_method_24_code 17 = .ok (.ifCond .gt 14, 3) := by decide +kernel
theorem djdk_35_24_20 : decode jdk_35_method_24_code 20 = .ok (.getstatic 234, 3) := by decide +kernel
theorem djdk_35_24_23 : decode jdk_35_method_24_code 23 = .ok (.lload_n 0, 1) := by decide +kernel
theorem djdk_35_24_24 : decode jdk_35_method_24_code 24 = .ok (.l2i, 1) := by decide +kernel
theorem djdk_35_24_25 : decode jdk_35_method_24_code 25 = .ok (.sipush 128, 3) := by decide +kernel
theorem djdk_35_24_28 : decode jdk_35_method_24_code 28 = .ok (.iadd, 1) := by decide +kernel
theorem djdk_35_24_29 : decode jdk_35_method_24_code 29 = .ok (.aaload, 1) := by decide +kernel
theorem djdk_35_24_30 : decode jdk_35_method_24_code 30 = .ok (.areturn, 1) := by decide +kernel
theorem djdk_35_24_31 : decode jdk_35_method_24_code 31 = .ok (.new 1, 3) := by decide +kernel
theorem djdk_35_24_34 : decode jdk_35_method_24_code 34 = .ok (.dup, 1) := by decide +kernel
theorem djdk_35_24_35 : decode jdk_35_method_24_code 35 = .ok (.lload_n 0, 1) := by decide +kernel
theorem djdk_35_24_36 : decode jdk_35_method_24_code 36 = .ok (.invokespecial 240, 3) := by decide +kernel
theorem djdk_35_24_39 : decode jdk_35_method_24_code 39 = .ok (.areturn, 1) := by decide +kernel
theorem efV (m : MethodId) (q0 : Int64) : entryFrame m #[(.long q0)] 3 = mkF m 0 #[.val (.long q0), .second, .unset] [] := by first | (simp [entryFrame, mkF, argsToLocals, Value.category]; done) | rfl
def QV (Z : State) (q0 : Int64) (wUNIVERSAL : Addr) (wAPPLICATION : Addr) (wCONTEXT_SPECIFIC : Addr) (wPRIVATE : Addr) (wC : Addr) (clC : Cell) (h0 : Heap) (n0 : Nat) (v : Option Value) (h : Heap) (L : List Loc) : Prop := ∃ q : Addr, v = some (.ref q) ∧ Fr n0 L ∧ Keep h0 h [] ∧ Exa Z h q "java/lang/Long"
abbrev own_KV (Z : State) (q0 : Int64) (wUNIVERSAL : Addr) (wAPPLICATION : Addr) (wCONTEXT_SPECIFIC : Addr) (wPRIVATE : Addr) (wC : Addr) (clC : Cell) (h0 : Heap) (n0 : Nat) (s : State) : Outcome → State → Prop := fun o U' => ∃ v L, o = .returned v ∧ QV Z q0 wUNIVERSAL wAPPLICATION wCONTEXT_SPECIFIC wPRIVATE wC clC h0 n0 v U'.heap L ∧ FrameEnd s o U' L ({ frames := 3, cells := 1, slots := 1, locals := 39 } : Room).cells ({ frames := 3, cells := 1, slots := 1, locals := 39 } : Room).slots
set_option maxRecDepth 65536 in
set_option maxHeartbeats 40000000 in
theorem rmV (l : Launch) (Z : State) (a0 : Array Value) (hw : ∀ d ∈ tables_1, d.before a0 Z = true) (ws : List Jvm.Cond) (q0 : Int64) (wUNIVERSAL : Addr) (wAPPLICATION : Addr) (wCONTEXT_SPECIFIC : Addr) (wPRIVATE : Addr) (wC : Addr) (clC : Cell) (h0 : Heap) (n0 : Nat) (Z0 : n0 ≤ h0.size) (O0 : Old Z n0 h0) (HW : own_Wd Z wUNIVERSAL wAPPLICATION wCONTEXT_SPECIFIC wPRIVATE wC clC) (hq0 : ¬ q0 < (0 : Int64)) :
    MetFree l (⟨"java/lang/Long", "valueOf", "(J)Ljava/lang/Long;"⟩ : MethodName) (head1 (Jvm.Cond.code (⟨"java/lang/Long", "valueOf", "(J)Ljava/lang/Long;"⟩ : MethodName) jdk_35_method_24_code 3 (some (.object "java/lang/Long")) :: ws) ({ frames := 3, cells := 1, slots := 1, locals := 39 } : Room)) (fun a U => a = #[(.long q0)] ∧ Z.Warmed39 U.vm ∧ U.heap = h0) (fun _ _ _ _ _ => True) (fun _ U o U' => ∃ v L, o = .returned v ∧ QV Z q0 wUNIVERSAL wAPPLICATION wCONTEXT_SPECIFIC wPRIVATE wC clC h0 n0 v U'.heap L ∧ FrameEnd U o U' L ({ frames := 3, cells := 1, slots := 1, locals := 39 } : Room).cells ({ frames := 3, cells := 1, slots := 1, locals := 39 } : Room).slots) := by
  refine MetFree.of_bodySF (plainFor_of_name pn_java_lang_Long) hisR ?_
  intro p e s m args below meth c s₁ Bd hml0 hP hK
  obtain ⟨rfl, hZ, hh⟩ := hP
  have hx := Bd.exec
  have hby := Bd.bytes
  have hml : c.maxLocals = 3 := hml0
  have hown : s.vm.findClass "java/lang/Long" = some m.cls := findClass_of_methodNamed Bd.named
  have hnm := (name_of_methodNamed Bd.named Bd.method).1
  have X0 : Stand p l e ({ frames := 3, cells := 1, slots := 1, locals := 39 } : Room) s m #[(.long q0)] below meth c s₁ [] 0 0 := Stand.of_body Bd
  have e0 : s₁.heap = h0 := by rw [← hh, Bd.state]; rfl
  have N0 := Fr.nil n0
  refine own_by (p := p) (e := e) (below := below) (K := own_KV Z q0 wUNIVERSAL wAPPLICATION wCONTEXT_SPECIFIC wPRIVATE wC clC h0 n0 s) (W' := s₁.setTop (mkF m 0 #[.val (.long q0), .second, .unset] [])) (fun t k => castTop (efV m q0) k) ?_
  refine own_by (W' := (s₁.setTop (mkF m 12 #[.val (.long q0), .second, .val (.int (128 : Int32))] []))) (fun t k => XS.sipush X0.here hx rfl (hb hby djdk_35_24_0) (XS.istoreN X0.here hx rfl (hb hby djdk_35_24_3) rfl (l' := #[.val (.long q0), .second, .val (.int (128 : Int32))]) rfl (XS.lloadN X0.here hx rfl (hb hby djdk_35_24_4) rfl ((X0.ldc2Long hx hown (mvT hZ (own_w hw 48)) (g := (mkF m 5 #[.val (.long q0), .second, .val (.int (128 : Int32))] [(.long q0)])) rfl (hb hby djdk_35_24_5)) _ (XS.lcmp X0.here hx rfl (hb hby djdk_35_24_8) rfl (XS.ifNo X0.here hx rfl (hb hby djdk_35_24_9) rfl (own_lcnlt (own_n128 hq0)).1 k)))))) ?_
  refine own_by (W' := (s₁.setTop (mkF m 17 #[.val (.long q0), .second, .val (.int (128 : Int32))] [(.int (lcmpW q0 (127 : Int64)))]))) (fun t k => XS.lloadN X0.here hx rfl (hb hby djdk_35_24_12) rfl ((X0.ldc2Long hx hown (mvT hZ (own_w hw 49)) (g := (mkF m 13 #[.val (.long q0), .second, .val (.int (128 : Int32))] [(.long q0)])) rfl (hb hby djdk_35_24_13)) _ (XS.lcmp X0.here hx rfl (hb hby djdk_35_24_16) rfl k))) ?_
  by_cases hc1 : (127 : Int64) < q0
  ·
    obtain ⟨T2, h2, X2, e2, E2, A2, D2, -, st2⟩ := newO X0 hx hZ hown (own_w hw 55) (own_w hw 56) (own_w hw 46) e0 (g := (mkF m 31 #[.val (.long q0), .second, .val (.int (128 : Int32))] [])) rfl (hb hby djdk_35_24_31) (by decide) (by decide)
    obtain ⟨b2, g2⟩ : ∃ z, z = h0.size := ⟨_, rfl⟩
    rw [← g2] at A2 D2 st2
    have g_b2 : n0 ≤ b2 := Nat.le_trans (own_le O0) (Nat.le_of_eq g2.symm)
    have sz_b2 : h0.size ≤ b2 := Nat.le_trans (Keep.refl h0 []).1 (Nat.le_of_eq g2.symm)
    have O2 := O0.ext E2
    have K2 := Keep.ext (Keep.refl h0 []) E2
    have F_value_b2 : Fld Z h2 b2 "java/lang/Long" "value" "J" (.long (0 : Int64)) := D2 (Or.inr (own_w hw 69)) (ty := .long) (by decide)
    obtain ⟨_, _, ⟨T3, L3, k3, n3⟩, -, X3, ⟨Lc3, hQ3, l3, y3, z3⟩, st3⟩ := X2.specialBack hx (y := (⟨"java/lang/Long", "<init>", "(J)V"⟩ : MethodName)) rfl hown (mvT hZ (own_w hw 57)) (mvT hZ (own_w hw 58)) (mvT hZ (own_w hw 60)) (by decide) (backOf (W := 1) (rmJ l Z a0 hw [] b2 q0 h2 n0 (own_le O2) O2 A2 g_b2 F_value_b2) hZ (own_w hw 60) (own_w hw 46) (by decide) (by decide)) (g := (mkF m 36 #[.val (.long q0), .second, .val (.int (128 : Int32))] [(.long q0), (.ref b2), (.ref b2)])) rfl (by rw [hml]; rfl) (Steps.refl _) (a := b2) (argsL := [(.long q0)]) (rest := [(.ref b2)]) (lenOf pd_3 rfl) rfl (by show 2 * 0 + _ ≤ _; exact Nat.le_of_eq rfl) (hb hby djdk_35_24_36) (fun _ _ => ⟨rfl, e2, (by decide : 1 + 0 ≤ _), (by decide : 1 + 0 ≤ _)⟩)
    dsimp only [Pt.U, Pt.locs, Pt.cells, Pt.slots] at X3 l3 y3 z3 st3 hQ3
    subst l3 y3 z3
    obtain ⟨rfl, N3q, Kq3, Eq3⟩ := hQ3
    have O3 := Old.keep O2 Kq3 (allS g_b2 all0)
    have K3 := Keep.trans K2 Kq3 (allS (Or.inr sz_b2) all0)
    have N3 := Fr.app N0 N3q
    obtain ⟨fs, hr, hrun, hended, hW, hsame⟩ := X3.leave (v := some (.ref b2)) (fun h => by rw [Bd.returns] at h; cases h)
    refine own_by (W' := (T3.setTop (mkF m 39 #[.val (.long q0), .second, .val (.int (128 : Int32))] [(.ref b2)]))) (fun t k => XS.ifYes X0.here hx rfl (pc0 := 17) (pc' := 31) rfl (hb hby djdk_35_24_17) rfl (own_lcgt hc1).1 (by decide) (by decide) (st2 _ (XS.dup X2.here hx rfl (hb hby djdk_35_24_34) rfl rfl (XS.lloadN X2.here hx rfl (hb hby djdk_35_24_35) rfl (Steps.trans st3 k))))) ?_
    refine ⟨_, _, retOut X3 hx Bd.returns rfl (Or.inr (Or.inr (Or.inr (Or.inr ⟨rfl, rfl, rfl⟩)))) (hb hby djdk_35_24_39) hr, hrun, hended, _, _, rfl, ?_, ⟨_, rfl⟩, hW, hsame.mono (by decide) (by decide)⟩
    show QV Z q0 wUNIVERSAL wAPPLICATION wCONTEXT_SPECIFIC wPRIVATE wC clC h0 n0 _ T3.heap _
    exact ⟨_, rfl, N3, K3, Eq3⟩
  ·
    obtain ⟨T4, X4, e4, st4⟩ := getS (host := "") X0 hx hZ hown (own_w hw 50) Via.refl e0 (HW.2.2.2.2.2.2.2.2.2.2.2.2.2.2.2.2.2.2.1.ext O0.2) (g := (mkF m 20 #[.val (.long q0), .second, .val (.int (128 : Int32))] [])) rfl (hb hby djdk_35_24_20)
    refine own_by (W' := (T4.setTop (mkF m 29 #[.val (.long q0), .second, .val (.int (128 : Int32))] [(.int ((q0.toInt32) + (128 : Int32))), (.ref wC)]))) (fun t k => XS.ifNo X0.here hx rfl (hb hby djdk_35_24_17) rfl (own_lcngt hc1).1 (st4 _ (XS.lloadN X4.here hx rfl (hb hby djdk_35_24_23) rfl (XS.l2i X4.here hx rfl (hb hby djdk_35_24_24) rfl (XS.sipush X4.here hx rfl (hb hby djdk_35_24_25) (XS.iadd X4.here hx rfl (hb hby djdk_35_24_28) rfl k)))))) ?_
    obtain ⟨ArC, szC, -⟩ := Bxs.ext (HW.2.2.2.2.2.2.2.2.2.2.2.2.2.2.2.2.2.2.2) O0.2
    have hinC : ¬ (((q0.toInt32) + (128 : Int32)) < 0 ∨ clC.slots.size ≤ (((q0.toInt32) + (128 : Int32))).toNatClampNeg) := by rw [szC]; exact own_idx hq0 hc1
    obtain ⟨bx, hatC, EbC, -⟩ := (HW.2.2.2.2.2.2.2.2.2.2.2.2.2.2.2.2.2.2.2).2.2.2 ((q0.toInt32) + (128 : Int32)) hinC
    obtain ⟨fs, hr, hrun, hended, hW, hsame⟩ := X4.leave (v := some (.ref bx)) (fun h => by rw [Bd.returns] at h; cases h)
    refine own_by (W' := (T4.setTop (mkF m 30 #[.val (.long q0), .second, .val (.int (128 : Int32))] [(.ref bx)]))) (fun t k => (X4.aaload hx (j := ((q0.toInt32) + (128 : Int32))) (v := (.ref bx)) (by rw [e4]; exact ArC.1) (State.isArrayOf_alike hZ.alike ArC.2.1) rfl ArC.2.2 hinC hatC (g := (mkF m 29 #[.val (.long q0), .second, .val (.int (128 : Int32))] [(.int ((q0.toInt32) + (128 : Int32))), (.ref wC)])) rfl rfl (hb hby djdk_35_24_29)) _ k) ?_
    refine ⟨_, _, retOut X4 hx Bd.returns rfl (Or.inr (Or.inr (Or.inr (Or.inr ⟨rfl, rfl, rfl⟩)))) (hb hby djdk_35_24_30) hr, hrun, hended, _, _, rfl, ?_, ⟨_, rfl⟩, hW, hsame.mono (by decide) (by decide)⟩
    show QV Z q0 wUNIVERSAL wAPPLICATION wCONTEXT_SPECIFIC wPRIVATE wC clC h0 n0 _ T4.heap _
    rw [e4]
    exact ⟨_, rfl, N0, (Keep.refl h0 []), (EbC.ext O0.2)⟩
theorem dprog_20_5_0 : decode prog_20_method_5_code 0 = .ok (.aload_n 1, 1) := by decide +kernel
theorem dprog_20_5_1 : decode prog_20_method_5_code 1 = .ok (.instanceof 27, 3) := by decide +kernel
theorem dprog_20_5_4 : decode prog_20_method_5_code 4 = .ok (.ifCond .eq 36, 3) := by decide +kernel
theorem dprog_20_5_40 : decode prog_20_method_5_code 40 = .ok (.iconst 0, 1) := by decide +kernel
theorem dprog_20_5_41 : decode prog_20_method_5_code 41 = .ok (.ireturn, 1) := by decide +kernel
theorem efE0 (m : MethodId) (r0 : Addr) : entryFrame m #[(.ref r0), .null] 2 = mkF m 0 #[.val (.ref r0), .val .null] [] := by first | (simp [entryFrame, mkF, argsToLocals, Value.category]; done) | rfl
def QE0 (Z : State) (r0 : Addr) (h0 : Heap) (n0 : Nat) (v : Option Value) (h : Heap) (L : List Loc) : Prop := v = some (.int (0 : Int32)) ∧ Fr n0 L ∧ h = h0
abbrev own_KE0 (Z : State) (r0 : Addr) (h0 : Heap) (n0 : Nat) (s : State) : Outcome → State → Prop := fun o U' => ∃ v L, o = .returned v ∧ QE0 Z r0 h0 n0 v U'.heap L ∧ FrameEnd s o U' L ({ frames := 0, cells := 0, slots := 0, locals := 0 } : Room).cells ({ frames := 0, cells := 0, slots := 0, locals := 0 } : Room).slots
set_option maxRecDepth 65536 in
set_option maxHeartbeats 40000000 in
theorem rmE0 (l : Launch) (Z : State) (a0 : Array Value) (hw : ∀ d ∈ tables_1, d.before a0 Z = true) (ws : List Jvm.Cond) (r0 : Addr) (h0 : Heap) (n0 : Nat) (Z0 : n0 ≤ h0.size) :
    MetFree l (⟨"com/example/tagwright/tagwright/model/Tag", "equals", "(Ljava/lang/Object;)Z"⟩ : MethodName) (head1 (Jvm.Cond.code (⟨"com/example/tagwright/tagwright/model/Tag", "equals", "(Ljava/lang/Object;)Z"⟩ : MethodName) prog_20_method_5_code 2 (some .boolean) :: ws) ({ frames := 0, cells := 0, slots := 0, locals := 0 } : Room)) (fun a U => a = #[(.ref r0), .null] ∧ Z.Warmed39 U.vm ∧ U.heap = h0) (fun _ _ _ _ _ => True) (fun _ U o U' => ∃ v L, o = .returned v ∧ QE0 Z r0 h0 n0 v U'.heap L ∧ FrameEnd U o U' L ({ frames := 0, cells := 0, slots := 0, locals := 0 } : Room).cells ({ frames := 0, cells := 0, slots := 0, locals := 0 } : Room).slots) := by
  refine MetFree.of_bodySF (plainFor_of_name pn_com_example_tagwright_tagwright_model_Tag) hisR ?_
  intro p e s m args below meth c s₁ Bd hml0 hP hK
  obtain ⟨rfl, hZ, hh⟩ := hP
  have hx := Bd.exec
  have hby := Bd.bytes
  have hml : c.maxLocals = 2 := hml0
  have hown : s.vm.findClass "com/example/tagwright/tagwright/model/Tag" = some m.cls := findClass_of_methodNamed Bd.named
  have hnm := (name_of_methodNamed Bd.named Bd.method).1
  have X0 : Stand p l e ({ frames := 0, cells := 0, slots := 0, locals := 0 } : Room) s m #[(.ref r0), .null] below meth c s₁ [] 0 0 := Stand.of_body Bd
  have e0 : s₁.heap = h0 := by rw [← hh, Bd.state]; rfl
  have N0 := Fr.nil n0
  refine own_by (p := p) (e := e) (below := below) (K := own_KE0 Z r0 h0 n0 s) (W' := s₁.setTop (mkF m 0 #[.val (.ref r0), .val .null] [])) (fun t k => castTop (efE0 m r0) k) ?_
  obtain ⟨fs, hr, hrun, hended, hW, hsame⟩ := X0.leave (v := some (.int (0 : Int32))) (fun h => by rw [Bd.returns] at h; cases h)
  refine own_by (W' := (s₁.setTop (mkF m 41 #[.val (.ref r0), .val .null] [(.int (0 : Int32))]))) (fun t k => XS.aloadN X0.here hx rfl (hb hby dprog_20_5_0) rfl rfl ((X0.instanceofNull hx (g := (mkF m 1 #[.val (.ref r0), .val .null] [.null])) rfl rfl (hb hby dprog_20_5_1)) _ (XS.ifYes X0.here hx rfl (pc0 := 4) (pc' := 40) rfl (hb hby dprog_20_5_4) rfl ((if0 _ _).trans (teq (rfl : (0 : Int32) = (0 : Int32))).1) (by decide) (by decide) (XS.iconst X0.here hx rfl (hb hby dprog_20_5_40) k)))) ?_
  refine ⟨_, _, retOut X0 hx Bd.returns rfl (Or.inl ⟨rfl, Or.inr (Or.inl rfl), _, rfl⟩) (hb hby dprog_20_5_41) hr, hrun, hended, _, _, rfl, ?_, ⟨_, rfl⟩, hW, hsame.mono (by decide) (by decide)⟩
  exact ⟨rfl, N0, e0⟩
theorem efE1 (m : MethodId) (r0 : Addr) (r1 : Addr) : entryFrame m #[(.ref r0), (.ref r1)] 2 = mkF m 0 #[.val (.ref r0), .val (.ref r1)] [] := by first | (simp [entryFrame, mkF, argsToLocals, Value.category]; done) | rfl
def QE1 (Z : State) (r0 : Addr) (r1 : Addr) (h0 : Heap) (n0 : Nat) (v : Option Value) (h : Heap) (L : List Loc) : Prop := v = some (.int (0 : Int32)) ∧ Fr n0 L ∧ h = h0
abbrev own_KE1 (Z : State) (r0 : Addr) (r1 : Addr) (h0 : Heap) (n0 : Nat) (s : State) : Outcome → State → Prop := fun o U' => ∃ v L, o = .returned v ∧ QE1 Z r0 r1 h0 n0 v U'.heap L ∧ FrameEnd s o U' L ({ frames := 0, cells := 0, slots := 0, locals := 0 } : Room).cells ({ frames := 0, cells := 0, slots := 0, locals := 0 } : Room).slots
set_option maxRecDepth 65536 in
set_option maxHeartbeats 40000000 in
theorem rmE1 (l : Launch) (Z : State) (a0 : Array Value) (hw : ∀ d ∈ tables_1, d.before a0 Z = true) (ws : List Jvm.Cond) (r0 : Addr) (r1 : Addr) (h0 : Heap) (n0 : Nat) (Z0 : n0 ≤ h0.size) (E1 : Exa Z h0 r1 "java/lang/Long") :
    MetFree l (⟨"com/example/tagwright/tagwright/model/Tag", "equals", "(Ljava/lang/Object;)Z"⟩ : MethodName) (head1 (Jvm.Cond.code (⟨"com/example/tagwright/tagwright/model/Tag", "equals", "(Ljava/lang/Object;)Z"⟩ : MethodName) prog_20_method_5_code 2 (some .boolean) :: ws) ({ frames := 0, cells := 0, slots := 0, locals := 0 } : Room)) (fun a U => a = #[(.ref r0), (.ref r1)] ∧ Z.Warmed39 U.vm ∧ U.heap = h0) (fun _ _ _ _ _ => True) (fun _ U o U' => ∃ v L, o = .returned v ∧ QE1 Z r0 r1 h0 n0 v U'.heap L ∧ FrameEnd U o U' L ({ frames := 0, cells := 0, slots := 0, locals := 0 } : Room).cells ({ frames := 0, cells := 0, slots := 0, locals := 0 } : Room).slots) := by
  refine MetFree.of_bodySF (plainFor_of_name pn_com_example_tagwright_tagwright_model_Tag) hisR ?_
  intro p e s m args below meth c s₁ Bd hml0 hP hK
  obtain ⟨rfl, hZ, hh⟩ := hP
  have hx := Bd.exec
  have hby := Bd.bytes
  have hml : c.maxLocals = 2 := hml0
  have hown : s.vm.findClass "com/example/tagwright/tagwright/model/Tag" = some m.cls := findClass_of_methodNamed Bd.named
  have hnm := (name_of_methodNamed Bd.named Bd.method).1
  have X0 : Stand p l e ({ frames := 0, cells := 0, slots := 0, locals := 0 } : Room) s m #[(.ref r0), (.ref r1)] below meth c s₁ [] 0 0 := Stand.of_body Bd
  have e0 : s₁.heap = h0 := by rw [← hh, Bd.state]; rfl
  have N0 := Fr.nil n0
  refine own_by (p := p) (e := e) (below := below) (K := own_KE1 Z r0 r1 h0 n0 s) (W' := s₁.setTop (mkF m 0 #[.val (.ref r0), .val (.ref r1)] [])) (fun t k => castTop (efE1 m r0 r1) k) ?_
  obtain ⟨T1, X1, e1, st1⟩ := instNo X0 hx hZ hown (own_w hw 40) e0 E1 (own_noLong hw) (g := (mkF m 1 #[.val (.ref r0), .val (.ref r1)] [(.ref r1)])) rfl rfl (hb hby dprog_20_5_1)
  obtain ⟨fs, hr, hrun, hended, hW, hsame⟩ := X1.leave (v := some (.int (0 : Int32))) (fun h => by rw [Bd.returns] at h; cases h)
  refine own_by (W' := (T1.setTop (mkF m 41 #[.val (.ref r0), .val (.ref r1)] [(.int (0 : Int32))]))) (fun t k => XS.aloadN X0.here hx rfl (hb hby dprog_20_5_0) rfl rfl (st1 _ (XS.ifYes X1.here hx rfl (pc0 := 4) (pc' := 40) rfl (hb hby dprog_20_5_4) rfl ((if0 _ _).trans (teq (rfl : (0 : Int32) = (0 : Int32))).1) (by decide) (by decide) (XS.iconst X1.here hx rfl (hb hby dprog_20_5_40) k)))) ?_
  refine ⟨_, _, retOut X1 hx Bd.returns rfl (Or.inl ⟨rfl, Or.inr (Or.inl rfl), _, rfl⟩) (hb hby dprog_20_5_41) hr, hrun, hended, _, _, rfl, ?_, ⟨_, rfl⟩, hW, hsame.mono (by decide) (by decide)⟩
  exact ⟨rfl, N0, e1⟩
theorem dprog_20_5_7 : decode prog_20_method_5_code 7 = .ok (.aload_n 1, 1) := by decide +kernel
theorem dprog_20_5_8 : decode prog_20_method_5_code 8 = .ok (.checkcast 27, 3) := by decide +kernel
theorem dprog_20_5_11 : decode prog_20_method_5_code 11 = .ok (.getfield 26, 3) := by decide +kernel
theorem dprog_20_5_14 : decode prog_20_method_5_code 14 = .ok (.aload_n 0, 1) := by decide +kernel
theorem dprog_20_5_15 : decode prog_20_method_5_code 15 = .ok (.getfield 26, 3) := by decide +kernel
theorem dprog_20_5_18 : decode prog_20_method_5_code 18 = .ok (.if_acmp .ne 22, 3) := by decide +kernel
theorem dprog_20_5_21 : decode prog_20_method_5_code 21 = .ok (.aload_n 1, 1) := by decide +kernel
theorem dprog_20_5_22 : decode prog_20_method_5_code 22 = .ok (.checkcast 27, 3) := by decide +kernel
theorem dprog_20_5_25 : decode prog_20_method_5_code 25 = .ok (.getfield 31, 3) := by decide +kernel
theorem dprog_20_5_28 : decode prog_20_method_5_code 28 = .ok (.aload_n 0, 1) := by decide +kernel
theorem dprog_20_5_29 : decode prog_20_method_5_code 29 = .ok (.getfield 31, 3) := by decide +kernel
theorem dprog_20_5_32 : decode prog_20_method_5_code 32 = .ok (.lcmp, 1) := by decide +kernel
theorem dprog_20_5_33 : decode prog_20_method_5_code 33 = .ok (.ifCond .ne 7, 3) := by decide +kernel
theorem dprog_20_5_36 : decode prog_20_method_5_code 36 = .ok (.iconst 1, 1) := by decide +kernel
theorem dprog_20_5_37 : decode prog_20_method_5_code 37 = .ok (.goto 4, 3) := by decide +kernel
theorem efE2 (m : MethodId) (r0 : Addr) (r1 : Addr) : entryFrame m #[(.ref r0), (.ref r1)] 2 = mkF m 0 #[.val (.ref r0), .val (.ref r1)] [] := by first | (simp [entryFrame, mkF, argsToLocals, Value.category]; done) | rfl
def FE2 (r0 : Addr) (r1 : Addr) (tc0 : Addr) (nu0 : Int64) (tc1 : Addr) (nu1 : Int64) : Int32 := (if tc1 = tc0 then (if nu1 = nu0 then (1 : Int32) else (0 : Int32)) else (0 : Int32))
def QE2 (Z : State) (r0 : Addr) (r1 : Addr) (tc0 : Addr) (nu0 : Int64) (tc1 : Addr) (nu1 : Int64) (h0 : Heap) (n0 : Nat) (v : Option Value) (h : Heap) (L : List Loc) : Prop := v = some (.int (FE2 r0 r1 tc0 nu0 tc1 nu1)) ∧ Fr n0 L ∧ h = h0
abbrev own_KE2 (Z : State) (r0 : Addr) (r1 : Addr) (tc0 : Addr) (nu0 : Int64) (tc1 : Addr) (nu1 : Int64) (h0 : Heap) (n0 : Nat) (s : State) : Outcome → State → Prop := fun o U' => ∃ v L, o = .returned v ∧ QE2 Z r0 r1 tc0 nu0 tc1 nu1 h0 n0 v U'.heap L ∧ FrameEnd s o U' L ({ frames := 0, cells := 0, slots := 0, locals := 0 } : Room).cells ({ frames := 0, cells := 0, slots := 0, locals := 0 } : Room).slots
set_option maxRecDepth 65536 in
set_option maxHeartbeats 40000000 in
theorem rmE2 (l : Launch) (Z : State) (a0 : Array Value) (hw : ∀ d ∈ tables_1, d.before a0 Z = true) (ws : List Jvm.Cond) (r0 : Addr) (r1 : Addr) (tc0 : Addr) (nu0 : Int64) (tc1 : Addr) (nu1 : Int64) (h0 : Heap) (n0 : Nat) (Z0 : n0 ≤ h0.size) (E1 : Exa Z h0 r1 "com/example/tagwright/tagwright/model/Tag") (F_r0_tagClass : Fld Z h0 r0 "com/example/tagwright/tagwright/model/Tag" "tagClass" "Lcom/example/tagwright/tagwright/model/TagClass;" (.ref tc0)) (F_r0_number : Fld Z h0 r0 "com/example/tagwright/tagwright/model/Tag" "number" "J" (.long nu0)) (F_r1_tagClass : Fld Z h0 r1 "com/example/tagwright/tagwright/model/Tag" "tagClass" "Lcom/example/tagwright/tagwright/model/TagClass;" (.ref tc1)) (F_r1_number : Fld Z h0 r1 "com/example/tagwright/tagwright/model/Tag" "number" "J" (.long nu1)) :
    MetFree l (⟨"com/example/tagwright/tagwright/model/Tag", "equals", "(Ljava/lang/Object;)Z"⟩ : MethodName) (head1 (Jvm.Cond.code (⟨"com/example/tagwright/tagwright/model/Tag", "equals", "(Ljava/lang/Object;)Z"⟩ : MethodName) prog_20_method_5_code 2 (some .boolean) :: ws) ({ frames := 0, cells := 0, slots := 0, locals := 0 } : Room)) (fun a U => a = #[(.ref r0), (.ref r1)] ∧ Z.Warmed39 U.vm ∧ U.heap = h0) (fun _ _ _ _ _ => True) (fun _ U o U' => ∃ v L, o = .returned v ∧ QE2 Z r0 r1 tc0 nu0 tc1 nu1 h0 n0 v U'.heap L ∧ FrameEnd U o U' L ({ frames := 0, cells := 0, slots := 0, locals := 0 } : Room).cells ({ frames := 0, cells := 0, slots := 0, locals := 0 } : Room).slots) := by
  refine MetFree.of_bodySF (plainFor_of_name pn_com_example_tagwright_tagwright_model_Tag) hisR ?_
  intro p e s m args below meth c s₁ Bd hml0 hP hK
  obtain ⟨rfl, hZ, hh⟩ := hP
  have hx := Bd.exec
  have hby := Bd.bytes
  have hml : c.maxLocals = 2 := hml0
  have hown : s.vm.findClass "com/example/tagwright/tagwright/model/Tag" = some m.cls := findClass_of_methodNamed Bd.named
  have hnm := (name_of_methodNamed Bd.named Bd.method).1
  have X0 : Stand p l e ({ frames := 0, cells := 0, slots := 0, locals := 0 } : Room) s m #[(.ref r0), (.ref r1)] below meth c s₁ [] 0 0 := Stand.of_body Bd
  have e0 : s₁.heap = h0 := by rw [← hh, Bd.state]; rfl
  have N0 := Fr.nil n0
  refine own_by (p := p) (e := e) (below := below) (K := own_KE2 Z r0 r1 tc0 nu0 tc1 nu1 h0 n0 s) (W' := s₁.setTop (mkF m 0 #[.val (.ref r0), .val (.ref r1)] [])) (fun t k => castTop (efE2 m r0 r1) k) ?_
  obtain ⟨T1, X1, e1, st1⟩ := instY X0 hx hZ hown (own_w hw 40) e0 (Ins.self E1) (g := (mkF m 1 #[.val (.ref r0), .val (.ref r1)] [(.ref r1)])) rfl rfl (hb hby dprog_20_5_1)
  obtain ⟨T2, X2, e2, st2⟩ := castY X1 hx hZ hown (own_w hw 40) e1 (Ins.self E1) (g := (mkF m 8 #[.val (.ref r0), .val (.ref r1)] [(.ref r1)])) rfl rfl (hb hby dprog_20_5_8)
  obtain ⟨T3, X3, e3, st3⟩ := getF X2 hx hZ hown (host := "") (Or.inl (own_w hw 31)) Via.refl e2 F_r1_tagClass (g := (mkF m 11 #[.val (.ref r0), .val (.ref r1)] [(.ref r1)])) rfl rfl (hb hby dprog_20_5_11)
  refine own_by (W' := (T3.setTop (mkF m 14 #[.val (.ref r0), .val (.ref r1)] [(.ref tc1)]))) (fun t k => XS.aloadN X0.here hx rfl (hb hby dprog_20_5_0) rfl rfl (st1 _ (XS.ifNo X1.here hx rfl (hb hby dprog_20_5_4) rfl ((if0 _ _).trans (feq (by decide : ¬ ((1 : Int32) = (0 : Int32)))).1) (XS.aloadN X1.here hx rfl (hb hby dprog_20_5_7) rfl rfl (st2 _ (st3 _ k)))))) ?_
  obtain ⟨T4, X4, e4, st4⟩ := getF X3 hx hZ hown (host := "") (Or.inl (own_w hw 31)) Via.refl e3 F_r0_tagClass (g := (mkF m 15 #[.val (.ref r0), .val (.ref r1)] [(.ref r0), (.ref tc1)])) rfl rfl (hb hby dprog_20_5_15)
  refine own_by (W' := (T4.setTop (mkF m 18 #[.val (.ref r0), .val (.ref r1)] [(.ref tc0), (.ref tc1)]))) (fun t k => XS.aloadN X3.here hx rfl (hb hby dprog_20_5_14) rfl rfl (st4 _ k)) ?_
  by_cases hc5 : tc1 = tc0
  ·
    obtain ⟨T6, X6, e6, st6⟩ := castY X4 hx hZ hown (own_w hw 40) e4 (Ins.self E1) (g := (mkF m 22 #[.val (.ref r0), .val (.ref r1)] [(.ref r1)])) rfl rfl (hb hby dprog_20_5_22)
    obtain ⟨T7, X7, e7, st7⟩ := getF X6 hx hZ hown (host := "") (Or.inl (own_w hw 33)) Via.refl e6 F_r1_number (g := (mkF m 25 #[.val (.ref r0), .val (.ref r1)] [(.ref r1)])) rfl rfl (hb hby dprog_20_5_25)
    obtain ⟨T8, X8, e8, st8⟩ := getF X7 hx hZ hown (host := "") (Or.inl (own_w hw 33)) Via.refl e7 F_r0_number (g := (mkF m 29 #[.val (.ref r0), .val (.ref r1)] [(.ref r0), (.long nu1)])) rfl rfl (hb hby dprog_20_5_29)
    refine own_by (W' := (T8.setTop (mkF m 32 #[.val (.ref r0), .val (.ref r1)] [(.long nu0), (.long nu1)]))) (fun t k => Jvm.RoadKit.acmp (g := (mkF m 18 #[.val (.ref r0), .val (.ref r1)] [(.ref tc0), (.ref tc1)])) X4 hx rfl rfl rfl (pc0 := 18) (pc' := 21) (same := true) rfl (hb hby dprog_20_5_18) rfl (decide_eq_true (congrArg Value.ref hc5)) (by decide) (by decide) (XS.aloadN X4.here hx rfl (hb hby dprog_20_5_21) rfl rfl (st6 _ (st7 _ (XS.aloadN X7.here hx rfl (hb hby dprog_20_5_28) rfl rfl (st8 _ k)))))) ?_
    refine own_by (W' := (T8.setTop (mkF m 33 #[.val (.ref r0), .val (.ref r1)] [(.int (lcmpW nu1 nu0))]))) (fun t k => XS.lcmp X8.here hx rfl (hb hby dprog_20_5_32) rfl k) ?_
    by_cases hc9 : nu1 = nu0
    ·
      obtain ⟨fs, hr, hrun, hended, hW, hsame⟩ := X8.leave (v := some (.int (1 : Int32))) (fun h => by rw [Bd.returns] at h; cases h)
      refine own_by (W' := (T8.setTop (mkF m 41 #[.val (.ref r0), .val (.ref r1)] [(.int (1 : Int32))]))) (fun t k => XS.ifNo X8.here hx rfl (hb hby dprog_20_5_33) rfl (own_lceq hc9).2 (XS.iconst X8.here hx rfl (hb hby dprog_20_5_36) (XS.goto X8.here hx rfl (pc0 := 37) (pc' := 41) rfl (hb hby dprog_20_5_37) (by decide) (by decide) k))) ?_
      refine ⟨_, _, retOut X8 hx Bd.returns rfl (Or.inl ⟨rfl, Or.inr (Or.inl rfl), _, rfl⟩) (hb hby dprog_20_5_41) hr, hrun, hended, _, _, rfl, ?_, ⟨_, rfl⟩, hW, hsame.mono (by decide) (by decide)⟩
      refine ⟨congrArg (fun z => some (Value.int z)) ?_, N0, e8⟩
      rw [FE2, if_pos hc5, if_pos hc9]
    ·
      obtain ⟨fs, hr, hrun, hended, hW, hsame⟩ := X8.leave (v := some (.int (0 : Int32))) (fun h => by rw [Bd.returns] at h; cases h)
      refine own_by (W' := (T8.setTop (mkF m 41 #[.val (.ref r0), .val (.ref r1)] [(.int (0 : Int32))]))) (fun t k => XS.ifYes X8.here hx rfl (pc0 := 33) (pc' := 40) rfl (hb hby dprog_20_5_33) rfl (own_lcne hc9).2 (by decide) (by decide) (XS.iconst X8.here hx rfl (hb hby dprog_20_5_40) k)) ?_
      refine ⟨_, _, retOut X8 hx Bd.returns rfl (Or.inl ⟨rfl, Or.inr (Or.inl rfl), _, rfl⟩) (hb hby dprog_20_5_41) hr, hrun, hended, _, _, rfl, ?_, ⟨_, rfl⟩, hW, hsame.mono (by decide) (by decide)⟩
      refine ⟨congrArg (fun z => some (Value.int z)) ?_, N0, e8⟩
      rw [FE2, if_pos hc5, if_neg hc9]
  ·
    obtain ⟨fs, hr, hrun, hended, hW, hsame⟩ := X4.leave (v := some (.int (0 : Int32))) (fun h => by rw [Bd.returns] at h; cases h)
    refine own_by (W' := (T4.setTop (mkF m 41 #[.val (.ref r0), .val (.ref r1)] [(.int (0 : Int32))]))) (fun t k => Jvm.RoadKit.acmp (g := (mkF m 18 #[.val (.ref r0), .val (.ref r1)] [(.ref tc0), (.ref tc1)])) X4 hx rfl rfl rfl (pc0 := 18) (pc' := 40) (same := false) rfl (hb hby dprog_20_5_18) rfl (decide_eq_false fun q => hc5 (Value.ref.inj q)) (by decide) (by decide) (XS.iconst X4.here hx rfl (hb hby dprog_20_5_40) k)) ?_
    refine ⟨_, _, retOut X4 hx Bd.returns rfl (Or.inl ⟨rfl, Or.inr (Or.inl rfl), _, rfl⟩) (hb hby dprog_20_5_41) hr, hrun, hended, _, _, rfl, ?_, ⟨_, rfl⟩, hW, hsame.mono (by decide) (by decide)⟩
    refine ⟨congrArg (fun z => some (Value.int z)) ?_, N0, e4⟩
    rw [FE2, if_neg hc5]
theorem pd_4 : parseMethodDescriptor "(I)Lcom/example/tagwright/tagwright/model/TagClass;" = some ⟨[.int], some (.object "com/example/tagwright/tagwright/model/TagClass")⟩ := by decide +kernel
theorem pd_5 : parseMethodDescriptor "(Lcom/example/tagwright/tagwright/model/TagClass;J)V" = some ⟨[(.object "com/example/tagwright/tagwright/model/TagClass"), .long], none⟩ := by decide +kernel
theorem pd_6 : parseMethodDescriptor "(Ljava/lang/Object;)Z" = some ⟨[(.object "java/lang/Object")], some .boolean⟩ := by decide +kernel
theorem pd_7 : parseMethodDescriptor "(J)Ljava/lang/Long;" = some ⟨[.long], some (.object "java/lang/Long")⟩ := by decide +kernel
theorem efL (m : MethodId) (p0 : Int32) (q1 : Int64) (p2 : Int32) (q3 : Int64) (p4 : Int32) : entryFrame m #[(.int p0), (.long q1), (.int p2), (.long q3), (.int p4)] maxLocals = mkF m 0 #[.val (.int p0), .val (.long q1), .second, .val (.int p2), .val (.long q3), .second, .val (.int p4), .unset, .unset, .unset, .unset, .unset, .unset, .unset, .unset] [] := by first | (simp [entryFrame, mkF, argsToLocals, Value.category, maxLocals]; done) | rfl
def QL (Z : State) (p0 : Int32) (q1 : Int64) (p2 : Int32) (q3 : Int64) (p4 : Int32) (wUNIVERSAL : Addr) (wAPPLICATION : Addr) (wCONTEXT_SPECIFIC : Addr) (wPRIVATE : Addr) (wC : Addr) (clC : Cell) (h0 : Heap) (n0 : Nat) (v : Option Value) (h : Heap) (L : List Loc) : Prop := v = some (.int 1) ∧ Fr n0 L
abbrev own_KL (Z : State) (p0 : Int32) (q1 : Int64) (p2 : Int32) (q3 : Int64) (p4 : Int32) (wUNIVERSAL : Addr) (wAPPLICATION : Addr) (wCONTEXT_SPECIFIC : Addr) (wPRIVATE : Addr) (wC : Addr) (clC : Cell) (h0 : Heap) (n0 : Nat) (s : State) : Outcome → State → Prop := fun o U' => ∃ v L, o = .returned v ∧ QL Z p0 q1 p2 q3 p4 wUNIVERSAL wAPPLICATION wCONTEXT_SPECIFIC wPRIVATE wC clC h0 n0 v U'.heap L ∧ ReturnedEndW s o U' L room_1.cells room_1.slots
set_option maxRecDepth 65536 in
set_option maxHeartbeats 40000000 in
theorem rmL (l : Launch) (Z : State) (a0 : Array Value) (hw : ∀ d ∈ tables_1, d.before a0 Z = true) (ws : List Jvm.Cond) (p0 : Int32) (q1 : Int64) (p2 : Int32) (q3 : Int64) (p4 : Int32) (wUNIVERSAL : Addr) (wAPPLICATION : Addr) (wCONTEXT_SPECIFIC : Addr) (wPRIVATE : Addr) (wC : Addr) (clC : Cell) (h0 : Heap) (n0 : Nat) (Z0 : n0 ≤ h0.size) (O0 : Old Z n0 h0) (HW : own_Wd Z wUNIVERSAL wAPPLICATION wCONTEXT_SPECIFIC wPRIVATE wC clC) :
    MetFree l x (head1 (Jvm.Cond.code x code maxLocals ret :: ws) room_1) (fun a U => a = #[(.int p0), (.long q1), (.int p2), (.long q3), (.int p4)] ∧ Z.Warmed39 U.vm ∧ U.heap = h0) (fun _ _ _ _ _ => True) (fun _ U o U' => ∃ v L, o = .returned v ∧ QL Z p0 q1 p2 q3 p4 wUNIVERSAL wAPPLICATION wCONTEXT_SPECIFIC wPRIVATE wC clC h0 n0 v U'.heap L ∧ ReturnedEndW U o U' L room_1.cells room_1.slots) := by
  refine MetFree.of_bodySF (plainFor_of_name pn_com_example_tagwright_tagwright_model_TagEqualsPinLaw) hisR ?_
  intro p e s m args below meth c s₁ Bd hml0 hP hK
  obtain ⟨rfl, hZ, hh⟩ := hP
  have hx := Bd.exec
  have hby := Bd.bytes
  have hml : c.maxLocals = 15 := hml0
  have hown : s.vm.findClass "com/example/tagwright/tagwright/model/TagEqualsPinLaw" = some m.cls := findClass_of_methodNamed Bd.named
  have hnm := (name_of_methodNamed Bd.named Bd.method).1
  have X0 : Stand p l e room_1 (s.setVm s.vm) m #[(.int p0), (.long q1), (.int p2), (.long q3), (.int p4)] below meth c s₁ [] 0 0 := Stand.of_body Bd
  have e0 : s₁.heap = h0 := by rw [← hh, Bd.state]; rfl
  have N0 := Fr.nil n0
  have hS0 : s.Since s.vm h0.size := (State.WarmedH.refl s).since _
  refine own_by (p := p) (e := e) (below := below) (K := own_KL Z p0 q1 p2 q3 p4 wUNIVERSAL wAPPLICATION wCONTEXT_SPECIFIC wPRIVATE wC clC h0 n0 s) (W' := s₁.setTop (mkF m 0 #[.val (.int p0), .val (.long q1), .second, .val (.int p2), .val (.long q3), .second, .val (.int p4), .unset, .unset, .unset, .unset, .unset, .unset, .unset, .unset] [])) (fun t k => castTop (efL m p0 q1 p2 q3 p4) k) ?_
  refine own_by (W' := (s₁.setTop (mkF m 7 #[.val (.int p0), .val (.long q1), .second, .val (.int p2), .val (.long q3), .second, .val (.int p4), .val (.long (q1 &&& (9223372036854775807 : Int64))), .second, .unset, .unset, .unset, .unset, .unset, .unset] []))) (fun t k => XS.lloadN X0.here hx rfl (hb hby at_0) rfl ((X0.ldc2Long hx hown (mvT hZ (own_w hw 0)) (g := (mkF m 1 #[.val (.int p0), .val (.long q1), .second, .val (.int p2), .val (.long q3), .second, .val (.int p4), .unset, .unset, .unset, .unset, .unset, .unset, .unset, .unset] [(.long q1)])) rfl (hb hby at_1)) _ (XS.land X0.here hx rfl (hb hby at_4) rfl (XS.lstore X0.here hx rfl (hb hby at_5) rfl (l' := #[.val (.int p0), .val (.long q1), .second, .val (.int p2), .val (.long q3), .second, .val (.int p4), .val (.long (q1 &&& (9223372036854775807 : Int64))), .second, .unset, .unset, .unset, .unset, .unset, .unset]) rfl k)))) ?_
  generalize hv_nn : (q1 &&& (9223372036854775807 : Int64)) = nn
  refine own_by (W' := (s₁.setTop (mkF m 11 #[.val (.int p0), .val (.long q1), .second, .val (.int p2), .val (.long q3), .second, .val (.int p4), .val (.long nn), .second, .unset, .unset, .unset, .unset, .unset, .unset] [(.int (p4 &&& (4 : Int32)))]))) (fun t k => XS.iload X0.here hx rfl (hb hby at_7) rfl (XS.iconst X0.here hx rfl (hb hby at_9) (XS.iand X0.here hx rfl (hb hby at_10) rfl k))) ?_
  by_cases hc1 : (p4 &&& (4 : Int32)) = (0 : Int32)
  ·
    refine own_by (W' := (s₁.setTop (mkF m 27 #[.val (.int p0), .val (.long q1), .second, .val (.int p2), .val (.long q3), .second, .val (.int p4), .val (.long nn), .second, .val (.long (q3 &&& (9223372036854775807 : Int64))), .second, .unset, .unset, .unset, .unset] []))) (fun t k => XS.ifYes X0.here hx rfl (pc0 := 11) (pc' := 19) rfl (hb hby at_11) rfl ((if0 _ _).trans (teq hc1).1) (by decide) (by decide) (XS.lload X0.here hx rfl (hb hby at_19) rfl ((X0.ldc2Long hx hown (mvT hZ (own_w hw 0)) (g := (mkF m 21 #[.val (.int p0), .val (.long q1), .second, .val (.int p2), .val (.long q3), .second, .val (.int p4), .val (.long nn), .second, .unset, .unset, .unset, .unset, .unset, .unset] [(.long q3)])) rfl (hb hby at_21)) _ (XS.land X0.here hx rfl (hb hby at_24) rfl (XS.lstore X0.here hx rfl (hb hby at_25) rfl (l' := #[.val (.int p0), .val (.long q1), .second, .val (.int p2), .val (.long q3), .second, .val (.int p4), .val (.long nn), .second, .val (.long (q3 &&& (9223372036854775807 : Int64))), .second, .unset, .unset, .unset, .unset]) rfl k))))) ?_
    generalize hv_mm : (q3 &&& (9223372036854775807 : Int64)) = mm
    obtain ⟨T2, h2, X2, e2, E2, A2, D2, -, st2⟩ := newO X0 hx hZ hown (own_w hw 1) (own_w hw 2) (own_w hw 3) e0 (g := (mkF m 27 #[.val (.int p0), .val (.long q1), .second, .val (.int p2), .val (.long q3), .second, .val (.int p4), .val (.long nn), .second, .val (.long mm), .second, .unset, .unset, .unset, .unset] [])) rfl (hb hby at_27) (by decide) (by decide)
    obtain ⟨b2, g2⟩ : ∃ z, z = h0.size := ⟨_, rfl⟩
    rw [← g2] at A2 D2 st2
    have g_b2 : n0 ≤ b2 := Nat.le_trans (own_le O0) (Nat.le_of_eq g2.symm)
    have sz_b2 : h0.size ≤ b2 := Nat.le_trans (Keep.refl h0 []).1 (Nat.le_of_eq g2.symm)
    have O2 := O0.ext E2
    have K2 := Keep.ext (Keep.refl h0 []) E2
    have F_tagClass_b2 : Fld Z h2 b2 "com/example/tagwright/tagwright/model/Tag" "tagClass" "Lcom/example/tagwright/tagwright/model/TagClass;" .null := D2 (Or.inr (own_w hw 32)) (ty := (.object "com/example/tagwright/tagwright/model/TagClass")) (by decide)
    have F_number_b2 : Fld Z h2 b2 "com/example/tagwright/tagwright/model/Tag" "number" "J" (.long (0 : Int64)) := D2 (Or.inr (own_w hw 34)) (ty := .long) (by decide)
    obtain ⟨_, _, ⟨T3, L3, k3, n3⟩, -, X3, ⟨Lc3, hQ3, l3, y3, z3⟩, st3⟩ := Jvm.LawKit.callS X2 hx (y := (⟨"com/example/tagwright/tagwright/model/TagEqualsPinLaw", "cls", "(I)Lcom/example/tagwright/tagwright/model/TagClass;"⟩ : MethodName)) hown (mvT hZ (own_w hw 4)) (mvT hZ (own_w hw 5)) (mvT hZ (own_w hw 6)) (mvT hZ (own_w hw 7)) (by decide) (backOf (W := 2) (rm1 l Z a0 hw [] p0 wUNIVERSAL wAPPLICATION wCONTEXT_SPECIFIC wPRIVATE wC clC h2 n0 (own_le O2) O2 HW) hZ (own_w hw 7) (own_w hw 6) (by decide) (by decide)) (g := (mkF m 32 #[.val (.int p0), .val (.long q1), .second, .val (.int p2), .val (.long q3), .second, .val (.int p4), .val (.long nn), .second, .val (.long mm), .second, .unset, .unset, .unset, .unset] [(.int p0), (.ref b2), (.ref b2)])) rfl (by rw [hml]; rfl) (argsL := [(.int p0)]) (rest := [(.ref b2), (.ref b2)]) (lenOf pd_4 rfl) rfl (by show 2 * 0 + _ ≤ _; exact Nat.le_of_eq rfl) (hb hby at_32) (fun _ _ => ⟨rfl, e2, (by decide : 1 + 0 ≤ _), (by decide : 2 + 0 ≤ _)⟩)
    dsimp only [Pt.U, Pt.locs, Pt.cells, Pt.slots] at X3 l3 y3 z3 st3 hQ3
    subst l3 y3 z3
    obtain ⟨rfl, N3q, e3⟩ := hQ3
    have N3 := Fr.app N0 N3q
    obtain ⟨_, _, ⟨T4, L4, k4, n4⟩, -, X4, hs24, hg24, ⟨Lc4, hQ4, l4, y4, z4⟩, st4⟩ := X3.specialBackS hx (y := (⟨"com/example/tagwright/tagwright/model/Tag", "<init>", "(Lcom/example/tagwright/tagwright/model/TagClass;J)V"⟩ : MethodName)) rfl hown (mvT hZ (own_w hw 11)) (mvT hZ (own_w hw 12)) (mvT hZ (own_w hw 13)) (by decide) (backOfS (W := 1) (rmI l Z a0 hw [] b2 (F1 p0 wUNIVERSAL wAPPLICATION wCONTEXT_SPECIFIC wPRIVATE wC clC) nn h2 n0 (own_le O2) O2 A2 g_b2 F_tagClass_b2 F_number_b2 (own_nn hv_nn) ((own_exa Z p0 wUNIVERSAL wAPPLICATION wCONTEXT_SPECIFIC wPRIVATE wC clC HW).ext O2.2)) hZ (own_w hw 13) (own_w hw 3) (by decide) (by decide)) (g := (mkF m 37 #[.val (.int p0), .val (.long q1), .second, .val (.int p2), .val (.long q3), .second, .val (.int p4), .val (.long nn), .second, .val (.long mm), .second, .unset, .unset, .unset, .unset] [(.long nn), (.ref (F1 p0 wUNIVERSAL wAPPLICATION wCONTEXT_SPECIFIC wPRIVATE wC clC)), (.ref b2), (.ref b2)])) rfl (by rw [hml]; rfl) (Steps.refl _) (a := b2) (argsL := [(.ref (F1 p0 wUNIVERSAL wAPPLICATION wCONTEXT_SPECIFIC wPRIVATE wC clC)), (.long nn)]) (rest := [(.ref b2)]) (lenOf pd_5 rfl) rfl (by show 2 * 0 + _ ≤ _; exact Nat.le_of_eq rfl) (hb hby at_37) (fun _ _ => ⟨rfl, e3, (by decide : 1 + 2 ≤ _), (by decide : 2 + 36 ≤ _)⟩)
    dsimp only [Pt.U, Pt.locs, Pt.cells, Pt.slots] at X4 l4 y4 z4 st4 hQ4 hs24 hg24
    subst l4 y4 z4
    have hS4 : s.Since T4.vm T4.heap.size := foldS hS0 (by rw [e3]; exact (Nat.le_trans (Nat.le_refl _) E2.1)) hs24 hg24
    have hZ4 : Z.Warmed39 (s.setVm T4.vm).vm := State.Warmed39.trans (t := (s.setVm s.vm)) hZ hs24.1
    have hown4 : (s.setVm T4.vm).vm.findClass "com/example/tagwright/tagwright/model/TagEqualsPinLaw" = some m.cls := by rw [show (s.setVm T4.vm).vm = T4.vm from rfl, hs24.1.alike.findClass]; exact hown
    obtain ⟨rfl, N4q, Kq4, Eq4, Fq4_tagClass, Fq4_number⟩ := hQ4
    have O4 := Old.keep O2 Kq4 (allS g_b2 all0)
    have K4 := Keep.trans K2 Kq4 (allS (Or.inr sz_b2) all0)
    have N4 := Fr.app N3 N4q
    refine own_by (W' := (T4.setTop (mkF m 40 #[.val (.int p0), .val (.long q1), .second, .val (.int p2), .val (.long q3), .second, .val (.int p4), .val (.long nn), .second, .val (.long mm), .second, .unset, .unset, .unset, .unset] [(.ref b2)]))) (fun t k => st2 _ (XS.dup X2.here hx rfl (hb hby at_30) rfl rfl (XS.iloadN X2.here hx rfl (hb hby at_31) rfl (st3 _ (XS.lload X3.here hx rfl (hb hby at_35) rfl (Steps.trans st4 k)))))) ?_
    refine own_by (W' := (T4.setTop (mkF m 48 #[.val (.int p0), .val (.long q1), .second, .val (.int p2), .val (.long q3), .second, .val (.int p4), .val (.long nn), .second, .val (.long mm), .second, .val (.ref b2), .val (.int (p4 &&& (3 : Int32))), .unset, .unset] []))) (fun t k => XS.astore X4.here hx rfl (hb hby at_40) rfl rfl (l' := #[.val (.int p0), .val (.long q1), .second, .val (.int p2), .val (.long q3), .second, .val (.int p4), .val (.long nn), .second, .val (.long mm), .second, .val (.ref b2), .unset, .unset, .unset]) rfl (XS.iload X4.here hx rfl (hb hby at_42) rfl (XS.iconst X4.here hx rfl (hb hby at_44) (XS.iand X4.here hx rfl (hb hby at_45) rfl (XS.istore X4.here hx rfl (hb hby at_46) rfl (l' := #[.val (.int p0), .val (.long q1), .second, .val (.int p2), .val (.long q3), .second, .val (.int p4), .val (.long nn), .second, .val (.long mm), .second, .val (.ref b2), .val (.int (p4 &&& (3 : Int32))), .unset, .unset]) rfl k))))) ?_
    generalize hv_mode : (p4 &&& (3 : Int32)) = mode
    refine own_by (W' := (T4.setTop (mkF m 50 #[.val (.int p0), .val (.long q1), .second, .val (.int p2), .val (.long q3), .second, .val (.int p4), .val (.long nn), .second, .val (.long mm), .second, .val (.ref b2), .val (.int mode), .unset, .unset] [(.int mode)]))) (fun t k => XS.iload X4.here hx rfl (hb hby at_48) rfl k) ?_
    by_cases hc5 : mode = (0 : Int32)
    ·
      refine own_by (W' := (T4.setTop (mkF m 136 #[.val (.int p0), .val (.long q1), .second, .val (.int p2), .val (.long q3), .second, .val (.int p4), .val (.long nn), .second, .val (.long mm), .second, .val (.ref b2), .val (.int mode), .val .null, .val (.int (0 : Int32))] []))) (fun t k => XS.ifNo X4.here hx rfl (hb hby at_50) rfl ((if0 _ _).trans (teq hc5).2) (XS.aconstNull X4.here hx rfl (hb hby at_53) (XS.astore X4.here hx rfl (hb hby at_54) rfl rfl (l' := #[.val (.int p0), .val (.long q1), .second, .val (.int p2), .val (.long q3), .second, .val (.int p4), .val (.long nn), .second, .val (.long mm), .second, .val (.ref b2), .val (.int mode), .val .null, .unset]) rfl (XS.iconst X4.here hx rfl (hb hby at_56) (XS.istore X4.here hx rfl (hb hby at_57) rfl (l' := #[.val (.int p0), .val (.long q1), .second, .val (.int p2), .val (.long q3), .second, .val (.int p4), .val (.long nn), .second, .val (.long mm), .second, .val (.ref b2), .val (.int mode), .val .null, .val (.int (0 : Int32))]) rfl (XS.goto X4.here hx rfl (pc0 := 59) (pc' := 136) rfl (hb hby at_59) (by decide) (by decide) k)))))) ?_
      obtain ⟨cq6, kq6, q6a, q6b, q6c⟩ := isOf hZ4 rfl Eq4
      obtain ⟨_, _, ⟨T6, L6, k6, n6⟩, -, X6, ⟨Lc6, hQ6, l6, y6, z6⟩, st6⟩ := X4.virtualBack hx (y := (⟨"com/example/tagwright/tagwright/model/Tag", "equals", "(Ljava/lang/Object;)Z"⟩ : MethodName)) (z := (⟨"com/example/tagwright/tagwright/model/Tag", "equals", "(Ljava/lang/Object;)Z"⟩ : MethodName)) hown4 (mvT hZ4 (own_w hw 35)) (mvT hZ4 (own_w hw 36)) (notFace_of_selects (args := #[]) (mvT hZ4 (own_w hw 38))) (mvT hZ4 (own_w hw 38)) (mvT hZ4 (own_w hw 37)) (by decide) (backOf (W := 0) (rmE0 l Z a0 hw [] b2 T4.heap n0 (own_le O4) ) hZ4 (own_w hw 39) (own_w hw 3) (by decide) (by decide)) q6a q6c (g := (mkF m 140 #[.val (.int p0), .val (.long q1), .second, .val (.int p2), .val (.long q3), .second, .val (.int p4), .val (.long nn), .second, .val (.long mm), .second, .val (.ref b2), .val (.int mode), .val .null, .val (.int (0 : Int32))] [.null, (.ref b2)])) rfl (by rw [hml]; rfl) (Steps.refl _) (argsL := [.null]) (rest := []) (lenOf pd_6 rfl) rfl (by show 2 * 0 + _ ≤ _; exact Nat.le_of_eq rfl) (hb hby at_140) (fun _ _ => ⟨rfl, rfl, (by decide : 3 + 0 ≤ _), (by decide : 38 + 0 ≤ _)⟩)
      dsimp only [Pt.U, Pt.locs, Pt.cells, Pt.slots] at X6 l6 y6 z6 st6 hQ6
      subst l6 y6 z6
      obtain ⟨rfl, N6q, e6⟩ := hQ6
      have N6 := Fr.app N4 N6q
      refine own_by (W' := (T6.setTop (mkF m 149 #[.val (.int p0), .val (.long q1), .second, .val (.int p2), .val (.long q3), .second, .val (.int p4), .val (.long nn), .second, .val (.long mm), .second, .val (.ref b2), .val (.int mode), .val .null, .val (.int (0 : Int32))] [(.int (1 : Int32))]))) (fun t k => XS.aload X4.here hx rfl (hb hby at_136) rfl rfl (XS.aload X4.here hx rfl (hb hby at_138) rfl rfl (Steps.trans st6 (XS.iload X6.here hx rfl (hb hby at_143) rfl (XS.icmpNo X6.here hx rfl (hb hby at_145) rfl (teq (rfl : (0 : Int32) = (0 : Int32))).2 (XS.iconst X6.here hx rfl (hb hby at_148) k)))))) ?_
      obtain ⟨fs, hr, hrun, hended, hEnd⟩ := Jvm.Stand.leaveW (s := s) (vm₁ := T4.vm) X6 hS4 (by rw [e6]; exact (Nat.le_refl _)) (v := some (.int (1 : Int32))) (fun h => by rw [Bd.returns] at h; cases h)
      refine own_by (W' := (T6.setTop (mkF m 153 #[.val (.int p0), .val (.long q1), .second, .val (.int p2), .val (.long q3), .second, .val (.int p4), .val (.long nn), .second, .val (.long mm), .second, .val (.ref b2), .val (.int mode), .val .null, .val (.int (0 : Int32))] [(.int (1 : Int32))]))) (fun t k => XS.goto X6.here hx rfl (pc0 := 149) (pc' := 153) rfl (hb hby at_149) (by decide) (by decide) k) ?_
      refine ⟨_, _, retOut X6 hx Bd.returns rfl (Or.inl ⟨rfl, Or.inr (Or.inl rfl), _, rfl⟩) (hb hby at_153) hr, hrun, hended, _, _, rfl, ?_, hEnd.1, hEnd.2.1, hEnd.2.2.1, hEnd.2.2.2.mono (by decide) (by decide)⟩
      exact ⟨rfl, N6⟩
    ·
      refine own_by (W' := (T4.setTop (mkF m 65 #[.val (.int p0), .val (.long q1), .second, .val (.int p2), .val (.long q3), .second, .val (.int p4), .val (.long nn), .second, .val (.long mm), .second, .val (.ref b2), .val (.int mode), .unset, .unset] [(.int (1 : Int32)), (.int mode)]))) (fun t k => XS.ifYes X4.here hx rfl (pc0 := 50) (pc' := 62) rfl (hb hby at_50) rfl ((if0 _ _).trans (feq hc5).2) (by decide) (by decide) (XS.iload X4.here hx rfl (hb hby at_62) rfl (XS.iconst X4.here hx rfl (hb hby at_64) k))) ?_
      by_cases hc7 : mode = (1 : Int32)
      ·
        obtain ⟨_, _, ⟨T8, L8, k8, n8⟩, -, X8, ⟨Lc8, hQ8, l8, y8, z8⟩, st8⟩ := Jvm.LawKit.callS X4 hx (y := (⟨"java/lang/Long", "valueOf", "(J)Ljava/lang/Long;"⟩ : MethodName)) hown4 (mvT hZ4 (own_w hw 44)) (mvT hZ4 (own_w hw 45)) (mvT hZ4 (own_w hw 46)) (mvT hZ4 (own_w hw 47)) (by decide) (backOf (W := 0) (rmV l Z a0 hw [] nn wUNIVERSAL wAPPLICATION wCONTEXT_SPECIFIC wPRIVATE wC clC T4.heap n0 (own_le O4) O4 HW (own_nn hv_nn)) hZ4 (own_w hw 47) (own_w hw 46) (by decide) (by decide)) (g := (mkF m 70 #[.val (.int p0), .val (.long q1), .second, .val (.int p2), .val (.long q3), .second, .val (.int p4), .val (.long nn), .second, .val (.long mm), .second, .val (.ref b2), .val (.int mode), .unset, .unset] [(.long nn)])) rfl (by rw [hml]; rfl) (argsL := [(.long nn)]) (rest := []) (lenOf pd_7 rfl) rfl (by show 2 * 0 + _ ≤ _; exact Nat.le_of_eq rfl) (hb hby at_70) (fun _ _ => ⟨rfl, rfl, (by decide : 3 + 1 ≤ _), (by decide : 38 + 1 ≤ _)⟩)
        dsimp only [Pt.U, Pt.locs, Pt.cells, Pt.slots] at X8 l8 y8 z8 st8 hQ8
        subst l8 y8 z8
        obtain ⟨fb8, rfl, N8q, Kq8, Eq8⟩ := hQ8
        have O8 := Old.keep O4 Kq8 all0
        have K8 := Keep.trans K4 Kq8 all0
        have N8 := Fr.app N4 N8q
        refine own_by (W' := (T8.setTop (mkF m 78 #[.val (.int p0), .val (.long q1), .second, .val (.int p2), .val (.long q3), .second, .val (.int p4), .val (.long nn), .second, .val (.long mm), .second, .val (.ref b2), .val (.int mode), .val (.ref fb8), .val (.int (0 : Int32))] []))) (fun t k => XS.icmpNo X4.here hx rfl (hb hby at_65) rfl (teq hc7).2 (XS.lload X4.here hx rfl (hb hby at_68) rfl (st8 _ (XS.astore X8.here hx rfl (hb hby at_73) rfl rfl (l' := #[.val (.int p0), .val (.long q1), .second, .val (.int p2), .val (.long q3), .second, .val (.int p4), .val (.long nn), .second, .val (.long mm), .second, .val (.ref b2), .val (.int mode), .val (.ref fb8), .unset]) rfl (XS.iconst X8.here hx rfl (hb hby at_75) (XS.istore X8.here hx rfl (hb hby at_76) rfl (l' := #[.val (.int p0), .val (.long q1), .second, .val (.int p2), .val (.long q3), .second, .val (.int p4), .val (.long nn), .second, .val (.long mm), .second, .val (.ref b2), .val (.int mode), .val (.ref fb8), .val (.int (0 : Int32))]) rfl k)))))) ?_
        obtain ⟨cq9, kq9, q9a, q9b, q9c⟩ := isOf hZ4 rfl (Eq4.keep Kq8)
        obtain ⟨_, _, ⟨T9, L9, k9, n9⟩, -, X9, ⟨Lc9, hQ9, l9, y9, z9⟩, st9⟩ := X8.virtualBack hx (y := (⟨"com/example/tagwright/tagwright/model/Tag", "equals", "(Ljava/lang/Object;)Z"⟩ : MethodName)) (z := (⟨"com/example/tagwright/tagwright/model/Tag", "equals", "(Ljava/lang/Object;)Z"⟩ : MethodName)) hown4 (mvT hZ4 (own_w hw 35)) (mvT hZ4 (own_w hw 36)) (notFace_of_selects (args := #[]) (mvT hZ4 (own_w hw 38))) (mvT hZ4 (own_w hw 38)) (mvT hZ4 (own_w hw 37)) (by decide) (backOf (W := 0) (rmE1 l Z a0 hw [] b2 fb8 T8.heap n0 (own_le O8) Eq8) hZ4 (own_w hw 39) (own_w hw 3) (by decide) (by decide)) q9a q9c (g := (mkF m 140 #[.val (.int p0), .val (.long q1), .second, .val (.int p2), .val (.long q3), .second, .val (.int p4), .val (.long nn), .second, .val (.long mm), .second, .val (.ref b2), .val (.int mode), .val (.ref fb8), .val (.int (0 : Int32))] [(.ref fb8), (.ref b2)])) rfl (by rw [hml]; rfl) (Steps.refl _) (argsL := [(.ref fb8)]) (rest := []) (lenOf pd_6 rfl) rfl (by show 2 * 0 + _ ≤ _; exact Nat.le_of_eq rfl) (hb hby at_140) (fun _ _ => ⟨rfl, rfl, (by decide : 4 + 0 ≤ _), (by decide : 39 + 0 ≤ _)⟩)
        dsimp only [Pt.U, Pt.locs, Pt.cells, Pt.slots] at X9 l9 y9 z9 st9 hQ9
        subst l9 y9 z9
        obtain ⟨rfl, N9q, e9⟩ := hQ9
        have N9 := Fr.app N8 N9q
        refine own_by (W' := (T9.setTop (mkF m 148 #[.val (.int p0), .val (.long q1), .second, .val (.int p2), .val (.long q3), .second, .val (.int p4), .val (.long nn), .second, .val (.long mm), .second, .val (.ref b2), .val (.int mode), .val (.ref fb8), .val (.int (0 : Int32))] []))) (fun t k => XS.goto X8.here hx rfl (pc0 := 78) (pc' := 136) rfl (hb hby at_78) (by decide) (by decide) (XS.aload X8.here hx rfl (hb hby at_136) rfl rfl (XS.aload X8.here hx rfl (hb hby at_138) rfl rfl (Steps.trans st9 (XS.iload X9.here hx rfl (hb hby at_143) rfl (XS.icmpNo X9.here hx rfl (hb hby at_145) rfl (teq (rfl : (0 : Int32) = (0 : Int32))).2 k)))))) ?_
        obtain ⟨fs, hr, hrun, hended, hEnd⟩ := Jvm.Stand.leaveW (s := s) (vm₁ := T4.vm) X9 hS4 (by rw [e9]; exact (Nat.le_trans (Nat.le_refl _) Kq8.1)) (v := some (.int (1 : Int32))) (fun h => by rw [Bd.returns] at h; cases h)
        refine own_by (W' := (T9.setTop (mkF m 153 #[.val (.int p0), .val (.long q1), .second, .val (.int p2), .val (.long q3), .second, .val (.int p4), .val (.long nn), .second, .val (.long mm), .second, .val (.ref b2), .val (.int mode), .val (.ref fb8), .val (.int (0 : Int32))] [(.int (1 : Int32))]))) (fun t k => XS.iconst X9.here hx rfl (hb hby at_148) (XS.goto X9.here hx rfl (pc0 := 149) (pc' := 153) rfl (hb hby at_149) (by decide) (by decide) k)) ?_
        refine ⟨_, _, retOut X9 hx Bd.returns rfl (Or.inl ⟨rfl, Or.inr (Or.inl rfl), _, rfl⟩) (hb hby at_153) hr, hrun, hended, _, _, rfl, ?_, hEnd.1, hEnd.2.1, hEnd.2.2.1, hEnd.2.2.2.mono (by decide) (by decide)⟩
        exact ⟨rfl, N9⟩
      ·
        refine own_by (W' := (T4.setTop (mkF m 84 #[.val (.int p0), .val (.long q1), .second, .val (.int p2), .val (.long q3), .second, .val (.int p4), .val (.long nn), .second, .val (.long mm), .second, .val (.ref b2), .val (.int mode), .unset, .unset] [(.int (2 : Int32)), (.int mode)]))) (fun t k => XS.icmpYes X4.here hx rfl (pc0 := 65) (pc' := 81) rfl (hb hby at_65) rfl (feq hc7).2 (by decide) (by decide) (XS.iload X4.here hx rfl (hb hby at_81) rfl (XS.iconst X4.here hx rfl (hb hby at_83) k))) ?_
        by_cases hc10 : mode = (2 : Int32)
        ·
          refine own_by (W' := (T4.setTop (mkF m 136 #[.val (.int p0), .val (.long q1), .second, .val (.int p2), .val (.long q3), .second, .val (.int p4), .val (.long nn), .second, .val (.long mm), .second, .val (.ref b2), .val (.int mode), .val (.ref b2), .val (.int (1 : Int32))] []))) (fun t k => XS.icmpNo X4.here hx rfl (hb hby at_84) rfl (teq hc10).2 (XS.aload X4.here hx rfl (hb hby at_87) rfl rfl (XS.astore X4.here hx rfl (hb hby at_89) rfl rfl (l' := #[.val (.int p0), .val (.long q1), .second, .val (.int p2), .val (.long q3), .second, .val (.int p4), .val (.long nn), .second, .val (.long mm), .second, .val (.ref b2), .val (.int mode), .val (.ref b2), .unset]) rfl (XS.iconst X4.here hx rfl (hb hby at_91) (XS.istore X4.here hx rfl (hb hby at_92) rfl (l' := #[.val (.int p0), .val (.long q1), .second, .val (.int p2), .val (.long q3), .second, .val (.int p4), .val (.long nn), .second, .val (.long mm), .second, .val (.ref b2), .val (.int mode), .val (.ref b2), .val (.int (1 : Int32))]) rfl (XS.goto X4.here hx rfl (pc0 := 94) (pc' := 136) rfl (hb hby at_94) (by decide) (by decide) k)))))) ?_
          obtain ⟨cq11, kq11, q11a, q11b, q11c⟩ := isOf hZ4 rfl Eq4
          obtain ⟨_, _, ⟨T11, L11, k11, n11⟩, -, X11, ⟨Lc11, hQ11, l11, y11, z11⟩, st11⟩ := X4.virtualBack hx (y := (⟨"com/example/tagwright/tagwright/model/Tag", "equals", "(Ljava/lang/Object;)Z"⟩ : MethodName)) (z := (⟨"com/example/tagwright/tagwright/model/Tag", "equals", "(Ljava/lang/Object;)Z"⟩ : MethodName)) hown4 (mvT hZ4 (own_w hw 35)) (mvT hZ4 (own_w hw 36)) (notFace_of_selects (args := #[]) (mvT hZ4 (own_w hw 38))) (mvT hZ4 (own_w hw 38)) (mvT hZ4 (own_w hw 37)) (by decide) (backOf (W := 0) (rmE2 l Z a0 hw [] b2 b2 (F1 p0 wUNIVERSAL wAPPLICATION wCONTEXT_SPECIFIC wPRIVATE wC clC) nn (F1 p0 wUNIVERSAL wAPPLICATION wCONTEXT_SPECIFIC wPRIVATE wC clC) nn T4.heap n0 (own_le O4) Eq4 Fq4_tagClass Fq4_number Fq4_tagClass Fq4_number) hZ4 (own_w hw 39) (own_w hw 3) (by decide) (by decide)) q11a q11c (g := (mkF m 140 #[.val (.int p0), .val (.long q1), .second, .val (.int p2), .val (.long q3), .second, .val (.int p4), .val (.long nn), .second, .val (.long mm), .second, .val (.ref b2), .val (.int mode), .val (.ref b2), .val (.int (1 : Int32))] [(.ref b2), (.ref b2)])) rfl (by rw [hml]; rfl) (Steps.refl _) (argsL := [(.ref b2)]) (rest := []) (lenOf pd_6 rfl) rfl (by show 2 * 0 + _ ≤ _; exact Nat.le_of_eq rfl) (hb hby at_140) (fun _ _ => ⟨rfl, rfl, (by decide : 3 + 0 ≤ _), (by decide : 38 + 0 ≤ _)⟩)
          dsimp only [Pt.U, Pt.locs, Pt.cells, Pt.slots] at X11 l11 y11 z11 st11 hQ11
          subst l11 y11 z11
          obtain ⟨rfl, N11q, e11⟩ := hQ11
          have N11 := Fr.app N4 N11q
          have ho12 : (FE2 b2 b2 (F1 p0 wUNIVERSAL wAPPLICATION wCONTEXT_SPECIFIC wPRIVATE wC clC) nn (F1 p0 wUNIVERSAL wAPPLICATION wCONTEXT_SPECIFIC wPRIVATE wC clC) nn) = (1 : Int32) := by rw [FE2, if_pos rfl, if_pos rfl]
          refine own_by (W' := (T11.setTop (mkF m 149 #[.val (.int p0), .val (.long q1), .second, .val (.int p2), .val (.long q3), .second, .val (.int p4), .val (.long nn), .second, .val (.long mm), .second, .val (.ref b2), .val (.int mode), .val (.ref b2), .val (.int (1 : Int32))] [(.int (1 : Int32))]))) (fun t k => XS.aload X4.here hx rfl (hb hby at_136) rfl rfl (XS.aload X4.here hx rfl (hb hby at_138) rfl rfl (Steps.trans st11 (XS.iload X11.here hx rfl (hb hby at_143) rfl (XS.icmpNo X11.here hx rfl (hb hby at_145) rfl (teq ho12).2 (XS.iconst X11.here hx rfl (hb hby at_148) k)))))) ?_
          obtain ⟨fs, hr, hrun, hended, hEnd⟩ := Jvm.Stand.leaveW (s := s) (vm₁ := T4.vm) X11 hS4 (by rw [e11]; exact (Nat.le_refl _)) (v := some (.int (1 : Int32))) (fun h => by rw [Bd.returns] at h; cases h)
          refine own_by (W' := (T11.setTop (mkF m 153 #[.val (.int p0), .val (.long q1), .second, .val (.int p2), .val (.long q3), .second, .val (.int p4), .val (.long nn), .second, .val (.long mm), .second, .val (.ref b2), .val (.int mode), .val (.ref b2), .val (.int (1 : Int32))] [(.int (1 : Int32))]))) (fun t k => XS.goto X11.here hx rfl (pc0 := 149) (pc' := 153) rfl (hb hby at_149) (by decide) (by decide) k) ?_
          refine ⟨_, _, retOut X11 hx Bd.returns rfl (Or.inl ⟨rfl, Or.inr (Or.inl rfl), _, rfl⟩) (hb hby at_153) hr, hrun, hended, _, _, rfl, ?_, hEnd.1, hEnd.2.1, hEnd.2.2.1, hEnd.2.2.2.mono (by decide) (by decide)⟩
          exact ⟨rfl, N11⟩
        ·
          obtain ⟨T13, h13, X13, e13, E13, A13, D13, -, st13⟩ := newO X4 hx hZ4 hown4 (own_w hw 1) (own_w hw 2) (own_w hw 3) rfl (g := (mkF m 97 #[.val (.int p0), .val (.long q1), .second, .val (.int p2), .val (.long q3), .second, .val (.int p4), .val (.long nn), .second, .val (.long mm), .second, .val (.ref b2), .val (.int mode), .unset, .unset] [])) rfl (hb hby at_97) (by decide) (by decide)
          obtain ⟨b13, g13⟩ : ∃ z, z = T4.heap.size := ⟨_, rfl⟩
          rw [← g13] at A13 D13 st13
          have g_b13 : n0 ≤ b13 := Nat.le_trans (own_le O4) (Nat.le_of_eq g13.symm)
          have sz_b13 : h0.size ≤ b13 := Nat.le_trans K4.1 (Nat.le_of_eq g13.symm)
          have ne_b2_b13 : b2 ≠ b13 := Nat.ne_of_lt (Nat.lt_of_lt_of_le Eq4.lt (Nat.le_of_eq g13.symm))
          have O13 := O4.ext E13
          have K13 := Keep.ext K4 E13
          have F_tagClass_b13 : Fld Z h13 b13 "com/example/tagwright/tagwright/model/Tag" "tagClass" "Lcom/example/tagwright/tagwright/model/TagClass;" .null := D13 (Or.inr (own_w hw 32)) (ty := (.object "com/example/tagwright/tagwright/model/TagClass")) (by decide)
          have F_number_b13 : Fld Z h13 b13 "com/example/tagwright/tagwright/model/Tag" "number" "J" (.long (0 : Int64)) := D13 (Or.inr (own_w hw 34)) (ty := .long) (by decide)
          obtain ⟨_, _, ⟨T14, L14, k14, n14⟩, -, X14, ⟨Lc14, hQ14, l14, y14, z14⟩, st14⟩ := Jvm.LawKit.callS X13 hx (y := (⟨"com/example/tagwright/tagwright/model/TagEqualsPinLaw", "cls", "(I)Lcom/example/tagwright/tagwright/model/TagClass;"⟩ : MethodName)) hown4 (mvT hZ4 (own_w hw 4)) (mvT hZ4 (own_w hw 5)) (mvT hZ4 (own_w hw 6)) (mvT hZ4 (own_w hw 7)) (by decide) (backOf (W := 2) (rm1 l Z a0 hw [] p2 wUNIVERSAL wAPPLICATION wCONTEXT_SPECIFIC wPRIVATE wC clC h13 n0 (own_le O13) O13 HW) hZ4 (own_w hw 7) (own_w hw 6) (by decide) (by decide)) (g := (mkF m 102 #[.val (.int p0), .val (.long q1), .second, .val (.int p2), .val (.long q3), .second, .val (.int p4), .val (.long nn), .second, .val (.long mm), .second, .val (.ref b2), .val (.int mode), .unset, .unset] [(.int p2), (.ref b13), (.ref b13)])) rfl (by rw [hml]; rfl) (argsL := [(.int p2)]) (rest := [(.ref b13), (.ref b13)]) (lenOf pd_4 rfl) rfl (by show 2 * 0 + _ ≤ _; exact Nat.le_of_eq rfl) (hb hby at_102) (fun _ _ => ⟨rfl, e13, (by decide : 4 + 0 ≤ _), (by decide : 40 + 0 ≤ _)⟩)
          dsimp only [Pt.U, Pt.locs, Pt.cells, Pt.slots] at X14 l14 y14 z14 st14 hQ14
          subst l14 y14 z14
          obtain ⟨rfl, N14q, e14⟩ := hQ14
          have N14 := Fr.app N4 N14q
          refine own_by (W' := (T14.setTop (mkF m 107 #[.val (.int p0), .val (.long q1), .second, .val (.int p2), .val (.long q3), .second, .val (.int p4), .val (.long nn), .second, .val (.long mm), .second, .val (.ref b2), .val (.int mode), .unset, .unset] [(.long mm), (.ref (F1 p2 wUNIVERSAL wAPPLICATION wCONTEXT_SPECIFIC wPRIVATE wC clC)), (.ref b13), (.ref b13)]))) (fun t k => XS.icmpYes X4.here hx rfl (pc0 := 84) (pc' := 97) rfl (hb hby at_84) rfl (feq hc10).2 (by decide) (by decide) (st13 _ (XS.dup X13.here hx rfl (hb hby at_100) rfl rfl (XS.iloadN X13.here hx rfl (hb hby at_101) rfl (st14 _ (XS.lload X14.here hx rfl (hb hby at_105) rfl k)))))) ?_
          obtain ⟨_, _, ⟨T15, L15, k15, n15⟩, -, X15, hs215, hg215, ⟨Lc15, hQ15, l15, y15, z15⟩, st15⟩ := X14.specialBackS hx (y := (⟨"com/example/tagwright/tagwright/model/Tag", "<init>", "(Lcom/example/tagwright/tagwright/model/TagClass;J)V"⟩ : MethodName)) rfl hown4 (mvT hZ4 (own_w hw 11)) (mvT hZ4 (own_w hw 12)) (mvT hZ4 (own_w hw 13)) (by decide) (backOfS (W := 1) (rmI l Z a0 hw [] b13 (F1 p2 wUNIVERSAL wAPPLICATION wCONTEXT_SPECIFIC wPRIVATE wC clC) mm h13 n0 (own_le O13) O13 A13 g_b13 F_tagClass_b13 F_number_b13 (own_nn hv_mm) ((own_exa Z p2 wUNIVERSAL wAPPLICATION wCONTEXT_SPECIFIC wPRIVATE wC clC HW).ext O13.2)) hZ4 (own_w hw 13) (own_w hw 3) (by decide) (by decide)) (g := (mkF m 107 #[.val (.int p0), .val (.long q1), .second, .val (.int p2), .val (.long q3), .second, .val (.int p4), .val (.long nn), .second, .val (.long mm), .second, .val (.ref b2), .val (.int mode), .unset, .unset] [(.long mm), (.ref (F1 p2 wUNIVERSAL wAPPLICATION wCONTEXT_SPECIFIC wPRIVATE wC clC)), (.ref b13), (.ref b13)])) rfl (by rw [hml]; rfl) (Steps.refl _) (a := b13) (argsL := [(.ref (F1 p2 wUNIVERSAL wAPPLICATION wCONTEXT_SPECIFIC wPRIVATE wC clC)), (.long mm)]) (rest := [(.ref b13)]) (lenOf pd_5 rfl) rfl (by show 2 * 0 + _ ≤ _; exact Nat.le_of_eq rfl) (hb hby at_107) (fun _ _ => ⟨rfl, e14, (by decide : 4 + 2 ≤ _), (by decide : 40 + 36 ≤ _)⟩)
          dsimp only [Pt.U, Pt.locs, Pt.cells, Pt.slots] at X15 l15 y15 z15 st15 hQ15 hs215 hg215
          subst l15 y15 z15
          have hS15 : s.Since T15.vm T15.heap.size := foldS hS4 (by rw [e14]; exact (Nat.le_trans (Nat.le_refl _) E13.1)) hs215 hg215
          have hZ15 : Z.Warmed39 (s.setVm T15.vm).vm := State.Warmed39.trans (t := (s.setVm T4.vm)) hZ4 hs215.1
          have hown15 : (s.setVm T15.vm).vm.findClass "com/example/tagwright/tagwright/model/TagEqualsPinLaw" = some m.cls := by rw [show (s.setVm T15.vm).vm = T15.vm from rfl, hs215.1.alike.findClass]; exact hown4
          obtain ⟨rfl, N15q, Kq15, Eq15, Fq15_tagClass, Fq15_number⟩ := hQ15
          have O15 := Old.keep O13 Kq15 (allS g_b13 all0)
          have K15 := Keep.trans K13 Kq15 (allS (Or.inr sz_b13) all0)
          have N15 := Fr.app N14 N15q
          refine own_by (W' := (T15.setTop (mkF m 116 #[.val (.int p0), .val (.long q1), .second, .val (.int p2), .val (.long q3), .second, .val (.int p4), .val (.long nn), .second, .val (.long mm), .second, .val (.ref b2), .val (.int mode), .val (.ref b13), .unset] [(.int p2), (.int (p0 &&& (3 : Int32)))]))) (fun t k => Steps.trans st15 (XS.astore X15.here hx rfl (hb hby at_110) rfl rfl (l' := #[.val (.int p0), .val (.long q1), .second, .val (.int p2), .val (.long q3), .second, .val (.int p4), .val (.long nn), .second, .val (.long mm), .second, .val (.ref b2), .val (.int mode), .val (.ref b13), .unset]) rfl (XS.iloadN X15.here hx rfl (hb hby at_112) rfl (XS.iconst X15.here hx rfl (hb hby at_113) (XS.iand X15.here hx rfl (hb hby at_114) rfl (XS.iloadN X15.here hx rfl (hb hby at_115) rfl k)))))) ?_
          refine own_by (W' := (T15.setTop (mkF m 118 #[.val (.int p0), .val (.long q1), .second, .val (.int p2), .val (.long q3), .second, .val (.int p4), .val (.long nn), .second, .val (.long mm), .second, .val (.ref b2), .val (.int mode), .val (.ref b13), .unset] [(.int (p2 &&& (3 : Int32))), (.int (p0 &&& (3 : Int32)))]))) (fun t k => XS.iconst X15.here hx rfl (hb hby at_116) (XS.iand X15.here hx rfl (hb hby at_117) rfl k)) ?_
          by_cases hc16 : (p0 &&& (3 : Int32)) = (p2 &&& (3 : Int32))
          ·
            refine own_by (W' := (T15.setTop (mkF m 126 #[.val (.int p0), .val (.long q1), .second, .val (.int p2), .val (.long q3), .second, .val (.int p4), .val (.long nn), .second, .val (.long mm), .second, .val (.ref b2), .val (.int mode), .val (.ref b13), .unset] [(.int (lcmpW nn mm))]))) (fun t k => XS.icmpNo X15.here hx rfl (hb hby at_118) rfl (teq hc16).2 (XS.lload X15.here hx rfl (hb hby at_121) rfl (XS.lload X15.here hx rfl (hb hby at_123) rfl (XS.lcmp X15.here hx rfl (hb hby at_125) rfl k)))) ?_
            by_cases hc17 : nn = mm
            ·
              refine own_by (W' := (T15.setTop (mkF m 140 #[.val (.int p0), .val (.long q1), .second, .val (.int p2), .val (.long q3), .second, .val (.int p4), .val (.long nn), .second, .val (.long mm), .second, .val (.ref b2), .val (.int mode), .val (.ref b13), .val (.int (1 : Int32))] [(.ref b13), (.ref b2)]))) (fun t k => XS.ifNo X15.here hx rfl (hb hby at_126) rfl (own_lceq hc17).2 (XS.iconst X15.here hx rfl (hb hby at_129) (XS.goto X15.here hx rfl (pc0 := 130) (pc' := 134) rfl (hb hby at_130) (by decide) (by decide) (XS.istore X15.here hx rfl (hb hby at_134) rfl (l' := #[.val (.int p0), .val (.long q1), .second, .val (.int p2), .val (.long q3), .second, .val (.int p4), .val (.long nn), .second, .val (.long mm), .second, .val (.ref b2), .val (.int mode), .val (.ref b13), .val (.int (1 : Int32))]) rfl (XS.aload X15.here hx rfl (hb hby at_136) rfl rfl (XS.aload X15.here hx rfl (hb hby at_138) rfl rfl k)))))) ?_
              obtain ⟨cq18, kq18, q18a, q18b, q18c⟩ := isOf hZ15 rfl ((Eq4.ext E13).keep Kq15)
              obtain ⟨_, _, ⟨T18, L18, k18, n18⟩, -, X18, ⟨Lc18, hQ18, l18, y18, z18⟩, st18⟩ := X15.virtualBack hx (y := (⟨"com/example/tagwright/tagwright/model/Tag", "equals", "(Ljava/lang/Object;)Z"⟩ : MethodName)) (z := (⟨"com/example/tagwright/tagwright/model/Tag", "equals", "(Ljava/lang/Object;)Z"⟩ : MethodName)) hown15 (mvT hZ15 (own_w hw 35)) (mvT hZ15 (own_w hw 36)) (notFace_of_selects (args := #[]) (mvT hZ15 (own_w hw 38))) (mvT hZ15 (own_w hw 38)) (mvT hZ15 (own_w hw 37)) (by decide) (backOf (W := 0) (rmE2 l Z a0 hw [] b2 b13 (F1 p0 wUNIVERSAL wAPPLICATION wCONTEXT_SPECIFIC wPRIVATE wC clC) nn (F1 p2 wUNIVERSAL wAPPLICATION wCONTEXT_SPECIFIC wPRIVATE wC clC) mm T15.heap n0 (own_le O15) Eq15 ((Fq4_tagClass.ext E13).keep Kq15 (ninS ne_b2_b13 nin0)) ((Fq4_number.ext E13).keep Kq15 (ninS ne_b2_b13 nin0)) Fq15_tagClass Fq15_number) hZ15 (own_w hw 39) (own_w hw 3) (by decide) (by decide)) q18a q18c (g := (mkF m 140 #[.val (.int p0), .val (.long q1), .second, .val (.int p2), .val (.long q3), .second, .val (.int p4), .val (.long nn), .second, .val (.long mm), .second, .val (.ref b2), .val (.int mode), .val (.ref b13), .val (.int (1 : Int32))] [(.ref b13), (.ref b2)])) rfl (by rw [hml]; rfl) (Steps.refl _) (argsL := [(.ref b13)]) (rest := []) (lenOf pd_6 rfl) rfl (by show 2 * 0 + _ ≤ _; exact Nat.le_of_eq rfl) (hb hby at_140) (fun _ _ => ⟨rfl, rfl, (by decide : 6 + 0 ≤ _), (by decide : 76 + 0 ≤ _)⟩)
              dsimp only [Pt.U, Pt.locs, Pt.cells, Pt.slots] at X18 l18 y18 z18 st18 hQ18
              subst l18 y18 z18
              obtain ⟨rfl, N18q, e18⟩ := hQ18
              have N18 := Fr.app N15 N18q
              have ho19 : (FE2 b2 b13 (F1 p0 wUNIVERSAL wAPPLICATION wCONTEXT_SPECIFIC wPRIVATE wC clC) nn (F1 p2 wUNIVERSAL wAPPLICATION wCONTEXT_SPECIFIC wPRIVATE wC clC) mm) = (1 : Int32) := by rw [FE2, if_pos ((own_inj Z _ _ wUNIVERSAL wAPPLICATION wCONTEXT_SPECIFIC wPRIVATE wC clC HW).mpr hc16.symm), if_pos hc17.symm]
              obtain ⟨fs, hr, hrun, hended, hEnd⟩ := Jvm.Stand.leaveW (s := s) (vm₁ := T15.vm) X18 hS15 (by rw [e18]; exact (Nat.le_refl _)) (v := some (.int (1 : Int32))) (fun h => by rw [Bd.returns] at h; cases h)
              refine own_by (W' := (T18.setTop (mkF m 153 #[.val (.int p0), .val (.long q1), .second, .val (.int p2), .val (.long q3), .second, .val (.int p4), .val (.long nn), .second, .val (.long mm), .second, .val (.ref b2), .val (.int mode), .val (.ref b13), .val (.int (1 : Int32))] [(.int (1 : Int32))]))) (fun t k => Steps.trans st18 (XS.iload X18.here hx rfl (hb hby at_143) rfl (XS.icmpNo X18.here hx rfl (hb hby at_145) rfl (teq ho19).2 (XS.iconst X18.here hx rfl (hb hby at_148) (XS.goto X18.here hx rfl (pc0 := 149) (pc' := 153) rfl (hb hby at_149) (by decide) (by decide) k))))) ?_
              refine ⟨_, _, retOut X18 hx Bd.returns rfl (Or.inl ⟨rfl, Or.inr (Or.inl rfl), _, rfl⟩) (hb hby at_153) hr, hrun, hended, _, _, rfl, ?_, hEnd.1, hEnd.2.1, hEnd.2.2.1, hEnd.2.2.2.mono (by decide) (by decide)⟩
              exact ⟨rfl, N18⟩
            ·
              obtain ⟨cq20, kq20, q20a, q20b, q20c⟩ := isOf hZ15 rfl ((Eq4.ext E13).keep Kq15)
              obtain ⟨_, _, ⟨T20, L20, k20, n20⟩, -, X20, ⟨Lc20, hQ20, l20, y20, z20⟩, st20⟩ := X15.virtualBack hx (y := (⟨"com/example/tagwright/tagwright/model/Tag", "equals", "(Ljava/lang/Object;)Z"⟩ : MethodName)) (z := (⟨"com/example/tagwright/tagwright/model/Tag", "equals", "(Ljava/lang/Object;)Z"⟩ : MethodName)) hown15 (mvT hZ15 (own_w hw 35)) (mvT hZ15 (own_w hw 36)) (notFace_of_selects (args := #[]) (mvT hZ15 (own_w hw 38))) (mvT hZ15 (own_w hw 38)) (mvT hZ15 (own_w hw 37)) (by decide) (backOf (W := 0) (rmE2 l Z a0 hw [] b2 b13 (F1 p0 wUNIVERSAL wAPPLICATION wCONTEXT_SPECIFIC wPRIVATE wC clC) nn (F1 p2 wUNIVERSAL wAPPLICATION wCONTEXT_SPECIFIC wPRIVATE wC clC) mm T15.heap n0 (own_le O15) Eq15 ((Fq4_tagClass.ext E13).keep Kq15 (ninS ne_b2_b13 nin0)) ((Fq4_number.ext E13).keep Kq15 (ninS ne_b2_b13 nin0)) Fq15_tagClass Fq15_number) hZ15 (own_w hw 39) (own_w hw 3) (by decide) (by decide)) q20a q20c (g := (mkF m 140 #[.val (.int p0), .val (.long q1), .second, .val (.int p2), .val (.long q3), .second, .val (.int p4), .val (.long nn), .second, .val (.long mm), .second, .val (.ref b2), .val (.int mode), .val (.ref b13), .val (.int (0 : Int32))] [(.ref b13), (.ref b2)])) rfl (by rw [hml]; rfl) (Steps.refl _) (argsL := [(.ref b13)]) (rest := []) (lenOf pd_6 rfl) rfl (by show 2 * 0 + _ ≤ _; exact Nat.le_of_eq rfl) (hb hby at_140) (fun _ _ => ⟨rfl, rfl, (by decide : 6 + 0 ≤ _), (by decide : 76 + 0 ≤ _)⟩)
              dsimp only [Pt.U, Pt.locs, Pt.cells, Pt.slots] at X20 l20 y20 z20 st20 hQ20
              subst l20 y20 z20
              obtain ⟨rfl, N20q, e20⟩ := hQ20
              have N20 := Fr.app N15 N20q
              refine own_by (W' := (T20.setTop (mkF m 143 #[.val (.int p0), .val (.long q1), .second, .val (.int p2), .val (.long q3), .second, .val (.int p4), .val (.long nn), .second, .val (.long mm), .second, .val (.ref b2), .val (.int mode), .val (.ref b13), .val (.int (0 : Int32))] [(.int (FE2 b2 b13 (F1 p0 wUNIVERSAL wAPPLICATION wCONTEXT_SPECIFIC wPRIVATE wC clC) nn (F1 p2 wUNIVERSAL wAPPLICATION wCONTEXT_SPECIFIC wPRIVATE wC clC) mm))]))) (fun t k => XS.ifYes X15.here hx rfl (pc0 := 126) (pc' := 133) rfl (hb hby at_126) rfl (own_lcne hc17).2 (by decide) (by decide) (XS.iconst X15.here hx rfl (hb hby at_133) (XS.istore X15.here hx rfl (hb hby at_134) rfl (l' := #[.val (.int p0), .val (.long q1), .second, .val (.int p2), .val (.long q3), .second, .val (.int p4), .val (.long nn), .second, .val (.long mm), .second, .val (.ref b2), .val (.int mode), .val (.ref b13), .val (.int (0 : Int32))]) rfl (XS.aload X15.here hx rfl (hb hby at_136) rfl rfl (XS.aload X15.here hx rfl (hb hby at_138) rfl rfl (Steps.trans st20 k)))))) ?_
              have ho21 : (FE2 b2 b13 (F1 p0 wUNIVERSAL wAPPLICATION wCONTEXT_SPECIFIC wPRIVATE wC clC) nn (F1 p2 wUNIVERSAL wAPPLICATION wCONTEXT_SPECIFIC wPRIVATE wC clC) mm) = (0 : Int32) := by rw [FE2, if_pos ((own_inj Z _ _ wUNIVERSAL wAPPLICATION wCONTEXT_SPECIFIC wPRIVATE wC clC HW).mpr hc16.symm), if_neg (fun q => hc17 q.symm)]
              obtain ⟨fs, hr, hrun, hended, hEnd⟩ := Jvm.Stand.leaveW (s := s) (vm₁ := T15.vm) X20 hS15 (by rw [e20]; exact (Nat.le_refl _)) (v := some (.int (1 : Int32))) (fun h => by rw [Bd.returns] at h; cases h)
              refine own_by (W' := (T20.setTop (mkF m 153 #[.val (.int p0), .val (.long q1), .second, .val (.int p2), .val (.long q3), .second, .val (.int p4), .val (.long nn), .second, .val (.long mm), .second, .val (.ref b2), .val (.int mode), .val (.ref b13), .val (.int (0 : Int32))] [(.int (1 : Int32))]))) (fun t k => XS.iload X20.here hx rfl (hb hby at_143) rfl (XS.icmpNo X20.here hx rfl (hb hby at_145) rfl (teq ho21).2 (XS.iconst X20.here hx rfl (hb hby at_148) (XS.goto X20.here hx rfl (pc0 := 149) (pc' := 153) rfl (hb hby at_149) (by decide) (by decide) k)))) ?_
              refine ⟨_, _, retOut X20 hx Bd.returns rfl (Or.inl ⟨rfl, Or.inr (Or.inl rfl), _, rfl⟩) (hb hby at_153) hr, hrun, hended, _, _, rfl, ?_, hEnd.1, hEnd.2.1, hEnd.2.2.1, hEnd.2.2.2.mono (by decide) (by decide)⟩
              exact ⟨rfl, N20⟩
          ·
            obtain ⟨cq22, kq22, q22a, q22b, q22c⟩ := isOf hZ15 rfl ((Eq4.ext E13).keep Kq15)
            obtain ⟨_, _, ⟨T22, L22, k22, n22⟩, -, X22, ⟨Lc22, hQ22, l22, y22, z22⟩, st22⟩ := X15.virtualBack hx (y := (⟨"com/example/tagwright/tagwright/model/Tag", "equals", "(Ljava/lang/Object;)Z"⟩ : MethodName)) (z := (⟨"com/example/tagwright/tagwright/model/Tag", "equals", "(Ljava/lang/Object;)Z"⟩ : MethodName)) hown15 (mvT hZ15 (own_w hw 35)) (mvT hZ15 (own_w hw 36)) (notFace_of_selects (args := #[]) (mvT hZ15 (own_w hw 38))) (mvT hZ15 (own_w hw 38)) (mvT hZ15 (own_w hw 37)) (by decide) (backOf (W := 0) (rmE2 l Z a0 hw [] b2 b13 (F1 p0 wUNIVERSAL wAPPLICATION wCONTEXT_SPECIFIC wPRIVATE wC clC) nn (F1 p2 wUNIVERSAL wAPPLICATION wCONTEXT_SPECIFIC wPRIVATE wC clC) mm T15.heap n0 (own_le O15) Eq15 ((Fq4_tagClass.ext E13).keep Kq15 (ninS ne_b2_b13 nin0)) ((Fq4_number.ext E13).keep Kq15 (ninS ne_b2_b13 nin0)) Fq15_tagClass Fq15_number) hZ15 (own_w hw 39) (own_w hw 3) (by decide) (by decide)) q22a q22c (g := (mkF m 140 #[.val (.int p0), .val (.long q1), .second, .val (.int p2), .val (.long q3), .second, .val (.int p4), .val (.long nn), .second, .val (.long mm), .second, .val (.ref b2), .val (.int mode), .val (.ref b13), .val (.int (0 : Int32))] [(.ref b13), (.ref b2)])) rfl (by rw [hml]; rfl) (Steps.refl _) (argsL := [(.ref b13)]) (rest := []) (lenOf pd_6 rfl) rfl (by show 2 * 0 + _ ≤ _; exact Nat.le_of_eq rfl) (hb hby at_140) (fun _ _ => ⟨rfl, rfl, (by decide : 6 + 0 ≤ _), (by decide : 76 + 0 ≤ _)⟩)
            dsimp only [Pt.U, Pt.locs, Pt.cells, Pt.slots] at X22 l22 y22 z22 st22 hQ22
            subst l22 y22 z22
            obtain ⟨rfl, N22q, e22⟩ := hQ22
            have N22 := Fr.app N15 N22q
            refine own_by (W' := (T22.setTop (mkF m 143 #[.val (.int p0), .val (.long q1), .second, .val (.int p2), .val (.long q3), .second, .val (.int p4), .val (.long nn), .second, .val (.long mm), .second, .val (.ref b2), .val (.int mode), .val (.ref b13), .val (.int (0 : Int32))] [(.int (FE2 b2 b13 (F1 p0 wUNIVERSAL wAPPLICATION wCONTEXT_SPECIFIC wPRIVATE wC clC) nn (F1 p2 wUNIVERSAL wAPPLICATION wCONTEXT_SPECIFIC wPRIVATE wC clC) mm))]))) (fun t k => XS.icmpYes X15.here hx rfl (pc0 := 118) (pc' := 133) rfl (hb hby at_118) rfl (feq hc16).2 (by decide) (by decide) (XS.iconst X15.here hx rfl (hb hby at_133) (XS.istore X15.here hx rfl (hb hby at_134) rfl (l' := #[.val (.int p0), .val (.long q1), .second, .val (.int p2), .val (.long q3), .second, .val (.int p4), .val (.long nn), .second, .val (.long mm), .second, .val (.ref b2), .val (.int mode), .val (.ref b13), .val (.int (0 : Int32))]) rfl (XS.aload X15.here hx rfl (hb hby at_136) rfl rfl (XS.aload X15.here hx rfl (hb hby at_138) rfl rfl (Steps.trans st22 k)))))) ?_
            have ho23 : (FE2 b2 b13 (F1 p0 wUNIVERSAL wAPPLICATION wCONTEXT_SPECIFIC wPRIVATE wC clC) nn (F1 p2 wUNIVERSAL wAPPLICATION wCONTEXT_SPECIFIC wPRIVATE wC clC) mm) = (0 : Int32) := by rw [FE2, if_neg (fun q => hc16 ((own_inj Z _ _ wUNIVERSAL wAPPLICATION wCONTEXT_SPECIFIC wPRIVATE wC clC HW).mp q.symm))]
            obtain ⟨fs, hr, hrun, hended, hEnd⟩ := Jvm.Stand.leaveW (s := s) (vm₁ := T15.vm) X22 hS15 (by rw [e22]; exact (Nat.le_refl _)) (v := some (.int (1 : Int32))) (fun h => by rw [Bd.returns] at h; cases h)
            refine own_by (W' := (T22.setTop (mkF m 153 #[.val (.int p0), .val (.long q1), .second, .val (.int p2), .val (.long q3), .second, .val (.int p4), .val (.long nn), .second, .val (.long mm), .second, .val (.ref b2), .val (.int mode), .val (.ref b13), .val (.int (0 : Int32))] [(.int (1 : Int32))]))) (fun t k => XS.iload X22.here hx rfl (hb hby at_143) rfl (XS.icmpNo X22.here hx rfl (hb hby at_145) rfl (teq ho23).2 (XS.iconst X22.here hx rfl (hb hby at_148) (XS.goto X22.here hx rfl (pc0 := 149) (pc' := 153) rfl (hb hby at_149) (by decide) (by decide) k)))) ?_
            refine ⟨_, _, retOut X22 hx Bd.returns rfl (Or.inl ⟨rfl, Or.inr (Or.inl rfl), _, rfl⟩) (hb hby at_153) hr, hrun, hended, _, _, rfl, ?_, hEnd.1, hEnd.2.1, hEnd.2.2.1, hEnd.2.2.2.mono (by decide) (by decide)⟩
            exact ⟨rfl, N22⟩
  ·
    obtain ⟨T24, h24, X24, e24, E24, A24, D24, -, st24⟩ := newO X0 hx hZ hown (own_w hw 1) (own_w hw 2) (own_w hw 3) e0 (g := (mkF m 27 #[.val (.int p0), .val (.long q1), .second, .val (.int p2), .val (.long q3), .second, .val (.int p4), .val (.long nn), .second, .val (.long nn), .second, .unset, .unset, .unset, .unset] [])) rfl (hb hby at_27) (by decide) (by decide)
    obtain ⟨b24, g24⟩ : ∃ z, z = h0.size := ⟨_, rfl⟩
    rw [← g24] at A24 D24 st24
    have g_b24 : n0 ≤ b24 := Nat.le_trans (own_le O0) (Nat.le_of_eq g24.symm)
    have sz_b24 : h0.size ≤ b24 := Nat.le_trans (Keep.refl h0 []).1 (Nat.le_of_eq g24.symm)
    have O24 := O0.ext E24
    have K24 := Keep.ext (Keep.refl h0 []) E24
    have F_tagClass_b24 : Fld Z h24 b24 "com/example/tagwright/tagwright/model/Tag" "tagClass" "Lcom/example/tagwright/tagwright/model/TagClass;" .null := D24 (Or.inr (own_w hw 32)) (ty := (.object "com/example/tagwright/tagwright/model/TagClass")) (by decide)
    have F_number_b24 : Fld Z h24 b24 "com/example/tagwright/tagwright/model/Tag" "number" "J" (.long (0 : Int64)) := D24 (Or.inr (own_w hw 34)) (ty := .long) (by decide)
    refine own_by (W' := (T24.setTop (mkF m 31 #[.val (.int p0), .val (.long q1), .second, .val (.int p2), .val (.long q3), .second, .val (.int p4), .val (.long nn), .second, .val (.long nn), .second, .unset, .unset, .unset, .unset] [(.ref b24), (.ref b24)]))) (fun t k => XS.ifNo X0.here hx rfl (hb hby at_11) rfl ((if0 _ _).trans (feq hc1).1) (XS.lload X0.here hx rfl (hb hby at_14) rfl (XS.goto X0.here hx rfl (pc0 := 16) (pc' := 25) rfl (hb hby at_16) (by decide) (by decide) (XS.lstore X0.here hx rfl (hb hby at_25) rfl (l' := #[.val (.int p0), .val (.long q1), .second, .val (.int p2), .val (.long q3), .second, .val (.int p4), .val (.long nn), .second, .val (.long nn), .second, .unset, .unset, .unset, .unset]) rfl (st24 _ (XS.dup X24.here hx rfl (hb hby at_30) rfl rfl k)))))) ?_
    obtain ⟨_, _, ⟨T25, L25, k25, n25⟩, -, X25, ⟨Lc25, hQ25, l25, y25, z25⟩, st25⟩ := Jvm.LawKit.callS X24 hx (y := (⟨"com/example/tagwright/tagwright/model/TagEqualsPinLaw", "cls", "(I)Lcom/example/tagwright/tagwright/model/TagClass;"⟩ : MethodName)) hown (mvT hZ (own_w hw 4)) (mvT hZ (own_w hw 5)) (mvT hZ (own_w hw 6)) (mvT hZ (own_w hw 7)) (by decide) (backOf (W := 2) (rm1 l Z a0 hw [] p0 wUNIVERSAL wAPPLICATION wCONTEXT_SPECIFIC wPRIVATE wC clC h24 n0 (own_le O24) O24 HW) hZ (own_w hw 7) (own_w hw 6) (by decide) (by decide)) (g := (mkF m 32 #[.val (.int p0), .val (.long q1), .second, .val (.int p2), .val (.long q3), .second, .val (.int p4), .val (.long nn), .second, .val (.long nn), .second, .unset, .unset, .unset, .unset] [(.int p0), (.ref b24), (.ref b24)])) rfl (by rw [hml]; rfl) (argsL := [(.int p0)]) (rest := [(.ref b24), (.ref b24)]) (lenOf pd_4 rfl) rfl (by show 2 * 0 + _ ≤ _; exact Nat.le_of_eq rfl) (hb hby at_32) (fun _ _ => ⟨rfl, e24, (by decide : 1 + 0 ≤ _), (by decide : 2 + 0 ≤ _)⟩)
    dsimp only [Pt.U, Pt.locs, Pt.cells, Pt.slots] at X25 l25 y25 z25 st25 hQ25
    subst l25 y25 z25
    obtain ⟨rfl, N25q, e25⟩ := hQ25
    have N25 := Fr.app N0 N25q
    obtain ⟨_, _, ⟨T26, L26, k26, n26⟩, -, X26, hs226, hg226, ⟨Lc26, hQ26, l26, y26, z26⟩, st26⟩ := X25.specialBackS hx (y := (⟨"com/example/tagwright/tagwright/model/Tag", "<init>", "(Lcom/example/tagwright/tagwright/model/TagClass;J)V"⟩ : MethodName)) rfl hown (mvT hZ (own_w hw 11)) (mvT hZ (own_w hw 12)) (mvT hZ (own_w hw 13)) (by decide) (backOfS (W := 1) (rmI l Z a0 hw [] b24 (F1 p0 wUNIVERSAL wAPPLICATION wCONTEXT_SPECIFIC wPRIVATE wC clC) nn h24 n0 (own_le O24) O24 A24 g_b24 F_tagClass_b24 F_number_b24 (own_nn hv_nn) ((own_exa Z p0 wUNIVERSAL wAPPLICATION wCONTEXT_SPECIFIC wPRIVATE wC clC HW).ext O24.2)) hZ (own_w hw 13) (own_w hw 3) (by decide) (by decide)) (g := (mkF m 37 #[.val (.int p0), .val (.long q1), .second, .val (.int p2), .val (.long q3), .second, .val (.int p4), .val (.long nn), .second, .val (.long nn), .second, .unset, .unset, .unset, .unset] [(.long nn), (.ref (F1 p0 wUNIVERSAL wAPPLICATION wCONTEXT_SPECIFIC wPRIVATE wC clC)), (.ref b24), (.ref b24)])) rfl (by rw [hml]; rfl) (Steps.refl _) (a := b24) (argsL := [(.ref (F1 p0 wUNIVERSAL wAPPLICATION wCONTEXT_SPECIFIC wPRIVATE wC clC)), (.long nn)]) (rest := [(.ref b24)]) (lenOf pd_5 rfl) rfl (by show 2 * 0 + _ ≤ _; exact Nat.le_of_eq rfl) (hb hby at_37) (fun _ _ => ⟨rfl, e25, (by decide : 1 + 2 ≤ _), (by decide : 2 + 36 ≤ _)⟩)
    dsimp only [Pt.U, Pt.locs, Pt.cells, Pt.slots] at X26 l26 y26 z26 st26 hQ26 hs226 hg226
    subst l26 y26 z26
    have hS26 : s.Since T26.vm T26.heap.size := foldS hS0 (by rw [e25]; exact (Nat.le_trans (Nat.le_refl _) E24.1)) hs226 hg226
    have hZ26 : Z.Warmed39 (s.setVm T26.vm).vm := State.Warmed39.trans (t := (s.setVm s.vm)) hZ hs226.1
    have hown26 : (s.setVm T26.vm).vm.findClass "com/example/tagwright/tagwright/model/TagEqualsPinLaw" = some m.cls := by rw [show (s.setVm T26.vm).vm = T26.vm from rfl, hs226.1.alike.findClass]; exact hown
    obtain ⟨rfl, N26q, Kq26, Eq26, Fq26_tagClass, Fq26_number⟩ := hQ26
    have O26 := Old.keep O24 Kq26 (allS g_b24 all0)
    have K26 := Keep.trans K24 Kq26 (allS (Or.inr sz_b24) all0)
    have N26 := Fr.app N25 N26q
    refine own_by (W' := (T26.setTop (mkF m 44 #[.val (.int p0), .val (.long q1), .second, .val (.int p2), .val (.long q3), .second, .val (.int p4), .val (.long nn), .second, .val (.long nn), .second, .val (.ref b24), .unset, .unset, .unset] [(.int p4)]))) (fun t k => XS.iloadN X24.here hx rfl (hb hby at_31) rfl (st25 _ (XS.lload X25.here hx rfl (hb hby at_35) rfl (Steps.trans st26 (XS.astore X26.here hx rfl (hb hby at_40) rfl rfl (l' := #[.val (.int p0), .val (.long q1), .second, .val (.int p2), .val (.long q3), .second, .val (.int p4), .val (.long nn), .second, .val (.long nn), .second, .val (.ref b24), .unset, .unset, .unset]) rfl (XS.iload X26.here hx rfl (hb hby at_42) rfl k)))))) ?_
    refine own_by (W' := (T26.setTop (mkF m 48 #[.val (.int p0), .val (.long q1), .second, .val (.int p2), .val (.long q3), .second, .val (.int p4), .val (.long nn), .second, .val (.long nn), .second, .val (.ref b24), .val (.int (p4 &&& (3 : Int32))), .unset, .unset] []))) (fun t k => XS.iconst X26.here hx rfl (hb hby at_44) (XS.iand X26.here hx rfl (hb hby at_45) rfl (XS.istore X26.here hx rfl (hb hby at_46) rfl (l' := #[.val (.int p0), .val (.long q1), .second, .val (.int p2), .val (.long q3), .second, .val (.int p4), .val (.long nn), .second, .val (.long nn), .second, .val (.ref b24), .val (.int (p4 &&& (3 : Int32))), .unset, .unset]) rfl k))) ?_
    generalize hv_mode : (p4 &&& (3 : Int32)) = mode
    refine own_by (W' := (T26.setTop (mkF m 50 #[.val (.int p0), .val (.long q1), .second, .val (.int p2), .val (.long q3), .second, .val (.int p4), .val (.long nn), .second, .val (.long nn), .second, .val (.ref b24), .val (.int mode), .unset, .unset] [(.int mode)]))) (fun t k => XS.iload X26.here hx rfl (hb hby at_48) rfl k) ?_
    by_cases hc27 : mode = (0 : Int32)
    ·
      refine own_by (W' := (T26.setTop (mkF m 136 #[.val (.int p0), .val (.long q1), .second, .val (.int p2), .val (.long q3), .second, .val (.int p4), .val (.long nn), .second, .val (.long nn), .second, .val (.ref b24), .val (.int mode), .val .null, .val (.int (0 : Int32))] []))) (fun t k => XS.ifNo X26.here hx rfl (hb hby at_50) rfl ((if0 _ _).trans (teq hc27).2) (XS.aconstNull X26.here hx rfl (hb hby at_53) (XS.astore X26.here hx rfl (hb hby at_54) rfl rfl (l' := #[.val (.int p0), .val (.long q1), .second, .val (.int p2), .val (.long q3), .second, .val (.int p4), .val (.long nn), .second, .val (.long nn), .second, .val (.ref b24), .val (.int mode), .val .null, .unset]) rfl (XS.iconst X26.here hx rfl (hb hby at_56) (XS.istore X26.here hx rfl (hb hby at_57) rfl (l' := #[.val (.int p0), .val (.long q1), .second, .val (.int p2), .val (.long q3), .second, .val (.int p4), .val (.long nn), .second, .val (.long nn), .second, .val (.ref b24), .val (.int mode), .val .null, .val (.int (0 : Int32))]) rfl (XS.goto X26.here hx rfl (pc0 := 59) (pc' := 136) rfl (hb hby at_59) (by decide) (by decide) k)))))) ?_
      obtain ⟨cq28, kq28, q28a, q28b, q28c⟩ := isOf hZ26 rfl Eq26
      obtain ⟨_, _, ⟨T28, L28, k28, n28⟩, -, X28, ⟨Lc28, hQ28, l28, y28, z28⟩, st28⟩ := X26.virtualBack hx (y := (⟨"com/example/tagwright/tagwright/model/Tag", "equals", "(Ljava/lang/Object;)Z"⟩ : MethodName)) (z := (⟨"com/example/tagwright/tagwright/model/Tag", "equals", "(Ljava/lang/Object;)Z"⟩ : MethodName)) hown26 (mvT hZ26 (own_w hw 35)) (mvT hZ26 (own_w hw 36)) (notFace_of_selects (args := #[]) (mvT hZ26 (own_w hw 38))) (mvT hZ26 (own_w hw 38)) (mvT hZ26 (own_w hw 37)) (by decide) (backOf (W := 0) (rmE0 l Z a0 hw [] b24 T26.heap n0 (own_le O26) ) hZ26 (own_w hw 39) (own_w hw 3) (by decide) (by decide)) q28a q28c (g := (mkF m 140 #[.val (.int p0), .val (.long q1), .second, .val (.int p2), .val (.long q3), .second, .val (.int p4), .val (.long nn), .second, .val (.long nn), .second, .val (.ref b24), .val (.int mode), .val .null, .val (.int (0 : Int32))] [.null, (.ref b24)])) rfl (by rw [hml]; rfl) (Steps.refl _) (argsL := [.null]) (rest := []) (lenOf pd_6 rfl) rfl (by show 2 * 0 + _ ≤ _; exact Nat.le_of_eq rfl) (hb hby at_140) (fun _ _ => ⟨rfl, rfl, (by decide : 3 + 0 ≤ _), (by decide : 38 + 0 ≤ _)⟩)
      dsimp only [Pt.U, Pt.locs, Pt.cells, Pt.slots] at X28 l28 y28 z28 st28 hQ28
      subst l28 y28 z28
      obtain ⟨rfl, N28q, e28⟩ := hQ28
      have N28 := Fr.app N26 N28q
      refine own_by (W' := (T28.setTop (mkF m 149 #[.val (.int p0), .val (.long q1), .second, .val (.int p2), .val (.long q3), .second, .val (.int p4), .val (.long nn), .second, .val (.long nn), .second, .val (.ref b24), .val (.int mode), .val .null, .val (.int (0 : Int32))] [(.int (1 : Int32))]))) (fun t k => XS.aload X26.here hx rfl (hb hby at_136) rfl rfl (XS.aload X26.here hx rfl (hb hby at_138) rfl rfl (Steps.trans st28 (XS.iload X28.here hx rfl (hb hby at_143) rfl (XS.icmpNo X28.here hx rfl (hb hby at_145) rfl (teq (rfl : (0 : Int32) = (0 : Int32))).2 (XS.iconst X28.here hx rfl (hb hby at_148) k)))))) ?_
      obtain ⟨fs, hr, hrun, hended, hEnd⟩ := Jvm.Stand.leaveW (s := s) (vm₁ := T26.vm) X28 hS26 (by rw [e28]; exact (Nat.le_refl _)) (v := some (.int (1 : Int32))) (fun h => by rw [Bd.returns] at h; cases h)
      refine own_by (W' := (T28.setTop (mkF m 153 #[.val (.int p0), .val (.long q1), .second, .val (.int p2), .val (.long q3), .second, .val (.int p4), .val (.long nn), .second, .val (.long nn), .second, .val (.ref b24), .val (.int mode), .val .null, .val (.int (0 : Int32))] [(.int (1 : Int32))]))) (fun t k => XS.goto X28.here hx rfl (pc0 := 149) (pc' := 153) rfl (hb hby at_149) (by decide) (by decide) k) ?_
      refine ⟨_, _, retOut X28 hx Bd.returns rfl (Or.inl ⟨rfl, Or.inr (Or.inl rfl), _, rfl⟩) (hb hby at_153) hr, hrun, hended, _, _, rfl, ?_, hEnd.1, hEnd.2.1, hEnd.2.2.1, hEnd.2.2.2.mono (by decide) (by decide)⟩
      exact ⟨rfl, N28⟩
    ·
      refine own_by (W' := (T26.setTop (mkF m 65 #[.val (.int p0), .val (.long q1), .second, .val (.int p2), .val (.long q3), .second, .val (.int p4), .val (.long nn), .second, .val (.long nn), .second, .val (.ref b24), .val (.int mode), .unset, .unset] [(.int (1 : Int32)), (.int mode)]))) (fun t k => XS.ifYes X26.here hx rfl (pc0 := 50) (pc' := 62) rfl (hb hby at_50) rfl ((if0 _ _).trans (feq hc27).2) (by decide) (by decide) (XS.iload X26.here hx rfl (hb hby at_62) rfl (XS.iconst X26.here hx rfl (hb hby at_64) k))) ?_
      by_cases hc29 : mode = (1 : Int32)
      ·
        obtain ⟨_, _, ⟨T30, L30, k30, n30⟩, -, X30, ⟨Lc30, hQ30, l30, y30, z30⟩, st30⟩ := Jvm.LawKit.callS X26 hx (y := (⟨"java/lang/Long", "valueOf", "(J)Ljava/lang/Long;"⟩ : MethodName)) hown26 (mvT hZ26 (own_w hw 44)) (mvT hZ26 (own_w hw 45)) (mvT hZ26 (own_w hw 46)) (mvT hZ26 (own_w hw 47)) (by decide) (backOf (W := 0) (rmV l Z a0 hw [] nn wUNIVERSAL wAPPLICATION wCONTEXT_SPECIFIC wPRIVATE wC clC T26.heap n0 (own_le O26) O26 HW (own_nn hv_nn)) hZ26 (own_w hw 47) (own_w hw 46) (by decide) (by decide)) (g := (mkF m 70 #[.val (.int p0), .val (.long q1), .second, .val (.int p2), .val (.long q3), .second, .val (.int p4), .val (.long nn), .second, .val (.long nn), .second, .val (.ref b24), .val (.int mode), .unset, .unset] [(.long nn)])) rfl (by rw [hml]; rfl) (argsL := [(.long nn)]) (rest := []) (lenOf pd_7 rfl) rfl (by show 2 * 0 + _ ≤ _; exact Nat.le_of_eq rfl) (hb hby at_70) (fun _ _ => ⟨rfl, rfl, (by decide : 3 + 1 ≤ _), (by decide : 38 + 1 ≤ _)⟩)
        dsimp only [Pt.U, Pt.locs, Pt.cells, Pt.slots] at X30 l30 y30 z30 st30 hQ30
        subst l30 y30 z30
        obtain ⟨fb30, rfl, N30q, Kq30, Eq30⟩ := hQ30
        have O30 := Old.keep O26 Kq30 all0
        have K30 := Keep.trans K26 Kq30 all0
        have N30 := Fr.app N26 N30q
        refine own_by (W' := (T30.setTop (mkF m 78 #[.val (.int p0), .val (.long q1), .second, .val (.int p2), .val (.long q3), .second, .val (.int p4), .val (.long nn), .second, .val (.long nn), .second, .val (.ref b24), .val (.int mode), .val (.ref fb30), .val (.int (0 : Int32))] []))) (fun t k => XS.icmpNo X26.here hx rfl (hb hby at_65) rfl (teq hc29).2 (XS.lload X26.here hx rfl (hb hby at_68) rfl (st30 _ (XS.astore X30.here hx rfl (hb hby at_73) rfl rfl (l' := #[.val (.int p0), .val (.long q1), .second, .val (.int p2), .val (.long q3), .second, .val (.int p4), .val (.long nn), .second, .val (.long nn), .second, .val (.ref b24), .val (.int mode), .val (.ref fb30), .unset]) rfl (XS.iconst X30.here hx rfl (hb hby at_75) (XS.istore X30.here hx rfl (hb hby at_76) rfl (l' := #[.val (.int p0), .val (.long q1), .second, .val (.int p2), .val (.long q3), .second, .val (.int p4), .val (.long nn), .second, .val (.long nn), .second, .val (.ref b24), .val (.int mode), .val (.ref fb30), .val (.int (0 : Int32))]) rfl k)))))) ?_
        obtain ⟨cq31, kq31, q31a, q31b, q31c⟩ := isOf hZ26 rfl (Eq26.keep Kq30)
        obtain ⟨_, _, ⟨T31, L31, k31, n31⟩, -, X31, ⟨Lc31, hQ31, l31, y31, z31⟩, st31⟩ := X30.virtualBack hx (y := (⟨"com/example/tagwright/tagwright/model/Tag", "equals", "(Ljava/lang/Object;)Z"⟩ : MethodName)) (z := (⟨"com/example/tagwright/tagwright/model/Tag", "equals", "(Ljava/lang/Object;)Z"⟩ : MethodName)) hown26 (mvT hZ26 (own_w hw 35)) (mvT hZ26 (own_w hw 36)) (notFace_of_selects (args := #[]) (mvT hZ26 (own_w hw 38))) (mvT hZ26 (own_w hw 38)) (mvT hZ26 (own_w hw 37)) (by decide) (backOf (W := 0) (rmE1 l Z a0 hw [] b24 fb30 T30.heap n0 (own_le O30) Eq30) hZ26 (own_w hw 39) (own_w hw 3) (by decide) (by decide)) q31a q31c (g := (mkF m 140 #[.val (.int p0), .val (.long q1), .second, .val (.int p2), .val (.long q3), .second, .val (.int p4), .val (.long nn), .second, .val (.long nn), .second, .val (.ref b24), .val (.int mode), .val (.ref fb30), .val (.int (0 : Int32))] [(.ref fb30), (.ref b24)])) rfl (by rw [hml]; rfl) (Steps.refl _) (argsL := [(.ref fb30)]) (rest := []) (lenOf pd_6 rfl) rfl (by show 2 * 0 + _ ≤ _; exact Nat.le_of_eq rfl) (hb hby at_140) (fun _ _ => ⟨rfl, rfl, (by decide : 4 + 0 ≤ _), (by decide : 39 + 0 ≤ _)⟩)
        dsimp only [Pt.U, Pt.locs, Pt.cells, Pt.slots] at X31 l31 y31 z31 st31 hQ31
        subst l31 y31 z31
        obtain ⟨rfl, N31q, e31⟩ := hQ31
        have N31 := Fr.app N30 N31q
        refine own_by (W' := (T31.setTop (mkF m 148 #[.val (.int p0), .val (.long q1), .second, .val (.int p2), .val (.long q3), .second, .val (.int p4), .val (.long nn), .second, .val (.long nn), .second, .val (.ref b24), .val (.int mode), .val (.ref fb30), .val (.int (0 : Int32))] []))) (fun t k => XS.goto X30.here hx rfl (pc0 := 78) (pc' := 136) rfl (hb hby at_78) (by decide) (by decide) (XS.aload X30.here hx rfl (hb hby at_136) rfl rfl (XS.aload X30.here hx rfl (hb hby at_138) rfl rfl (Steps.trans st31 (XS.iload X31.here hx rfl (hb hby at_143) rfl (XS.icmpNo X31.here hx rfl (hb hby at_145) rfl (teq (rfl : (0 : Int32) = (0 : Int32))).2 k)))))) ?_
        obtain ⟨fs, hr, hrun, hended, hEnd⟩ := Jvm.Stand.leaveW (s := s) (vm₁ := T26.vm) X31 hS26 (by rw [e31]; exact (Nat.le_trans (Nat.le_refl _) Kq30.1)) (v := some (.int (1 : Int32))) (fun h => by rw [Bd.returns] at h; cases h)
        refine own_by (W' := (T31.setTop (mkF m 153 #[.val (.int p0), .val (.long q1), .second, .val (.int p2), .val (.long q3), .second, .val (.int p4), .val (.long nn), .second, .val (.long nn), .second, .val (.ref b24), .val (.int mode), .val (.ref fb30), .val (.int (0 : Int32))] [(.int (1 : Int32))]))) (fun t k => XS.iconst X31.here hx rfl (hb hby at_148) (XS.goto X31.here hx rfl (pc0 := 149) (pc' := 153) rfl (hb hby at_149) (by decide) (by decide) k)) ?_
        refine ⟨_, _, retOut X31 hx Bd.returns rfl (Or.inl ⟨rfl, Or.inr (Or.inl rfl), _, rfl⟩) (hb hby at_153) hr, hrun, hended, _, _, rfl, ?_, hEnd.1, hEnd.2.1, hEnd.2.2.1, hEnd.2.2.2.mono (by decide) (by decide)⟩
        exact ⟨rfl, N31⟩
      ·
        refine own_by (W' := (T26.setTop (mkF m 84 #[.val (.int p0), .val (.long q1), .second, .val (.int p2), .val (.long q3), .second, .val (.int p4), .val (.long nn), .second, .val (.long nn), .second, .val (.ref b24), .val (.int mode), .unset, .unset] [(.int (2 : Int32)), (.int mode)]))) (fun t k => XS.icmpYes X26.here hx rfl (pc0 := 65) (pc' := 81) rfl (hb hby at_65) rfl (feq hc29).2 (by decide) (by decide) (XS.iload X26.here hx rfl (hb hby at_81) rfl (XS.iconst X26.here hx rfl (hb hby at_83) k))) ?_
        by_cases hc32 : mode = (2 : Int32)
        ·
          refine own_by (W' := (T26.setTop (mkF m 136 #[.val (.int p0), .val (.long q1), .second, .val (.int p2), .val (.long q3), .second, .val (.int p4), .val (.long nn), .second, .val (.long nn), .second, .val (.ref b24), .val (.int mode), .val (.ref b24), .val (.int (1 : Int32))] []))) (fun t k => XS.icmpNo X26.here hx rfl (hb hby at_84) rfl (teq hc32).2 (XS.aload X26.here hx rfl (hb hby at_87) rfl rfl (XS.astore X26.here hx rfl (hb hby at_89) rfl rfl (l' := #[.val (.int p0), .val (.long q1), .second, .val (.int p2), .val (.long q3), .second, .val (.int p4), .val (.long nn), .second, .val (.long nn), .second, .val (.ref b24), .val (.int mode), .val (.ref b24), .unset]) rfl (XS.iconst X26.here hx rfl (hb hby at_91) (XS.istore X26.here hx rfl (hb hby at_92) rfl (l' := #[.val (.int p0), .val (.long q1), .second, .val (.int p2), .val (.long q3), .second, .val (.int p4), .val (.long nn), .second, .val (.long nn), .second, .val (.ref b24), .val (.int mode), .val (.ref b24), .val (.int (1 : Int32))]) rfl (XS.goto X26.here hx rfl (pc0 := 94) (pc' := 136) rfl (hb hby at_94) (by decide) (by decide) k)))))) ?_
          obtain ⟨cq33, kq33, q33a, q33b, q33c⟩ := isOf hZ26 rfl Eq26
          obtain ⟨_, _, ⟨T33, L33, k33, n33⟩, -, X33, ⟨Lc33, hQ33, l33, y33, z33⟩, st33⟩ := X26.virtualBack hx (y := (⟨"com/example/tagwright/tagwright/model/Tag", "equals", "(Ljava/lang/Object;)Z"⟩ : MethodName)) (z := (⟨"com/example/tagwright/tagwright/model/Tag", "equals", "(Ljava/lang/Object;)Z"⟩ : MethodName)) hown26 (mvT hZ26 (own_w hw 35)) (mvT hZ26 (own_w hw 36)) (notFace_of_selects (args := #[]) (mvT hZ26 (own_w hw 38))) (mvT hZ26 (own_w hw 38)) (mvT hZ26 (own_w hw 37)) (by decide) (backOf (W := 0) (rmE2 l Z a0 hw [] b24 b24 (F1 p0 wUNIVERSAL wAPPLICATION wCONTEXT_SPECIFIC wPRIVATE wC clC) nn (F1 p0 wUNIVERSAL wAPPLICATION wCONTEXT_SPECIFIC wPRIVATE wC clC) nn T26.heap n0 (own_le O26) Eq26 Fq26_tagClass Fq26_number Fq26_tagClass Fq26_number) hZ26 (own_w hw 39) (own_w hw 3) (by decide) (by decide)) q33a q33c (g := (mkF m 140 #[.val (.int p0), .val (.long q1), .second, .val (.int p2), .val (.long q3), .second, .val (.int p4), .val (.long nn), .second, .val (.long nn), .second, .val (.ref b24), .val (.int mode), .val (.ref b24), .val (.int (1 : Int32))] [(.ref b24), (.ref b24)])) rfl (by rw [hml]; rfl) (Steps.refl _) (argsL := [(.ref b24)]) (rest := []) (lenOf pd_6 rfl) rfl (by show 2 * 0 + _ ≤ _; exact Nat.le_of_eq rfl) (hb hby at_140) (fun _ _ => ⟨rfl, rfl, (by decide : 3 + 0 ≤ _), (by decide : 38 + 0 ≤ _)⟩)
          dsimp only [Pt.U, Pt.locs, Pt.cells, Pt.slots] at X33 l33 y33 z33 st33 hQ33
          subst l33 y33 z33
          obtain ⟨rfl, N33q, e33⟩ := hQ33
          have N33 := Fr.app N26 N33q
          have ho34 : (FE2 b24 b24 (F1 p0 wUNIVERSAL wAPPLICATION wCONTEXT_SPECIFIC wPRIVATE wC clC) nn (F1 p0 wUNIVERSAL wAPPLICATION wCONTEXT_SPECIFIC wPRIVATE wC clC) nn) = (1 : Int32) := by rw [FE2, if_pos rfl, if_pos rfl]
          refine own_by (W' := (T33.setTop (mkF m 149 #[.val (.int p0), .val (.long q1), .second, .val (.int p2), .val (.long q3), .second, .val (.int p4), .val (.long nn), .second, .val (.long nn), .second, .val (.ref b24), .val (.int mode), .val (.ref b24), .val (.int (1 : Int32))] [(.int (1 : Int32))]))) (fun t k => XS.aload X26.here hx rfl (hb hby at_136) rfl rfl (XS.aload X26.here hx rfl (hb hby at_138) rfl rfl (Steps.trans st33 (XS.iload X33.here hx rfl (hb hby at_143) rfl (XS.icmpNo X33.here hx rfl (hb hby at_145) rfl (teq ho34).2 (XS.iconst X33.here hx rfl (hb hby at_148) k)))))) ?_
          obtain ⟨fs, hr, hrun, hended, hEnd⟩ := Jvm.Stand.leaveW (s := s) (vm₁ := T26.vm) X33 hS26 (by rw [e33]; exact (Nat.le_refl _)) (v := some (.int (1 : Int32))) (fun h => by rw [Bd.returns] at h; cases h)
          refine own_by (W' := (T33.setTop (mkF m 153 #[.val (.int p0), .val (.long q1), .second, .val (.int p2), .val (.long q3), .second, .val (.int p4), .val (.long nn), .second, .val (.long nn), .second, .val (.ref b24), .val (.int mode), .val (.ref b24), .val (.int (1 : Int32))] [(.int (1 : Int32))]))) (fun t k => XS.goto X33.here hx rfl (pc0 := 149) (pc' := 153) rfl (hb hby at_149) (by decide) (by decide) k) ?_
          refine ⟨_, _, retOut X33 hx Bd.returns rfl (Or.inl ⟨rfl, Or.inr (Or.inl rfl), _, rfl⟩) (hb hby at_153) hr, hrun, hended, _, _, rfl, ?_, hEnd.1, hEnd.2.1, hEnd.2.2.1, hEnd.2.2.2.mono (by decide) (by decide)⟩
          exact ⟨rfl, N33⟩
        ·
          obtain ⟨T35, h35, X35, e35, E35, A35, D35, -, st35⟩ := newO X26 hx hZ26 hown26 (own_w hw 1) (own_w hw 2) (own_w hw 3) rfl (g := (mkF m 97 #[.val (.int p0), .val (.long q1), .second, .val (.int p2), .val (.long q3), .second, .val (.int p4), .val (.long nn), .second, .val (.long nn), .second, .val (.ref b24), .val (.int mode), .unset, .unset] [])) rfl (hb hby at_97) (by decide) (by decide)
          obtain ⟨b35, g35⟩ : ∃ z, z = T26.heap.size := ⟨_, rfl⟩
          rw [← g35] at A35 D35 st35
          have g_b35 : n0 ≤ b35 := Nat.le_trans (own_le O26) (Nat.le_of_eq g35.symm)
          have sz_b35 : h0.size ≤ b35 := Nat.le_trans K26.1 (Nat.le_of_eq g35.symm)
          have ne_b24_b35 : b24 ≠ b35 := Nat.ne_of_lt (Nat.lt_of_lt_of_le Eq26.lt (Nat.le_of_eq g35.symm))
          have O35 := O26.ext E35
          have K35 := Keep.ext K26 E35
          have F_tagClass_b35 : Fld Z h35 b35 "com/example/tagwright/tagwright/model/Tag" "tagClass" "Lcom/example/tagwright/tagwright/model/TagClass;" .null := D35 (Or.inr (own_w hw 32)) (ty := (.object "com/example/tagwright/tagwright/model/TagClass")) (by decide)
          have F_number_b35 : Fld Z h35 b35 "com/example/tagwright/tagwright/model/Tag" "number" "J" (.long (0 : Int64)) := D35 (Or.inr (own_w hw 34)) (ty := .long) (by decide)
          obtain ⟨_, _, ⟨T36, L36, k36, n36⟩, -, X36, ⟨Lc36, hQ36, l36, y36, z36⟩, st36⟩ := Jvm.LawKit.callS X35 hx (y := (⟨"com/example/tagwright/tagwright/model/TagEqualsPinLaw", "cls", "(I)Lcom/example/tagwright/tagwright/model/TagClass;"⟩ : MethodName)) hown26 (mvT hZ26 (own_w hw 4)) (mvT hZ26 (own_w hw 5)) (mvT hZ26 (own_w hw 6)) (mvT hZ26 (own_w hw 7)) (by decide) (backOf (W := 2) (rm1 l Z a0 hw [] p2 wUNIVERSAL wAPPLICATION wCONTEXT_SPECIFIC wPRIVATE wC clC h35 n0 (own_le O35) O35 HW) hZ26 (own_w hw 7) (own_w hw 6) (by decide) (by decide)) (g := (mkF m 102 #[.val (.int p0), .val (.long q1), .second, .val (.int p2), .val (.long q3), .second, .val (.int p4), .val (.long nn), .second, .val (.long nn), .second, .val (.ref b24), .val (.int mode), .unset, .unset] [(.int p2), (.ref b35), (.ref b35)])) rfl (by rw [hml]; rfl) (argsL := [(.int p2)]) (rest := [(.ref b35), (.ref b35)]) (lenOf pd_4 rfl) rfl (by show 2 * 0 + _ ≤ _; exact Nat.le_of_eq rfl) (hb hby at_102) (fun _ _ => ⟨rfl, e35, (by decide : 4 + 0 ≤ _), (by decide : 40 + 0 ≤ _)⟩)
          dsimp only [Pt.U, Pt.locs, Pt.cells, Pt.slots] at X36 l36 y36 z36 st36 hQ36
          subst l36 y36 z36
          obtain ⟨rfl, N36q, e36⟩ := hQ36
          have N36 := Fr.app N26 N36q
          refine own_by (W' := (T36.setTop (mkF m 107 #[.val (.int p0), .val (.long q1), .second, .val (.int p2), .val (.long q3), .second, .val (.int p4), .val (.long nn), .second, .val (.long nn), .second, .val (.ref b24), .val (.int mode), .unset, .unset] [(.long nn), (.ref (F1 p2 wUNIVERSAL wAPPLICATION wCONTEXT_SPECIFIC wPRIVATE wC clC)), (.ref b35), (.ref b35)]))) (fun t k => XS.icmpYes X26.here hx rfl (pc0 := 84) (pc' := 97) rfl (hb hby at_84) rfl (feq hc32).2 (by decide) (by decide) (st35 _ (XS.dup X35.here hx rfl (hb hby at_100) rfl rfl (XS.iloadN X35.here hx rfl (hb hby at_101) rfl (st36 _ (XS.lload X36.here hx rfl (hb hby at_105) rfl k)))))) ?_
          obtain ⟨_, _, ⟨T37, L37, k37, n37⟩, -, X37, hs237, hg237, ⟨Lc37, hQ37, l37, y37, z37⟩, st37⟩ := X36.specialBackS hx (y := (⟨"com/example/tagwright/tagwright/model/Tag", "<init>", "(Lcom/example/tagwright/tagwright/model/TagClass;J)V"⟩ : MethodName)) rfl hown26 (mvT hZ26 (own_w hw 11)) (mvT hZ26 (own_w hw 12)) (mvT hZ26 (own_w hw 13)) (by decide) (backOfS (W := 1) (rmI l Z a0 hw [] b35 (F1 p2 wUNIVERSAL wAPPLICATION wCONTEXT_SPECIFIC wPRIVATE wC clC) nn h35 n0 (own_le O35) O35 A35 g_b35 F_tagClass_b35 F_number_b35 (own_nn hv_nn) ((own_exa Z p2 wUNIVERSAL wAPPLICATION wCONTEXT_SPECIFIC wPRIVATE wC clC HW).ext O35.2)) hZ26 (own_w hw 13) (own_w hw 3) (by decide) (by decide)) (g := (mkF m 107 #[.val (.int p0), .val (.long q1), .second, .val (.int p2), .val (.long q3), .second, .val (.int p4), .val (.long nn), .second, .val (.long nn), .second, .val (.ref b24), .val (.int mode), .unset, .unset] [(.long nn), (.ref (F1 p2 wUNIVERSAL wAPPLICATION wCONTEXT_SPECIFIC wPRIVATE wC clC)), (.ref b35), (.ref b35)])) rfl (by rw [hml]; rfl) (Steps.refl _) (a := b35) (argsL := [(.ref (F1 p2 wUNIVERSAL wAPPLICATION wCONTEXT_SPECIFIC wPRIVATE wC clC)), (.long nn)]) (rest := [(.ref b35)]) (lenOf pd_5 rfl) rfl (by show 2 * 0 + _ ≤ _; exact Nat.le_of_eq rfl) (hb hby at_107) (fun _ _ => ⟨rfl, e36, (by decide : 4 + 2 ≤ _), (by decide : 40 + 36 ≤ _)⟩)
          dsimp only [Pt.U, Pt.locs, Pt.cells, Pt.slots] at X37 l37 y37 z37 st37 hQ37 hs237 hg237
          subst l37 y37 z37
          have hS37 : s.Since T37.vm T37.heap.size := foldS hS26 (by rw [e36]; exact (Nat.le_trans (Nat.le_refl _) E35.1)) hs237 hg237
          have hZ37 : Z.Warmed39 (s.setVm T37.vm).vm := State.Warmed39.trans (t := (s.setVm T26.vm)) hZ26 hs237.1
          have hown37 : (s.setVm T37.vm).vm.findClass "com/example/tagwright/tagwright/model/TagEqualsPinLaw" = some m.cls := by rw [show (s.setVm T37.vm).vm = T37.vm from rfl, hs237.1.alike.findClass]; exact hown26
          obtain ⟨rfl, N37q, Kq37, Eq37, Fq37_tagClass, Fq37_number⟩ := hQ37
          have O37 := Old.keep O35 Kq37 (allS g_b35 all0)
          have K37 := Keep.trans K35 Kq37 (allS (Or.inr sz_b35) all0)
          have N37 := Fr.app N36 N37q
          refine own_by (W' := (T37.setTop (mkF m 116 #[.val (.int p0), .val (.long q1), .second, .val (.int p2), .val (.long q3), .second, .val (.int p4), .val (.long nn), .second, .val (.long nn), .second, .val (.ref b24), .val (.int mode), .val (.ref b35), .unset] [(.int p2), (.int (p0 &&& (3 : Int32)))]))) (fun t k => Steps.trans st37 (XS.astore X37.here hx rfl (hb hby at_110) rfl rfl (l' := #[.val (.int p0), .val (.long q1), .second, .val (.int p2), .val (.long q3), .second, .val (.int p4), .val (.long nn), .second, .val (.long nn), .second, .val (.ref b24), .val (.int mode), .val (.ref b35), .unset]) rfl (XS.iloadN X37.here hx rfl (hb hby at_112) rfl (XS.iconst X37.here hx rfl (hb hby at_113) (XS.iand X37.here hx rfl (hb hby at_114) rfl (XS.iloadN X37.here hx rfl (hb hby at_115) rfl k)))))) ?_
          refine own_by (W' := (T37.setTop (mkF m 118 #[.val (.int p0), .val (.long q1), .second, .val (.int p2), .val (.long q3), .second, .val (.int p4), .val (.long nn), .second, .val (.long nn), .second, .val (.ref b24), .val (.int mode), .val (.ref b35), .unset] [(.int (p2 &&& (3 : Int32))), (.int (p0 &&& (3 : Int32)))]))) (fun t k => XS.iconst X37.here hx rfl (hb hby at_116) (XS.iand X37.here hx rfl (hb hby at_117) rfl k)) ?_
          by_cases hc38 : (p0 &&& (3 : Int32)) = (p2 &&& (3 : Int32))
          ·
            refine own_by (W' := (T37.setTop (mkF m 130 #[.val (.int p0), .val (.long q1), .second, .val (.int p2), .val (.long q3), .second, .val (.int p4), .val (.long nn), .second, .val (.long nn), .second, .val (.ref b24), .val (.int mode), .val (.ref b35), .unset] [(.int (1 : Int32))]))) (fun t k => XS.icmpNo X37.here hx rfl (hb hby at_118) rfl (teq hc38).2 (XS.lload X37.here hx rfl (hb hby at_121) rfl (XS.lload X37.here hx rfl (hb hby at_123) rfl (XS.lcmp X37.here hx rfl (hb hby at_125) rfl (XS.ifNo X37.here hx rfl (hb hby at_126) rfl (own_lceq (rfl : nn = nn)).2 (XS.iconst X37.here hx rfl (hb hby at_129) k)))))) ?_
            obtain ⟨cq39, kq39, q39a, q39b, q39c⟩ := isOf hZ37 rfl ((Eq26.ext E35).keep Kq37)
            obtain ⟨_, _, ⟨T39, L39, k39, n39⟩, -, X39, ⟨Lc39, hQ39, l39, y39, z39⟩, st39⟩ := X37.virtualBack hx (y := (⟨"com/example/tagwright/tagwright/model/Tag", "equals", "(Ljava/lang/Object;)Z"⟩ : MethodName)) (z := (⟨"com/example/tagwright/tagwright/model/Tag", "equals", "(Ljava/lang/Object;)Z"⟩ : MethodName)) hown37 (mvT hZ37 (own_w hw 35)) (mvT hZ37 (own_w hw 36)) (notFace_of_selects (args := #[]) (mvT hZ37 (own_w hw 38))) (mvT hZ37 (own_w hw 38)) (mvT hZ37 (own_w hw 37)) (by decide) (backOf (W := 0) (rmE2 l Z a0 hw [] b24 b35 (F1 p0 wUNIVERSAL wAPPLICATION wCONTEXT_SPECIFIC wPRIVATE wC clC) nn (F1 p2 wUNIVERSAL wAPPLICATION wCONTEXT_SPECIFIC wPRIVATE wC clC) nn T37.heap n0 (own_le O37) Eq37 ((Fq26_tagClass.ext E35).keep Kq37 (ninS ne_b24_b35 nin0)) ((Fq26_number.ext E35).keep Kq37 (ninS ne_b24_b35 nin0)) Fq37_tagClass Fq37_number) hZ37 (own_w hw 39) (own_w hw 3) (by decide) (by decide)) q39a q39c (g := (mkF m 140 #[.val (.int p0), .val (.long q1), .second, .val (.int p2), .val (.long q3), .second, .val (.int p4), .val (.long nn), .second, .val (.long nn), .second, .val (.ref b24), .val (.int mode), .val (.ref b35), .val (.int (1 : Int32))] [(.ref b35), (.ref b24)])) rfl (by rw [hml]; rfl) (Steps.refl _) (argsL := [(.ref b35)]) (rest := []) (lenOf pd_6 rfl) rfl (by show 2 * 0 + _ ≤ _; exact Nat.le_of_eq rfl) (hb hby at_140) (fun _ _ => ⟨rfl, rfl, (by decide : 6 + 0 ≤ _), (by decide : 76 + 0 ≤ _)⟩)
            dsimp only [Pt.U, Pt.locs, Pt.cells, Pt.slots] at X39 l39 y39 z39 st39 hQ39
            subst l39 y39 z39
            obtain ⟨rfl, N39q, e39⟩ := hQ39
            have N39 := Fr.app N37 N39q
            refine own_by (W' := (T39.setTop (mkF m 145 #[.val (.int p0), .val (.long q1), .second, .val (.int p2), .val (.long q3), .second, .val (.int p4), .val (.long nn), .second, .val (.long nn), .second, .val (.ref b24), .val (.int mode), .val (.ref b35), .val (.int (1 : Int32))] [(.int (1 : Int32)), (.int (FE2 b24 b35 (F1 p0 wUNIVERSAL wAPPLICATION wCONTEXT_SPECIFIC wPRIVATE wC clC) nn (F1 p2 wUNIVERSAL wAPPLICATION wCONTEXT_SPECIFIC wPRIVATE wC clC) nn))]))) (fun t k => XS.goto X37.here hx rfl (pc0 := 130) (pc' := 134) rfl (hb hby at_130) (by decide) (by decide) (XS.istore X37.here hx rfl (hb hby at_134) rfl (l' := #[.val (.int p0), .val (.long q1), .second, .val (.int p2), .val (.long q3), .second, .val (.int p4), .val (.long nn), .second, .val (.long nn), .second, .val (.ref b24), .val (.int mode), .val (.ref b35), .val (.int (1 : Int32))]) rfl (XS.aload X37.here hx rfl (hb hby at_136) rfl rfl (XS.aload X37.here hx rfl (hb hby at_138) rfl rfl (Steps.trans st39 (XS.iload X39.here hx rfl (hb hby at_143) rfl k)))))) ?_
            have ho40 : (FE2 b24 b35 (F1 p0 wUNIVERSAL wAPPLICATION wCONTEXT_SPECIFIC wPRIVATE wC clC) nn (F1 p2 wUNIVERSAL wAPPLICATION wCONTEXT_SPECIFIC wPRIVATE wC clC) nn) = (1 : Int32) := by rw [FE2, if_pos ((own_inj Z _ _ wUNIVERSAL wAPPLICATION wCONTEXT_SPECIFIC wPRIVATE wC clC HW).mpr hc38.symm), if_pos rfl]
            obtain ⟨fs, hr, hrun, hended, hEnd⟩ := Jvm.Stand.leaveW (s := s) (vm₁ := T37.vm) X39 hS37 (by rw [e39]; exact (Nat.le_refl _)) (v := some (.int (1 : Int32))) (fun h => by rw [Bd.returns] at h; cases h)
            refine own_by (W' := (T39.setTop (mkF m 153 #[.val (.int p0), .val (.long q1), .second, .val (.int p2), .val (.long q3), .second, .val (.int p4), .val (.long nn), .second, .val (.long nn), .second, .val (.ref b24), .val (.int mode), .val (.ref b35), .val (.int (1 : Int32))] [(.int (1 : Int32))]))) (fun t k => XS.icmpNo X39.here hx rfl (hb hby at_145) rfl (teq ho40).2 (XS.iconst X39.here hx rfl (hb hby at_148) (XS.goto X39.here hx rfl (pc0 := 149) (pc' := 153) rfl (hb hby at_149) (by decide) (by decide) k))) ?_
            refine ⟨_, _, retOut X39 hx Bd.returns rfl (Or.inl ⟨rfl, Or.inr (Or.inl rfl), _, rfl⟩) (hb hby at_153) hr, hrun, hended, _, _, rfl, ?_, hEnd.1, hEnd.2.1, hEnd.2.2.1, hEnd.2.2.2.mono (by decide) (by decide)⟩
            exact ⟨rfl, N39⟩
          ·
            obtain ⟨cq41, kq41, q41a, q41b, q41c⟩ := isOf hZ37 rfl ((Eq26.ext E35).keep Kq37)
            obtain ⟨_, _, ⟨T41, L41, k41, n41⟩, -, X41, ⟨Lc41, hQ41, l41, y41, z41⟩, st41⟩ := X37.virtualBack hx (y := (⟨"com/example/tagwright/tagwright/model/Tag", "equals", "(Ljava/lang/Object;)Z"⟩ : MethodName)) (z := (⟨"com/example/tagwright/tagwright/model/Tag", "equals", "(Ljava/lang/Object;)Z"⟩ : MethodName)) hown37 (mvT hZ37 (own_w hw 35)) (mvT hZ37 (own_w hw 36)) (notFace_of_selects (args := #[]) (mvT hZ37 (own_w hw 38))) (mvT hZ37 (own_w hw 38)) (mvT hZ37 (own_w hw 37)) (by decide) (backOf (W := 0) (rmE2 l Z a0 hw [] b24 b35 (F1 p0 wUNIVERSAL wAPPLICATION wCONTEXT_SPECIFIC wPRIVATE wC clC) nn (F1 p2 wUNIVERSAL wAPPLICATION wCONTEXT_SPECIFIC wPRIVATE wC clC) nn T37.heap n0 (own_le O37) Eq37 ((Fq26_tagClass.ext E35).keep Kq37 (ninS ne_b24_b35 nin0)) ((Fq26_number.ext E35).keep Kq37 (ninS ne_b24_b35 nin0)) Fq37_tagClass Fq37_number) hZ37 (own_w hw 39) (own_w hw 3) (by decide) (by decide)) q41a q41c (g := (mkF m 140 #[.val (.int p0), .val (.long q1), .second, .val (.int p2), .val (.long q3), .second, .val (.int p4), .val (.long nn), .second, .val (.long nn), .second, .val (.ref b24), .val (.int mode), .val (.ref b35), .val (.int (0 : Int32))] [(.ref b35), (.ref b24)])) rfl (by rw [hml]; rfl) (Steps.refl _) (argsL := [(.ref b35)]) (rest := []) (lenOf pd_6 rfl) rfl (by show 2 * 0 + _ ≤ _; exact Nat.le_of_eq rfl) (hb hby at_140) (fun _ _ => ⟨rfl, rfl, (by decide : 6 + 0 ≤ _), (by decide : 76 + 0 ≤ _)⟩)
            dsimp only [Pt.U, Pt.locs, Pt.cells, Pt.slots] at X41 l41 y41 z41 st41 hQ41
            subst l41 y41 z41
            obtain ⟨rfl, N41q, e41⟩ := hQ41
            have N41 := Fr.app N37 N41q
            refine own_by (W' := (T41.setTop (mkF m 143 #[.val (.int p0), .val (.long q1), .second, .val (.int p2), .val (.long q3), .second, .val (.int p4), .val (.long nn), .second, .val (.long nn), .second, .val (.ref b24), .val (.int mode), .val (.ref b35), .val (.int (0 : Int32))] [(.int (FE2 b24 b35 (F1 p0 wUNIVERSAL wAPPLICATION wCONTEXT_SPECIFIC wPRIVATE wC clC) nn (F1 p2 wUNIVERSAL wAPPLICATION wCONTEXT_SPECIFIC wPRIVATE wC clC) nn))]))) (fun t k => XS.icmpYes X37.here hx rfl (pc0 := 118) (pc' := 133) rfl (hb hby at_118) rfl (feq hc38).2 (by decide) (by decide) (XS.iconst X37.here hx rfl (hb hby at_133) (XS.istore X37.here hx rfl (hb hby at_134) rfl (l' := #[.val (.int p0), .val (.long q1), .second, .val (.int p2), .val (.long q3), .second, .val (.int p4), .val (.long nn), .second, .val (.long nn), .second, .val (.ref b24), .val (.int mode), .val (.ref b35), .val (.int (0 : Int32))]) rfl (XS.aload X37.here hx rfl (hb hby at_136) rfl rfl (XS.aload X37.here hx rfl (hb hby at_138) rfl rfl (Steps.trans st41 k)))))) ?_
            have ho42 : (FE2 b24 b35 (F1 p0 wUNIVERSAL wAPPLICATION wCONTEXT_SPECIFIC wPRIVATE wC clC) nn (F1 p2 wUNIVERSAL wAPPLICATION wCONTEXT_SPECIFIC wPRIVATE wC clC) nn) = (0 : Int32) := by rw [FE2, if_neg (fun q => hc38 ((own_inj Z _ _ wUNIVERSAL wAPPLICATION wCONTEXT_SPECIFIC wPRIVATE wC clC HW).mp q.symm))]
            obtain ⟨fs, hr, hrun, hended, hEnd⟩ := Jvm.Stand.leaveW (s := s) (vm₁ := T37.vm) X41 hS37 (by rw [e41]; exact (Nat.le_refl _)) (v := some (.int (1 : Int32))) (fun h => by rw [Bd.returns] at h; cases h)
            refine own_by (W' := (T41.setTop (mkF m 153 #[.val (.int p0), .val (.long q1), .second, .val (.int p2), .val (.long q3), .second, .val (.int p4), .val (.long nn), .second, .val (.long nn), .second, .val (.ref b24), .val (.int mode), .val (.ref b35), .val (.int (0 : Int32))] [(.int (1 : Int32))]))) (fun t k => XS.iload X41.here hx rfl (hb hby at_143) rfl (XS.icmpNo X41.here hx rfl (hb hby at_145) rfl (teq ho42).2 (XS.iconst X41.here hx rfl (hb hby at_148) (XS.goto X41.here hx rfl (pc0 := 149) (pc' := 153) rfl (hb hby at_149) (by decide) (by decide) k)))) ?_
            refine ⟨_, _, retOut X41 hx Bd.returns rfl (Or.inl ⟨rfl, Or.inr (Or.inl rfl), _, rfl⟩) (hb hby at_153) hr, hrun, hended, _, _, rfl, ?_, hEnd.1, hEnd.2.1, hEnd.2.2.1, hEnd.2.2.2.mono (by decide) (by decide)⟩
            exact ⟨rfl, N41⟩
set_option maxRecDepth 65536 in
set_option maxHeartbeats 40000000 in
theorem comes_1 {Post : Tables → Env → Array Value → State → Outcome → State → Prop} (hpost : ∀ tb e args s v u, (limb_1_1.after args s (.returned v) u = true ∧ limb_1_2.after args s (.returned v) u = true ∧ True) → ReturnedEndW s (.returned v) u (Jvm.fieldLocs frame_1_writes args s ++ Jvm.arrayLocs frame_1_arrays args s ++ Jvm.staticLocs frame_1_statics s) 16 1152 → Post tb e args s (.returned v) u) :
    ArmFor flags0 classFile x code maxLocals ret World_1 tables_1 room_1 Calls_1 rest_1 Pre_1 Post := by
  intro l hfl _ _ p e ha hc hk s m args below hf hA hF happ hP
  obtain ⟨hcalls, hrest, hpre⟩ := hP
  obtain ⟨-, -, -, hnamed, -, -, -, hat⟩ := (Spec.applies_iff hf).mp happ
  obtain ⟨hg, hn⟩ := and_e (Cond.before_iff.mp (show (Jvm.Cond.and given_1 narrow_1).before args s = true from hpre))
  obtain ⟨ga1, gb1⟩ := and_e hg
  obtain ⟨ga2, gb2⟩ := and_e gb1
  obtain ⟨ga3, gb3⟩ := and_e gb2
  obtain ⟨ga4, gb4⟩ := and_e gb3
  obtain ⟨ga5, gb5⟩ := and_e gb4
  obtain ⟨w0, w1, w2, w3, w4, rfl⟩ : ∃ w0 w1 w2 w3 w4 : Value, args = #[w0, w1, w2, w3, w4] := by
    have hs : args.size = 5 := by simpa [Cond.value, given_1] using ga1
    obtain ⟨L⟩ := args
    match L, hs with
    | [w0, w1, w2, w3, w4], _ => exact ⟨w0, w1, w2, w3, w4, rfl⟩
  have hw := fun d (hd : d ∈ tables_1) => atoms_spec (ws := Jvm.Cond.code x code maxLocals ret :: tables_1) hat d (List.mem_cons_of_mem _ hd)
  have hfit : Fit s := fun {y c} hc i hi => by
    obtain ⟨ha, rfl⟩ := Array.getElem?_eq_some_iff.mp hc
    have q := List.all_eq_true.mp ((Array.all_eq_true_iff_forall_mem.mp hF) _ (Array.getElem_mem ha)) i (List.mem_range.mpr hi)
    simpa [Array.getElem?_eq_getElem hi] using q
  obtain ⟨hsets, hown0⟩ := atoms_of _ (rest_1_c_eq ▸ (show rest_1_c.before _ s = true from hrest))
  have hr0 := Cond.before_iff.mp hown0
  obtain ⟨i0, ei0⟩ := is_v ga2
  obtain rfl : w0 = (.int i0) := Option.some.inj ei0
  obtain ⟨i1, ei1⟩ := isL_v ga3
  obtain rfl : w1 = (.long i1) := Option.some.inj ei1
  obtain ⟨i2, ei2⟩ := is_v ga4
  obtain rfl : w2 = (.int i2) := Option.some.inj ei2
  obtain ⟨i3, ei3⟩ := isL_v ga5
  obtain rfl : w3 = (.long i3) := Option.some.inj ei3
  obtain ⟨i4, ei4⟩ := is_v gb5
  obtain rfl : w4 = (.int i4) := Option.some.inj ei4
  obtain ⟨ga6, gb6⟩ := and_e hn
  obtain ⟨ga7, gb7⟩ := and_e gb6
  obtain ⟨ga8, gb8⟩ := and_e gb7
  obtain ⟨ga9, gb9⟩ := and_e gb8
  obtain ⟨ga10, gb10⟩ := and_e gb9
  obtain ⟨ga11, gb11⟩ := and_e gb10
  obtain ⟨ga12, gb12⟩ := and_e gb11
  obtain ⟨wC, ev_wC, Sx_wC, -⟩ := own_sta (Cond.before_iff.mp (hsets _ (List.mem_of_getElem? (i := 3) rfl))) (Or.inl (hsets _ (List.mem_of_getElem? (i := 1) rfl)))
  obtain ⟨clC, ArC⟩ := Arr.start ev_wC (Cond.before_iff.mp (hsets _ (List.mem_of_getElem? (i := 2) rfl)))
  obtain ⟨ltC, leC⟩ := own_len ev_wC ArC (Cond.before_iff.mp (hsets _ (List.mem_of_getElem? (i := 4) rfl)))
  have BxC := own_bxs ev_wC ArC ltC leC (Cond.before_iff.mp (hsets _ (List.mem_of_getElem? (i := 5) rfl)))
  obtain ⟨wUNIVERSAL, ev_wUNIVERSAL, Sx_wUNIVERSAL, Ex_wUNIVERSAL⟩ := own_sta ga6 (Or.inr ⟨(own_w hw 9), (own_w hw 10)⟩)
  have Fx_wUNIVERSAL_ordinal := own_fldI ev_wUNIVERSAL ga11
  obtain ⟨wAPPLICATION, ev_wAPPLICATION, Sx_wAPPLICATION, Ex_wAPPLICATION⟩ := own_sta ga9 (Or.inr ⟨(own_w hw 9), (own_w hw 73)⟩)
  have Fx_wAPPLICATION_ordinal := own_fldI ev_wAPPLICATION ga12
  obtain ⟨wCONTEXT_SPECIFIC, ev_wCONTEXT_SPECIFIC, Sx_wCONTEXT_SPECIFIC, Ex_wCONTEXT_SPECIFIC⟩ := own_sta ga8 (Or.inr ⟨(own_w hw 9), (own_w hw 71)⟩)
  have Fx_wCONTEXT_SPECIFIC_ordinal := own_fldI ev_wCONTEXT_SPECIFIC gb12
  obtain ⟨wPRIVATE, ev_wPRIVATE, Sx_wPRIVATE, Ex_wPRIVATE⟩ := own_sta ga7 (Or.inr ⟨(own_w hw 9), (own_w hw 43)⟩)
  have Fx_wPRIVATE_ordinal := own_fldI ev_wPRIVATE ga10
  obtain ⟨n, o, h1, h2, h3, _, L, rfl, ⟨rfl, N⟩, hq⟩ := rmL l s _ hw tables_1 i0 i1 i2 i3 i4 wUNIVERSAL wAPPLICATION wCONTEXT_SPECIFIC wPRIVATE wC clC s.heap s.heap.size (Nat.le_refl _) (Old.start s) ⟨Sx_wUNIVERSAL, Ex_wUNIVERSAL, Fx_wUNIVERSAL_ordinal, Sx_wAPPLICATION, Ex_wAPPLICATION, Fx_wAPPLICATION_ordinal, Sx_wCONTEXT_SPECIFIC, Ex_wCONTEXT_SPECIFIC, Fx_wCONTEXT_SPECIFIC_ordinal, Sx_wPRIVATE, Ex_wPRIVATE, Fx_wPRIVATE_ordinal, (Fx_wUNIVERSAL_ordinal.ne Fx_wAPPLICATION_ordinal (by decide)), (Fx_wUNIVERSAL_ordinal.ne Fx_wCONTEXT_SPECIFIC_ordinal (by decide)), (Fx_wAPPLICATION_ordinal.ne Fx_wCONTEXT_SPECIFIC_ordinal (by decide)), (Fx_wUNIVERSAL_ordinal.ne Fx_wPRIVATE_ordinal (by decide)), (Fx_wAPPLICATION_ordinal.ne Fx_wPRIVATE_ordinal (by decide)), (Fx_wCONTEXT_SPECIFIC_ordinal.ne Fx_wPRIVATE_ordinal (by decide)), Sx_wC, BxC⟩ p e ha hc hk s m _ below hf ((Spec.applies_iff_loose hf).mp happ).1 ⟨rfl, State.Warmed39.refl s, rfl⟩ trivial
  refine ⟨n, _, h1, h2, h3, hpost _ _ _ _ _ _ ⟨Cond.after_iff.mpr rfl, Cond.after_iff.mpr (eq_i res_at (Term.int_eval (1)) rfl), trivial⟩ ⟨hq.1, hq.2.1, hq.2.2.1, (hq.2.2.2.sift fun y hy => Or.inr (N y hy)).mono (by decide) (by decide)⟩⟩
theorem main_1_1 : Claimed_1_1 := comes_1 fun _ _ _ _ _ _ h hF => ⟨h.1, hF⟩
theorem main_1_2 : Claimed_1_2 := comes_1 fun _ _ _ _ _ _ h hF => ⟨h.2.1, hF⟩
end Jvm.Pilot.@@N@@
namespace Jvm.Pilot.@@N@@
open Jvm Jvm.ClassFile Sem Op Lib Jvm.Free Jvm.Stand Jvm.Pilot.@@N@@.Jvm.D
/-! MADE BY PROGRAM (witnessworld.py) out of the Statement's table words and the real class files: 21 classes; the members and pool entries that the words name. The judged class is class 1, her method 2. -/
namespace start1
open Jvm.ClassFile
def u (s : String) : CpInfo := .utf8 (stringToUtf16 s)
/-- a pool by its gaps: so many unusable entries, then the entry; so many at the end -/
def gap : Nat → List CpInfo → List CpInfo
  | 0, r => r
  | n + 1, r => .unusable :: gap n r
def poolList (es : List (Nat × CpInfo)) (last : Nat) : List CpInfo := es.foldr (fun e r => gap e.1 (e.2 :: r)) (gap last [])
def pool (es : List (Nat × CpInfo)) (last : Nat) : Array CpInfo := ⟨poolList es last⟩
def fileOf (pool : Array CpInfo) (this : Nat) (attrs : Array Attribute := #[]) (ms : Array MethodInfo := #[]) (fl : Nat := 33) (sup : Nat := 0) (ifs : Array Nat := #[]) (fds : Array FieldInfo := #[]) : ClassFile where
  minorVersion := 0
  majorVersion := 65
  constantPool := pool
  accessFlags := fl
  thisClass := this
  superClass := sup
  interfaces := ifs
  fields := fds
  methods := ms
  attributes := attrs
def plain (name : String) (sup : Option ClassId) : Class where
  name := name
  kind := .ordinary
  loader := none
  accessFlags := 33
  super := sup
  interfaces := #[]
  cf := none
  fields := #[]
  methods := #[]
  instanceTypes := #[]
  staticTypes := #[]
  resolved := #[]
  callSites := []
  init := .initialized
  statics := none
  mirror := none

def pool0 : Array CpInfo := pool [(5, u "<init>"), (0, u "()V"), (1, .class_ 10), (1, u "java/lang/Object")] 113

def k0c0 : Code := { maxStack := 0, maxLocals := 1, code := object_method_1_code, exceptionTable := #[], attributes := #[] }
def k0m0 : Method := { name := "<init>", desc := "()V", sig := { parameters := [], returnType := none }, accessFlags := 1, code := some k0c0 }
/-- java/lang/Object -/
def k0 : Class := { plain "java/lang/Object" none with
  accessFlags := 33
  interfaces := #[]
  cf := some (fileOf pool0 8 #[] #[{ accessFlags := 1, nameIndex := 5, descriptorIndex := 6, attributes := #[] }] 33 0 #[] #[])
  fields := #[]
  methods := #[k0m0]
  instanceTypes := #[]
  staticTypes := #[]
  resolved := Array.replicate 124 none
  statics := none }

def pool1 : Array CpInfo := pool [(2, .class_ 4), (1, u "java/lang/Object"), (0, u "<init>"), (0, u "()V"), (0, .fieldref 8 9), (0, .class_ 10), (0, .nameAndType 11 12), (0, u "com/example/tagwright/tagwright/model/TagClass"), (0, u "UNIVERSAL"), (0, u "Lcom/example/tagwright/tagwright/model/TagClass;"), (0, .fieldref 8 14), (0, .nameAndType 15 12), (0, u "APPLICATION"), (0, .fieldref 8 17), (0, .nameAndType 18 12), (0, u "CONTEXT_SPECIFIC"), (0, .fieldref 8 20), (0, .nameAndType 21 12), (0, u "PRIVATE"), (0, .class_ 23), (0, u "java/lang/Long"), (0, .long 9223372036854775807), (1, .class_ 27), (0, u "com/example/tagwright/tagwright/model/Tag"), (0, .methodref 29 30), (0, .class_ 31), (0, .nameAndType 32 33), (0, u "com/example/tagwright/tagwright/model/TagEqualsPinLaw"), (0, u "cls"), (0, u "(I)Lcom/example/tagwright/tagwright/model/TagClass;"), (0, .methodref 26 35), (0, .nameAndType 5 36), (0, u "(Lcom/example/tagwright/tagwright/model/TagClass;J)V"), (0, .methodref 22 38), (0, .nameAndType 39 40), (0, u "valueOf"), (0, u "(J)Ljava/lang/Long;"), (0, .methodref 26 42), (0, .nameAndType 43 44), (0, u "equals"), (0, u "(Ljava/lang/Object;)Z"), (3, u "law"), (0, u "(IJIJI)Z")] 2

def k1m0 : Method := { name := "<init>", desc := "()V", sig := { parameters := [], returnType := none }, accessFlags := 1, code := none }
def k1c1 : Code := { maxStack := 2, maxLocals := 2, code := method_2_code, exceptionTable := #[], attributes := #[] }
def k1m1 : Method := { name := "cls", desc := "(I)Lcom/example/tagwright/tagwright/model/TagClass;", sig := { parameters := [.int], returnType := some (.object "com/example/tagwright/tagwright/model/TagClass") }, accessFlags := 10, code := some k1c1 }
def k1c2 : Code := { maxStack := 5, maxLocals := 15, code := code, exceptionTable := #[], attributes := #[] }
def k1m2 : Method := { name := "law", desc := "(IJIJI)Z", sig := { parameters := [.int, .long, .int, .long, .int], returnType := some .boolean }, accessFlags := 9, code := some k1c2 }
/-- com/example/tagwright/tagwright/model/TagEqualsPinLaw -/
def k1 : Class := { plain "com/example/tagwright/tagwright/model/TagEqualsPinLaw" (some 0) with
  accessFlags := 49
  interfaces := #[]
  cf := some (fileOf pool1 29 #[] #[{ accessFlags := 1, nameIndex := 5, descriptorIndex := 6, attributes := #[] }, { accessFlags := 10, nameIndex := 32, descriptorIndex := 33, attributes := #[] }, { accessFlags := 9, nameIndex := 48, descriptorIndex := 49, attributes := #[] }] 49 2 #[] #[])
  fields := #[]
  methods := #[k1m0, k1m1, k1m2]
  instanceTypes := #[]
  staticTypes := #[]
  resolved := Array.replicate 52 none
  statics := none }

def pool2 : Array CpInfo := pool [(1, .class_ 2), (0, u "java/lang/Comparable"), (0, .class_ 4), (0, u "java/lang/Object")] 7

/-- java/lang/Comparable -/
def k2 : Class := { plain "java/lang/Comparable" (some 0) with
  accessFlags := 1537
  interfaces := #[]
  cf := some (fileOf pool2 1 #[] #[] 1537 3 #[] #[])
  fields := #[]
  methods := #[]
  instanceTypes := #[]
  staticTypes := #[]
  resolved := Array.replicate 12 none
  statics := none }

def pool3 : Array CpInfo := pool [(1, .methodref 2 3), (0, .class_ 4), (0, .nameAndType 5 6), (0, u "java/lang/Object"), (0, u "<init>"), (0, u "()V"), (9, .string 17), (0, u "tagClass"), (0, .methodref 19 20), (0, .class_ 21), (0, .nameAndType 22 23), (0, u "java/util/Objects"), (0, u "requireNonNull"), (0, u "(Ljava/lang/Object;Ljava/lang/String;)Ljava/lang/Object;"), (0, .class_ 25), (0, u "com/example/tagwright/tagwright/model/TagClass"), (0, .fieldref 27 28), (0, .class_ 29), (0, .nameAndType 17 30), (0, u "com/example/tagwright/tagwright/model/Tag"), (0, u "Lcom/example/tagwright/tagwright/model/TagClass;"), (0, .fieldref 27 32), (0, .nameAndType 33 34), (0, u "number"), (0, u "J"), (22, .class_ 59), (1, u "com/example/tagwright/tagwright/model/Tag$1"), (20, .class_ 81), (0, u "java/lang/Comparable"), (0, u "(Lcom/example/tagwright/tagwright/model/TagClass;J)V"), (7, u "equals"), (0, u "(Ljava/lang/Object;)Z")] 28

def k3c0 : Code := { maxStack := 4, maxLocals := 4, code := prog_20_method_1_code, exceptionTable := #[], attributes := #[] }
def k3m0 : Method := { name := "<init>", desc := "(Lcom/example/tagwright/tagwright/model/TagClass;J)V", sig := { parameters := [(.object "com/example/tagwright/tagwright/model/TagClass"), .long], returnType := none }, accessFlags := 1, code := some k3c0 }
def k3c1 : Code := { maxStack := 4, maxLocals := 2, code := prog_20_method_5_code, exceptionTable := #[], attributes := #[] }
def k3m1 : Method := { name := "equals", desc := "(Ljava/lang/Object;)Z", sig := { parameters := [(.object "java/lang/Object")], returnType := some .boolean }, accessFlags := 1, code := some k3c1 }
/-- com/example/tagwright/tagwright/model/Tag -/
def k3 : Class := { plain "com/example/tagwright/tagwright/model/Tag" (some 0) with
  accessFlags := 49
  interfaces := #[2]
  cf := some (fileOf pool3 27 #[.nestMembers #[57]] #[{ accessFlags := 1, nameIndex := 5, descriptorIndex := 82, attributes := #[] }, { accessFlags := 1, nameIndex := 90, descriptorIndex := 91, attributes := #[] }] 49 2 #[80] #[{ accessFlags := 18, nameIndex := 17, descriptorIndex := 30, attributes := #[] }, { accessFlags := 18, nameIndex := 33, descriptorIndex := 34, attributes := #[] }])
  fields := #[{ name := "tagClass", type := (.object "com/example/tagwright/tagwright/model/TagClass"), accessFlags := 18, slot := 0, constantValue := 0 }, { name := "number", type := .long, accessFlags := 18, slot := 1, constantValue := 0 }]
  methods := #[k3m0, k3m1]
  instanceTypes := #[(.object "com/example/tagwright/tagwright/model/TagClass"), .long]
  staticTypes := #[]
  resolved := Array.replicate 120 none
  statics := none }

def pool4 : Array CpInfo := pool [(1, .class_ 2), (0, u "java/lang/constant/Constable"), (0, .class_ 4), (0, u "java/lang/Object")] 6

/-- java/lang/constant/Constable -/
def k4 : Class := { plain "java/lang/constant/Constable" (some 0) with
  accessFlags := 1537
  interfaces := #[]
  cf := some (fileOf pool4 1 #[] #[] 1537 3 #[] #[])
  fields := #[]
  methods := #[]
  instanceTypes := #[]
  staticTypes := #[]
  resolved := Array.replicate 11 none
  statics := none }

def pool5 : Array CpInfo := pool [(1, .class_ 2), (0, u "java/io/Serializable"), (0, .class_ 4), (0, u "java/lang/Object")] 2

/-- java/io/Serializable -/
def k5 : Class := { plain "java/io/Serializable" (some 0) with
  accessFlags := 1537
  interfaces := #[]
  cf := some (fileOf pool5 1 #[] #[] 1537 3 #[] #[])
  fields := #[]
  methods := #[]
  instanceTypes := #[]
  staticTypes := #[]
  resolved := Array.replicate 7 none
  statics := none }

def pool6 : Array CpInfo := pool [(2, .class_ 4), (1, u "java/lang/Enum"), (0, u "name"), (0, u "Ljava/lang/String;"), (2, u "ordinal"), (0, u "I"), (1, .class_ 14), (1, u "java/lang/Object"), (4, u "hash"), (86, .class_ 108), (1, u "java/lang/Enum$EnumDesc"), (2, .class_ 112), (0, u "java/lang/constant/Constable"), (0, .class_ 114), (0, u "java/lang/Comparable"), (0, .class_ 116), (0, u "java/io/Serializable")] 87

/-- java/lang/Enum -/
def k6 : Class := { plain "java/lang/Enum" (some 0) with
  accessFlags := 1057
  interfaces := #[4, 2, 5]
  cf := some (fileOf pool6 2 #[.nestMembers #[106]] #[] 1057 12 #[111, 113, 115] #[{ accessFlags := 18, nameIndex := 5, descriptorIndex := 6, attributes := #[] }, { accessFlags := 18, nameIndex := 9, descriptorIndex := 10, attributes := #[] }, { accessFlags := 2, nameIndex := 19, descriptorIndex := 10, attributes := #[] }])
  fields := #[{ name := "name", type := (.object "java/lang/String"), accessFlags := 18, slot := 0, constantValue := 0 }, { name := "ordinal", type := .int, accessFlags := 18, slot := 1, constantValue := 0 }, { name := "hash", type := .int, accessFlags := 2, slot := 2, constantValue := 0 }]
  methods := #[]
  instanceTypes := #[(.object "java/lang/String"), .int, .int]
  staticTypes := #[]
  resolved := Array.replicate 204 none
  statics := none }

def pool7 : Array CpInfo := pool [(1, .class_ 2), (0, u "com/example/tagwright/tagwright/model/TagClass"), (2, u "UNIVERSAL"), (0, u "Lcom/example/tagwright/tagwright/model/TagClass;"), (2, u "APPLICATION"), (2, u "CONTEXT_SPECIFIC"), (2, u "PRIVATE"), (2, u "$VALUES"), (0, u "[Lcom/example/tagwright/tagwright/model/TagClass;"), (6, .class_ 28), (1, u "java/lang/Enum"), (8, u "BY_BITS")] 54

/-- com/example/tagwright/tagwright/model/TagClass -/
def k7 : Class := { plain "com/example/tagwright/tagwright/model/TagClass" (some 6) with
  accessFlags := 16433
  interfaces := #[]
  cf := some (fileOf pool7 1 #[] #[] 16433 26 #[] #[{ accessFlags := 16409, nameIndex := 5, descriptorIndex := 6, attributes := #[] }, { accessFlags := 16409, nameIndex := 9, descriptorIndex := 6, attributes := #[] }, { accessFlags := 16409, nameIndex := 12, descriptorIndex := 6, attributes := #[] }, { accessFlags := 16409, nameIndex := 15, descriptorIndex := 6, attributes := #[] }, { accessFlags := 26, nameIndex := 37, descriptorIndex := 19, attributes := #[] }, { accessFlags := 4122, nameIndex := 18, descriptorIndex := 19, attributes := #[] }])
  fields := #[{ name := "UNIVERSAL", type := (.object "com/example/tagwright/tagwright/model/TagClass"), accessFlags := 16409, slot := 0, constantValue := 0 }, { name := "APPLICATION", type := (.object "com/example/tagwright/tagwright/model/TagClass"), accessFlags := 16409, slot := 1, constantValue := 0 }, { name := "CONTEXT_SPECIFIC", type := (.object "com/example/tagwright/tagwright/model/TagClass"), accessFlags := 16409, slot := 2, constantValue := 0 }, { name := "PRIVATE", type := (.object "com/example/tagwright/tagwright/model/TagClass"), accessFlags := 16409, slot := 3, constantValue := 0 }, { name := "BY_BITS", type := (.array (.object "com/example/tagwright/tagwright/model/TagClass")), accessFlags := 26, slot := 4, constantValue := 0 }, { name := "$VALUES", type := (.array (.object "com/example/tagwright/tagwright/model/TagClass")), accessFlags := 4122, slot := 5, constantValue := 0 }]
  methods := #[]
  instanceTypes := #[(.object "java/lang/String"), .int, .int]
  staticTypes := #[(.object "com/example/tagwright/tagwright/model/TagClass"), (.object "com/example/tagwright/tagwright/model/TagClass"), (.object "com/example/tagwright/tagwright/model/TagClass"), (.object "com/example/tagwright/tagwright/model/TagClass"), (.array (.object "com/example/tagwright/tagwright/model/TagClass")), (.array (.object "com/example/tagwright/tagwright/model/TagClass"))]
  resolved := Array.replicate 92 none
  statics := some 0 }

def pool8 : Array CpInfo := pool [(2, .class_ 4), (1, u "java/lang/CharSequence"), (42, .class_ 48), (0, u "java/lang/CharSequence$1CodePointIterator"), (10, .class_ 60), (0, u "java/lang/CharSequence$1CharIterator"), (5, .class_ 67), (0, u "java/lang/Object")] 63

/-- java/lang/CharSequence -/
def k8 : Class := { plain "java/lang/CharSequence" (some 0) with
  accessFlags := 1537
  interfaces := #[]
  cf := some (fileOf pool8 2 #[.nestMembers #[47, 59]] #[] 1537 66 #[] #[])
  fields := #[]
  methods := #[]
  instanceTypes := #[]
  staticTypes := #[]
  resolved := Array.replicate 131 none
  statics := none }

def pool9 : Array CpInfo := pool [(1, .class_ 2), (0, u "java/lang/constant/ConstantDesc"), (0, .class_ 4), (0, u "java/lang/Object")] 32

/-- java/lang/constant/ConstantDesc -/
def k9 : Class := { plain "java/lang/constant/ConstantDesc" (some 0) with
  accessFlags := 1537
  interfaces := #[]
  cf := some (fileOf pool9 1 #[] #[] 1537 3 #[] #[])
  fields := #[]
  methods := #[]
  instanceTypes := #[]
  staticTypes := #[]
  resolved := Array.replicate 37 none
  statics := none }

def pool10 : Array CpInfo := pool [(2, .class_ 4), (1, u "java/lang/Object"), (0, u "<init>"), (0, u "()V"), (3, .class_ 12), (1, u "java/lang/String"), (0, u "value"), (0, u "[B"), (2, u "coder"), (0, u "B"), (2, u "hash"), (0, u "I"), (2, u "hashIsZero"), (0, u "Z"), (13, u "COMPACT_STRINGS"), (534, .class_ 576), (0, u "java/lang/CharSequence"), (22, u "CASE_INSENSITIVE_ORDER"), (0, u "Ljava/util/Comparator;"), (500, u "serialPersistentFields"), (0, u "[Ljava/io/ObjectStreamField;"), (0, .class_ 1104), (0, u "java/lang/String$CaseInsensitiveComparator"), (1, .class_ 1107), (0, u "java/io/Serializable"), (0, .class_ 1109), (0, u "java/lang/Comparable"), (0, .class_ 1111), (0, u "java/lang/constant/Constable"), (0, .class_ 1113), (0, u "java/lang/constant/ConstantDesc"), (2, u "serialVersionUID"), (0, u "J"), (3, u "REPL"), (0, u "C"), (2, u "LATIN1"), (1, u "UTF16")] 323

def k10m0 : Method := { name := "<init>", desc := "()V", sig := { parameters := [], returnType := none }, accessFlags := 1, code := none }
/-- java/lang/String -/
def k10 : Class := { plain "java/lang/String" (some 0) with
  accessFlags := 49
  interfaces := #[5, 2, 8, 4, 9]
  cf := some (fileOf pool10 10 #[.nestMembers #[1103]] #[{ accessFlags := 1, nameIndex := 5, descriptorIndex := 6, attributes := #[] }] 49 2 #[1106, 1108, 575, 1110, 1112] #[{ accessFlags := 18, nameIndex := 13, descriptorIndex := 14, attributes := #[] }, { accessFlags := 18, nameIndex := 17, descriptorIndex := 18, attributes := #[] }, { accessFlags := 2, nameIndex := 21, descriptorIndex := 22, attributes := #[] }, { accessFlags := 2, nameIndex := 25, descriptorIndex := 26, attributes := #[] }, { accessFlags := 26, nameIndex := 1116, descriptorIndex := 1117, attributes := #[] }, { accessFlags := 24, nameIndex := 40, descriptorIndex := 26, attributes := #[] }, { accessFlags := 26, nameIndex := 1101, descriptorIndex := 1102, attributes := #[] }, { accessFlags := 26, nameIndex := 1121, descriptorIndex := 1122, attributes := #[] }, { accessFlags := 25, nameIndex := 599, descriptorIndex := 600, attributes := #[] }, { accessFlags := 24, nameIndex := 1125, descriptorIndex := 18, attributes := #[] }, { accessFlags := 24, nameIndex := 1127, descriptorIndex := 18, attributes := #[] }])
  fields := #[{ name := "value", type := (.array .byte), accessFlags := 18, slot := 0, constantValue := 0 }, { name := "coder", type := .byte, accessFlags := 18, slot := 1, constantValue := 0 }, { name := "hash", type := .int, accessFlags := 2, slot := 2, constantValue := 0 }, { name := "hashIsZero", type := .boolean, accessFlags := 2, slot := 3, constantValue := 0 }, { name := "serialVersionUID", type := .long, accessFlags := 26, slot := 0, constantValue := 0 }, { name := "COMPACT_STRINGS", type := .boolean, accessFlags := 24, slot := 1, constantValue := 0 }, { name := "serialPersistentFields", type := (.array (.object "java/io/ObjectStreamField")), accessFlags := 26, slot := 2, constantValue := 0 }, { name := "REPL", type := .char, accessFlags := 26, slot := 3, constantValue := 0 }, { name := "CASE_INSENSITIVE_ORDER", type := (.object "java/util/Comparator"), accessFlags := 25, slot := 4, constantValue := 0 }, { name := "LATIN1", type := .byte, accessFlags := 24, slot := 5, constantValue := 0 }, { name := "UTF16", type := .byte, accessFlags := 24, slot := 6, constantValue := 0 }]
  methods := #[k10m0]
  instanceTypes := #[(.array .byte), .byte, .int, .boolean]
  staticTypes := #[.long, .boolean, (.array (.object "java/io/ObjectStreamField")), .char, (.object "java/util/Comparator"), .byte, .byte]
  resolved := Array.replicate 1451 none
  statics := none }

def pool11 : Array CpInfo := pool [(2, .class_ 4), (1, u "java/lang/Object"), (0, u "<init>"), (0, u "()V"), (35, .class_ 44), (1, u "java/util/Objects"), (0, u "requireNonNull"), (48, u "(Ljava/lang/Object;Ljava/lang/String;)Ljava/lang/Object;")] 89

def k11m0 : Method := { name := "<init>", desc := "()V", sig := { parameters := [], returnType := none }, accessFlags := 2, code := none }
def k11c1 : Code := { maxStack := 3, maxLocals := 2, code := jdk_31_method_11_code, exceptionTable := #[], attributes := #[] }
def k11m1 : Method := { name := "requireNonNull", desc := "(Ljava/lang/Object;Ljava/lang/String;)Ljava/lang/Object;", sig := { parameters := [(.object "java/lang/Object"), (.object "java/lang/String")], returnType := some (.object "java/lang/Object") }, accessFlags := 9, code := some k11c1 }
/-- java/util/Objects -/
def k11 : Class := { plain "java/util/Objects" (some 0) with
  accessFlags := 49
  interfaces := #[]
  cf := some (fileOf pool11 42 #[] #[{ accessFlags := 2, nameIndex := 5, descriptorIndex := 6, attributes := #[] }, { accessFlags := 9, nameIndex := 45, descriptorIndex := 94, attributes := #[] }] 49 2 #[] #[])
  fields := #[]
  methods := #[k11m0, k11m1]
  instanceTypes := #[]
  staticTypes := #[]
  resolved := Array.replicate 184 none
  statics := none }

def pool12 : Array CpInfo := pool [(1, .methodref 2 3), (0, .class_ 4), (0, .nameAndType 5 6), (0, u "java/lang/Object"), (0, u "<init>"), (0, u "()V"), (1, .class_ 10), (1, u "java/lang/Number"), (2, .class_ 14), (0, u "java/io/Serializable"), (0, u "serialVersionUID"), (0, u "J")] 20

def k12c0 : Code := { maxStack := 1, maxLocals := 1, code := jdk_18_method_1_code, exceptionTable := #[], attributes := #[] }
def k12m0 : Method := { name := "<init>", desc := "()V", sig := { parameters := [], returnType := none }, accessFlags := 1, code := some k12c0 }
/-- java/lang/Number -/
def k12 : Class := { plain "java/lang/Number" (some 0) with
  accessFlags := 1057
  interfaces := #[5]
  cf := some (fileOf pool12 8 #[] #[{ accessFlags := 1, nameIndex := 5, descriptorIndex := 6, attributes := #[] }] 1057 2 #[13] #[{ accessFlags := 26, nameIndex := 15, descriptorIndex := 16, attributes := #[] }])
  fields := #[{ name := "serialVersionUID", type := .long, accessFlags := 26, slot := 0, constantValue := 0 }]
  methods := #[k12m0]
  instanceTypes := #[]
  staticTypes := #[.long]
  resolved := Array.replicate 37 none
  statics := none }

def pool13 : Array CpInfo := pool [(1, .class_ 2), (0, u "java/lang/Long"), (55, .nameAndType 59 60), (0, u "<init>"), (0, u "()V"), (24, u "valueOf"), (143, u "(J)Ljava/lang/Long;"), (0, .long 18446744073709551488), (1, .long 127), (1, .fieldref 235 236), (0, .class_ 237), (0, .nameAndType 238 239), (0, u "java/lang/Long$LongCache"), (0, u "cache"), (0, u "[Ljava/lang/Long;"), (0, .methodref 1 241), (0, .nameAndType 59 242), (0, u "(J)V"), (27, .methodref 271 58), (0, .class_ 272), (0, u "java/lang/Number"), (0, .fieldref 1 274), (0, .nameAndType 275 276), (0, u "value"), (0, u "J"), (84, u "TYPE"), (0, u "Ljava/lang/Class;"), (0, .class_ 364), (0, u "java/lang/Comparable"), (0, .class_ 366), (0, u "java/lang/constant/Constable"), (0, .class_ 368), (0, u "java/lang/constant/ConstantDesc"), (0, u "MIN_VALUE"), (1, u "MAX_VALUE"), (4, u "SIZE"), (0, u "I"), (1, u "BYTES"), (1, u "serialVersionUID")] 142

def k13c0 : Code := { maxStack := 4, maxLocals := 3, code := jdk_35_method_24_code, exceptionTable := #[], attributes := #[] }
def k13m0 : Method := { name := "valueOf", desc := "(J)Ljava/lang/Long;", sig := { parameters := [.long], returnType := some (.object "java/lang/Long") }, accessFlags := 9, code := some k13c0 }
def k13c1 : Code := { maxStack := 3, maxLocals := 3, code := jdk_35_method_26_code, exceptionTable := #[], attributes := #[] }
def k13m1 : Method := { name := "<init>", desc := "(J)V", sig := { parameters := [.long], returnType := none }, accessFlags := 1, code := some k13c1 }
/-- java/lang/Long -/
def k13 : Class := { plain "java/lang/Long" (some 12) with
  accessFlags := 49
  interfaces := #[2, 4, 9]
  cf := some (fileOf pool13 1 #[.nestMembers #[235]] #[{ accessFlags := 9, nameIndex := 85, descriptorIndex := 229, attributes := #[] }, { accessFlags := 1, nameIndex := 59, descriptorIndex := 242, attributes := #[] }] 49 271 #[363, 365, 367] #[{ accessFlags := 25, nameIndex := 369, descriptorIndex := 276, attributes := #[] }, { accessFlags := 25, nameIndex := 371, descriptorIndex := 276, attributes := #[] }, { accessFlags := 25, nameIndex := 361, descriptorIndex := 362, attributes := #[] }, { accessFlags := 18, nameIndex := 275, descriptorIndex := 276, attributes := #[] }, { accessFlags := 25, nameIndex := 376, descriptorIndex := 377, attributes := #[] }, { accessFlags := 25, nameIndex := 379, descriptorIndex := 377, attributes := #[] }, { accessFlags := 26, nameIndex := 381, descriptorIndex := 276, attributes := #[] }])
  fields := #[{ name := "MIN_VALUE", type := .long, accessFlags := 25, slot := 0, constantValue := 0 }, { name := "MAX_VALUE", type := .long, accessFlags := 25, slot := 1, constantValue := 0 }, { name := "TYPE", type := (.object "java/lang/Class"), accessFlags := 25, slot := 2, constantValue := 0 }, { name := "value", type := .long, accessFlags := 18, slot := 0, constantValue := 0 }, { name := "SIZE", type := .int, accessFlags := 25, slot := 3, constantValue := 0 }, { name := "BYTES", type := .int, accessFlags := 25, slot := 4, constantValue := 0 }, { name := "serialVersionUID", type := .long, accessFlags := 26, slot := 5, constantValue := 0 }]
  methods := #[k13m0, k13m1]
  instanceTypes := #[.long]
  staticTypes := #[.long, .long, (.object "java/lang/Class"), .int, .int, .long]
  resolved := Array.replicate 524 none
  statics := none }

def pool14 : Array CpInfo := pool [(2, .class_ 4), (1, u "java/lang/Object"), (0, u "<init>"), (0, u "()V"), (0, .class_ 8), (0, u "java/lang/Long"), (7, .class_ 18), (1, u "java/lang/Long$LongCache"), (0, u "$assertionsDisabled"), (0, u "Z"), (8, u "archivedCache"), (0, u "[Ljava/lang/Long;"), (7, u "cache")] 24

def k14m0 : Method := { name := "<init>", desc := "()V", sig := { parameters := [], returnType := none }, accessFlags := 2, code := none }
/-- java/lang/Long$LongCache -/
def k14 : Class := { plain "java/lang/Long$LongCache" (some 0) with
  accessFlags := 48
  interfaces := #[]
  cf := some (fileOf pool14 16 #[.nestHost 7] #[{ accessFlags := 2, nameIndex := 5, descriptorIndex := 6, attributes := #[] }] 48 2 #[] #[{ accessFlags := 24, nameIndex := 38, descriptorIndex := 30, attributes := #[] }, { accessFlags := 8, nameIndex := 29, descriptorIndex := 30, attributes := #[] }, { accessFlags := 4120, nameIndex := 19, descriptorIndex := 20, attributes := #[] }])
  fields := #[{ name := "cache", type := (.array (.object "java/lang/Long")), accessFlags := 24, slot := 0, constantValue := 0 }, { name := "archivedCache", type := (.array (.object "java/lang/Long")), accessFlags := 8, slot := 1, constantValue := 0 }, { name := "$assertionsDisabled", type := .boolean, accessFlags := 4120, slot := 2, constantValue := 0 }]
  methods := #[k14m0]
  instanceTypes := #[]
  staticTypes := #[(.array (.object "java/lang/Long")), (.array (.object "java/lang/Long")), .boolean]
  resolved := Array.replicate 63 none
  statics := some 1 }

def pool15 : Array CpInfo := pool [(1, u "java/lang/Cloneable"), (0, .class_ 1), (0, u "java/lang/Object"), (0, .class_ 3)] 3

/-- java/lang/Cloneable -/
def k15 : Class := { plain "java/lang/Cloneable" (some 0) with
  accessFlags := 1537
  interfaces := #[]
  cf := some (fileOf pool15 2 #[] #[] 1537 4 #[] #[])
  fields := #[]
  methods := #[]
  instanceTypes := #[]
  staticTypes := #[]
  resolved := Array.replicate 8 none
  statics := none }

/-- the primitive byte -/
def k16 : Class := { plain "byte" none with kind := .primitive 'B', accessFlags := 0x411 }
/-- [B -/
def k17 : Class := { plain "[B" (some 0) with kind := .array 16 .byte, interfaces := #[15, 5], accessFlags := 1041 }

/-- the primitive int -/
def k18 : Class := { plain "int" none with kind := .primitive 'I', accessFlags := 0x411 }
/-- [I -/
def k19 : Class := { plain "[I" (some 0) with kind := .array 18 .int, interfaces := #[15, 5], accessFlags := 1041 }

/-- [Ljava/lang/Long; -/
def k20 : Class := { plain "[Ljava/lang/Long;" (some 0) with kind := .array 13 (.object "java/lang/Long"), interfaces := #[15, 5], accessFlags := 1041 }

def heap : Heap := #[{ cls := 7, slots := #[.ref 259, .ref 260, .ref 261, .ref 262, .null, .null], vm := .statics 7 },
  { cls := 14, slots := #[.ref 2, .null, .int 0], vm := .statics 14 },
  { cls := 20, slots := #[.ref 3, .ref 4, .ref 5, .ref 6, .ref 7, .ref 8, .ref 9, .ref 10, .ref 11, .ref 12, .ref 13, .ref 14, .ref 15, .ref 16, .ref 17, .ref 18, .ref 19, .ref 20, .ref 21, .ref 22, .ref 23, .ref 24, .ref 25, .ref 26, .ref 27, .ref 28, .ref 29, .ref 30, .ref 31, .ref 32, .ref 33, .ref 34, .ref 35, .ref 36, .ref 37, .ref 38, .ref 39, .ref 40, .ref 41, .ref 42, .ref 43, .ref 44, .ref 45, .ref 46, .ref 47, .ref 48, .ref 49, .ref 50, .ref 51, .ref 52, .ref 53, .ref 54, .ref 55, .ref 56, .ref 57, .ref 58, .ref 59, .ref 60, .ref 61, .ref 62, .ref 63, .ref 64, .ref 65, .ref 66, .ref 67, .ref 68, .ref 69, .ref 70, .ref 71, .ref 72, .ref 73, .ref 74, .ref 75, .ref 76, .ref 77, .ref 78, .ref 79, .ref 80, .ref 81, .ref 82, .ref 83, .ref 84, .ref 85, .ref 86, .ref 87, .ref 88, .ref 89, .ref 90, .ref 91, .ref 92, .ref 93, .ref 94, .ref 95, .ref 96, .ref 97, .ref 98, .ref 99, .ref 100, .ref 101, .ref 102, .ref 103, .ref 104, .ref 105, .ref 106, .ref 107, .ref 108, .ref 109, .ref 110, .ref 111, .ref 112, .ref 113, .ref 114, .ref 115, .ref 116, .ref 117, .ref 118, .ref 119, .ref 120, .ref 121, .ref 122, .ref 123, .ref 124, .ref 125, .ref 126, .ref 127, .ref 128, .ref 129, .ref 130, .ref 131, .ref 132, .ref 133, .ref 134, .ref 135, .ref 136, .ref 137, .ref 138, .ref 139, .ref 140, .ref 141, .ref 142, .ref 143, .ref 144, .ref 145, .ref 146, .ref 147, .ref 148, .ref 149, .ref 150, .ref 151, .ref 152, .ref 153, .ref 154, .ref 155, .ref 156, .ref 157, .ref 158, .ref 159, .ref 160, .ref 161, .ref 162, .ref 163, .ref 164, .ref 165, .ref 166, .ref 167, .ref 168, .ref 169, .ref 170, .ref 171, .ref 172, .ref 173, .ref 174, .ref 175, .ref 176, .ref 177, .ref 178, .ref 179, .ref 180, .ref 181, .ref 182, .ref 183, .ref 184, .ref 185, .ref 186, .ref 187, .ref 188, .ref 189, .ref 190, .ref 191, .ref 192, .ref 193, .ref 194, .ref 195, .ref 196, .ref 197, .ref 198, .ref 199, .ref 200, .ref 201, .ref 202, .ref 203, .ref 204, .ref 205, .ref 206, .ref 207, .ref 208, .ref 209, .ref 210, .ref 211, .ref 212, .ref 213, .ref 214, .ref 215, .ref 216, .ref 217, .ref 218, .ref 219, .ref 220, .ref 221, .ref 222, .ref 223, .ref 224, .ref 225, .ref 226, .ref 227, .ref 228, .ref 229, .ref 230, .ref 231, .ref 232, .ref 233, .ref 234, .ref 235, .ref 236, .ref 237, .ref 238, .ref 239, .ref 240, .ref 241, .ref 242, .ref 243, .ref 244, .ref 245, .ref 246, .ref 247, .ref 248, .ref 249, .ref 250, .ref 251, .ref 252, .ref 253, .ref 254, .ref 255, .ref 256, .ref 257, .ref 258], vm := .none },
  { cls := 13, slots := #[.long (-128)], vm := .none },
  { cls := 13, slots := #[.long (-127)], vm := .none },
  { cls := 13, slots := #[.long (-126)], vm := .none },
  { cls := 13, slots := #[.long (-125)], vm := .none },
  { cls := 13, slots := #[.long (-124)], vm := .none },
  { cls := 13, slots := #[.long (-123)], vm := .none },
  { cls := 13, slots := #[.long (-122)], vm := .none },
  { cls := 13, slots := #[.long (-121)], vm := .none },
  { cls := 13, slots := #[.long (-120)], vm := .none },
  { cls := 13, slots := #[.long (-119)], vm := .none },
  { cls := 13, slots := #[.long (-118)], vm := .none },
  { cls := 13, slots := #[.long (-117)], vm := .none },
  { cls := 13, slots := #[.long (-116)], vm := .none },
  { cls := 13, slots := #[.long (-115)], vm := .none },
  { cls := 13, slots := #[.long (-114)], vm := .none },
  { cls := 13, slots := #[.long (-113)], vm := .none },
  { cls := 13, slots := #[.long (-112)], vm := .none },
  { cls := 13, slots := #[.long (-111)], vm := .none },
  { cls := 13, slots := #[.long (-110)], vm := .none },
  { cls := 13, slots := #[.long (-109)], vm := .none },
  { cls := 13, slots := #[.long (-108)], vm := .none },
  { cls := 13, slots := #[.long (-107)], vm := .none },
  { cls := 13, slots := #[.long (-106)], vm := .none },
  { cls := 13, slots := #[.long (-105)], vm := .none },
  { cls := 13, slots := #[.long (-104)], vm := .none },
  { cls := 13, slots := #[.long (-103)], vm := .none },
  { cls := 13, slots := #[.long (-102)], vm := .none },
  { cls := 13, slots := #[.long (-101)], vm := .none },
  { cls := 13, slots := #[.long (-100)], vm := .none },
  { cls := 13, slots := #[.long (-99)], vm := .none },
  { cls := 13, slots := #[.long (-98)], vm := .none },
  { cls := 13, slots := #[.long (-97)], vm := .none },
  { cls := 13, slots := #[.long (-96)], vm := .none },
  { cls := 13, slots := #[.long (-95)], vm := .none },
  { cls := 13, slots := #[.long (-94)], vm := .none },
  { cls := 13, slots := #[.long (-93)], vm := .none },
  { cls := 13, slots := #[.long (-92)], vm := .none },
  { cls := 13, slots := #[.long (-91)], vm := .none },
  { cls := 13, slots := #[.long (-90)], vm := .none },
  { cls := 13, slots := #[.long (-89)], vm := .none },
  { cls := 13, slots := #[.long (-88)], vm := .none },
  { cls := 13, slots := #[.long (-87)], vm := .none },
  { cls := 13, slots := #[.long (-86)], vm := .none },
  { cls := 13, slots := #[.long (-85)], vm := .none },
  { cls := 13, slots := #[.long (-84)], vm := .none },
  { cls := 13, slots := #[.long (-83)], vm := .none },
  { cls := 13, slots := #[.long (-82)], vm := .none },
  { cls := 13, slots := #[.long (-81)], vm := .none },
  { cls := 13, slots := #[.long (-80)], vm := .none },
  { cls := 13, slots := #[.long (-79)], vm := .none },
  { cls := 13, slots := #[.long (-78)], vm := .none },
  { cls := 13, slots := #[.long (-77)], vm := .none },
  { cls := 13, slots := #[.long (-76)], vm := .none },
  { cls := 13, slots := #[.long (-75)], vm := .none },
  { cls := 13, slots := #[.long (-74)], vm := .none },
  { cls := 13, slots := #[.long (-73)], vm := .none },
  { cls := 13, slots := #[.long (-72)], vm := .none },
  { cls := 13, slots := #[.long (-71)], vm := .none },
  { cls := 13, slots := #[.long (-70)], vm := .none },
  { cls := 13, slots := #[.long (-69)], vm := .none },
  { cls := 13, slots := #[.long (-68)], vm := .none },
  { cls := 13, slots := #[.long (-67)], vm := .none },
  { cls := 13, slots := #[.long (-66)], vm := .none },
  { cls := 13, slots := #[.long (-65)], vm := .none },
  { cls := 13, slots := #[.long (-64)], vm := .none },
  { cls := 13, slots := #[.long (-63)], vm := .none },
  { cls := 13, slots := #[.long (-62)], vm := .none },
  { cls := 13, slots := #[.long (-61)], vm := .none },
  { cls := 13, slots := #[.long (-60)], vm := .none },
  { cls := 13, slots := #[.long (-59)], vm := .none },
  { cls := 13, slots := #[.long (-58)], vm := .none },
  { cls := 13, slots := #[.long (-57)], vm := .none },
  { cls := 13, slots := #[.long (-56)], vm := .none },
  { cls := 13, slots := #[.long (-55)], vm := .none },
  { cls := 13, slots := #[.long (-54)], vm := .none },
  { cls := 13, slots := #[.long (-53)], vm := .none },
  { cls := 13, slots := #[.long (-52)], vm := .none },
  { cls := 13, slots := #[.long (-51)], vm := .none },
  { cls := 13, slots := #[.long (-50)], vm := .none },
  { cls := 13, slots := #[.long (-49)], vm := .none },
  { cls := 13, slots := #[.long (-48)], vm := .none },
  { cls := 13, slots := #[.long (-47)], vm := .none },
  { cls := 13, slots := #[.long (-46)], vm := .none },
  { cls := 13, slots := #[.long (-45)], vm := .none },
  { cls := 13, slots := #[.long (-44)], vm := .none },
  { cls := 13, slots := #[.long (-43)], vm := .none },
  { cls := 13, slots := #[.long (-42)], vm := .none },
  { cls := 13, slots := #[.long (-41)], vm := .none },
  { cls := 13, slots := #[.long (-40)], vm := .none },
  { cls := 13, slots := #[.long (-39)], vm := .none },
  { cls := 13, slots := #[.long (-38)], vm := .none },
  { cls := 13, slots := #[.long (-37)], vm := .none },
  { cls := 13, slots := #[.long (-36)], vm := .none },
  { cls := 13, slots := #[.long (-35)], vm := .none },
  { cls := 13, slots := #[.long (-34)], vm := .none },
  { cls := 13, slots := #[.long (-33)], vm := .none },
  { cls := 13, slots := #[.long (-32)], vm := .none },
  { cls := 13, slots := #[.long (-31)], vm := .none },
  { cls := 13, slots := #[.long (-30)], vm := .none },
  { cls := 13, slots := #[.long (-29)], vm := .none },
  { cls := 13, slots := #[.long (-28)], vm := .none },
  { cls := 13, slots := #[.long (-27)], vm := .none },
  { cls := 13, slots := #[.long (-26)], vm := .none },
  { cls := 13, slots := #[.long (-25)], vm := .none },
  { cls := 13, slots := #[.long (-24)], vm := .none },
  { cls := 13, slots := #[.long (-23)], vm := .none },
  { cls := 13, slots := #[.long (-22)], vm := .none },
  { cls := 13, slots := #[.long (-21)], vm := .none },
  { cls := 13, slots := #[.long (-20)], vm := .none },
  { cls := 13, slots := #[.long (-19)], vm := .none },
  { cls := 13, slots := #[.long (-18)], vm := .none },
  { cls := 13, slots := #[.long (-17)], vm := .none },
  { cls := 13, slots := #[.long (-16)], vm := .none },
  { cls := 13, slots := #[.long (-15)], vm := .none },
  { cls := 13, slots := #[.long (-14)], vm := .none },
  { cls := 13, slots := #[.long (-13)], vm := .none },
  { cls := 13, slots := #[.long (-12)], vm := .none },
  { cls := 13, slots := #[.long (-11)], vm := .none },
  { cls := 13, slots := #[.long (-10)], vm := .none },
  { cls := 13, slots := #[.long (-9)], vm := .none },
  { cls := 13, slots := #[.long (-8)], vm := .none },
  { cls := 13, slots := #[.long (-7)], vm := .none },
  { cls := 13, slots := #[.long (-6)], vm := .none },
  { cls := 13, slots := #[.long (-5)], vm := .none },
  { cls := 13, slots := #[.long (-4)], vm := .none },
  { cls := 13, slots := #[.long (-3)], vm := .none },
  { cls := 13, slots := #[.long (-2)], vm := .none },
  { cls := 13, slots := #[.long (-1)], vm := .none },
  { cls := 13, slots := #[.long 0], vm := .none },
  { cls := 13, slots := #[.long 1], vm := .none },
  { cls := 13, slots := #[.long 2], vm := .none },
  { cls := 13, slots := #[.long 3], vm := .none },
  { cls := 13, slots := #[.long 4], vm := .none },
  { cls := 13, slots := #[.long 5], vm := .none },
  { cls := 13, slots := #[.long 6], vm := .none },
  { cls := 13, slots := #[.long 7], vm := .none },
  { cls := 13, slots := #[.long 8], vm := .none },
  { cls := 13, slots := #[.long 9], vm := .none },
  { cls := 13, slots := #[.long 10], vm := .none },
  { cls := 13, slots := #[.long 11], vm := .none },
  { cls := 13, slots := #[.long 12], vm := .none },
  { cls := 13, slots := #[.long 13], vm := .none },
  { cls := 13, slots := #[.long 14], vm := .none },
  { cls := 13, slots := #[.long 15], vm := .none },
  { cls := 13, slots := #[.long 16], vm := .none },
  { cls := 13, slots := #[.long 17], vm := .none },
  { cls := 13, slots := #[.long 18], vm := .none },
  { cls := 13, slots := #[.long 19], vm := .none },
  { cls := 13, slots := #[.long 20], vm := .none },
  { cls := 13, slots := #[.long 21], vm := .none },
  { cls := 13, slots := #[.long 22], vm := .none },
  { cls := 13, slots := #[.long 23], vm := .none },
  { cls := 13, slots := #[.long 24], vm := .none },
  { cls := 13, slots := #[.long 25], vm := .none },
  { cls := 13, slots := #[.long 26], vm := .none },
  { cls := 13, slots := #[.long 27], vm := .none },
  { cls := 13, slots := #[.long 28], vm := .none },
  { cls := 13, slots := #[.long 29], vm := .none },
  { cls := 13, slots := #[.long 30], vm := .none },
  { cls := 13, slots := #[.long 31], vm := .none },
  { cls := 13, slots := #[.long 32], vm := .none },
  { cls := 13, slots := #[.long 33], vm := .none },
  { cls := 13, slots := #[.long 34], vm := .none },
  { cls := 13, slots := #[.long 35], vm := .none },
  { cls := 13, slots := #[.long 36], vm := .none },
  { cls := 13, slots := #[.long 37], vm := .none },
  { cls := 13, slots := #[.long 38], vm := .none },
  { cls := 13, slots := #[.long 39], vm := .none },
  { cls := 13, slots := #[.long 40], vm := .none },
  { cls := 13, slots := #[.long 41], vm := .none },
  { cls := 13, slots := #[.long 42], vm := .none },
  { cls := 13, slots := #[.long 43], vm := .none },
  { cls := 13, slots := #[.long 44], vm := .none },
  { cls := 13, slots := #[.long 45], vm := .none },
  { cls := 13, slots := #[.long 46], vm := .none },
  { cls := 13, slots := #[.long 47], vm := .none },
  { cls := 13, slots := #[.long 48], vm := .none },
  { cls := 13, slots := #[.long 49], vm := .none },
  { cls := 13, slots := #[.long 50], vm := .none },
  { cls := 13, slots := #[.long 51], vm := .none },
  { cls := 13, slots := #[.long 52], vm := .none },
  { cls := 13, slots := #[.long 53], vm := .none },
  { cls := 13, slots := #[.long 54], vm := .none },
  { cls := 13, slots := #[.long 55], vm := .none },
  { cls := 13, slots := #[.long 56], vm := .none },
  { cls := 13, slots := #[.long 57], vm := .none },
  { cls := 13, slots := #[.long 58], vm := .none },
  { cls := 13, slots := #[.long 59], vm := .none },
  { cls := 13, slots := #[.long 60], vm := .none },
  { cls := 13, slots := #[.long 61], vm := .none },
  { cls := 13, slots := #[.long 62], vm := .none },
  { cls := 13, slots := #[.long 63], vm := .none },
  { cls := 13, slots := #[.long 64], vm := .none },
  { cls := 13, slots := #[.long 65], vm := .none },
  { cls := 13, slots := #[.long 66], vm := .none },
  { cls := 13, slots := #[.long 67], vm := .none },
  { cls := 13, slots := #[.long 68], vm := .none },
  { cls := 13, slots := #[.long 69], vm := .none },
  { cls := 13, slots := #[.long 70], vm := .none },
  { cls := 13, slots := #[.long 71], vm := .none },
  { cls := 13, slots := #[.long 72], vm := .none },
  { cls := 13, slots := #[.long 73], vm := .none },
  { cls := 13, slots := #[.long 74], vm := .none },
  { cls := 13, slots := #[.long 75], vm := .none },
  { cls := 13, slots := #[.long 76], vm := .none },
  { cls := 13, slots := #[.long 77], vm := .none },
  { cls := 13, slots := #[.long 78], vm := .none },
  { cls := 13, slots := #[.long 79], vm := .none },
  { cls := 13, slots := #[.long 80], vm := .none },
  { cls := 13, slots := #[.long 81], vm := .none },
  { cls := 13, slots := #[.long 82], vm := .none },
  { cls := 13, slots := #[.long 83], vm := .none },
  { cls := 13, slots := #[.long 84], vm := .none },
  { cls := 13, slots := #[.long 85], vm := .none },
  { cls := 13, slots := #[.long 86], vm := .none },
  { cls := 13, slots := #[.long 87], vm := .none },
  { cls := 13, slots := #[.long 88], vm := .none },
  { cls := 13, slots := #[.long 89], vm := .none },
  { cls := 13, slots := #[.long 90], vm := .none },
  { cls := 13, slots := #[.long 91], vm := .none },
  { cls := 13, slots := #[.long 92], vm := .none },
  { cls := 13, slots := #[.long 93], vm := .none },
  { cls := 13, slots := #[.long 94], vm := .none },
  { cls := 13, slots := #[.long 95], vm := .none },
  { cls := 13, slots := #[.long 96], vm := .none },
  { cls := 13, slots := #[.long 97], vm := .none },
  { cls := 13, slots := #[.long 98], vm := .none },
  { cls := 13, slots := #[.long 99], vm := .none },
  { cls := 13, slots := #[.long 100], vm := .none },
  { cls := 13, slots := #[.long 101], vm := .none },
  { cls := 13, slots := #[.long 102], vm := .none },
  { cls := 13, slots := #[.long 103], vm := .none },
  { cls := 13, slots := #[.long 104], vm := .none },
  { cls := 13, slots := #[.long 105], vm := .none },
  { cls := 13, slots := #[.long 106], vm := .none },
  { cls := 13, slots := #[.long 107], vm := .none },
  { cls := 13, slots := #[.long 108], vm := .none },
  { cls := 13, slots := #[.long 109], vm := .none },
  { cls := 13, slots := #[.long 110], vm := .none },
  { cls := 13, slots := #[.long 111], vm := .none },
  { cls := 13, slots := #[.long 112], vm := .none },
  { cls := 13, slots := #[.long 113], vm := .none },
  { cls := 13, slots := #[.long 114], vm := .none },
  { cls := 13, slots := #[.long 115], vm := .none },
  { cls := 13, slots := #[.long 116], vm := .none },
  { cls := 13, slots := #[.long 117], vm := .none },
  { cls := 13, slots := #[.long 118], vm := .none },
  { cls := 13, slots := #[.long 119], vm := .none },
  { cls := 13, slots := #[.long 120], vm := .none },
  { cls := 13, slots := #[.long 121], vm := .none },
  { cls := 13, slots := #[.long 122], vm := .none },
  { cls := 13, slots := #[.long 123], vm := .none },
  { cls := 13, slots := #[.long 124], vm := .none },
  { cls := 13, slots := #[.long 125], vm := .none },
  { cls := 13, slots := #[.long 126], vm := .none },
  { cls := 13, slots := #[.long 127], vm := .none },
  { cls := 7, slots := #[.null, .int 0, .int 0], vm := .none },
  { cls := 7, slots := #[.null, .int 1, .int 0], vm := .none },
  { cls := 7, slots := #[.null, .int 2, .int 0], vm := .none },
  { cls := 7, slots := #[.null, .int 3, .int 0], vm := .none }]
def classes : Array Class := #[k0, k1, k2, k3, k4, k5, k6, k7, k8, k9, k10, k11, k12, k13, k14, k15, k16, k17, k18, k19, k20]
def interned : List (Array UInt16 × Addr) := []
def slotsUsed : Nat := 533
def theMethod : MethodId := ⟨1, 2⟩
def args0 : Array Value := #[.int 1, .long 66, .int 3, .long 4, .int 5]
def aboutOver (below : List Frame) : State where
  vm := { classes := classes, interned := interned.toArray }
  heap := heap
  slotsUsed := slotsUsed
  threads := #[{ frames := .invoking theMethod args0 :: below }]
def below0 : List Frame := [.native { method := ⟨0, 0⟩, args := #[] }]
def about1 : State := aboutOver below0
def p0 : Program := .bare "" "" ""
def e0 : Env := launch0.env 0 0 0
theorem w_frames : about1.frames = Frame.invoking theMethod args0 :: below0 := rfl
set_option maxRecDepth 65536 in
theorem w_args : argsFit about1.vm theMethod args0 = true := by decide +kernel
set_option maxRecDepth 65536 in
theorem w_heap : heapFits about1 = true := by decide +kernel
set_option maxRecDepth 65536 in
theorem w_runnable : about1.curStatus? = some .runnable := by decide +kernel
set_option maxRecDepth 65536 in
theorem w_alone : about1.alone = true := by decide +kernel
set_option maxRecDepth 65536 in
theorem w_named : about1.methodNamed? x = some theMethod := by decide +kernel
set_option maxRecDepth 65536 in
theorem w_hears : about1.hears theMethod below0 = true := by decide +kernel
set_option maxRecDepth 65536 in
theorem w_ripe : about1.ripe theMethod args0 below0 = true := by decide +kernel
theorem w_running : about1.status = .running := rfl
set_option maxRecDepth 65536 in
theorem w_room : about1.hasRoom e0.platform room_1 = true :=
  launch0.hasRoom_least _ room_1 (by decide +kernel) (by decide +kernel) (by decide +kernel) (by decide +kernel) (by decide +kernel) (by decide +kernel)
theorem allAtoms_all (ts : List Jvm.Cond) (a : Array Jvm.Value) (st : Jvm.State) : (allAtoms ts).before a st = ts.all (fun c => c.before a st) := by
  induction ts with
  | nil => rfl
  | cons c t ih =>
    show (Jvm.Cond.and c (allAtoms t)).before a st = _
    rw [Jvm.Cond.before_and, ih, List.all_cons]
def words1 : List Jvm.Cond := Jvm.Cond.code x code maxLocals ret :: tables_1
/-- a 'code' word, met by the world's own term for the bytes: nothing is compared byte by byte -/
theorem code_word {y : MethodName} {bytes : ByteArray} {mx : Nat} {rt : Option FieldType} {a : Array Value} {s : State} {m : MethodId} {meth : Method} {c : Code} (h1 : s.methodNamed? y = some m) (h2 : s.vm.method? m = some meth) (h3 : meth.code = some c) (h4 : c.code = bytes)
    (h5 : (c.maxLocals == mx && c.exceptionTable.isEmpty && decide (c.maxStack ≤ mostOperands) && decide (meth.sig.returnType = rt) && !meth.locks && decide (parseMethodDescriptor y.desc = some meth.sig)) = true) : (Jvm.Cond.code y bytes mx rt).before a s = true := by
  simp only [Bool.and_eq_true, beq_iff_eq, Bool.not_eq_true', decide_eq_true_eq] at h5
  obtain ⟨⟨⟨⟨⟨g1, g2⟩, g3⟩, g4⟩, g5⟩, g6⟩ := h5
  simp [Cond.before, Cond.holds, Cond.value, h1, h2, h3, h4, g1, g2, g3, g4, g5, g6]
def isCode : Jvm.Cond → Bool
  | .code _ _ _ _ => true
  | _ => false
theorem all_split {L : List Jvm.Cond} {P : Jvm.Cond → Bool} (h1 : L.all (fun c => isCode c || P c) = true) (h2 : ∀ c ∈ L.filter isCode, P c = true) : L.all P = true := by
  refine List.all_eq_true.mpr fun c hc => ?_
  have h := List.all_eq_true.mp h1 c hc
  rcases Bool.eq_false_or_eq_true (isCode c) with hi | hi
  · exact h2 c (List.mem_filter.mpr ⟨hc, hi⟩)
  · simpa [hi] using h
set_option maxRecDepth 65536 in
theorem w_c0 : (Jvm.Cond.code x code maxLocals ret).before args0 about1 = true := code_word (m := ⟨1, 2⟩) (meth := k1m2) (c := k1c2) (by decide +kernel) rfl rfl rfl (by decide +kernel)
set_option maxRecDepth 65536 in
theorem w_c1 : (Jvm.Cond.code ({ cls := "com/example/tagwright/tagwright/model/TagEqualsPinLaw", name := "cls", desc := "(I)Lcom/example/tagwright/tagwright/model/TagClass;" } : Jvm.MethodName) method_2_code (2 : Nat) (Option.some (Jvm.ClassFile.FieldType.object "com/example/tagwright/tagwright/model/TagClass"))).before args0 about1 = true := code_word (m := ⟨1, 1⟩) (meth := k1m1) (c := k1c1) (by decide +kernel) rfl rfl rfl (by decide +kernel)
set_option maxRecDepth 65536 in
theorem w_c2 : (Jvm.Cond.code ({ cls := "com/example/tagwright/tagwright/model/Tag", name := "<init>", desc := "(Lcom/example/tagwright/tagwright/model/TagClass;J)V" } : Jvm.MethodName) prog_20_method_1_code (4 : Nat) (Option.none : Option Jvm.ClassFile.FieldType)).before args0 about1 = true := code_word (m := ⟨3, 0⟩) (meth := k3m0) (c := k3c0) (by decide +kernel) rfl rfl rfl (by decide +kernel)
set_option maxRecDepth 65536 in
theorem w_c3 : (Jvm.Cond.code ({ cls := "java/lang/Object", name := "<init>", desc := "()V" } : Jvm.MethodName) object_method_1_code (1 : Nat) (Option.none : Option Jvm.ClassFile.FieldType)).before args0 about1 = true := code_word (m := ⟨0, 0⟩) (meth := k0m0) (c := k0c0) (by decide +kernel) rfl rfl rfl (by decide +kernel)
set_option maxRecDepth 65536 in
theorem w_c4 : (Jvm.Cond.code ({ cls := "java/util/Objects", name := "requireNonNull", desc := "(Ljava/lang/Object;Ljava/lang/String;)Ljava/lang/Object;" } : Jvm.MethodName) jdk_31_method_11_code (2 : Nat) (Option.some (Jvm.ClassFile.FieldType.object "java/lang/Object"))).before args0 about1 = true := code_word (m := ⟨11, 1⟩) (meth := k11m1) (c := k11c1) (by decide +kernel) rfl rfl rfl (by decide +kernel)
set_option maxRecDepth 65536 in
theorem w_c5 : (Jvm.Cond.code ({ cls := "com/example/tagwright/tagwright/model/Tag", name := "equals", desc := "(Ljava/lang/Object;)Z" } : Jvm.MethodName) prog_20_method_5_code (2 : Nat) (Option.some Jvm.ClassFile.FieldType.boolean)).before args0 about1 = true := code_word (m := ⟨3, 1⟩) (meth := k3m1) (c := k3c1) (by decide +kernel) rfl rfl rfl (by decide +kernel)
set_option maxRecDepth 65536 in
theorem w_c6 : (Jvm.Cond.code ({ cls := "java/lang/Long", name := "valueOf", desc := "(J)Ljava/lang/Long;" } : Jvm.MethodName) jdk_35_method_24_code (3 : Nat) (Option.some (Jvm.ClassFile.FieldType.object "java/lang/Long"))).before args0 about1 = true := code_word (m := ⟨13, 0⟩) (meth := k13m0) (c := k13c0) (by decide +kernel) rfl rfl rfl (by decide +kernel)
set_option maxRecDepth 65536 in
theorem w_c7 : (Jvm.Cond.code ({ cls := "java/lang/Long", name := "<init>", desc := "(J)V" } : Jvm.MethodName) jdk_35_method_26_code (3 : Nat) (Option.none : Option Jvm.ClassFile.FieldType)).before args0 about1 = true := code_word (m := ⟨13, 1⟩) (meth := k13m1) (c := k13c1) (by decide +kernel) rfl rfl rfl (by decide +kernel)
set_option maxRecDepth 65536 in
theorem w_c8 : (Jvm.Cond.code ({ cls := "java/lang/Number", name := "<init>", desc := "()V" } : Jvm.MethodName) jdk_18_method_1_code (1 : Nat) (Option.none : Option Jvm.ClassFile.FieldType)).before args0 about1 = true := code_word (m := ⟨12, 0⟩) (meth := k12m0) (c := k12c0) (by decide +kernel) rfl rfl rfl (by decide +kernel)
def codes1 : List Jvm.Cond := [Jvm.Cond.code x code maxLocals ret, Jvm.Cond.code ({ cls := "com/example/tagwright/tagwright/model/TagEqualsPinLaw", name := "cls", desc := "(I)Lcom/example/tagwright/tagwright/model/TagClass;" } : Jvm.MethodName) method_2_code (2 : Nat) (Option.some (Jvm.ClassFile.FieldType.object "com/example/tagwright/tagwright/model/TagClass")), Jvm.Cond.code ({ cls := "com/example/tagwright/tagwright/model/Tag", name := "<init>", desc := "(Lcom/example/tagwright/tagwright/model/TagClass;J)V" } : Jvm.MethodName) prog_20_method_1_code (4 : Nat) (Option.none : Option Jvm.ClassFile.FieldType), Jvm.Cond.code ({ cls := "java/lang/Object", name := "<init>", desc := "()V" } : Jvm.MethodName) object_method_1_code (1 : Nat) (Option.none : Option Jvm.ClassFile.FieldType), Jvm.Cond.code ({ cls := "java/util/Objects", name := "requireNonNull", desc := "(Ljava/lang/Object;Ljava/lang/String;)Ljava/lang/Object;" } : Jvm.MethodName) jdk_31_method_11_code (2 : Nat) (Option.some (Jvm.ClassFile.FieldType.object "java/lang/Object")), Jvm.Cond.code ({ cls := "com/example/tagwright/tagwright/model/Tag", name := "equals", desc := "(Ljava/lang/Object;)Z" } : Jvm.MethodName) prog_20_method_5_code (2 : Nat) (Option.some Jvm.ClassFile.FieldType.boolean), Jvm.Cond.code ({ cls := "java/lang/Long", name := "valueOf", desc := "(J)Ljava/lang/Long;" } : Jvm.MethodName) jdk_35_method_24_code (3 : Nat) (Option.some (Jvm.ClassFile.FieldType.object "java/lang/Long")), Jvm.Cond.code ({ cls := "java/lang/Long", name := "<init>", desc := "(J)V" } : Jvm.MethodName) jdk_35_method_26_code (3 : Nat) (Option.none : Option Jvm.ClassFile.FieldType), Jvm.Cond.code ({ cls := "java/lang/Number", name := "<init>", desc := "()V" } : Jvm.MethodName) jdk_18_method_1_code (1 : Nat) (Option.none : Option Jvm.ClassFile.FieldType)]
set_option maxRecDepth 65536 in
theorem codes_eq : words1.filter isCode = codes1 := rfl
theorem w_codes : ∀ c ∈ words1.filter isCode, c.before args0 about1 = true := by
  rw [codes_eq]
  intro c hc
  simp only [codes1, List.mem_cons, List.not_mem_nil, or_false] at hc
  rcases hc with rfl | rfl | rfl | rfl | rfl | rfl | rfl | rfl | rfl
  · exact w_c0
  · exact w_c1
  · exact w_c2
  · exact w_c3
  · exact w_c4
  · exact w_c5
  · exact w_c6
  · exact w_c7
  · exact w_c8
set_option maxRecDepth 65536 in
theorem w_t1 : (words1.take 24).all (fun c => isCode c || c.before args0 about1) = true := by decide +kernel
set_option maxRecDepth 65536 in
theorem w_t2 : ((words1.drop 24).take 24).all (fun c => isCode c || c.before args0 about1) = true := by decide +kernel
set_option maxRecDepth 65536 in
theorem w_t3 : (((words1.drop 24).drop 24).take 24).all (fun c => isCode c || c.before args0 about1) = true := by decide +kernel
set_option maxRecDepth 65536 in
theorem w_t4 : (((words1.drop 24).drop 24).drop 24).all (fun c => isCode c || c.before args0 about1) = true := by decide +kernel
theorem w_tables : (allAtoms (Jvm.Cond.code x code maxLocals ret :: tables_1)).before args0 about1 = true := by
  rw [allAtoms_all]
  show words1.all (fun c => c.before args0 about1) = true
  refine all_split ?_ w_codes
  rw [← List.take_append_drop 24 words1, List.all_append, w_t1, ← List.take_append_drop 24 (words1.drop 24), List.all_append, w_t2, ← List.take_append_drop 24 ((words1.drop 24).drop 24), List.all_append, w_t3, w_t4]
  rfl
set_option maxRecDepth 65536 in
theorem w_rest : rest_1_c.before args0 about1 = true := by decide +kernel
set_option maxRecDepth 65536 in
theorem w_case : (Jvm.Cond.and given_1 narrow_1).before args0 about1 = true := by decide +kernel
theorem w_applies : (headSpec (Jvm.Cond.code x code maxLocals ret :: tables_1) room_1).applies x e0.platform about1 = true :=
  (Spec.applies_iff w_frames).mpr ⟨w_running, w_runnable, w_alone, w_named, w_hears, w_ripe, w_room, w_tables⟩
theorem atStart : AtStart classFile x code maxLocals ret World_1 tables_1 room_1 Calls_1 rest_1 Pre_1 launch0 p0 e0 about1 theMethod args0 below0 :=
  ⟨lists_1, trivial, launch0.admits_env _ _ _, launch0.least_env, fairChoices_fair.cas, fairChoices_fair.clock, w_frames, w_args, w_heap, w_applies, trivial, w_rest, w_case⟩
end start1
theorem witness_1 : WitnessClaimed_1 := ⟨start1.p0, start1.e0, start1.about1, start1.theMethod, start1.args0, start1.below0, start1.atStart⟩
end Jvm.Pilot.@@N@@
